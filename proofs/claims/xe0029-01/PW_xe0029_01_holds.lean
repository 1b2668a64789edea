import PyProof.Rows.All
import Wide.All
import OpenK.AllK
import Wide.FinOn
import PyProof.Draws
import PyProof.EnumMake
import PyProof.ZipIter
import KE.KIntText
import KE.KItemsList
import KE.KPopAny
import KE.KRevIter
import KE.KSortTup
import PySem.Challenge.RW_xe0029_01
set_option Elab.async false
namespace Mine
open PySem PySem.W PyProof.Rows PySem.Spec PySem.Calls
set_option maxRecDepth 100000
set_option compiler.extract_closed false
set_option genInjectivity false
set_option genSizeOf false
set_option linter.all false
set_option pp.deepTerms false
set_option pp.deepTerms.threshold 4
set_option pp.maxSteps 1000
section
set_option maxRecDepth 100000 in
set_option maxHeartbeats 8000000 in
open_top hdT for PySem.Challenge.rw_xe0029_01

end
theorem fill0 : PySem.Challenge.rw_xe0029_01.prog = PySem.Challenge.rw_xe0029_01.prog → hdT.heap_39 = hdT.heap_39 → True := by
  k_fill
  intros; trivial
section
/-! small arithmetic, proved once -/
theorem lt2 {k : Nat} (h : k < 2) : k = 0 ∨ k = 1 := (Nat.lt_succ_iff_lt_or_eq.mp h).imp Nat.lt_one_iff.mp id
theorem lt3 {k : Nat} (h : k < 3) : k = 0 ∨ k = 1 ∨ k = 2 := (Nat.lt_succ_iff_lt_or_eq.mp h).elim (fun h => (lt2 h).imp id .inl) fun e => .inr (.inr e)
theorem lt4 {k : Nat} (h : k < 4) : k = 0 ∨ k = 1 ∨ k = 2 ∨ k = 3 := (Nat.lt_succ_iff_lt_or_eq.mp h).elim (fun h => (lt3 h).imp id (Or.imp id .inl)) fun e => .inr (.inr (.inr e))
theorem lt47 {k : Nat} (h' : 4 ≤ k) (h : k < 7) : k = 4 ∨ k = 5 ∨ k = 6 := (Nat.lt_succ_iff_lt_or_eq.mp h).elim (fun h => (Nat.lt_succ_iff_lt_or_eq.mp h).elim (fun h => .inl (Nat.le_antisymm (Nat.le_of_lt_succ h) h')) fun e => .inr (.inl e)) fun e => .inr (.inr e)
/-- the goal, behind a name: what is taken apart ahead of it then costs no copy of it -/
theorem hideG {G : Prop} (h : ∀ P : Prop, (G → P) → P) : G := h G id
/-! one of a row of facts: pK i the i-th, with others behind it; qK i the i-th, the last -/
theorem pk0 {x r : Prop} (h : x ∧ r) : x := h.1
theorem pk1 {a0 x r : Prop} (h : a0 ∧ x ∧ r) : x := h.2.1
theorem pk2 {a0 a1 x r : Prop} (h : a0 ∧ a1 ∧ x ∧ r) : x := h.2.2.1
theorem pk3 {a0 a1 a2 x r : Prop} (h : a0 ∧ a1 ∧ a2 ∧ x ∧ r) : x := h.2.2.2.1
theorem pk4 {a0 a1 a2 a3 x r : Prop} (h : a0 ∧ a1 ∧ a2 ∧ a3 ∧ x ∧ r) : x := h.2.2.2.2.1
theorem pk5 {a0 a1 a2 a3 a4 x r : Prop} (h : a0 ∧ a1 ∧ a2 ∧ a3 ∧ a4 ∧ x ∧ r) : x := h.2.2.2.2.2.1
theorem pk6 {a0 a1 a2 a3 a4 a5 x r : Prop} (h : a0 ∧ a1 ∧ a2 ∧ a3 ∧ a4 ∧ a5 ∧ x ∧ r) : x := h.2.2.2.2.2.2.1
theorem pk7 {a0 a1 a2 a3 a4 a5 a6 x r : Prop} (h : a0 ∧ a1 ∧ a2 ∧ a3 ∧ a4 ∧ a5 ∧ a6 ∧ x ∧ r) : x := h.2.2.2.2.2.2.2.1
theorem pk8 {a0 a1 a2 a3 a4 a5 a6 a7 x r : Prop} (h : a0 ∧ a1 ∧ a2 ∧ a3 ∧ a4 ∧ a5 ∧ a6 ∧ a7 ∧ x ∧ r) : x := h.2.2.2.2.2.2.2.2.1
theorem pk9 {a0 a1 a2 a3 a4 a5 a6 a7 a8 x r : Prop} (h : a0 ∧ a1 ∧ a2 ∧ a3 ∧ a4 ∧ a5 ∧ a6 ∧ a7 ∧ a8 ∧ x ∧ r) : x := h.2.2.2.2.2.2.2.2.2.1
theorem pk10 {a0 a1 a2 a3 a4 a5 a6 a7 a8 a9 x r : Prop} (h : a0 ∧ a1 ∧ a2 ∧ a3 ∧ a4 ∧ a5 ∧ a6 ∧ a7 ∧ a8 ∧ a9 ∧ x ∧ r) : x := h.2.2.2.2.2.2.2.2.2.2.1
theorem pk11 {a0 a1 a2 a3 a4 a5 a6 a7 a8 a9 a10 x r : Prop} (h : a0 ∧ a1 ∧ a2 ∧ a3 ∧ a4 ∧ a5 ∧ a6 ∧ a7 ∧ a8 ∧ a9 ∧ a10 ∧ x ∧ r) : x := h.2.2.2.2.2.2.2.2.2.2.2.1
theorem pk12 {a0 a1 a2 a3 a4 a5 a6 a7 a8 a9 a10 a11 x r : Prop} (h : a0 ∧ a1 ∧ a2 ∧ a3 ∧ a4 ∧ a5 ∧ a6 ∧ a7 ∧ a8 ∧ a9 ∧ a10 ∧ a11 ∧ x ∧ r) : x := h.2.2.2.2.2.2.2.2.2.2.2.2.1
theorem pk13 {a0 a1 a2 a3 a4 a5 a6 a7 a8 a9 a10 a11 a12 x r : Prop} (h : a0 ∧ a1 ∧ a2 ∧ a3 ∧ a4 ∧ a5 ∧ a6 ∧ a7 ∧ a8 ∧ a9 ∧ a10 ∧ a11 ∧ a12 ∧ x ∧ r) : x := h.2.2.2.2.2.2.2.2.2.2.2.2.2.1
theorem pk14 {a0 a1 a2 a3 a4 a5 a6 a7 a8 a9 a10 a11 a12 a13 x r : Prop} (h : a0 ∧ a1 ∧ a2 ∧ a3 ∧ a4 ∧ a5 ∧ a6 ∧ a7 ∧ a8 ∧ a9 ∧ a10 ∧ a11 ∧ a12 ∧ a13 ∧ x ∧ r) : x := h.2.2.2.2.2.2.2.2.2.2.2.2.2.2.1
theorem pk15 {a0 a1 a2 a3 a4 a5 a6 a7 a8 a9 a10 a11 a12 a13 a14 x r : Prop} (h : a0 ∧ a1 ∧ a2 ∧ a3 ∧ a4 ∧ a5 ∧ a6 ∧ a7 ∧ a8 ∧ a9 ∧ a10 ∧ a11 ∧ a12 ∧ a13 ∧ a14 ∧ x ∧ r) : x := h.2.2.2.2.2.2.2.2.2.2.2.2.2.2.2.1
theorem pk16 {a0 a1 a2 a3 a4 a5 a6 a7 a8 a9 a10 a11 a12 a13 a14 a15 x r : Prop} (h : a0 ∧ a1 ∧ a2 ∧ a3 ∧ a4 ∧ a5 ∧ a6 ∧ a7 ∧ a8 ∧ a9 ∧ a10 ∧ a11 ∧ a12 ∧ a13 ∧ a14 ∧ a15 ∧ x ∧ r) : x := h.2.2.2.2.2.2.2.2.2.2.2.2.2.2.2.2.1
theorem pk17 {a0 a1 a2 a3 a4 a5 a6 a7 a8 a9 a10 a11 a12 a13 a14 a15 a16 x r : Prop} (h : a0 ∧ a1 ∧ a2 ∧ a3 ∧ a4 ∧ a5 ∧ a6 ∧ a7 ∧ a8 ∧ a9 ∧ a10 ∧ a11 ∧ a12 ∧ a13 ∧ a14 ∧ a15 ∧ a16 ∧ x ∧ r) : x := h.2.2.2.2.2.2.2.2.2.2.2.2.2.2.2.2.2.1
theorem pk18 {a0 a1 a2 a3 a4 a5 a6 a7 a8 a9 a10 a11 a12 a13 a14 a15 a16 a17 x r : Prop} (h : a0 ∧ a1 ∧ a2 ∧ a3 ∧ a4 ∧ a5 ∧ a6 ∧ a7 ∧ a8 ∧ a9 ∧ a10 ∧ a11 ∧ a12 ∧ a13 ∧ a14 ∧ a15 ∧ a16 ∧ a17 ∧ x ∧ r) : x := h.2.2.2.2.2.2.2.2.2.2.2.2.2.2.2.2.2.2.1
theorem pk19 {a0 a1 a2 a3 a4 a5 a6 a7 a8 a9 a10 a11 a12 a13 a14 a15 a16 a17 a18 x r : Prop} (h : a0 ∧ a1 ∧ a2 ∧ a3 ∧ a4 ∧ a5 ∧ a6 ∧ a7 ∧ a8 ∧ a9 ∧ a10 ∧ a11 ∧ a12 ∧ a13 ∧ a14 ∧ a15 ∧ a16 ∧ a17 ∧ a18 ∧ x ∧ r) : x := h.2.2.2.2.2.2.2.2.2.2.2.2.2.2.2.2.2.2.2.1
theorem qk1 {a0 x : Prop} (h : a0 ∧ x) : x := h.2
theorem qk2 {a0 a1 x : Prop} (h : a0 ∧ a1 ∧ x) : x := h.2.2
theorem qk3 {a0 a1 a2 x : Prop} (h : a0 ∧ a1 ∧ a2 ∧ x) : x := h.2.2.2
theorem qk4 {a0 a1 a2 a3 x : Prop} (h : a0 ∧ a1 ∧ a2 ∧ a3 ∧ x) : x := h.2.2.2.2
theorem qk5 {a0 a1 a2 a3 a4 x : Prop} (h : a0 ∧ a1 ∧ a2 ∧ a3 ∧ a4 ∧ x) : x := h.2.2.2.2.2
theorem qk6 {a0 a1 a2 a3 a4 a5 x : Prop} (h : a0 ∧ a1 ∧ a2 ∧ a3 ∧ a4 ∧ a5 ∧ x) : x := h.2.2.2.2.2.2
theorem qk7 {a0 a1 a2 a3 a4 a5 a6 x : Prop} (h : a0 ∧ a1 ∧ a2 ∧ a3 ∧ a4 ∧ a5 ∧ a6 ∧ x) : x := h.2.2.2.2.2.2.2
theorem qk8 {a0 a1 a2 a3 a4 a5 a6 a7 x : Prop} (h : a0 ∧ a1 ∧ a2 ∧ a3 ∧ a4 ∧ a5 ∧ a6 ∧ a7 ∧ x) : x := h.2.2.2.2.2.2.2.2
theorem qk9 {a0 a1 a2 a3 a4 a5 a6 a7 a8 x : Prop} (h : a0 ∧ a1 ∧ a2 ∧ a3 ∧ a4 ∧ a5 ∧ a6 ∧ a7 ∧ a8 ∧ x) : x := h.2.2.2.2.2.2.2.2.2
theorem qk10 {a0 a1 a2 a3 a4 a5 a6 a7 a8 a9 x : Prop} (h : a0 ∧ a1 ∧ a2 ∧ a3 ∧ a4 ∧ a5 ∧ a6 ∧ a7 ∧ a8 ∧ a9 ∧ x) : x := h.2.2.2.2.2.2.2.2.2.2
theorem qk11 {a0 a1 a2 a3 a4 a5 a6 a7 a8 a9 a10 x : Prop} (h : a0 ∧ a1 ∧ a2 ∧ a3 ∧ a4 ∧ a5 ∧ a6 ∧ a7 ∧ a8 ∧ a9 ∧ a10 ∧ x) : x := h.2.2.2.2.2.2.2.2.2.2.2
theorem qk12 {a0 a1 a2 a3 a4 a5 a6 a7 a8 a9 a10 a11 x : Prop} (h : a0 ∧ a1 ∧ a2 ∧ a3 ∧ a4 ∧ a5 ∧ a6 ∧ a7 ∧ a8 ∧ a9 ∧ a10 ∧ a11 ∧ x) : x := h.2.2.2.2.2.2.2.2.2.2.2.2
theorem qk13 {a0 a1 a2 a3 a4 a5 a6 a7 a8 a9 a10 a11 a12 x : Prop} (h : a0 ∧ a1 ∧ a2 ∧ a3 ∧ a4 ∧ a5 ∧ a6 ∧ a7 ∧ a8 ∧ a9 ∧ a10 ∧ a11 ∧ a12 ∧ x) : x := h.2.2.2.2.2.2.2.2.2.2.2.2.2
theorem qk14 {a0 a1 a2 a3 a4 a5 a6 a7 a8 a9 a10 a11 a12 a13 x : Prop} (h : a0 ∧ a1 ∧ a2 ∧ a3 ∧ a4 ∧ a5 ∧ a6 ∧ a7 ∧ a8 ∧ a9 ∧ a10 ∧ a11 ∧ a12 ∧ a13 ∧ x) : x := h.2.2.2.2.2.2.2.2.2.2.2.2.2.2
theorem qk15 {a0 a1 a2 a3 a4 a5 a6 a7 a8 a9 a10 a11 a12 a13 a14 x : Prop} (h : a0 ∧ a1 ∧ a2 ∧ a3 ∧ a4 ∧ a5 ∧ a6 ∧ a7 ∧ a8 ∧ a9 ∧ a10 ∧ a11 ∧ a12 ∧ a13 ∧ a14 ∧ x) : x := h.2.2.2.2.2.2.2.2.2.2.2.2.2.2.2
theorem qk16 {a0 a1 a2 a3 a4 a5 a6 a7 a8 a9 a10 a11 a12 a13 a14 a15 x : Prop} (h : a0 ∧ a1 ∧ a2 ∧ a3 ∧ a4 ∧ a5 ∧ a6 ∧ a7 ∧ a8 ∧ a9 ∧ a10 ∧ a11 ∧ a12 ∧ a13 ∧ a14 ∧ a15 ∧ x) : x := h.2.2.2.2.2.2.2.2.2.2.2.2.2.2.2.2
theorem qk17 {a0 a1 a2 a3 a4 a5 a6 a7 a8 a9 a10 a11 a12 a13 a14 a15 a16 x : Prop} (h : a0 ∧ a1 ∧ a2 ∧ a3 ∧ a4 ∧ a5 ∧ a6 ∧ a7 ∧ a8 ∧ a9 ∧ a10 ∧ a11 ∧ a12 ∧ a13 ∧ a14 ∧ a15 ∧ a16 ∧ x) : x := h.2.2.2.2.2.2.2.2.2.2.2.2.2.2.2.2.2
theorem qk18 {a0 a1 a2 a3 a4 a5 a6 a7 a8 a9 a10 a11 a12 a13 a14 a15 a16 a17 x : Prop} (h : a0 ∧ a1 ∧ a2 ∧ a3 ∧ a4 ∧ a5 ∧ a6 ∧ a7 ∧ a8 ∧ a9 ∧ a10 ∧ a11 ∧ a12 ∧ a13 ∧ a14 ∧ a15 ∧ a16 ∧ a17 ∧ x) : x := h.2.2.2.2.2.2.2.2.2.2.2.2.2.2.2.2.2.2
theorem qk19 {a0 a1 a2 a3 a4 a5 a6 a7 a8 a9 a10 a11 a12 a13 a14 a15 a16 a17 a18 x : Prop} (h : a0 ∧ a1 ∧ a2 ∧ a3 ∧ a4 ∧ a5 ∧ a6 ∧ a7 ∧ a8 ∧ a9 ∧ a10 ∧ a11 ∧ a12 ∧ a13 ∧ a14 ∧ a15 ∧ a16 ∧ a17 ∧ a18 ∧ x) : x := h.2.2.2.2.2.2.2.2.2.2.2.2.2.2.2.2.2.2.2

/-! a row of entries against another: at the addresses of S they may differ -/
section
variable {α β : Type} {S : List α} {r r' : List (α × β)} {a a' : α × β}
theorem ch_nil : ∀ q ∈ ([] : List (α × β)), q.1 ∈ S ∨ q ∈ r' := fun _ h => nomatch h
theorem ch_same (h : ∀ q ∈ r, q.1 ∈ S ∨ q ∈ r') : ∀ q ∈ a :: r, q.1 ∈ S ∨ q ∈ a :: r' := fun q hq => by
  cases hq with
  | head => exact .inr (.head _)
  | tail _ hq => exact (h q hq).imp id (.tail _)
theorem ch_diff (ha : a.1 ∈ S) (h : ∀ q ∈ r, q.1 ∈ S ∨ q ∈ r') : ∀ q ∈ a :: r, q.1 ∈ S ∨ q ∈ a' :: r' := fun q hq => by
  cases hq with
  | head => exact .inl ha
  | tail _ hq => exact (h q hq).imp id (.tail _)
theorem ch_skip (h : ∀ q ∈ r, q.1 ∈ S ∨ q ∈ r') : ∀ q ∈ r, q.1 ∈ S ∨ q ∈ a' :: r' := fun q hq => (h q hq).imp id (.tail _)
theorem sub_id {α : Type} {r : List α} : ∀ q ∈ r, q ∈ r := fun _ h => h
theorem sub_nil {α : Type} {r : List α} : ∀ q ∈ ([] : List α), q ∈ r := fun _ h => nomatch h
theorem sub_keep {α : Type} {a : α} {r r' : List α} (h : ∀ q ∈ r, q ∈ r') : ∀ q ∈ a :: r, q ∈ a :: r' := fun q hq => by
  cases hq with
  | head => exact .head _
  | tail _ hq => exact .tail _ (h q hq)
theorem sub_skip {α : Type} {a : α} {r r' : List α} (h : ∀ q ∈ r, q ∈ r') : ∀ q ∈ r, q ∈ a :: r' := fun q hq => .tail _ (h q hq)
theorem sub_at {α : Type} {a : α} {r r' : List α} (ha : a ∈ r') (h : ∀ q ∈ r, q ∈ r') : ∀ q ∈ a :: r, q ∈ r' := fun q hq => by
  cases hq with
  | head => exact ha
  | tail _ hq => exact h q hq
/-- each of a row -/
theorem each_nil {γ : Type} {p : γ → Prop} : ∀ q ∈ ([] : List γ), p q := fun _ h => nomatch h
theorem each_cons {γ : Type} {p : γ → Prop} {a : γ} {r : List γ} (ha : p a) (h : ∀ q ∈ r, p q) : ∀ q ∈ a :: r, p q := fun q hq => by
  cases hq with
  | head => exact ha
  | tail _ hq => exact h q hq
theorem each_app {γ : Type} {p : γ → Prop} {l r : List γ} (h₁ : ∀ q ∈ l, p q) (h₂ : ∀ q ∈ r, p q) : ∀ q ∈ l ++ r, p q := fun q hq => (List.mem_append.mp hq).elim (h₁ q) (h₂ q)
theorem turn3 {γ : Type} {a b c t : γ} {r : List γ} : ∀ q ∈ a :: b :: c :: t :: r, q ∈ t :: a :: b :: c :: r :=
  each_cons (.tail _ (.head _)) (each_cons (.tail _ (.tail _ (.head _))) (each_cons (.tail _ (.tail _ (.tail _ (.head _)))) (each_cons (.head _) fun _ h => .tail _ (.tail _ (.tail _ (.tail _ h))))))
theorem turn4 {γ : Type} {a b c d t : γ} {r : List γ} : ∀ q ∈ a :: b :: c :: d :: t :: r, q ∈ t :: a :: b :: c :: d :: r :=
  each_cons (.tail _ (.head _)) (each_cons (.tail _ (.tail _ (.head _))) (each_cons (.tail _ (.tail _ (.tail _ (.head _)))) (each_cons (.tail _ (.tail _ (.tail _ (.tail _ (.head _))))) (each_cons (.head _) fun _ h => .tail _ (.tail _ (.tail _ (.tail _ (.tail _ h))))))))
end
theorem notin2 {α : Type} {x a b : α} (h1 : x ≠ a) (h2 : x ≠ b) : x ∉ [a, b] := fun h => by
  cases h with
  | head => exact h1 rfl
  | tail _ h => cases h with
    | head => exact h2 rfl
    | tail _ h => cases h
theorem mid_of {lo hi : Nat} (h : lo < hi) : lo ≤ (lo + hi) / 2 ∧ (lo + hi) / 2 < hi ∧ (lo + hi) / 2 - lo < hi - lo ∧ hi - ((lo + hi) / 2 + 1) < hi - lo := by omega
theorem mid_cast (lo hi : Nat) : ((lo : Int) + hi).fdiv 2 = (((lo + hi) / 2 : Nat) : Int) := by rw [Int.fdiv_eq_ediv_of_nonneg _ (by decide)]; omega
theorem mod7_cast (i : Nat) : ((i : Int)).fmod 7 = ((i % 7 : Nat) : Int) := by rw [Int.fmod_eq_emod_of_nonneg _ (by decide)]; omega
theorem cast0 (i : Nat) : (0 + (i : Int)).toNat = i := by rw [Int.zero_add]; rfl
theorem cast0_nn (i : Nat) : (0 : Int) ≤ 0 + (i : Int) := by rw [Int.zero_add]; exact Int.natCast_nonneg i
theorem cast_lt {i n : Nat} (h : i < n) (hn : n ≤ 1000) : (i : Int) < 2 ^ 63 := Int.lt_of_lt_of_le (Int.ofNat_lt.mpr (Nat.lt_of_lt_of_le h hn)) (by decide)
theorem cast0_lt {i n : Nat} (h : i < n) (hn : n ≤ 1000) : (0 : Int) + (i : Int) < 2 ^ 63 := by rw [Int.zero_add]; exact cast_lt h hn
theorem last_of {i j n : Nat} (h : j < i + 1) (hn : ¬ j < i) (e : n = i) : j = n := (Nat.le_antisymm (Nat.le_of_lt_succ h) (Nat.not_lt.mp hn)).trans e.symm
theorem gap {g i n : Nat} (h1 : g ≤ i) (h2 : i ≤ n) : i - g + (n - i) = n - g := (Nat.add_comm _ _).trans (Nat.sub_add_sub_cancel h2 h1)
theorem gap1 {g n : Nat} (h : g < n) : n - g = n - (g + 1) + 1 := (Nat.succ_sub_succ n g).symm.trans (Nat.succ_sub h)
theorem lo1 {a : Nat} : a < a + 1 := Nat.lt_succ_self _
theorem lo2 {a : Nat} : a < a + 1 + 1 := Nat.lt_succ_of_lt lo1
theorem lo3 {a : Nat} : a < a + 1 + 1 + 1 := Nat.lt_succ_of_lt lo2
theorem lo4 {a : Nat} : a < a + 1 + 1 + 1 + 1 := Nat.lt_succ_of_lt lo3
theorem ls1 {a b : Nat} (h : a < b) : a < b + 1 := Nat.lt_succ_of_lt h
theorem ls2 {a b : Nat} (h : a < b) : a < b + 1 + 1 := Nat.lt_succ_of_lt (ls1 h)
theorem ls3 {a b : Nat} (h : a < b) : a < b + 1 + 1 + 1 := Nat.lt_succ_of_lt (ls2 h)
theorem sub_next {i n : Nat} (h : i < n) : n + 1 - (i + 1) < n + 1 - i := Nat.sub_lt_sub_left (Nat.lt_succ_of_lt h) (Nat.lt_succ_self i)
/-- room: the bound at hand is wider -/
theorem room {a j k n : Nat} (h : a + k < n) (hj : j ≤ k) : a + j < n := Nat.lt_of_le_of_lt (Nat.add_le_add_left hj a) h
theorem room0 {a k n : Nat} (h : a + k < n) : a < n := Nat.lt_of_le_of_lt (Nat.le_add_right a k) h
theorem le_le {a b c : Nat} (h : a ≤ b) (h' : b ≤ c) : a ≤ c := Nat.le_trans h h'
theorem le_sc {a b : Nat} (h : a + 1 ≤ b) : a ≤ b := Nat.le_of_succ_le h
theorem one_le {a : Nat} : 1 ≤ a + 1 := Nat.succ_le_succ (Nat.zero_le _)
theorem above1 {a b z : Nat} (h : a ≤ b) (h' : b < z) : a ≤ z := Nat.le_trans h (Nat.le_of_lt h')
theorem above2 {a b z : Nat} (h : a ≤ b) (h' : b + 1 < z) : a ≤ z := Nat.le_trans h (Nat.le_of_lt (Nat.lt_of_succ_lt h'))
theorem above1' {a b z : Nat} (h' : b < z) (h : a ≤ b) : a ≤ z := above1 h h'
theorem above2' {a b z : Nat} (h' : b + 1 < z) (h : a ≤ b) : a ≤ z := above2 h h'
theorem lrefl {a : Nat} : a ≤ a := Nat.le_refl a
theorem lzero {a : Nat} : 0 ≤ a := Nat.zero_le a
theorem room1 {a k n : Nat} (h : a + k < n) (hj : 1 ≤ k) : a + 1 < n := room h hj
theorem room2 {a k n : Nat} (h : a + k < n) (hj : 2 ≤ k) : a + 1 + 1 < n := room (j := 2) h hj
theorem room3 {a k n : Nat} (h : a + k < n) (hj : 3 ≤ k) : a + 1 + 1 + 1 < n := room (j := 3) h hj
end
local macro_rules | `(tactic| walk_at $s:str) => do
  unless ["CompEnd", "CompSrc", "ElEnd", "KswEnd", "KswPost", "LoopStep3", "SrcLP", "TurnEnd", "binaryOp Add str str", "binaryOp Mult int int", "call builtin:len", "call builtin:list.append", "call builtin:list.insert", "call builtin:list.pop", "call builtin:list.reverse", "call builtin:re.Match.group", "call builtin:re.Pattern.search", "call builtin:sorted", "call ref", "call type:enumerate", "call type:int", "call type:list", "call type:zip", "callWith ref", "compareOp NotEq ref ref", "eval ListComp", "exec Assign cons ListComp", "exec AugAssign", "exec For Name Name cons nil", "exec For Tuple Call cons nil", "exec For Tuple Subscript cons nil", "exec While Compare cons nil", "execs cons", "getMethod ref", "ite", "pyIter ref", "pyIter str", "subscriptTail", "subscriptTail Name BinOp ref int", "subscriptTail Name Constant ref int", "subscriptTail Name Name ref int", "subscriptTail Name Slice ref ref", "subscriptTail Name Slice str ref", "truthy ref"].contains s.getString do Lean.Macro.throwUnsupported
  `(tactic| k_extra $(Lean.Syntax.mkStrLit ("w " ++ s.getString)))
local macro_rules | `(tactic| omega) => `(tactic| k_extra "w my sml")
local macro_rules | `(tactic| k_ne) => `(tactic| k_extra "w my k_ne")
local macro_rules | `(tactic| k_room) => `(tactic| k_extra "w my k_room")
local macro_rules | `(tactic| units_room) => `(tactic| k_extra "w my units_room")
section
theorem resetBase : (0 : Nat) = 0 := by
  w_top off
  k_with_none
  (k_with "w my pick" => (with_reducible first | assumption | exact lo1 | exact lo2 | exact lo3 | exact lo4 | exact ls1 (by assumption) | exact ls2 (by assumption) | exact ls3 (by assumption) | exact pk0 (by assumption) | exact pk1 (by assumption) | exact pk2 (by assumption) | exact pk3 (by assumption) | exact pk4 (by assumption) | exact pk5 (by assumption) | exact pk6 (by assumption) | exact pk7 (by assumption) | exact pk8 (by assumption) | exact pk9 (by assumption) | exact pk10 (by assumption) | exact pk11 (by assumption) | exact pk12 (by assumption) | exact pk13 (by assumption) | exact pk14 (by assumption) | exact pk15 (by assumption) | exact pk16 (by assumption) | exact pk17 (by assumption) | exact qk1 (by assumption) | exact qk2 (by assumption) | exact qk3 (by assumption) | exact qk4 (by assumption) | exact qk5 (by assumption) | exact qk6 (by assumption) | exact qk7 (by assumption) | exact qk8 (by assumption) | exact qk9 (by assumption) | exact qk10 (by assumption) | exact qk11 (by assumption) | exact qk12 (by assumption) | exact qk13 (by assumption) | exact qk14 (by assumption) | exact qk15 (by assumption) | exact qk16 (by assumption) | exact qk17 (by assumption)))
  (k_with "w my sml" => (with_reducible first | (refine Nat.ne_of_lt ?_; k_extra "w my pick") | (refine Nat.ne_of_gt ?_; k_extra "w my pick") | (refine Ne.symm ?_; k_extra "w my pick") | (refine id ?_; k_extra "w my pick") | (refine Nat.le_of_lt ?_; k_extra "w my pick") | exact lrefl | exact lzero | exact one_le | exact room0 (by assumption) | exact room (by assumption) (by decide) | exact room1 (by assumption) (by decide) | exact room2 (by assumption) (by decide) | exact room3 (by assumption) (by decide) | exact le_le (by assumption) (by decide) | exact le_sc (by assumption) | (refine above1' ?_ (by assumption); k_extra "w my pick") | (refine above2' ?_ (by assumption); k_extra "w my pick")))
  (k_with "w my om" => (first | k_extra "w my sml" | lia | omega))
  rfl

noncomputable abbrev PG : Program := PySem.Challenge.rw_xe0029_01.prog

/-- all objects stand but those of S; nothing is taken away -/
noncomputable def Touch (S : List Addr) (h h' : Heap) : Prop := h.objs.size ≤ h'.objs.size ∧ ∀ b o, h.get? b = some o → b ∉ S → h'.get? b = some o

theorem Touch.refl (S : List Addr) (h : Heap) : Touch S h h := ⟨Nat.le_refl _, fun _ _ e _ => e⟩
theorem Touch.keep {h h' : Heap} (a : Touch [] h h') : ∀ b o, h.get? b = some o → h'.get? b = some o := fun b o e => a.2 b o e (by simp)

noncomputable def Stop (P : Prop) : Prop := P
theorem stop_here {P : Prop} (h : Stop P) : P := h
theorem keeps_list {h h' : Heap} {a : Addr} {xs : Array Value} (x : h.IsList a xs) (k : ∀ b o, h.get? b = some o → h'.get? b = some o) : h'.IsList a xs := let ⟨o, ho, r⟩ := x; ⟨o, k _ _ ho, r⟩
noncomputable def CallsTo (w : World) (A : Around) (f : Value) (vs : List Value) (kw : List (Str × Value)) (s : Shared) (S : List Addr) (P : Value → Heap → Prop) : Prop :=
  ∀ (R : Result → Shared → Prop), (∀ v h' tk', Touch S s.heap h' → P v h' → R (.ok (.ret v)) { s with heap := h', toks := tk' }) → codeAny (model PG w) A (.call f ⟨vs, kw⟩) R s

/-- what a call may lean on: the written part, the top, the frames below, room -/
structure Setup (n : Nat) (w : World) (A : Around) (base : Heap) (outer : List Env) (p : Program) (loose : List Str) (mean : ExcName → Option Value) (mg mb : Str → Option Value) (G : Heap) : Prop where
  X : (hdT.heap_39 w.params).In G
  T : Top p loose mean mg mb G
  B : Below A base outer G
  hh : A.handled = none
  dp : A.depth + n < 1000
  un : A.units + 20 * n < 9900

/-- what is around a call, taken apart once -/
theorem Setup.open {n : Nat} {w : World} {A : Around} {base : Heap} {outer : List Env} {p : Program} {loose : List Str} {mean : ExcName → Option Value} {mg mb : Str → Option Value} {G : Heap} {P : Around → Prop} (S : Setup n w A base outer p loose mean mg mb G)
    (k : ∀ (dpt : Nat) (grs : Option (List Code)) (uni : Nat), (hdT.heap_39 w.params).In G → Top p loose mean mg mb G → Below ⟨none, dpt, some outer, grs, uni⟩ base outer G → dpt + n < 1000 → uni + 20 * n < 9900 → P ⟨none, dpt, some outer, grs, uni⟩) : P A := by
  obtain ⟨X, T, B, hh, dp, un⟩ := S
  obtain ⟨hnd, dpt, frs, grs, uni⟩ := A
  obtain rfl : hnd = none := hh
  obtain rfl : frs = some outer := B.stack
  exact k dpt grs uni X T B dp un
section
variable {w : World} {A : Around} {s : Shared} {G base : Heap} {outer : List Env} {news : List (Addr × Obj)} {K : Frag} {p : Program} {loose : List Str} {mean : ExcName → Option Value} {mg mb : Str → Option Value}
  {R : Result → Shared → Prop} {name qual : Str} {params : Arguments} {body : List Stmt} {scope : Scope} {dV kV doc pm cdv ct oc : Value} {an od : Option Addr} {osl : Array (Option Value)} {f : Addr} {args : Args} {binds : List (Str × Value)}

theorem hide_keeps (hG : ∀ b o, G.get? b = some o → s.heap.get? b = some o) (hN : ∀ q ∈ news, s.heap.get? q.1 = some q.2 ∧ G.get? q.1 = none) :
    ∀ b o, G.get? b = some o → (hideAll s.heap (news.map (·.1))).get? b = some o := fun b o e => hideAll_get _ (hG b o e) fun q => by
    obtain ⟨r, hr, rfl⟩ := List.mem_map.mp q
    rw [(hN r hr).2] at e; cases e
theorem below_keeps {g : Heap} (B : Below A base outer G) (kp : ∀ b o, G.get? b = some o → g.get? b = some o) : Below A base outer g :=
  ⟨B.stack, fun b o e => kp b o (B.stays b o e), B.frames.of_keeps fun b o e _ => ⟨o, kp b o e, rfl⟩⟩

theorem enterH (X : K.In G) (T : Top p loose mean mg mb G) (B : Below A base outer G) (hG : ∀ b o, G.get? b = some o → s.heap.get? b = some o) (hN : ∀ q ∈ news, s.heap.get? q.1 = some q.2 ∧ G.get? q.1 = none)
    (ho : K.lookup f = some ⟨oc, od, .func (fnOf name qual params body scope dV kV doc pm an cdv ct), osl⟩) (hcd : codeIn K cdv qual = true) (hroom : A.depth < recursionLimit)
    (hbind : BindsTo s (fnOf name qual params body scope dV kV doc pm an cdv ct) args binds) (hloc : ∀ y ∈ binds, scope.names.lookup y.1 = some .local)
    (h : ∀ g L' h₁, (∀ b o, s.heap.get? b = some o → b ∉ news.map (·.1) → g.get? b = some o) → (∀ b o, g.get? b = some o → s.heap.get? b = some o) → s.heap.objs.size ≤ L' → K.In g → Top p loose mean mg mb g → Below A base outer g →
      Fr g L' h₁ (fun y => binds.reverse.lookup y) → News g L' h₁ news → (∀ q ∈ news, q.1 < L') →
      wpAny (model PG w) (A.deeper (envOf qual scope L' f cdv)) (execs body (envOf qual scope L' f cdv))
        (fun fl s' => R (.ok (.ret (match fl with | .ret v => v | _ => .none))) s') (fun _ _ => False) { s with heap := h₁, toks := s.toks + binds.length })
    (hco : scope.isCoroutine = false) (hgen : scope.isGenerator = false) (hk : scope.kind = .function)
    (hcell : ∀ x ∈ scope.names, x.2 ≠ .cell) : codeAny (model PG w) A (.call (.ref f) args) R s := by
  refine codeAny_call_def (fd := fnOf name qual params body scope dV kV doc pm an cdv ct) (body := body) (binds := binds) hroom (hG _ _ (X _ _ ho)) rfl (T.nolimit.keeps hG) (codeRec_of (X.keeps hG) hcd) rfl hbind hcell hloc (fun h₁ hns hk₁ => ?_) hco hgen hk
  have kp := hide_keeps hG hN
  refine wpAny_mono (h (hideAll s.heap (news.map (·.1))) s.heap.objs.size h₁ (fun b o e n => hideAll_get _ e n) (fun b o e => of_hideAll _ e) (Nat.le_refl _) (X.keeps kp) (T.keeps kp) (below_keeps B kp)
    ⟨hns, fun b o e => hk₁ b o (of_hideAll _ e), Nat.le_of_eq (hideAll_size _ _)⟩
    (fun q hq => ⟨hk₁ _ _ (hN q hq).1, Nat.ne_of_lt (Heap.lt_size (hN q hq).1), hideAll_none _ (List.mem_map_of_mem hq)⟩) (fun q hq => Heap.lt_size (hN q hq).1)) (fun fl s' hl => hl) fun _ _ y => y.elim

theorem enterC (X : K.In G) (T : Top p loose mean mg mb G) (B : Below A base outer G) (hG : ∀ b o, G.get? b = some o → s.heap.get? b = some o) (hN : ∀ q ∈ news, s.heap.get? q.1 = some q.2 ∧ G.get? q.1 = none)
    (ho : K.lookup f = some ⟨oc, od, .func (fnX name qual params body scope [] dV kV doc pm an cdv ct), osl⟩) (hcd : codeIn K cdv qual = true) (hroom : A.depth < recursionLimit)
    (hbind : BindsTo s (fnX name qual params body scope [] dV kV doc pm an cdv ct) args binds)
    (hkind : ∀ n, ∀ x ∈ binds, scope.names.lookup x.1 = some .local ∨ (scope.names.lookup x.1 = some .cell ∧ ((cellsFrom n scope.names []).lookup x.1).isSome = true))
    (hnd : ((cellsFrom 0 scope.names []).map (·.1)).Nodup)
    (h : ∀ g L' h₁ tk cells, (∀ b o, s.heap.get? b = some o → b ∉ news.map (·.1) → g.get? b = some o) → (∀ b o, g.get? b = some o → s.heap.get? b = some o) → s.heap.objs.size ≤ L' → K.In g → Top p loose mean mg mb g → Below A base outer g →
      Fr g L' h₁ (bindL (envOfC qual scope L' f cdv).kindOf binds fun _ => none) → News g L' h₁ (cells ++ news) →
      CellsAre (bindC (envOfC qual scope L' f cdv).kindOf binds fun _ => none) (cellsFrom (L' + 1) scope.names []) cells → (∀ q ∈ news, q.1 < L') →
      wpAny (model PG w) (A.deeper (envOfC qual scope L' f cdv)) (execs body (envOfC qual scope L' f cdv))
        (fun fl s' => R (.ok (.ret (match fl with | .ret v => v | _ => .none))) s') (fun _ _ => False) { s with heap := h₁, toks := tk })
    (hco : scope.isCoroutine = false) (hgen : scope.isGenerator = false) (hk : scope.kind = .function) : codeAny (model PG w) A (.call (.ref f) args) R s := by
  have kp := hide_keeps hG hN
  refine codeAny_call_function hroom (hG _ _ (X _ _ ho)) rfl hco hgen rfl (codeRec_of (X.keeps hG) hcd) (hbind _ _ _ _ ?_)
  refine wpAny_newFunctionEnv_cells hk (hkind _) fun env' he s' x => ?_
  subst he
  refine ⟨(T.nolimit.keeps hG).keeps x.toInCall.keep, codeAny_func ?_⟩
  obtain ⟨h₁, tk, rfl, _⟩ := x.done
  have hk₁ := x.toInCall.keep
  obtain ⟨cells, NC, Y⟩ := Cl.news (h₀ := s.heap) (Nat.le_refl _) fun n c hm => ⟨x.cell n c (lookup_of_mem_nodup (cellsFrom_names scope.names 0 (s.heap.objs.size + 1) [] [] rfl ▸ hnd) hm), x.above n c hm⟩
  refine wpAny_mono (h (hideAll s.heap (news.map (·.1))) s.heap.objs.size h₁ tk cells (fun b o e n => hideAll_get _ e n) (fun b o e => of_hideAll _ e) (Nat.le_refl _) (X.keeps kp) (T.keeps kp) (below_keeps B kp)
    ⟨x.toInCall.ns, fun b o e => hk₁ b o (of_hideAll _ e), Nat.le_of_eq (hideAll_size _ _)⟩ (fun q hq => ?_) Y (fun q hq => Heap.lt_size (hN q hq).1)) (fun fl s' hl => hl) fun _ _ y => y.elim
  rcases List.mem_append.mp hq with hq | hq
  · refine ⟨(NC q hq).1, (NC q hq).2.1, ?_⟩
    cases e : (hideAll s.heap (news.map (·.1))).get? q.1 with
    | none => rfl
    | some o => have := of_hideAll _ e; rw [(NC q hq).2.2] at this; cases this
  · exact ⟨hk₁ _ _ (hN q hq).1, Nat.ne_of_lt (Heap.lt_size (hN q hq).1), hideAll_none _ (List.mem_map_of_mem hq)⟩
end

theorem touch_of {S : List Addr} {h g h' : Heap} {L' : Addr} {m : Str → Option Value} (hg : ∀ b o, h.get? b = some o → b ∉ S → g.get? b = some o) (hL : h.objs.size ≤ L') (F : Fr g L' h' m) : Touch S h h' :=
  ⟨Nat.le_trans hL (Nat.le_of_lt F.ns.lt), fun b o e n => F.keep b o (hg b o e n)⟩

/-- at a call within a frame: the ledger is hidden, the rest is what the callee leans on -/
theorem setup_at {n : Nat} {w : World} {A A₀ : Around} {s : Shared} {base h₀ : Heap} {outer : List Env} {env : Env} {L : Addr} {m mg mb : Str → Option Value} {p : Program} {loose : List Str} {mean : ExcName → Option Value} {news : List (Addr × Obj)}
    (F : Fr h₀ L s.heap m) (N : News h₀ L s.heap news) (X : (hdT.heap_39 w.params).In h₀) (T : Top p loose mean mg mb h₀) (B : Below A₀ base outer h₀)
    (hA : A.frames = some (env :: outer)) (hf : env.frame = some L) (hke : env.scope.kind = .function) (hh : A.handled = none) (dp : A.depth + n < 1000) (un : A.units + 20 * n < 9900) :
    Setup n w A base (env :: outer) p loose mean mg mb (hideAll s.heap (news.map (·.1))) := by
  obtain ⟨FG, BG, st, _⟩ := groundX (R := fun _ _ => True) B F N hA hf hke
  exact ⟨X.keeps st, T.keeps st, BG, hh, dp, un⟩

theorem Setup.le {n m : Nat} {w : World} {A : Around} {base G : Heap} {outer : List Env} {p : Program} {loose : List Str} {mean : ExcName → Option Value} {mg mb : Str → Option Value} (S : Setup m w A base outer p loose mean mg mb G) (h : n ≤ m) : Setup n w A base outer p loose mean mg mb G :=
  ⟨S.X, S.T, S.B, S.hh, by have := S.dp; k_extra "w my om", by have := S.un; k_extra "w my om"⟩
/-- the same, one frame below a contract's own -/
theorem Setup.down {n : Nat} {w : World} {A : Around} {s : Shared} {base g : Heap} {outer : List Env} {env : Env} {L : Addr} {m mg mb : Str → Option Value} {p : Program} {loose : List Str} {mean : ExcName → Option Value} {news : List (Addr × Obj)}
    (S : Setup (n + 1) w A base outer p loose mean mg mb g) (F : Fr g L s.heap m) (N : News g L s.heap news) (hf : env.frame = some L) (hke : env.scope.kind = .function) :
    Setup n w (A.deeper env).in1 base (env :: outer) p loose mean mg mb (hideAll s.heap (news.map (·.1))) := by
  have hA : A.frames = some outer := S.B.stack
  have h1 := S.dp
  have h2 := S.un
  refine setup_at (A := (A.deeper env).in1) F N S.X S.T S.B ?_ hf hke S.hh ?_ ?_
  · show A.frames.map (env :: ·) = _
    rw [hA]; rfl
  · show A.depth + 1 + n < 1000
    k_extra "w my om"
  · show A.units + 3 + 1 + 20 * n < 9900
    k_extra "w my om"
theorem touch_fr {s : Shared} {S : List Addr} {h₀ h' : Heap} {L : Addr} {m : Str → Option Value} {news : List (Addr × Obj)} (F : Fr h₀ L s.heap m) (N : News h₀ L s.heap news) (hS : ∀ x ∈ S, x ∈ news.map (·.1)) (t : Touch S s.heap h') : Fr h₀ L h' m := by
  have nS : ∀ b o, h₀.get? b = some o → b ∉ S := fun b o e q => by
    obtain ⟨r, hr, rfl⟩ := List.mem_map.mp (hS b q)
    rw [(N r hr).2.2] at e; cases e
  refine ⟨?_, fun b o e => t.2 b o (F.keep b o e) (nS b o e), F.above⟩
  obtain ⟨oL, es, ep, hL, r⟩ := F.ns
  refine ⟨oL, es, ep, t.2 _ _ hL fun q => ?_, r⟩
  obtain ⟨r, hr, e⟩ := List.mem_map.mp (hS L q)
  exact (N r hr).2.1 e
theorem touch_news {s : Shared} {S : List Addr} {h₀ h' : Heap} {L : Addr} {news : List (Addr × Obj)} (N : News h₀ L s.heap news) (t : Touch S s.heap h') : News h₀ L h' (news.filter fun q => q.1 ∉ S) := by
  intro q hq
  obtain ⟨h1, h2⟩ := List.mem_filter.mp hq
  exact ⟨t.2 _ _ (N q h1).1 (by simpa using h2), (N q h1).2⟩
noncomputable def Holds (h : Heap) (l : List (Addr × Obj)) : Prop := ∀ q ∈ l, h.get? q.1 = some q.2
theorem News.holds {h₀ h h' : Heap} {L : Addr} {l l' : List (Addr × Obj)} (N : News h₀ L h l) (H : Holds h' l') (hs : ∀ q ∈ l', q.1 ∈ l.map (·.1)) : News h₀ L h' l' := fun q hq => by
  obtain ⟨r, hr, e⟩ := List.mem_map.mp (hs q hq)
  exact ⟨H q hq, e ▸ (N r hr).2⟩
theorem Fr.congr {h₀ h : Heap} {L : Addr} {m m' : Str → Option Value} (F : Fr h₀ L h m) (e : ∀ y, m y = m' y) : Fr h₀ L h m' := by
  have : m = m' := funext e
  exact this ▸ F
/-- a contract used within a frame -/
theorem use {w : World} {A : Around} {f : Value} {vs : List Value} {kw : List (Str × Value)} {s : Shared} {S : List Addr} {P : Value → Heap → Prop} {h₀ : Heap} {L : Addr} {m : Str → Option Value} {news : List (Addr × Obj)}
    {Q E : Value → Shared → Prop} (C : CallsTo w A f vs kw s S P) (F : Fr h₀ L s.heap m) (N : News h₀ L s.heap news) (hS : ∀ x ∈ S, x ∈ news.map (·.1))
    (k : ∀ v h' tk', Fr h₀ L h' m → News h₀ L h' (news.filter fun q => q.1 ∉ S) → Touch S s.heap h' → P v h' → Q v { s with heap := h', toks := tk' }) : wpAny (model PG w) A (call f vs kw) Q E s :=
  wpAny_call (C _ fun v h' tk' t p => k v h' tk' (touch_fr F N hS t) (touch_news N t) t p)
/-- the same, of a contract that changes nothing that stands -/
theorem use0 {w : World} {A : Around} {f : Value} {vs : List Value} {kw : List (Str × Value)} {s : Shared} {P : Value → Heap → Prop} {h₀ : Heap} {L : Addr} {m : Str → Option Value} {news : List (Addr × Obj)}
    {Q E : Value → Shared → Prop} (C : CallsTo w A f vs kw s [] P) (F : Fr h₀ L s.heap m) (N : News h₀ L s.heap news) (hS : ∀ x ∈ ([] : List Addr), x ∈ news.map (·.1))
    (k : ∀ v h' tk', Fr h₀ L h' m → News h₀ L h' news → Touch [] s.heap h' → P v h' → Q v { s with heap := h', toks := tk' }) : wpAny (model PG w) A (call f vs kw) Q E s :=
  wpAny_call (C _ fun v h' tk' t p => k v h' tk' (touch_fr F N hS t) (fun q hq => ⟨t.keep _ _ (N q hq).1, (N q hq).2⟩) t p)
theorem News.adds {h₀ h' : Heap} {L a z : Addr} {o : Obj} {m : Str → Option Value} {news : List (Addr × Obj)} (F : Fr h₀ L h' m) (N : News h₀ L h' news) (hz : L < z) (ha : z ≤ a) (e : h'.get? a = some o) : News h₀ L h' ((a, o) :: news) := by
  intro q hq
  rcases List.mem_cons.mp hq with rfl | hq
  · have : L < a := Nat.lt_of_lt_of_le hz ha
    exact ⟨e, Nat.ne_of_gt this, Heap.get?_none_of_le (Nat.le_trans F.above (Nat.le_of_lt this))⟩
  · exact N q hq
end
section
theorem resetStrs : (0 : Nat) = 0 := by
  w_top off
  k_with_none
  (k_with "w my pick" => (with_reducible first | assumption | exact lo1 | exact lo2 | exact lo3 | exact lo4 | exact ls1 (by assumption) | exact ls2 (by assumption) | exact ls3 (by assumption) | exact pk0 (by assumption) | exact pk1 (by assumption) | exact pk2 (by assumption) | exact pk3 (by assumption) | exact pk4 (by assumption) | exact pk5 (by assumption) | exact pk6 (by assumption) | exact pk7 (by assumption) | exact pk8 (by assumption) | exact pk9 (by assumption) | exact pk10 (by assumption) | exact pk11 (by assumption) | exact pk12 (by assumption) | exact pk13 (by assumption) | exact pk14 (by assumption) | exact pk15 (by assumption) | exact pk16 (by assumption) | exact pk17 (by assumption) | exact qk1 (by assumption) | exact qk2 (by assumption) | exact qk3 (by assumption) | exact qk4 (by assumption) | exact qk5 (by assumption) | exact qk6 (by assumption) | exact qk7 (by assumption) | exact qk8 (by assumption) | exact qk9 (by assumption) | exact qk10 (by assumption) | exact qk11 (by assumption) | exact qk12 (by assumption) | exact qk13 (by assumption) | exact qk14 (by assumption) | exact qk15 (by assumption) | exact qk16 (by assumption) | exact qk17 (by assumption)))
  (k_with "w my sml" => (with_reducible first | (refine Nat.ne_of_lt ?_; k_extra "w my pick") | (refine Nat.ne_of_gt ?_; k_extra "w my pick") | (refine Ne.symm ?_; k_extra "w my pick") | (refine id ?_; k_extra "w my pick") | (refine Nat.le_of_lt ?_; k_extra "w my pick") | exact lrefl | exact lzero | exact one_le | exact room0 (by assumption) | exact room (by assumption) (by decide) | exact room1 (by assumption) (by decide) | exact room2 (by assumption) (by decide) | exact room3 (by assumption) (by decide) | exact le_le (by assumption) (by decide) | exact le_sc (by assumption) | (refine above1' ?_ (by assumption); k_extra "w my pick") | (refine above2' ?_ (by assumption); k_extra "w my pick")))
  (k_with "w my om" => (first | k_extra "w my sml" | lia | omega))
  rfl

noncomputable def Sm (n : Nat) (x : Str) : Prop := x.length ≤ n
theorem Sm.refl (x : Str) : Sm x.length x := Nat.le_refl _
theorem Sm.int {x : Int} (h : x.natAbs < 10 ^ 9) : Sm 10 (Str.ofString (toString x)) := by
  unfold Sm; rw [PySem.ofString_length]; exact int_text_length_le10 (k := 9) (by decide) h
theorem Sm.add {a b : Nat} {x y : Str} (hx : Sm a x) (hy : Sm b y) : Sm (a + b) (x ++ y) := by
  unfold Sm at *; rw [Str.length_append]; k_extra "w my om"
theorem Sm.slice {a : Nat} {x : Str} {l u : Option Int} (hx : Sm a x) : Sm a (Txt.slice x l u) := Nat.le_trans (PyProof.Txt.length_slice_le x _ _) hx
theorem Sm.size2 {a b : Nat} {x y : Str} (hx : Sm a x) (hy : Sm b y) (h : a + b ≤ sizeLine) : x.length + y.length ≤ sizeLine := by unfold Sm at *; k_extra "w my om"
theorem Sm.size {a : Nat} {x : Str} (hx : Sm a x) (h : a ≤ sizeLine) : x.length ≤ sizeLine := Nat.le_trans hx h
theorem Sm.ite {a b : Nat} {c : Prop} [Decidable c] {x y : Str} (hx : Sm a x) (hy : Sm b y) : Sm (a + b) (if c then x else y) := by
  unfold Sm at *; split <;> k_extra "w my om"

section
variable {M : Model} {A : Around} {E : Value → Shared → Prop} {s : Shared} {env : Env} {Q : Value → Shared → Prop}
theorem ite_strs {c : Prop} [Decidable c] {x y : Str} {k k' : Nat} {p p' : Pos} (h : ∀ t, Q (.str (if c then x else y) t) { s with toks := s.toks + 1 }) :
    if c then wpAny M A (eval (.Constant (.str x) k p) env) Q E s else wpAny M A (eval (.Constant (.str y) k' p') env) Q E s := by
  split
  · rename_i hc; exact Calls.Constant_str (by have := h s.toks; rwa [if_pos hc] at this)
  · rename_i hc; exact Calls.Constant_str (by have := h s.toks; rwa [if_neg hc] at this)
end

/-- FlatCps: the signs of a glued text -/
theorem join_cps (l : List Str) : (Txt.join (Str.ofString "") l).cps.toList = (l.map fun x => x.cps.toList).flatten := by
  show (Builtin.Str.glued (Str.ofString "") l).cps.toList = _
  rw [StrLaws.glued_eq_join]
  have he : (Str.ofString "") = Str.empty := by decide
  rw [he]
  induction l with
  | nil => rfl
  | cons a r ih =>
    cases r with
    | nil => simp [Str.join]
    | cons b r =>
      show (a ++ Str.empty ++ Str.join Str.empty (b :: r)).cps.toList = _
      rw [Str.append_empty, Str.cps_append, Array.toList_append, ih]
      simp
theorem join_len (l : List Str) : (Txt.join (Str.ofString "") l).length = (l.map (·.length)).sum := by
  show (Txt.join (Str.ofString "") l).cps.size = _
  rw [← Array.length_toList, join_cps, List.length_flatten, List.map_map]
  rfl
noncomputable def FStr (f : Str → Str) (v r : Value) : Prop := ∃ c u u', v = .str ⟨#[c]⟩ u ∧ r = .str (f ⟨#[c]⟩) u'
theorem paired_signs {f : Str → Str} {vs ys : List Value} (h : Paired (FStr f) vs ys) : ∀ (cs : List Nat), vs.length = cs.length → (∀ (j : Nat) (v : Value), vs[j]? = some v → ∃ c u, cs[j]? = some c ∧ v = .str ⟨#[c]⟩ u) →
    ∃ l : List (Str × Tok), ys = strValues l ∧ l.map (·.1) = cs.map fun c => f ⟨#[c]⟩ := by
  induction h with
  | nil => intro cs hl _; cases cs with
    | nil => exact ⟨[], rfl, rfl⟩
    | cons c cs => cases hl
  | cons hf _ ih => intro cs hl hp; cases cs with
    | nil => cases hl
    | cons c cs =>
      obtain ⟨l, rfl, hm⟩ := ih cs (Nat.succ.inj hl) fun j v hv => hp (j + 1) v hv
      obtain ⟨c', u, u', hv, rfl⟩ := hf
      obtain ⟨c2, u2, hc, hv2⟩ := hp 0 _ rfl
      cases hc
      rw [hv] at hv2
      cases hv2
      exact ⟨(f ⟨#[c]⟩, u') :: l, rfl, by simp [hm]⟩

section
variable {prog : Program} {w : World} {A : Around} {E : Value → Shared → Prop} {s₁ : Shared} {h₀ : Heap} {L : Addr} {m : Str → Option Value} {news : List (Addr × Obj)}
/-- a comprehension sign by sign over a text -/
theorem comp_signs {env : Env} {elt : Expr} {x : Str} {scope : Scope} {Q : Value → Shared → Prop} {y : Str} {t : Tok} (f : Str → Str)
    (hh : A.handled = none) (F : Fr h₀ L s₁.heap m) (N : News h₀ L s₁.heap news) (hsz : y.length ≤ sizeLine)
    (g2 : ∀ C c u s₂ m₂ E', s₂.heap.Ns (compEnv scope C env).locals m₂ → m₂ x = some (.str ⟨#[c]⟩ u) →
      wpAny (model prog w) A (eval elt (compEnv scope C env)) (fun r s₃ => (∃ u', r = .str (f ⟨#[c]⟩) u') ∧ Keeps s₂ s₃) E' s₂)
    (g3 : ∀ D (l : List (Str × Tok)) h' tk, Fr h₀ L h' m → News h₀ L h' news → h'.IsList D (strValues l).toArray → l.map (·.1) = (y.cps.toList.map fun c => f ⟨#[c]⟩) → Q (.ref D) { s₁ with heap := h', toks := tk }) :
    wpAny (model prog w) A (pyIter (.str y t)) (CompPost prog w A env scope x [] elt Q) E s₁ := by
  unfold CompPost
  refine wpAny_pyIter_str fun o St W hst => ?_
  refine ⟨fun _ => true, FStr f, s₁.heap.objs.size, [s₁.heap.objs.size], [s₁.heap.objs.size], y.cps.size, SignAt y, St, rfl, W A hh, hsz, hst, ?_, ⟨?_, ?_⟩, ?_⟩
  · intro b hb
    show b < (s₁.heap.push o).objs.size
    rw [Heap.size_push, List.mem_singleton.mp hb]
    exact Nat.lt_succ_self _
  · intro C i v s₃ m₃ E' _ _ _ _ _
    exact wpAny_pure ⟨rfl, _, _, rfl, fun _ _ e => e⟩
  · intro C i v s₃ m₃ E' hP _ hn hm _ _
    obtain ⟨c, u, _, rfl⟩ := hP
    exact wpAny_mono (g2 C c u s₃ m₃ E' hn hm) (fun r s₄ h₄ => ⟨let ⟨u', e⟩ := h₄.1; ⟨c, u, u', rfl, e⟩, h₄.2⟩) fun _ _ e => e
  · intro D h' tk ys vs _ hlD _ hlen hP hF hk
    have up : ∀ b o', s₁.heap.get? b = some o' → h'.get? b = some o' := fun b o' e => hk b o' (by simp; exact Nat.ne_of_lt (Heap.lt_size e)) (Heap.get?_push_of_some _ e)
    have hft : vs.filter (fun _ => true) = vs := by simp
    rw [hft] at hF
    obtain ⟨l, hys, hl⟩ := paired_signs hF y.cps.toList (by simpa using hlen) fun j v hv => by
      obtain ⟨c, u, hc, e⟩ := hP j v hv
      exact ⟨c, u, by simpa using hc, e⟩
    refine g3 D l h' tk (F.keeps up) (N.grown up) ?_ hl
    rw [← hys]; simpa using hlD
end
end
section
theorem resetLoops : (0 : Nat) = 0 := by
  w_top off
  k_with_none
  (k_with "w my pick" => (with_reducible first | assumption | exact lo1 | exact lo2 | exact lo3 | exact lo4 | exact ls1 (by assumption) | exact ls2 (by assumption) | exact ls3 (by assumption) | exact pk0 (by assumption) | exact pk1 (by assumption) | exact pk2 (by assumption) | exact pk3 (by assumption) | exact pk4 (by assumption) | exact pk5 (by assumption) | exact pk6 (by assumption) | exact pk7 (by assumption) | exact pk8 (by assumption) | exact pk9 (by assumption) | exact pk10 (by assumption) | exact pk11 (by assumption) | exact pk12 (by assumption) | exact pk13 (by assumption) | exact pk14 (by assumption) | exact pk15 (by assumption) | exact pk16 (by assumption) | exact pk17 (by assumption) | exact qk1 (by assumption) | exact qk2 (by assumption) | exact qk3 (by assumption) | exact qk4 (by assumption) | exact qk5 (by assumption) | exact qk6 (by assumption) | exact qk7 (by assumption) | exact qk8 (by assumption) | exact qk9 (by assumption) | exact qk10 (by assumption) | exact qk11 (by assumption) | exact qk12 (by assumption) | exact qk13 (by assumption) | exact qk14 (by assumption) | exact qk15 (by assumption) | exact qk16 (by assumption) | exact qk17 (by assumption)))
  (k_with "w my sml" => (with_reducible first | (refine Nat.ne_of_lt ?_; k_extra "w my pick") | (refine Nat.ne_of_gt ?_; k_extra "w my pick") | (refine Ne.symm ?_; k_extra "w my pick") | (refine id ?_; k_extra "w my pick") | (refine Nat.le_of_lt ?_; k_extra "w my pick") | exact lrefl | exact lzero | exact one_le | exact room0 (by assumption) | exact room (by assumption) (by decide) | exact room1 (by assumption) (by decide) | exact room2 (by assumption) (by decide) | exact room3 (by assumption) (by decide) | exact le_le (by assumption) (by decide) | exact le_sc (by assumption) | (refine above1' ?_ (by assumption); k_extra "w my pick") | (refine above2' ?_ (by assumption); k_extra "w my pick")))
  (k_with "w my om" => (first | k_extra "w my sml" | lia | omega))
  rfl

/-- intv told by a function -/
noncomputable def intv (x : Nat → Int) (u : Nat → Tok) (n : Nat) : List Value := (List.range n).map fun j => .int (x j) (u j)
theorem intv_len (x : Nat → Int) (u : Nat → Tok) (n : Nat) : (intv x u n).length = n := by simp [intv]
theorem intv_get {x : Nat → Int} {u : Nat → Tok} {n j : Nat} (h : j < n) : (intv x u n)[j]? = some (.int (x j) (u j)) := by simp [intv, h]
theorem intv_are (x : Nat → Int) (u : Nat → Tok) (n : Nat) : IntsAre (intv x u n) ((List.range n).map x) := by
  unfold intv
  generalize List.range n = l
  induction l with
  | nil => exact .nil
  | cons a l ih => exact .cons _ _ ih
/-- a list whose items are told one by one -/
theorem intv_of {x : Nat → Int} {ys : List Value} {n : Nat} (hl : ys.length = n) (h : ∀ j, j < n → ∃ t, ys[j]? = some (.int (x j) t)) : ∃ u, ys = intv x u n := by
  refine ⟨fun j => match ys[j]? with | some (.int _ t) => t | _ => 0, List.ext_getElem? fun j => ?_⟩
  by_cases hj : j < n
  · obtain ⟨t, e⟩ := h j hj
    rw [intv_get hj, e]
    try simp only [e]
  · rw [List.getElem?_eq_none (by k_extra "w my om"), List.getElem?_eq_none (by rw [intv_len]; k_extra "w my om")]
noncomputable def textv (x : Nat → Str) (u : Nat → Tok) (n : Nat) : List Value := (List.range n).map fun j => .str (x j) (u j)
theorem textv_len (x : Nat → Str) (u : Nat → Tok) (n : Nat) : (textv x u n).length = n := by simp [textv]
theorem textv_get {x : Nat → Str} {u : Nat → Tok} {n j : Nat} (h : j < n) : (textv x u n)[j]? = some (.str (x j) (u j)) := by simp [textv, h]
theorem textv_of {x : Nat → Str} {ys : List Value} {n : Nat} (hl : ys.length = n) (h : ∀ j, j < n → ∃ t, ys[j]? = some (.str (x j) t)) : ∃ u, ys = textv x u n := by
  refine ⟨fun j => match ys[j]? with | some (.str _ t) => t | _ => 0, List.ext_getElem? fun j => ?_⟩
  by_cases hj : j < n
  · obtain ⟨t, e⟩ := h j hj
    rw [textv_get hj, e]
    try simp only [e]
  · rw [List.getElem?_eq_none (by k_extra "w my om"), List.getElem?_eq_none (by rw [textv_len]; k_extra "w my om")]

section
variable {prog : Program} {w : World} {A : Around} {h₀ : Heap} {L : Addr} {m : Str → Option Value} {env : Env} {s : Shared} {elt : Expr} {x : Str} {scope : Scope} {cl : List (Str × Addr)}
  {S : List (Addr × Obj) → Prop} {P : Nat → Value → Prop} {Fin : List Value → List (Addr × Obj) → Prop} {news : List (Addr × Obj)}
/-- a comprehension by what holds after i items -/
theorem rest_ind {n : Nat} (Inv : Nat → List Value → List (Addr × Obj) → Prop)
    (step : ∀ i ys nw, i < n → ys.length = i → Inv i ys nw → ∀ v I oI C oC D m₂ h tk (E' : Value → Shared → Prop), P i v → LCg.NsObj oC m₂ → m₂ x = some v → Fr h₀ L h m → News h₀ L h ((I, oI) :: (C, oC) :: (D, LCg.lst ys) :: nw) → LCg.Off3 I C D nw → ((@Ne Nat I C) ∧ (@Ne Nat I D) ∧ (@Ne Nat C D)) →
      wpAny (model prog w) A (eval elt (compEnvC scope cl C env)) (LCg.CompEnd h₀ L m { s with heap := h, toks := tk } I oI C oC D (LCg.lst ys) S (fun y nw' => Inv (i + 1) (ys ++ [y]) nw')) E' { s with heap := h, toks := tk })
    (fin : ∀ ys nw, ys.length = n → Inv n ys nw → Fin ys nw) :
    ∀ k i ys nw, i + k = n → ys.length = i → Inv i ys nw → LCg.CompRest prog w A h₀ L m env elt x scope cl s S P Fin k i ys nw := by
  intro FF
  induction FF with
  | zero =>
    intro i ys nw hk hl hi
    exact LCg.CompRest.zero (by subst hk; exact fin ys nw hl hi)
  | succ k ih =>
    intro i ys nw hk hl hi
    exact LCg.CompRest.succ fun v I oI C oC D m₂ h tk E' hP hn hx F N o1 o2 => by
      refine wpAny_mono (step i ys nw (by k_extra "w my om") hl hi v I oI C oC D m₂ h tk E' hP hn hx F N o1 o2) (fun y s₂ hy => ?_) fun _ _ e => e
      obtain ⟨h', tk', nw', e, F', N', o', hS, hy⟩ := hy
      exact ⟨h', tk', nw', e, F', N', o', hS, ih (i + 1) (ys ++ [y]) nw' (by k_extra "w my om") (by simp [hl]) hy⟩
end
end
section
theorem resetLed : (0 : Nat) = 0 := by
  w_top off
  k_with_none
  (k_with "w my pick" => (with_reducible first | assumption | exact lo1 | exact lo2 | exact lo3 | exact lo4 | exact ls1 (by assumption) | exact ls2 (by assumption) | exact ls3 (by assumption) | exact pk0 (by assumption) | exact pk1 (by assumption) | exact pk2 (by assumption) | exact pk3 (by assumption) | exact pk4 (by assumption) | exact pk5 (by assumption) | exact pk6 (by assumption) | exact pk7 (by assumption) | exact pk8 (by assumption) | exact pk9 (by assumption) | exact pk10 (by assumption) | exact pk11 (by assumption) | exact pk12 (by assumption) | exact pk13 (by assumption) | exact pk14 (by assumption) | exact pk15 (by assumption) | exact pk16 (by assumption) | exact pk17 (by assumption) | exact qk1 (by assumption) | exact qk2 (by assumption) | exact qk3 (by assumption) | exact qk4 (by assumption) | exact qk5 (by assumption) | exact qk6 (by assumption) | exact qk7 (by assumption) | exact qk8 (by assumption) | exact qk9 (by assumption) | exact qk10 (by assumption) | exact qk11 (by assumption) | exact qk12 (by assumption) | exact qk13 (by assumption) | exact qk14 (by assumption) | exact qk15 (by assumption) | exact qk16 (by assumption) | exact qk17 (by assumption)))
  (k_with "w my sml" => (with_reducible first | (refine Nat.ne_of_lt ?_; k_extra "w my pick") | (refine Nat.ne_of_gt ?_; k_extra "w my pick") | (refine Ne.symm ?_; k_extra "w my pick") | (refine id ?_; k_extra "w my pick") | (refine Nat.le_of_lt ?_; k_extra "w my pick") | exact lrefl | exact lzero | exact one_le | exact room0 (by assumption) | exact room (by assumption) (by decide) | exact room1 (by assumption) (by decide) | exact room2 (by assumption) (by decide) | exact room3 (by assumption) (by decide) | exact le_le (by assumption) (by decide) | exact le_sc (by assumption) | (refine above1' ?_ (by assumption); k_extra "w my pick") | (refine above2' ?_ (by assumption); k_extra "w my pick")))
  (k_with "w my om" => (first | k_extra "w my sml" | lia | omega))
  rfl
theorem touch_led {S : List Addr} {h g h' : Heap} {L' : Addr} {m : Str → Option Value} {news news' : List (Addr × Obj)} (hg : ∀ b o, h.get? b = some o → b ∉ news.map (·.1) → g.get? b = some o) (hL : h.objs.size ≤ L') (F : Fr g L' h' m)
    (hN : ∀ q ∈ news, h.get? q.1 = some q.2) (N' : News g L' h' news') (hs : ∀ q ∈ news, q.1 ∈ S ∨ q ∈ news') : Touch S h h' := by
  refine ⟨Nat.le_trans hL (Nat.le_of_lt F.ns.lt), fun b o e n => ?_⟩
  by_cases hb : b ∈ news.map (·.1)
  · obtain ⟨q, hq, rfl⟩ := List.mem_map.mp hb
    rw [hN q hq] at e; cases e
    exact (N' q ((hs q hq).resolve_left n)).1
  · exact F.keep b o (hg b o e hb)
theorem one_sign {c d : Nat} {x : String} (h : Str.ofString x = ⟨#[d]⟩) : ((⟨#[c]⟩ : Str) == Str.ofString x) = decide (c = d) := by
  rw [h]
  by_cases e : c = d
  · subst e; simp
  · rw [decide_eq_false e, beq_eq_false_iff_ne]
    intro q; exact e (by simpa using q)
section
variable {prog : Program} {w : World} {A : Around} {E : Value → Shared → Prop} {s : Shared} {h₀ : Heap} {L : Addr} {m : Str → Option Value} {news news' : List (Addr × Obj)}
theorem truthy_led_yes {D : Addr} {its : List Value} {n : Nat} {Q : Bool → Shared → Prop} (N : News h₀ L s.heap news) (hm : (D, listOf its.toArray n) ∈ news) (h0 : 0 < its.length) (hz : its.length ≤ sizeLine)
    (h : Q true { s with toks := s.toks + 1 + 1 }) : wpAny (model prog w) A (truthy (.ref D)) Q E s := by
  refine wpAny_truthy_list (N.isList hm) ?_ ?_
  · rw [List.size_toArray]; rw [sizeLine_eq] at hz; k_extra "w my om"
  · have : (!its.toArray.isEmpty) = true := by cases its with | nil => simp at h0 | cons => rfl
    rw [this]; exact h
theorem truthy_led_no {D : Addr} {n : Nat} {Q : Bool → Shared → Prop} (N : News h₀ L s.heap news) (hm : (D, listOf ([] : List Value).toArray n) ∈ news)
    (h : Q false { s with toks := s.toks + 1 + 1 }) : wpAny (model prog w) A (truthy (.ref D)) Q E s :=
  wpAny_truthy_list (N.isList hm) (by decide) h
theorem pop_led {D : Addr} {p : List Value} {y : Value} {n : Nat} {Q : Value → Shared → Prop} (F : Fr h₀ L s.heap m) (N : News h₀ L s.heap news) (U : Upd D (listOf (p ++ [y]).toArray n) (listOf p.toArray (n + 1)) news news') (hz : p.length + 1 ≤ sizeLine)
    (h : ∀ h', Fr h₀ L h' m → News h₀ L h' news' → Q y { s with heap := h' }) : wpAny (model prog w) A (call (.builtin "list.pop") [.ref D]) Q E s :=
  kl_pop F N (by simpa using kpa_last y p) U (by simpa using hz) h
theorem append_led {D : Addr} {p : List Value} {y : Value} {n : Nat} {Q : Value → Shared → Prop} (F : Fr h₀ L s.heap m) (N : News h₀ L s.heap news) (U : Upd D (listOf p.toArray n) (listOf (p ++ [y]).toArray (n + 1)) news news') (hz : p.length ≤ sizeLine)
    (h : ∀ h', Fr h₀ L h' m → News h₀ L h' news' → Q .none { s with heap := h' }) : wpAny (model prog w) A (call (.builtin "list.append") [.ref D, y]) Q E s :=
  append_K F N (by rw [List.push_toArray]; exact U) h (by rw [List.size_toArray]; exact hz)
theorem pop0_led {D : Addr} {p : List Value} {y : Value} {n : Nat} {u : Tok} {Q : Value → Shared → Prop} (F : Fr h₀ L s.heap m) (N : News h₀ L s.heap news) (U : Upd D (listOf (y :: p).toArray n) (listOf p.toArray (n + 1)) news news') (hz : p.length + 1 ≤ sizeLine)
    (h : ∀ h', Fr h₀ L h' m → News h₀ L h' news' → Q y { s with heap := h' }) : wpAny (model prog w) A (call (.builtin "list.pop") [.ref D, .int 0 u]) Q E s :=
  kl_popAt (p := []) (q := p) (k := 0) F N (by decide) (by simp [seqIndex?]) (by simp [kl_cut]) U (by simpa using hz) h
end
end
section
theorem owner_ci : Manifest.owners.lookup (String.ofList ['r', 'o', 't', 'a', 'r', 'e', 't', 'i', '_', 'e', 'l', 'b', 'a', 'l', 'l', 'a', 'c'].reverse) = some Manifest.sig_callable_iterator := by kernel_rfl
theorem slot_ci_next : Slot "callable_iterator" "__next__" "callable_iterator.__next__" :=
  .of (owner := "callable_iterator") (n := "__next__") (by rw [typeLookup_type, builtinLookup_eq_fast]; kernel_rfl) (by decide +kernel) (by decide +kernel) (by decide +kernel)
    (by first | exact .inl (by decide +kernel) | exact .inr (by decide +kernel)) (by rw [isSubtype_type]; kernel_rfl)
theorem entry_ci_next : entryFor table "callable_iterator.__next__" = some Builtin.«callable_iterator.__next__» := entryFor_of_tree (by kernel_rfl)
theorem args_ci_next (a : Value) : argsOk "callable_iterator.__next__" ⟨[a], []⟩ := by
  unfold argsOk; rw [signature?_of (id := "callable_iterator.__next__") (n := ['_', '_', 't', 'x', 'e', 'n', '_', '_']) (o := ['r', 'o', 't', 'a', 'r', 'e', 't', 'i', '_', 'e', 'l', 'b', 'a', 'l', 'l', 'a', 'c']) (by kernel_rfl) owner_ci]; kernel_rfl
theorem slot_ci_iter : Slot "callable_iterator" "__iter__" "callable_iterator.__iter__" :=
  .of (owner := "callable_iterator") (n := "__iter__") (by rw [typeLookup_type, builtinLookup_eq_fast]; kernel_rfl) (by decide +kernel) (by decide +kernel) (by decide +kernel)
    (by first | exact .inl (by decide +kernel) | exact .inr (by decide +kernel)) (by rw [isSubtype_type]; kernel_rfl)
theorem args_ci_iter (a : Value) : argsOk "callable_iterator.__iter__" ⟨[a], []⟩ := by
  unfold argsOk; rw [signature?_of (id := "callable_iterator.__iter__") (n := ['_', '_', 'r', 'e', 't', 'i', '_', '_']) (o := ['r', 'o', 't', 'a', 'r', 'e', 't', 'i', '_', 'e', 'l', 'b', 'a', 'l', 'l', 'a', 'c']) (by kernel_rfl) owner_ci]; kernel_rfl
theorem entry_ci_iter : entryFor table "callable_iterator.__iter__" = some Builtin.«dict_keyiterator.__iter__» :=
  entryFor_alias (id' := "dict_keyiterator.__iter__") (by kernel_rfl) (by first | rfl | decide +kernel | (unfold String.splitOn; simp +decide [String.splitOnAux])) (by decide +kernel) (by kernel_rfl)
theorem kind_iter : builtinKind "iter" = none := by decide +kernel
theorem plain_iter : plainId "iter" = true := by decide +kernel
theorem entry_iter : entryFor table "iter" = some Builtin.«iter» := entryFor_of_fast (by kernel_rfl)
theorem args_iter (a b : Value) : argsOk "iter" ⟨[a, b], []⟩ := by unfold argsOk; kernel_rfl
theorem look_method_call : typeLookup (.type "method") "__call__" = pure (some (.builtin "method.__call__")) := by rw [typeLookup_type, builtinLookup_eq_fast]; kernel_rfl

noncomputable abbrev callIter (q : Addr) (t : Tok) : Obj := { cls := .type "callable_iterator", data := .fields #[.ref q, .str (Str.ofString "") t, .bool false] }
section
variable {prog : Program} {w : World} {A : Around} {E : Value → Shared → Prop} {s : Shared} {h₀ : Heap} {L : Addr} {m : Str → Option Value} {news : List (Addr × Obj)}
theorem iter_led {q : Addr} {f self : Value} {t : Tok} {Q : Value → Shared → Prop} (F : Fr h₀ L s.heap m) (N : News h₀ L s.heap news) (hm : (q, methodObj f self) ∈ news)
    (k : ∀ I h', Fr h₀ L h' m → News h₀ L h' ((I, callIter q t) :: news) → (∀ r ∈ news, r.1 < I) → Q (.ref I) { s with heap := h' }) :
    wpAny (model prog w) A (call (.builtin "iter") [.ref q, .str (Str.ofString "") t]) Q E s := by
  refine Calls.call_function_entry kind_iter plain_iter entry_iter (args_iter _ _) ?_
  unfold Builtin.«iter»
  refine wpAny_bind (m := someArgs "iter" 1 2 _) (wpAny_pure ?_)
  dsimp only
  have ho := (N _ hm).1
  refine wpAny_bind (wpAny_specialOf (T := "method") ⟨_, ho, rfl⟩ look_method_call ?_)
  simp only [Option.isNone_some, Bool.false_eq_true, if_false]
  refine wpAny_bind (wpAny_rule (wpAny_bind ?_))
  refine wpAny_newObj_type (wpAny_pure ⟨_, rfl, ?_⟩)
  exact k _ _ (F.push _) (N.push F _) fun r hr => Heap.lt_size (N r hr).1
theorem iter_self {I q : Addr} {t : Tok} {Q : Value → Shared → Prop} (ho : s.heap.get? I = some (callIter q t)) (h : Q (.ref I) s) : wpAny (model prog w) A (pyIter (.ref I)) Q E s := by
  have hT : s.TypeIs (.ref I) "callable_iterator" := ⟨_, ho, rfl⟩
  refine wpAny_pyIter_slot hT slot_ci_iter (wpAny_call_entry slot_ci_iter hT entry_ci_iter ?_ (args_ci_iter _))
  show wpAny _ _ (ret (.ref I)) _ _ s
  exact wpAny_pure ⟨_, rfl, "callable_iterator", _, hT, slot_ci_next.lookup, h⟩

theorem borrows_method {q f : Addr} {self : Value} {fo : Obj} {fd : FuncData} {Q : Bool → Shared → Prop} (hq : s.heap.get? q = some (methodObj (.ref f) self)) (hf : s.heap.get? f = some fo) (hd : fo.data = .func fd) (h : Q true s) :
    wpAny (model prog w) A (borrowsExactly (.ref q)) Q E s := by
  unfold borrowsExactly
  refine wpAny_bind (wpAny_load hq ?_)
  dsimp only
  rw [if_pos (by decide)]
  show wpAny _ _ (load f >>= _) _ _ s
  refine wpAny_bind (wpAny_load hf ?_)
  rw [hd]
  exact wpAny_pure h
theorem mark_none (A : Around) : A.mark none = A := rfl
theorem call_borrowed {f : Value} {pos : List Value} {Q : Value → Shared → Prop}
    (hc : codeAny (model prog w) A (.call f ⟨pos, []⟩) (fun r s' => match r with | .ok (.ret v) => Q v s' | .ok _ => False | .error e => E e s') s) : wpAny (model prog w) A (callBorrowed f pos) Q E s := by
  unfold callBorrowed
  refine X.x_call ?_ (by intro x; cases x)
  rw [mark_none]
  refine codeAny_mono hc fun r s' h => ?_
  cases r with
  | error e => exact X.x_raise h
  | ok fl => cases fl with
    | ret v => exact X.x_pure h
    | _ => exact h.elim

noncomputable def NextIs (I q : Addr) (t : Tok) (f : Addr) (fo : Obj) (self : Value) (Q : Option Value → Shared → Prop) (r : Result) (s' : Shared) : Prop :=
  ∃ y u, r = .ok (.ret (.str y u)) ∧ s'.heap.get? I = some (callIter q t) ∧ s'.heap.get? q = some (methodObj (.ref f) self) ∧ s'.heap.get? f = some fo ∧
    ((y ≠ Str.ofString "" ∧ Q (some (.str y u)) s') ∨ (y = Str.ofString "" ∧ ∀ h', Heap.ExtBut I s'.heap h' → Q none { s' with heap := h' }))
theorem next_led {I q f : Addr} {t : Tok} {self : Value} {fo : Obj} {fd : FuncData} {Q : Option Value → Shared → Prop} (hh : A.handled = none) (ho : s.heap.get? I = some (callIter q t)) (hq : s.heap.get? q = some (methodObj (.ref f) self)) (hf : s.heap.get? f = some fo) (hd : fo.data = .func fd)
    (hc : codeAny (model prog w) A.in1 (.call (.ref f) ⟨[self], []⟩) (NextIs I q t f fo self Q) s) : wpAny (model prog w) A (pyNext (.ref I)) Q E s := by
  have hT : s.TypeIs (.ref I) "callable_iterator" := ⟨_, ho, rfl⟩
  unfold pyNext
  refine wpAny_bind (wpAny_attempt (wpAny_callSpecial?_slot (name := Str.ofString "__next__") hT slot_ci_next (wpAny_call_entry slot_ci_next hT entry_ci_next ?_ (args_ci_next _))))
  show wpAny _ _ (field (.ref I) 2 >>= _) _ _ s
  refine wpAny_bind (wpAny_field ho rfl (x := .bool false) rfl ?_)
  show wpAny _ _ (if (Value.bool false == Value.bool true) = true then _ else _) _ _ s
  rw [if_neg (by decide)]
  show wpAny _ _ (field (.ref I) 0 >>= _) _ _ s
  refine wpAny_bind (wpAny_field ho rfl (x := .ref q) rfl ?_)
  refine wpAny_bind (wpAny_attempt ?_)
  unfold callOutOfASlot
  refine wpAny_bind (borrows_method hq hf hd ?_)
  rw [if_pos rfl]
  refine call_borrowed (method_call hq (codeAny_mono hc fun r s' hr => ?_))
  obtain ⟨y, u, rfl, ho', hq', hf', hy⟩ := hr
  show wpAny _ _ (field (.ref I) 2 >>= _) _ _ s'
  refine wpAny_bind (wpAny_field ho' rfl (x := .bool false) rfl ?_)
  show wpAny _ _ (if (Value.bool false == Value.bool true) = true then _ else _) _ _ s'
  rw [if_neg (by decide)]
  show wpAny _ _ (field (.ref I) 1 >>= _) _ _ s'
  refine wpAny_bind (wpAny_field ho' rfl (x := .str (Str.ofString "") t) rfl ?_)
  refine wpAny_bind (wpAny_holding (eqBool_str ?_))
  rcases hy with ⟨hy, hQ⟩ | ⟨rfl, hQ⟩
  · have : (Str.ofString "" == y) = false := by rw [beq_eq_false_iff_ne]; exact fun e => hy e.symm
    rw [this]
    exact wpAny_bind (wpAny_pure (wpAny_pure ⟨_, rfl, wpAny_pure hQ⟩))
  · rw [beq_self_eq_true]
    show wpAny _ _ (rule "callable_iterator.__next__.sentinel" >>= _) _ _ s'
    refine wpAny_bind (wpAny_rule ?_)
    refine wpAny_bind ?_
    show wpAny _ _ (field (.ref I) 0 >>= fun x => slotLetsGo "callable_iterator.__next__" x _ >>= fun _ => setField (.ref I) 0 .none >>= fun _ => setField (.ref I) 1 .none >>= fun _ => setField (.ref I) 2 (.bool true)) _ _ s'
    refine wpAny_bind (wpAny_field ho' rfl (x := .ref q) rfl ?_)
    unfold slotLetsGo
    refine wpAny_bind (wpAny_bind (borrows_method hq' hf' hd ?_))
    rw [if_pos rfl]
    refine wpAny_pure ?_
    refine wpAny_bind (wpAny_setField_rec ho' (by simp) fun h₁ ho₁ hs₁ => ?_)
    refine wpAny_bind (wpAny_setField_rec ho₁ (by simp) fun h₂ ho₂ hs₂ => ?_)
    refine wpAny_setField_rec ho₂ (by simp) fun h₃ ho₃ hs₃ => ?_
    show wpAny _ _ (newExc (.type "StopIteration") [] >>= _) _ _ _
    refine wpAny_bind ?_
    simp only [newExc, newTuple]
    refine wpAny_bind (wpAny_newObj_type ?_ (by size_fits))
    refine wpAny_bind (m := firstArgMember _ _) (wpAny_of_eq (a := Value.none) (by first | rfl | (simp only [firstArgMember]; rfl)) ?_)
    refine wpAny_newObj_type ?_ (by size_fits)
    simp only [raiseNew]
    refine wpAny_bind (wpAny_handled ?_)
    rw [show A.in1.handled = none from hh]
    refine wpAny_bind (wpAny_pure (wpAny_throw ?_))
    refine wpAny_bind (wpAny_isInstance (T := "StopIteration") (b := true) ⟨_, Heap.get?_push_size _ rfl, rfl⟩ isSubtype_stop ?_)
    exact wpAny_pure (hQ _ ((((hs₁.trans hs₂).trans hs₃).extBut.push _).push _))
end
end
section
theorem resetGen : (0 : Nat) = 0 := by
  w_top off
  k_with_none
  (k_with "w my pick" => (with_reducible first | assumption | exact lo1 | exact lo2 | exact lo3 | exact lo4 | exact ls1 (by assumption) | exact ls2 (by assumption) | exact ls3 (by assumption) | exact pk0 (by assumption) | exact pk1 (by assumption) | exact pk2 (by assumption) | exact pk3 (by assumption) | exact pk4 (by assumption) | exact pk5 (by assumption) | exact pk6 (by assumption) | exact pk7 (by assumption) | exact pk8 (by assumption) | exact pk9 (by assumption) | exact pk10 (by assumption) | exact pk11 (by assumption) | exact pk12 (by assumption) | exact pk13 (by assumption) | exact pk14 (by assumption) | exact pk15 (by assumption) | exact pk16 (by assumption) | exact pk17 (by assumption) | exact qk1 (by assumption) | exact qk2 (by assumption) | exact qk3 (by assumption) | exact qk4 (by assumption) | exact qk5 (by assumption) | exact qk6 (by assumption) | exact qk7 (by assumption) | exact qk8 (by assumption) | exact qk9 (by assumption) | exact qk10 (by assumption) | exact qk11 (by assumption) | exact qk12 (by assumption) | exact qk13 (by assumption) | exact qk14 (by assumption) | exact qk15 (by assumption) | exact qk16 (by assumption) | exact qk17 (by assumption)))
  (k_with "w my sml" => (with_reducible first | (refine Nat.ne_of_lt ?_; k_extra "w my pick") | (refine Nat.ne_of_gt ?_; k_extra "w my pick") | (refine Ne.symm ?_; k_extra "w my pick") | (refine id ?_; k_extra "w my pick") | (refine Nat.le_of_lt ?_; k_extra "w my pick") | exact lrefl | exact lzero | exact one_le | exact room0 (by assumption) | exact room (by assumption) (by decide) | exact room1 (by assumption) (by decide) | exact room2 (by assumption) (by decide) | exact room3 (by assumption) (by decide) | exact le_le (by assumption) (by decide) | exact le_sc (by assumption) | (refine above1' ?_ (by assumption); k_extra "w my pick") | (refine above2' ?_ (by assumption); k_extra "w my pick")))
  (k_with "w my om" => (first | k_extra "w my sml" | lia | omega))
  rfl
theorem ns_one {K : Frag} {h : Heap} {D : Addr} {c : Value} {od : Option Addr} {e : DictEntry} {ep : Nat} {sl : Array (Option Value)} {x : Str} {t : Tok} (X : K.In h) (hD : K.lookup D = some ⟨c, od, .dict #[e] ep, sl⟩) (hk : e.key = .str x t) :
    h.Ns D (fun y => nsFind #[e] y) := by
  refine ⟨_, _, _, X _ _ hD, rfl, ?_, fun _ => rfl⟩
  intro e' he
  have : e' = e := by simpa using he
  subst this
  exact ⟨_, _, hk⟩
theorem ns_one_find {e : DictEntry} {x : Str} {t : Tok} (hk : e.key = .str x t) : nsFind #[e] x = some e.val := by
  unfold nsFind findBy
  rw [← Array.find?_toList]
  simp [hk, Value.isStr]
noncomputable abbrev bisParams (p1 p2 p3 p4 p5 q5 q1 q2 : Pos) : Arguments := { posonlyargs := [], args := [{ arg := Str.ofString "a", annotation := none, pos := p1 }, { arg := Str.ofString "x", annotation := none, pos := p2 }, { arg := Str.ofString "lo", annotation := none, pos := p3 }, { arg := Str.ofString "hi", annotation := none, pos := p4 }], vararg := none, kwonlyargs := [{ arg := Str.ofString "key", annotation := none, pos := p5 }], kw_defaults := [some (Expr.Constant Const.none 0 q5)], kwarg := none, defaults := [Expr.Constant (Const.int 0) 0 q1, Expr.Constant Const.none 0 q2] }
theorem binds_two {s : Shared} {nm ql : Str} {p1 p2 p3 p4 p5 q5 q1 q2 : Pos} {body : List Stmt} {scope : Scope} {T D : Addr} {doc pm cdv ct : Value} {an : Option Addr} {o : Obj} {t0 : Tok} {n : Nat} {v1 v2 : Value} {m : Str → Option Value}
    (hT : s.heap.get? T = some o) (hs : o.data = .seq #[.int 0 t0, .none] n) (hD : s.heap.Ns D m) (hm : m (Str.ofString "key") = some .none) :
    BindsTo s (fnOf nm ql (bisParams p1 p2 p3 p4 p5 q5 q1 q2) body scope (.ref T) (.ref D) doc pm an cdv ct) ⟨[v1, v2], []⟩ [(Str.ofString "a", v1), (Str.ofString "x", v2), (Str.ofString "lo", .int 0 t0), (Str.ofString "hi", .none), (Str.ofString "key", .none)] := by
  intro M A E Q hq
  unfold bindArgs
  dsimp only [List.forIn_nil, pure_bind]
  refine wpAny_bind (wpAny_pure ?_)
  refine wpAny_bind (wpAny_seqItems hT hs ?_)
  rw [if_neg (by exact Bool.false_ne_true)]
  rw [if_neg (by exact Bool.false_ne_true)]
  refine wpAny_bind (wpAny_of_eq (a := [(Str.ofString "a", v1), (Str.ofString "x", v2), (Str.ofString "lo", Value.int 0 t0), (Str.ofString "hi", Value.none)]) (by rfl) ?_)
  rw [show List.map (fun x : Arg => x.arg) [{ arg := Str.ofString "key", annotation := none, pos := p5 }] = [Str.ofString "key"] from rfl]
  rw [List.forIn_cons]
  refine wpAny_bind (wpAny_bind ?_)
  rw [if_pos (by rfl)]
  refine wpAny_bind (wpAny_nsGet hD ?_)
  rw [hm]
  refine wpAny_pure ?_
  dsimp only
  rw [List.forIn_nil]
  refine wpAny_pure ?_
  rw [if_neg (by exact Bool.false_ne_true)]
  refine wpAny_pure ?_
  exact hq
/-- k of the n items hold p, and they stand first -/
noncomputable def Cut (p : Nat → Prop) (n k : Nat) : Prop := k ≤ n ∧ (∀ i, i < k → p i) ∧ ∀ i, k ≤ i → i < n → ¬ p i
noncomputable def BisInv (p : Nat → Prop) (n : Nat) (c : Nat × Nat × Tok × Tok) : Prop := c.1 ≤ c.2.1 ∧ c.2.1 ≤ n ∧ (∀ i, i < c.1 → p i) ∧ ∀ i, c.2.1 ≤ i → i < n → ¬ p i
noncomputable def Mono (p : Nat → Prop) (n : Nat) : Prop := ∀ i j, i ≤ j → j < n → p j → p i
theorem BisInv.start (p : Nat → Prop) (n : Nat) (t u : Tok) : BisInv p n (0, n, t, u) := ⟨Nat.zero_le _, Nat.le_refl _, fun _ h => absurd h (Nat.not_lt_zero _), fun _ h1 h2 => absurd h2 (Nat.not_lt.mpr h1)⟩
theorem BisInv.yes {p : Nat → Prop} {n mid : Nat} {c : Nat × Nat × Tok × Tok} (I : BisInv p n c) (M : Mono p n) (h1 : c.1 ≤ mid) (h2 : mid < c.2.1) (hp : p mid) (t : Tok) : BisInv p n (mid + 1, c.2.1, t, c.2.2.2) :=
  ⟨h2, I.2.1, fun i hi => M i mid (Nat.lt_succ_iff.mp hi) (Nat.lt_of_lt_of_le h2 I.2.1) hp, I.2.2.2⟩
theorem BisInv.no {p : Nat → Prop} {n mid : Nat} {c : Nat × Nat × Tok × Tok} (I : BisInv p n c) (M : Mono p n) (h1 : c.1 ≤ mid) (h2 : mid < c.2.1) (hp : ¬ p mid) (t : Tok) : BisInv p n (c.1, mid, c.2.2.1, t) :=
  ⟨h1, Nat.le_of_lt (Nat.lt_of_lt_of_le h2 I.2.1), I.2.2.1, fun i hi hn q => hp (M mid i hi hn q)⟩
theorem BisInv.cut {p : Nat → Prop} {n : Nat} {c : Nat × Nat × Tok × Tok} (I : BisInv p n c) (h : ¬ c.1 < c.2.1) : Cut p n c.1 :=
  ⟨Nat.le_trans I.1 I.2.1, I.2.2.1, fun i hi => I.2.2.2 i (Nat.le_trans (Nat.not_lt.mp h) hi)⟩
theorem are_get {vs : List Value} {ns : List Int} (h : IntsAre vs ns) : ∀ {i : Nat}, i < ns.length → ∃ t, vs[i]? = some (.int (ns.getD i 0) t) := by
  induction h with
  | nil => intro i hi; exact absurd hi (Nat.not_lt_zero _)
  | cons n t _ ih =>
    intro i hi
    cases i with
    | zero => exact ⟨t, rfl⟩
    | succ i => obtain ⟨t', e⟩ := ih (Nat.lt_of_succ_lt_succ hi); exact ⟨t', by simpa using e⟩
theorem sorted_get {ns : List Int} (h : ns.Pairwise (· ≤ ·)) {i j : Nat} (hij : i ≤ j) (hj : j < ns.length) : ns.getD i 0 ≤ ns.getD j 0 := by
  rcases Nat.lt_or_eq_of_le hij with hlt | rfl
  · have hi : i < ns.length := Nat.lt_trans hlt hj
    have := List.pairwise_iff_getElem.mp h i j hi hj hlt
    simpa [List.getD, hi, hj] using this
  · exact Int.le_refl _
theorem item_at {prog : Program} {w : World} {A : Around} {E : Value → Shared → Prop} {s : Shared} {value slice : PySem.Expr} {l : Addr} {vs : List Value} {k : Int} {u : Tok} {v : Value} {Q : Value → Shared → Prop}
    (hl : s.heap.IsList l vs.toArray) (h0 : 0 ≤ k) (hhi : k < 2 ^ 63) (hx : vs[k.toNat]? = some v) (h : Q v s)
    (hs : subscripted slice false (.ref l) (.int k u) = operate [.ref l, .int k u] (getItem (.ref l) (.int k u)) := by with_unfolding_all rfl) :
    wpAny (model prog w) A (subscriptTail value slice (.ref l) (.int k u)) Q E s :=
  tail_any hl.typeIs slot_list_getitem.lookup (wpAny_getItem_list hl h0 hhi (by simpa using hx) h) hs
/-- the key function kf tells k of v, wherever h's objects stand -/
noncomputable def KeyOk (w : World) (h : Heap) (kf : Addr) (v : Value) (k : Int) : Prop :=
  ∀ (A : Around) (s : Shared), A.handled = none → A.depth < 1000 → A.units < 9900 → s.heap.NoLimit → (∀ b o, h.get? b = some o → s.heap.get? b = some o) → CallsTo w A (.ref kf) [v] [] s [] (fun r _ => ∃ u, r = .int k u)
theorem KeyOk.keeps {w : World} {h h' : Heap} {kf : Addr} {v : Value} {k : Int} (K : KeyOk w h kf v k) (hk : ∀ b o, h.get? b = some o → h'.get? b = some o) : KeyOk w h' kf v k :=
  fun A s a b c d e => K A s a b c d fun x o q => e x o (hk x o q)
theorem keeps_led {s : Shared} {g h : Heap} {L : Addr} {m : Str → Option Value} {news : List (Addr × Obj)} (F : Fr g L h m) (N : News g L h news) (hg : ∀ b o, s.heap.get? b = some o → b ∉ news.map (·.1) → g.get? b = some o) (hN : ∀ q ∈ news, s.heap.get? q.1 = some q.2) :
    ∀ b o, s.heap.get? b = some o → h.get? b = some o := fun b o e => by
  by_cases hb : b ∈ news.map (·.1)
  · obtain ⟨q, hq, rfl⟩ := List.mem_map.mp hb
    rw [hN q hq] at e; cases e
    exact (N q hq).1
  · exact F.keep b o (hg b o e hb)
theorem fits_small {k : Nat} (h : k ≤ 100) : Builtin.List.listFitsIndex (k : Int) = true := by
  unfold Builtin.List.listFitsIndex
  simp; k_extra "w my om"
theorem ins_at {vs : List Value} {k : Nat} {v : Value} (h : k ≤ vs.length) : kl_ins vs.toArray.toList (k : Int) v = vs.take k ++ v :: vs.drop k := by
  unfold kl_ins
  rw [if_neg (by k_extra "w my om"), Int.toNat_natCast, List.toList_toArray, Nat.min_eq_left h]
theorem Setup.down0 {n : Nat} {w : World} {A : Around} {s : Shared} {base g : Heap} {outer : List Env} {env : Env} {L : Addr} {m mg mb : Str → Option Value} {p : Program} {loose : List Str} {mean : ExcName → Option Value} {news : List (Addr × Obj)}
    (S : Setup (n + 1) w A base outer p loose mean mg mb g) (F : Fr g L s.heap m) (N : News g L s.heap news) (hf : env.frame = some L) (hke : env.scope.kind = .function) :
    Setup n w (A.deeper env) base (env :: outer) p loose mean mg mb (hideAll s.heap (news.map (·.1))) := by
  have hA : A.frames = some outer := S.B.stack
  have h1 := S.dp
  have h2 := S.un
  refine setup_at (A := A.deeper env) F N S.X S.T S.B ?_ hf hke S.hh ?_ ?_
  · show A.frames.map (env :: ·) = _
    rw [hA]; rfl
  · show A.depth + 1 + n < 1000
    k_extra "w my om"
  · show A.units + 3 + 20 * n < 9900
    k_extra "w my om"
end
section
theorem resetBisK : (0 : Nat) = 0 := by
  w_top off
  k_with_none
  (k_with "w my pick" => (with_reducible first | assumption | exact lo1 | exact lo2 | exact lo3 | exact lo4 | exact ls1 (by assumption) | exact ls2 (by assumption) | exact ls3 (by assumption) | exact pk0 (by assumption) | exact pk1 (by assumption) | exact pk2 (by assumption) | exact pk3 (by assumption) | exact pk4 (by assumption) | exact pk5 (by assumption) | exact pk6 (by assumption) | exact pk7 (by assumption) | exact pk8 (by assumption) | exact pk9 (by assumption) | exact pk10 (by assumption) | exact pk11 (by assumption) | exact pk12 (by assumption) | exact pk13 (by assumption) | exact pk14 (by assumption) | exact pk15 (by assumption) | exact pk16 (by assumption) | exact pk17 (by assumption) | exact qk1 (by assumption) | exact qk2 (by assumption) | exact qk3 (by assumption) | exact qk4 (by assumption) | exact qk5 (by assumption) | exact qk6 (by assumption) | exact qk7 (by assumption) | exact qk8 (by assumption) | exact qk9 (by assumption) | exact qk10 (by assumption) | exact qk11 (by assumption) | exact qk12 (by assumption) | exact qk13 (by assumption) | exact qk14 (by assumption) | exact qk15 (by assumption) | exact qk16 (by assumption) | exact qk17 (by assumption)))
  (k_with "w my sml" => (with_reducible first | (refine Nat.ne_of_lt ?_; k_extra "w my pick") | (refine Nat.ne_of_gt ?_; k_extra "w my pick") | (refine Ne.symm ?_; k_extra "w my pick") | (refine id ?_; k_extra "w my pick") | (refine Nat.le_of_lt ?_; k_extra "w my pick") | exact lrefl | exact lzero | exact one_le | exact room0 (by assumption) | exact room (by assumption) (by decide) | exact room1 (by assumption) (by decide) | exact room2 (by assumption) (by decide) | exact room3 (by assumption) (by decide) | exact le_le (by assumption) (by decide) | exact le_sc (by assumption) | (refine above1' ?_ (by assumption); k_extra "w my pick") | (refine above2' ?_ (by assumption); k_extra "w my pick")))
  (k_with "w my om" => (first | k_extra "w my sml" | lia | omega))
  rfl
theorem rgBisKx1 : (0 : Nat) = 0 := by
  (k_with "w my k_room" => ((try simp only [depth_under_make, depth_under_kw, depth_in1, depth_deeper]); (show _ < 1000); (try dsimp only); omega))
  (k_with "w my units_room" => ((try simp only [units_in1, units_deeper, Around.mark_units]); (show _ < 9900); (try dsimp only); omega))
  (k_with "w my small" => (first
  | (refine Sm.int ?_; (try simp only [Int.fmod_eq_emod_of_nonneg, Int.fdiv_eq_ediv_of_nonneg, Int.reduceLE]); omega)
  | (apply Sm.slice; k_extra "w my small")
  | (apply Sm.add <;> k_extra "w my small")
  | (apply Sm.ite <;> k_extra "w my small")
  | assumption
  | exact Sm.refl _))
  (k_with "w subscriptTail Name Slice str ref" => ((with_reducible show wpAny _ _ (subscriptTail _ (Expr.Slice (some _) none none _) (Value.str _ _) (Value.ref _)) _ _ _); dsimp only; (with_reducible rename Fr _ _ _ _ => F'); (with_reducible rename News _ _ _ _ => N'); (refine' slice_strN_sn (hsz := by (apply Sm.size <;> first | k_extra "w my small" | decide)) (s := ⟨_, _, _, _, _⟩) F' N' ?_); intro _ _ _ _ _))
  (k_with "w binaryOp Add str str" => ((with_reducible show wpAny _ _ (binaryOp Operator.Add (Value.str _ _) (Value.str _ _)) _ _ _); (refine' PyProof.Rows.add_str ?_ (by (apply Sm.size2 <;> first | k_extra "w my small" | decide))); intro _ _))
  (k_with "w ite" => ((with_reducible refine ite_strs ?_); intro _))
  (k_with "w exec While Compare cons nil" => refine stop_here ?_)
  (k_with "w subscriptTail Name Name ref int" => refine stop_here ?_)
  (k_with "w KswPost" => refine stop_here ?_)
  (k_with "w call builtin:len" => refine stop_here ?_)
  (k_with "w callWith ref" => refine stop_here ?_)
  (k_with "w call ref" => refine stop_here ?_)
  rfl
set_option maxHeartbeats 8000000 in
theorem bisr_key {w : World} {A : Around} {s : Shared} {G base : Heap} {outer : List Env} {p : Program} {loose : List Str} {mean : ExcName → Option Value} {mg mb : Str → Option Value}
    (hS : Setup 5 w A base outer p loose mean mg mb G) (hG : ∀ b o, G.get? b = some o → s.heap.get? b = some o)
    {l kf : Addr} {vs : List Value} {ns : List Int} (x : Int) (t t0 : Tok) (hl : s.heap.IsList l vs.toArray) (hlen : vs.length = ns.length) (hz : ns.length ≤ 100) (hs : ns.Pairwise (· ≤ ·))
    (hkf : ∃ o fd, s.heap.get? kf = some o ∧ o.data = .func fd) (hk : ∀ i v, vs[i]? = some v → KeyOk w s.heap kf v (ns.getD i 0)) :
    CallsTo w A (.ref 62) [.ref l, .int x t, .int 0 t0, .none] [(Str.ofString "key", .ref kf)] s [] (fun v _ => ∃ k t, v = .int (k : Nat) t ∧ Cut (fun i => ns.getD i 0 ≤ x) ns.length k) := by
  intro R hret
  (rename Setup _ _ _ _ _ _ _ _ _ _ _ => hSu)
  apply Setup.open hSu
  clear hSu
  intro dpt grs uni X T B hdp hun
  refine' enterH (news := []) ?k1 ?k2 ?kb ?k3 ?kN ?k6 ?k7 ?k8 ?k9 ?kB ?_ ?c2 ?c3 ?c4 ?c5
  case kN => exact fun _ h => nomatch h
  (case k1 => assumption)
  (case k2 => assumption)
  (case kb => assumption)
  (case k3 => assumption)
  (case k6 => k_dflt k_is)
  (case k7 => k_dflt k_is)
  (case k8 => (show _ < 1000; dsimp only; omega))
  (case c5 => decide)
  (case c2 => exact rfl)
  (case c3 => exact rfl)
  (case c4 => exact rfl)
  case k9 =>
    have X9 : Frag.In (hdT.heap_39 w.params) s.heap := (by assumption : Frag.In _ _).keeps (by assumption)
    exact binds_K X9 rfl (by k_is) rfl rfl rfl
  case kB => exact locs rfl
  intro g L' h₁ hg hg' hL' X' T' B' F' N' hl'
  have hl1 : g.IsList l vs.toArray := keeps_list hl fun b o e => hg b o e (by simp)
  have hM : Mono (fun i => ns.getD i 0 ≤ x) ns.length := fun i j h1 h2 h3 => by have := sorted_get hs h1 h2; dsimp only at h3 ⊢; k_extra "w my om"
  (try dsimp only)
  (try k_fold)
  k_steps
  unfold Stop
  (rename Fr _ _ _ _ => F)
  refine PyProof.Rows.len_list (keeps_list hl1 F.keep) (by rw [List.size_toArray]; k_extra "w my om") ?_
  rw [List.size_toArray]
  k_steps
  unfold Stop
  (rename Fr _ _ _ _ => F); (rename News _ _ _ _ => N)
  refine ksw_while (σ := Nat × Nat × Tok × Tok) (fun _ => []) (fun c => [(Str.ofString "lo", .int (c.1 : Nat) c.2.2.1), (Str.ofString "hi", .int (c.2.1 : Nat) c.2.2.2)]) (fun _ => True) [Str.ofString "mid"] (BisInv (fun i => ns.getD i 0 ≤ x) ns.length) (fun c => c.2.1 - c.1) (0, ns.length, _, _) F N trivial (by rw [← hlen]; kst_all) (BisInv.start _ _ _ _) ?_
  clear F N
  rintro ⟨lo, hi2, tl, th⟩ u h tk2 _ inv F N
  dsimp only [kstB] at F N ⊢
  k_steps
  · unfold Stop
    (rename Fr _ _ _ _ => F); (rename News _ _ _ _ => N)
    obtain ⟨i1, i2, i3, i4⟩ := inv
    dsimp only at i1 i2 i3 i4
    have hlt : (lo : Int) < hi2 := by assumption
    have hm := mid_cast lo hi2
    obtain ⟨m1, m2, m3, m4⟩ := mid_of (Int.ofNat_lt.mp (by assumption : ((lo : Nat) : Int) < ((hi2 : Nat) : Int)))
    obtain ⟨vm, hti⟩ : ∃ vm, vs[(lo + hi2) / 2]? = some vm := ⟨_, List.getElem?_eq_getElem (by k_extra "w my om")⟩
    have hI : BisInv (fun i => ns.getD i 0 ≤ x) ns.length (lo, hi2, tl, th) := ⟨i1, i2, i3, i4⟩
    rw [hm] at F
    k_steps
    unfold Stop
    obtain ⟨ko, kfd, hko, hkd⟩ := hkf
    refine callWith_def_at (hg _ _ hko (by simp)) hkd ?_
    k_steps
    unfold Stop
    refine item_at (keeps_list hl1 F.keep) (by k_extra "w my om") (by k_extra "w my om") (by rw [Int.toNat_natCast]; exact hti) ?_
    k_steps
    · exact F.keep _ _ (hg _ _ hko (by simp))
    unfold Stop
    refine use (hk _ _ hti _ _ rfl (by k_room) (by units_room) (T'.nolimit.keeps F.keep) (fun b o e => F.keep b o (hg b o e (by simp)))) F N (fun _ h => nomatch h) ?_
    clear F N
    rintro _ h2 tk3 F N _ ⟨u2, rfl⟩
    dsimp only at F N ⊢
    k_steps
    · unfold Stop
      dsimp only [KswPost]
      refine ksw_end (lo, (lo + hi2) / 2, _, _) (by assumption) (by assumption) (fun _ h => nomatch h) trivial (by kst_all) (by ksw_same) (hI.no hM m1 m2 (by first | k_extra "w my om" | (dsimp only; k_extra "w my om")) _) (by dsimp only; k_extra "w my om")
    · unfold Stop
      dsimp only [KswPost]
      refine ksw_end ((lo + hi2) / 2 + 1, hi2, _, _) (by assumption) (by assumption) (fun _ h => nomatch h) trivial (by kst_all) (by ksw_same) (hI.yes hM m1 m2 (by first | k_extra "w my om" | (dsimp only; k_extra "w my om")) _) (by dsimp only; k_extra "w my om")
  · dsimp only
    refine hret _ _ _ (touch_of (by simpa using hg) hL' (by assumption)) ⟨_, _, rfl, inv.cut fun q => ?_⟩
    have : ¬ (lo : Int) < hi2 := by assumption
    dsimp only at q; k_extra "w my om"
theorem rgBisKx2 : (0 : Nat) = 0 := by
  (k_with "w call ref" => refine stop_here ?_)
  rfl
set_option maxHeartbeats 8000000 in
theorem bisl_key {w : World} {A : Around} {s : Shared} {G base : Heap} {outer : List Env} {p : Program} {loose : List Str} {mean : ExcName → Option Value} {mg mb : Str → Option Value}
    (hS : Setup 5 w A base outer p loose mean mg mb G) (hG : ∀ b o, G.get? b = some o → s.heap.get? b = some o)
    {l kf : Addr} {vs : List Value} {ns : List Int} (x : Int) (t t0 : Tok) (hl : s.heap.IsList l vs.toArray) (hlen : vs.length = ns.length) (hz : ns.length ≤ 100) (hs : ns.Pairwise (· ≤ ·))
    (hkf : ∃ o fd, s.heap.get? kf = some o ∧ o.data = .func fd) (hk : ∀ i v, vs[i]? = some v → KeyOk w s.heap kf v (ns.getD i 0)) :
    CallsTo w A (.ref 80) [.ref l, .int x t, .int 0 t0, .none] [(Str.ofString "key", .ref kf)] s [] (fun v _ => ∃ k t, v = .int (k : Nat) t ∧ Cut (fun i => ns.getD i 0 < x) ns.length k) := by
  intro R hret
  (rename Setup _ _ _ _ _ _ _ _ _ _ _ => hSu)
  apply Setup.open hSu
  clear hSu
  intro dpt grs uni X T B hdp hun
  refine' enterH (news := []) ?k1 ?k2 ?kb ?k3 ?kN ?k6 ?k7 ?k8 ?k9 ?kB ?_ ?c2 ?c3 ?c4 ?c5
  case kN => exact fun _ h => nomatch h
  (case k1 => assumption)
  (case k2 => assumption)
  (case kb => assumption)
  (case k3 => assumption)
  (case k6 => k_dflt k_is)
  (case k7 => k_dflt k_is)
  (case k8 => (show _ < 1000; dsimp only; omega))
  (case c5 => decide)
  (case c2 => exact rfl)
  (case c3 => exact rfl)
  (case c4 => exact rfl)
  case k9 =>
    have X9 : Frag.In (hdT.heap_39 w.params) s.heap := (by assumption : Frag.In _ _).keeps (by assumption)
    exact binds_K X9 rfl (by k_is) rfl rfl rfl
  case kB => exact locs rfl
  intro g L' h₁ hg hg' hL' X' T' B' F' N' hl'
  have hl1 : g.IsList l vs.toArray := keeps_list hl fun b o e => hg b o e (by simp)
  have hM : Mono (fun i => ns.getD i 0 < x) ns.length := fun i j h1 h2 h3 => by have := sorted_get hs h1 h2; dsimp only at h3 ⊢; k_extra "w my om"
  (try dsimp only)
  (try k_fold)
  k_steps
  unfold Stop
  (rename Fr _ _ _ _ => F)
  refine PyProof.Rows.len_list (keeps_list hl1 F.keep) (by rw [List.size_toArray]; k_extra "w my om") ?_
  rw [List.size_toArray]
  k_steps
  unfold Stop
  (rename Fr _ _ _ _ => F); (rename News _ _ _ _ => N)
  refine ksw_while (σ := Nat × Nat × Tok × Tok) (fun _ => []) (fun c => [(Str.ofString "lo", .int (c.1 : Nat) c.2.2.1), (Str.ofString "hi", .int (c.2.1 : Nat) c.2.2.2)]) (fun _ => True) [Str.ofString "mid"] (BisInv (fun i => ns.getD i 0 < x) ns.length) (fun c => c.2.1 - c.1) (0, ns.length, _, _) F N trivial (by rw [← hlen]; kst_all) (BisInv.start _ _ _ _) ?_
  clear F N
  rintro ⟨lo, hi2, tl, th⟩ u h tk2 _ inv F N
  dsimp only [kstB] at F N ⊢
  k_steps
  · unfold Stop
    (rename Fr _ _ _ _ => F); (rename News _ _ _ _ => N)
    obtain ⟨i1, i2, i3, i4⟩ := inv
    dsimp only at i1 i2 i3 i4
    have hlt : (lo : Int) < hi2 := by assumption
    have hm := mid_cast lo hi2
    obtain ⟨m1, m2, m3, m4⟩ := mid_of (Int.ofNat_lt.mp (by assumption : ((lo : Nat) : Int) < ((hi2 : Nat) : Int)))
    obtain ⟨vm, hti⟩ : ∃ vm, vs[(lo + hi2) / 2]? = some vm := ⟨_, List.getElem?_eq_getElem (by k_extra "w my om")⟩
    have hI : BisInv (fun i => ns.getD i 0 < x) ns.length (lo, hi2, tl, th) := ⟨i1, i2, i3, i4⟩
    rw [hm] at F
    k_steps
    unfold Stop
    obtain ⟨ko, kfd, hko, hkd⟩ := hkf
    refine callWith_def_at (hg _ _ hko (by simp)) hkd ?_
    k_steps
    unfold Stop
    refine item_at (keeps_list hl1 F.keep) (by k_extra "w my om") (by k_extra "w my om") (by rw [Int.toNat_natCast]; exact hti) ?_
    k_steps
    · exact F.keep _ _ (hg _ _ hko (by simp))
    unfold Stop
    refine use (hk _ _ hti _ _ rfl (by k_room) (by units_room) (T'.nolimit.keeps F.keep) (fun b o e => F.keep b o (hg b o e (by simp)))) F N (fun _ h => nomatch h) ?_
    clear F N
    rintro _ h2 tk3 F N _ ⟨u2, rfl⟩
    dsimp only at F N ⊢
    k_steps
    · unfold Stop
      dsimp only [KswPost]
      refine ksw_end ((lo + hi2) / 2 + 1, hi2, _, _) (by assumption) (by assumption) (fun _ h => nomatch h) trivial (by kst_all) (by ksw_same) (hI.yes hM m1 m2 (by first | k_extra "w my om" | (dsimp only; k_extra "w my om")) _) (by dsimp only; k_extra "w my om")
    · unfold Stop
      dsimp only [KswPost]
      refine ksw_end (lo, (lo + hi2) / 2, _, _) (by assumption) (by assumption) (fun _ h => nomatch h) trivial (by kst_all) (by ksw_same) (hI.no hM m1 m2 (by first | k_extra "w my om" | (dsimp only; k_extra "w my om")) _) (by dsimp only; k_extra "w my om")
  · dsimp only
    refine hret _ _ _ (touch_of (by simpa using hg) hL' (by assumption)) ⟨_, _, rfl, inv.cut fun q => ?_⟩
    have : ¬ (lo : Int) < hi2 := by assumption
    dsimp only at q; k_extra "w my om"
end
section
theorem resetIns : (0 : Nat) = 0 := by
  w_top off
  k_with_none
  (k_with "w my pick" => (with_reducible first | assumption | exact lo1 | exact lo2 | exact lo3 | exact lo4 | exact ls1 (by assumption) | exact ls2 (by assumption) | exact ls3 (by assumption) | exact pk0 (by assumption) | exact pk1 (by assumption) | exact pk2 (by assumption) | exact pk3 (by assumption) | exact pk4 (by assumption) | exact pk5 (by assumption) | exact pk6 (by assumption) | exact pk7 (by assumption) | exact pk8 (by assumption) | exact pk9 (by assumption) | exact pk10 (by assumption) | exact pk11 (by assumption) | exact pk12 (by assumption) | exact pk13 (by assumption) | exact pk14 (by assumption) | exact pk15 (by assumption) | exact pk16 (by assumption) | exact pk17 (by assumption) | exact qk1 (by assumption) | exact qk2 (by assumption) | exact qk3 (by assumption) | exact qk4 (by assumption) | exact qk5 (by assumption) | exact qk6 (by assumption) | exact qk7 (by assumption) | exact qk8 (by assumption) | exact qk9 (by assumption) | exact qk10 (by assumption) | exact qk11 (by assumption) | exact qk12 (by assumption) | exact qk13 (by assumption) | exact qk14 (by assumption) | exact qk15 (by assumption) | exact qk16 (by assumption) | exact qk17 (by assumption)))
  (k_with "w my sml" => (with_reducible first | (refine Nat.ne_of_lt ?_; k_extra "w my pick") | (refine Nat.ne_of_gt ?_; k_extra "w my pick") | (refine Ne.symm ?_; k_extra "w my pick") | (refine id ?_; k_extra "w my pick") | (refine Nat.le_of_lt ?_; k_extra "w my pick") | exact lrefl | exact lzero | exact one_le | exact room0 (by assumption) | exact room (by assumption) (by decide) | exact room1 (by assumption) (by decide) | exact room2 (by assumption) (by decide) | exact room3 (by assumption) (by decide) | exact le_le (by assumption) (by decide) | exact le_sc (by assumption) | (refine above1' ?_ (by assumption); k_extra "w my pick") | (refine above2' ?_ (by assumption); k_extra "w my pick")))
  (k_with "w my om" => (first | k_extra "w my sml" | lia | omega))
  rfl
theorem rgInsx1 : (0 : Nat) = 0 := by
  (k_with "w my k_room" => ((try simp only [depth_under_make, depth_under_kw, depth_in1, depth_deeper]); (show _ < 1000); (try dsimp only); omega))
  (k_with "w my units_room" => ((try simp only [units_in1, units_deeper, Around.mark_units]); (show _ < 9900); (try dsimp only); omega))
  (k_with "w my small" => (first
  | (refine Sm.int ?_; (try simp only [Int.fmod_eq_emod_of_nonneg, Int.fdiv_eq_ediv_of_nonneg, Int.reduceLE]); omega)
  | (apply Sm.slice; k_extra "w my small")
  | (apply Sm.add <;> k_extra "w my small")
  | (apply Sm.ite <;> k_extra "w my small")
  | assumption
  | exact Sm.refl _))
  (k_with "w subscriptTail Name Slice str ref" => ((with_reducible show wpAny _ _ (subscriptTail _ (Expr.Slice (some _) none none _) (Value.str _ _) (Value.ref _)) _ _ _); dsimp only; (with_reducible rename Fr _ _ _ _ => F'); (with_reducible rename News _ _ _ _ => N'); (refine' slice_strN_sn (hsz := by (apply Sm.size <;> first | k_extra "w my small" | decide)) (s := ⟨_, _, _, _, _⟩) F' N' ?_); intro _ _ _ _ _))
  (k_with "w binaryOp Add str str" => ((with_reducible show wpAny _ _ (binaryOp Operator.Add (Value.str _ _) (Value.str _ _)) _ _ _); (refine' PyProof.Rows.add_str ?_ (by (apply Sm.size2 <;> first | k_extra "w my small" | decide))); intro _ _))
  (k_with "w ite" => ((with_reducible refine ite_strs ?_); intro _))
  (k_with "w call builtin:list.insert" => refine stop_here ?_)
  (k_with "w callWith ref" => ((with_reducible show wpAny _ _ (callWith _ (Value.ref _) [] (backTo _ _) []) _ _ _); refine stop_here ?_))
  (k_with "w call ref" => refine stop_here ?_)
  rfl
set_option maxHeartbeats 8000000 in
theorem insr_key {w : World} {A : Around} {s : Shared} {G base : Heap} {outer : List Env} {p : Program} {loose : List Str} {mean : ExcName → Option Value} {mg mb : Str → Option Value}
    (hS : Setup 10 w A base outer p loose mean mg mb G) (hG : ∀ b o, G.get? b = some o → s.heap.get? b = some o)
    {l kf : Addr} {vs : List Value} {n : Nat} {ns : List Int} {v : Value} {kx : Int} (hl : s.heap.get? l = some (listOf vs.toArray n)) (hlG : G.get? l = none) (hlen : vs.length = ns.length) (hz : ns.length ≤ 100) (hs : ns.Pairwise (· ≤ ·))
    (hkf : ∃ o fd, s.heap.get? kf = some o ∧ o.data = .func fd) (hk : ∀ i v, vs[i]? = some v → KeyOk w s.heap kf v (ns.getD i 0)) (hkx : KeyOk w s.heap kf v kx) :
    CallsTo w A (.ref 53) [.ref l, v] [(Str.ofString "key", .ref kf)] s [l] (fun r h' => r = .none ∧ ∃ k, Cut (fun i => ns.getD i 0 ≤ kx) ns.length k ∧ h'.get? l = some (listOf (vs.take k ++ v :: vs.drop k).toArray (n + 1))) := by
  intro R hret
  (rename Setup _ _ _ _ _ _ _ _ _ _ _ => hSu)
  apply Setup.open hSu
  clear hSu
  intro dpt grs uni X T B hdp hun
  have hN : ∀ q ∈ [(l, listOf vs.toArray n)], s.heap.get? q.1 = some q.2 ∧ G.get? q.1 = none := fun q hq => by rw [List.mem_singleton.mp hq]; exact ⟨hl, hlG⟩
  refine' enterH (news := [(l, listOf vs.toArray n)]) ?k1 ?k2 ?kb ?k3 ?kN ?k6 ?k7 ?k8 ?k9 ?kB ?_ ?c2 ?c3 ?c4 ?c5
  case kN => exact hN
  (case k1 => assumption)
  (case k2 => assumption)
  (case kb => assumption)
  (case k3 => assumption)
  (case k6 => k_dflt k_is)
  (case k7 => k_dflt k_is)
  (case k8 => (show _ < 1000; dsimp only; omega))
  (case c5 => decide)
  (case c2 => exact rfl)
  (case c3 => exact rfl)
  (case c4 => exact rfl)
  case k9 =>
    have X9 : Frag.In (hdT.heap_39 w.params) s.heap := (by assumption : Frag.In _ _).keeps (by assumption)
    exact binds_K X9 rfl (by k_is) rfl rfl rfl
  case kB => exact locs rfl
  intro g L' h₁ hg hg' hL' X' T' B' F' N' hl'
  have hN1 := fun q hq => (hN q hq).1
  obtain ⟨ko, kfd, hko, hkd⟩ := hkf
  have kne : kf ∉ [(l, listOf vs.toArray n)].map (·.1) := fun q => by
    rw [List.mem_singleton.mp q, hl] at hko; cases hko; cases hkd
  k_lt hl'
  (try dsimp only)
  (try k_fold)
  k_steps
  unfold Stop
  refine callWith_def_at (hg _ _ hko kne) hkd ?_
  k_steps
  · exact Fr.keep (by assumption) _ _ (hg _ _ hko kne)
  unfold Stop
  (rename Fr _ _ _ _ => F); (rename News _ _ _ _ => N)
  refine use0 (hkx _ _ rfl (by k_room) (by units_room) (T'.nolimit.keeps F.keep) (keeps_led F N hg hN1)) F N (fun _ h => nomatch h) ?_
  clear F N
  rintro _ h2 tk3 F N _ ⟨u2, rfl⟩
  dsimp only at F N ⊢
  k_steps
  unfold Stop
  (rename Fr _ _ _ _ => F); (rename News _ _ _ _ => N)
  dsimp only [List.filterMap, backToKw, keywordEach, List.map, List.zip, List.zipWith]
  refine use0 (bisr_key (Setup.down0 (n := 5) (A := ⟨none, _, some outer, _, _⟩) ⟨X', T', B', rfl, by dsimp only; k_extra "w my om", by dsimp only; k_extra "w my om"⟩ F N rfl rfl) (fun b o e => of_hideAll _ e) _ _ _ (N.isList (.head _)) hlen hz hs
    ⟨_, _, F.keep _ _ (hg _ _ hko kne), hkd⟩ (fun i v e => (hk i v e).keeps (keeps_led F N hg hN1))) F N (by first | exact each_nil | (refine each_cons ?_ each_nil; repeat (first | exact .head _ | refine .tail _ ?_)) | (refine each_cons ?_ (each_cons ?_ each_nil) <;> repeat (first | exact .head _ | refine .tail _ ?_)) | simp) ?_
  clear F N
  rintro _ h3 tk4 F N _ ⟨k, u3, rfl, hcut⟩
  dsimp only at F N ⊢
  k_steps
  unfold Stop
  (rename Fr _ _ _ _ => F); (rename News _ _ _ _ => N)
  have hkz : k ≤ 100 := Nat.le_trans hcut.1 hz
  refine' kl_insert (l := vs.take k ++ v :: vs.drop k) F N ?f ?e ?U ?z ?_
  case f => exact fits_small hkz
  case e => exact ins_at (by rw [hlen]; exact hcut.1)
  case U => k_upd
  case z => rw [List.toList_toArray, hlen]; exact Nat.le_trans hz (by decide)
  clear F N
  intro h' F' N'
  k_steps
  (try dsimp only)
  refine hret _ _ _ (touch_led hg hL' (by assumption) hN1 (by assumption) ?_) ⟨rfl, k, hcut, ((by assumption : News _ _ _ _) _ (.head _)).1⟩
  intro q hq
  rw [List.mem_singleton.mp hq]; exact .inl (.head _)
theorem rgInsx2 : (0 : Nat) = 0 := by
  (k_with "w call ref" => refine stop_here ?_)
  rfl
set_option maxHeartbeats 8000000 in
theorem insl_key {w : World} {A : Around} {s : Shared} {G base : Heap} {outer : List Env} {p : Program} {loose : List Str} {mean : ExcName → Option Value} {mg mb : Str → Option Value}
    (hS : Setup 10 w A base outer p loose mean mg mb G) (hG : ∀ b o, G.get? b = some o → s.heap.get? b = some o)
    {l kf : Addr} {vs : List Value} {n : Nat} {ns : List Int} {v : Value} {kx : Int} (hl : s.heap.get? l = some (listOf vs.toArray n)) (hlG : G.get? l = none) (hlen : vs.length = ns.length) (hz : ns.length ≤ 100) (hs : ns.Pairwise (· ≤ ·))
    (hkf : ∃ o fd, s.heap.get? kf = some o ∧ o.data = .func fd) (hk : ∀ i v, vs[i]? = some v → KeyOk w s.heap kf v (ns.getD i 0)) (hkx : KeyOk w s.heap kf v kx) :
    CallsTo w A (.ref 71) [.ref l, v] [(Str.ofString "key", .ref kf)] s [l] (fun r h' => r = .none ∧ ∃ k, Cut (fun i => ns.getD i 0 < kx) ns.length k ∧ h'.get? l = some (listOf (vs.take k ++ v :: vs.drop k).toArray (n + 1))) := by
  intro R hret
  (rename Setup _ _ _ _ _ _ _ _ _ _ _ => hSu)
  apply Setup.open hSu
  clear hSu
  intro dpt grs uni X T B hdp hun
  have hN : ∀ q ∈ [(l, listOf vs.toArray n)], s.heap.get? q.1 = some q.2 ∧ G.get? q.1 = none := fun q hq => by rw [List.mem_singleton.mp hq]; exact ⟨hl, hlG⟩
  refine' enterH (news := [(l, listOf vs.toArray n)]) ?k1 ?k2 ?kb ?k3 ?kN ?k6 ?k7 ?k8 ?k9 ?kB ?_ ?c2 ?c3 ?c4 ?c5
  case kN => exact hN
  (case k1 => assumption)
  (case k2 => assumption)
  (case kb => assumption)
  (case k3 => assumption)
  (case k6 => k_dflt k_is)
  (case k7 => k_dflt k_is)
  (case k8 => (show _ < 1000; dsimp only; omega))
  (case c5 => decide)
  (case c2 => exact rfl)
  (case c3 => exact rfl)
  (case c4 => exact rfl)
  case k9 =>
    have X9 : Frag.In (hdT.heap_39 w.params) s.heap := (by assumption : Frag.In _ _).keeps (by assumption)
    exact binds_K X9 rfl (by k_is) rfl rfl rfl
  case kB => exact locs rfl
  intro g L' h₁ hg hg' hL' X' T' B' F' N' hl'
  have hN1 := fun q hq => (hN q hq).1
  obtain ⟨ko, kfd, hko, hkd⟩ := hkf
  have kne : kf ∉ [(l, listOf vs.toArray n)].map (·.1) := fun q => by
    rw [List.mem_singleton.mp q, hl] at hko; cases hko; cases hkd
  k_lt hl'
  (try dsimp only)
  (try k_fold)
  k_steps
  unfold Stop
  refine callWith_def_at (hg _ _ hko kne) hkd ?_
  k_steps
  · exact Fr.keep (by assumption) _ _ (hg _ _ hko kne)
  unfold Stop
  (rename Fr _ _ _ _ => F); (rename News _ _ _ _ => N)
  refine use0 (hkx _ _ rfl (by k_room) (by units_room) (T'.nolimit.keeps F.keep) (keeps_led F N hg hN1)) F N (fun _ h => nomatch h) ?_
  clear F N
  rintro _ h2 tk3 F N _ ⟨u2, rfl⟩
  dsimp only at F N ⊢
  k_steps
  unfold Stop
  (rename Fr _ _ _ _ => F); (rename News _ _ _ _ => N)
  dsimp only [List.filterMap, backToKw, keywordEach, List.map, List.zip, List.zipWith]
  refine use0 (bisl_key (Setup.down0 (n := 5) (A := ⟨none, _, some outer, _, _⟩) ⟨X', T', B', rfl, by dsimp only; k_extra "w my om", by dsimp only; k_extra "w my om"⟩ F N rfl rfl) (fun b o e => of_hideAll _ e) _ _ _ (N.isList (.head _)) hlen hz hs
    ⟨_, _, F.keep _ _ (hg _ _ hko kne), hkd⟩ (fun i v e => (hk i v e).keeps (keeps_led F N hg hN1))) F N (by first | exact each_nil | (refine each_cons ?_ each_nil; repeat (first | exact .head _ | refine .tail _ ?_)) | (refine each_cons ?_ (each_cons ?_ each_nil) <;> repeat (first | exact .head _ | refine .tail _ ?_)) | simp) ?_
  clear F N
  rintro _ h3 tk4 F N _ ⟨k, u3, rfl, hcut⟩
  dsimp only at F N ⊢
  k_steps
  unfold Stop
  (rename Fr _ _ _ _ => F); (rename News _ _ _ _ => N)
  have hkz : k ≤ 100 := Nat.le_trans hcut.1 hz
  refine' kl_insert (l := vs.take k ++ v :: vs.drop k) F N ?f ?e ?U ?z ?_
  case f => exact fits_small hkz
  case e => exact ins_at (by rw [hlen]; exact hcut.1)
  case U => k_upd
  case z => rw [List.toList_toArray, hlen]; exact Nat.le_trans hz (by decide)
  clear F N
  intro h' F' N'
  k_steps
  (try dsimp only)
  refine hret _ _ _ (touch_led hg hL' (by assumption) hN1 (by assumption) ?_) ⟨rfl, k, hcut, ((by assumption : News _ _ _ _) _ (.head _)).1⟩
  intro q hq
  rw [List.mem_singleton.mp hq]; exact .inl (.head _)
end
section
section
variable {prog : Program} {w : World} {A : Around} {s : Shared}
/-- a lambda called, wherever its object stands -/
theorem lam_call {R : Result → Shared → Prop} {name qual : Str} {params : Arguments} {body : Expr} {scope : Scope} {cl : List (Str × Addr)} {pm ctv : Value} {c' f : Addr} {args : Args} {binds : List (Str × Value)}
    (hroom : A.depth < recursionLimit) (hnl : s.heap.NoLimit) (ho : s.heap.get? f = some (kla_obj name qual params body scope cl pm c' ctv)) (hcd : s.heap.CodeRec (.ref c') qual)
    (hbind : bindArgs (kla_fn name qual params body scope cl pm (.ref c') ctv) args = pure binds) (hloc : ∀ y ∈ binds, scope.names.lookup y.1 = some .local)
    (h : ∀ L' h₁, Fr s.heap L' h₁ (fun y => binds.reverse.lookup y) →
      wpAny (model prog w) (A.deeper (envX qual scope L' f (.ref c') cl)) (eval body (envX qual scope L' f (.ref c') cl)) (fun v s' => R (.ok (.ret v)) s') (fun _ _ => False) { s with heap := h₁, toks := s.toks + binds.length })
    (hco : scope.isCoroutine = false) (hgen : scope.isGenerator = false) (hk : scope.kind = .function) (hcell : ∀ x ∈ scope.names, x.2 ≠ .cell) : codeAny (model prog w) A (.call (.ref f) args) R s := by
  refine kla_callFunE hroom ho rfl hco hgen rfl hcd ?_
  rw [hbind]
  refine wpAny_pure (wpAny_newFunctionEnv hcell hloc (fun h₁ hns hsb => ⟨hnl.fresh _ hsb, ?_⟩) hk)
  show codeAny _ _ (.expr body (envX qual scope s.heap.objs.size f (.ref c') cl)) _ _
  have hk₁ : ∀ b o, s.heap.get? b = some o → h₁.get? b = some o := fun b o e => hsb.extBut b o (Nat.ne_of_lt (Heap.lt_size e)) (Heap.get?_push_of_some _ e)
  exact kla_codeExpr (wpAny_mono (h s.heap.objs.size h₁ ⟨hns, hk₁, Nat.le_refl _⟩) (fun v s' hl => hl) fun _ _ y => y.elim)
end
noncomputable abbrev keyScope (x y : Str) : Scope := { kind := ScopeKind.function, names := [(x, NameKind.local), (y, NameKind.free)], isGenerator := false, isCoroutine := false }
noncomputable abbrev keyArgs (x : Str) (p : Pos) : Arguments := { posonlyargs := [], args := [{ arg := x, annotation := none, pos := p }], vararg := none, kwonlyargs := [], kw_defaults := [], kwarg := none, defaults := [] }
theorem touch_keep {h h' : Heap} {L : Addr} {m : Str → Option Value} (F : Fr h L h' m) : Touch [] h h' := ⟨Nat.le_trans F.above (Nat.le_of_lt F.ns.lt), fun b o e _ => F.keep b o e⟩
theorem key_came {w : World} {h : Heap} {f c' cell d : Addr} {qual : Str} {pm ctv : Value} {p1 p2 p3 p4 : Pos} {oc o : Obj} {kvs : List (Str × Value)} {y : Str} {t u : Tok} {k : Int}
    (hf : h.get? f = some (kla_obj (Str.ofString "<lambda>") qual (keyArgs (Str.ofString "name") p1) ((Expr.Name (Str.ofString "came") p2).Subscript (Expr.Name (Str.ofString "name") p3) p4) (keyScope (Str.ofString "name") (Str.ofString "came")) [(Str.ofString "came", cell)] pm c' ctv))
    (hrec : h.CodeRec (.ref c') qual) (hc : h.get? cell = some oc) (hcd : oc.data = .cell (some (.ref d))) (hd : h.get? d = some o) (hod : o.IsDictOf (strKind PG w) kvs) (hv : valueAt kvs y = some (.int k u)) : KeyOk w h f (.str y t) k := by
  intro A s hh hdep hun hnl hkeep R hret
  refine lam_call (binds := [(Str.ofString "name", .str y t)]) hdep hnl (hkeep _ _ hf) (hrec.keeps hkeep) rfl (locs rfl) (fun L' h₁ F => ?_) rfl rfl rfl (by decide)
  refine Subscript_ (wpAny_Name (wpAny_loadName_free (c := cell) (v := .ref d) rfl rfl rfl ⟨_, F.keep _ _ (hkeep _ _ hc), hcd⟩ ?_))
  refine wpAny_Name (wpAny_loadName_local rfl rfl F.ns (v := .str y t) rfl ?_)
  have hD := Heap.dictOf_iff.mpr ⟨o, F.keep _ _ (hkeep _ _ hd), hod⟩
  refine tail_any hD.typeIs slot_dict_getitem.lookup (wpAny_getItem_of (strKind_is _ _ _ _) hD.mapOf hv ?_) (by with_unfolding_all rfl)
  exact hret _ _ _ (touch_keep F) ⟨u, rfl⟩
theorem key_mark {w : World} {h : Heap} {f c' P : Addr} {qual : Str} {pm ctv : Value} {p1 p2 p3 p4 : Pos} {u : Tok} {k : Int} {y : Value} {n0 : Nat}
    (hf : h.get? f = some (kla_obj (Str.ofString "<lambda>") qual (keyArgs (Str.ofString "some") p1) ((Expr.Name (Str.ofString "some") p2).Subscript (Expr.Constant (Const.int 0) n0 p3) p4) { kind := ScopeKind.function, names := [(Str.ofString "some", NameKind.local)], isGenerator := false, isCoroutine := false } [] pm c' ctv))
    (hrec : h.CodeRec (.ref c') qual) (hP : IsTup h P [.int k u, y].toArray) : KeyOk w h f (.ref P) k := by
  intro A s hh hdep hun hnl hkeep R hret
  refine lam_call (binds := [(Str.ofString "some", .ref P)]) hdep hnl (hkeep _ _ hf) (hrec.keeps hkeep) rfl (locs rfl) (fun L' h₁ F => ?_) rfl rfl rfl (by decide)
  refine Subscript_ (wpAny_Name (wpAny_loadName_local rfl rfl F.ns (v := .ref P) rfl ?_))
  refine wpAny_Constant_int ?_
  have hT : IsTup h₁ P [.int k u, y].toArray := by
    obtain ⟨o, e, r⟩ := hP
    exact ⟨o, F.keep _ _ (hkeep _ _ e), r⟩
  refine item_tupleT (j := 0) hT (by decide) (by decide) rfl rfl ?_
  exact hret _ _ _ (touch_keep F) ⟨u, rfl⟩
end
section
theorem resetGuests0 : (0 : Nat) = 0 := by
  w_top off
  k_with_none
  (k_with "w my pick" => (with_reducible first | assumption | exact lo1 | exact lo2 | exact lo3 | exact lo4 | exact ls1 (by assumption) | exact ls2 (by assumption) | exact ls3 (by assumption) | exact pk0 (by assumption) | exact pk1 (by assumption) | exact pk2 (by assumption) | exact pk3 (by assumption) | exact pk4 (by assumption) | exact pk5 (by assumption) | exact pk6 (by assumption) | exact pk7 (by assumption) | exact pk8 (by assumption) | exact pk9 (by assumption) | exact pk10 (by assumption) | exact pk11 (by assumption) | exact pk12 (by assumption) | exact pk13 (by assumption) | exact pk14 (by assumption) | exact pk15 (by assumption) | exact pk16 (by assumption) | exact pk17 (by assumption) | exact qk1 (by assumption) | exact qk2 (by assumption) | exact qk3 (by assumption) | exact qk4 (by assumption) | exact qk5 (by assumption) | exact qk6 (by assumption) | exact qk7 (by assumption) | exact qk8 (by assumption) | exact qk9 (by assumption) | exact qk10 (by assumption) | exact qk11 (by assumption) | exact qk12 (by assumption) | exact qk13 (by assumption) | exact qk14 (by assumption) | exact qk15 (by assumption) | exact qk16 (by assumption) | exact qk17 (by assumption)))
  (k_with "w my sml" => (with_reducible first | (refine Nat.ne_of_lt ?_; k_extra "w my pick") | (refine Nat.ne_of_gt ?_; k_extra "w my pick") | (refine Ne.symm ?_; k_extra "w my pick") | (refine id ?_; k_extra "w my pick") | (refine Nat.le_of_lt ?_; k_extra "w my pick") | exact lrefl | exact lzero | exact one_le | exact room0 (by assumption) | exact room (by assumption) (by decide) | exact room1 (by assumption) (by decide) | exact room2 (by assumption) (by decide) | exact room3 (by assumption) (by decide) | exact le_le (by assumption) (by decide) | exact le_sc (by assumption) | (refine above1' ?_ (by assumption); k_extra "w my pick") | (refine above2' ?_ (by assumption); k_extra "w my pick")))
  (k_with "w my om" => (first | k_extra "w my sml" | lia | omega))
  rfl
/-- the guests' names -/
noncomputable def nm (j : Nat) : Str := ⟨#[97 + j]⟩
inductive Names : List Value → List Nat → Prop
  | nil : Names [] []
  | cons {j : Nat} {t : Tok} {vs : List Value} {js : List Nat} : Names vs js → Names (.str (nm j) t :: vs) (j :: js)
theorem Names.length {vs : List Value} {js : List Nat} (h : Names vs js) : vs.length = js.length := by induction h with | nil => rfl | cons _ ih => simp [ih]
theorem Names.get {vs : List Value} {js : List Nat} (h : Names vs js) : ∀ {i : Nat} {v : Value}, vs[i]? = some v → ∃ j t, v = .str (nm j) t ∧ js[i]? = some j := by
  induction h with
  | nil => intro i v e; simp at e
  | cons _ ih =>
    rename_i j t _ _ _
    intro i v e
    cases i with
    | zero => exact ⟨j, t, by simpa using e.symm, rfl⟩
    | succ i => obtain ⟨j', t', e1, e2⟩ := ih (i := i) (v := v) (by simpa using e); exact ⟨j', t', e1, by simpa using e2⟩
theorem Names.app {vs ws : List Value} {js ks : List Nat} (h : Names vs js) (g : Names ws ks) : Names (vs ++ ws) (js ++ ks) := by induction h with | nil => exact g | cons _ ih => exact .cons ih
theorem Names.take {vs : List Value} {js : List Nat} (h : Names vs js) : ∀ k, Names (vs.take k) (js.take k) := by
  induction h with
  | nil => intro k; simpa using Names.nil
  | cons _ ih => intro k; cases k with | zero => exact .nil | succ k => exact .cons (ih k)
theorem Names.drop {vs : List Value} {js : List Nat} (h : Names vs js) : ∀ k, Names (vs.drop k) (js.drop k) := by
  induction h with
  | nil => intro k; simpa using Names.nil
  | cons h ih => intro k; cases k with | zero => exact .cons h | succ k => exact ih k
theorem Names.ins {vs : List Value} {js : List Nat} (h : Names vs js) (k j : Nat) (t : Tok) : Names (vs.take k ++ .str (nm j) t :: vs.drop k) (js.take k ++ j :: js.drop k) := (h.take k).app (.cons (h.drop k))
/-- the first i guests, by when they come; like ones as in the file -/
noncomputable def RowIs (x : Nat → Int) (i : Nat) (js : List Nat) : Prop := js.Perm (List.range i) ∧ js.Pairwise fun a b => x a < x b ∨ (x a = x b ∧ a < b)
theorem RowIs.nil (x : Nat → Int) : RowIs x 0 [] := ⟨.nil, .nil⟩
theorem RowIs.length {x : Nat → Int} {i : Nat} {js : List Nat} (h : RowIs x i js) : js.length = i := by simpa using h.1.length_eq
theorem RowIs.lt {x : Nat → Int} {i : Nat} {js : List Nat} (h : RowIs x i js) {a : Nat} (ha : a ∈ js) : a < i := by simpa using h.1.mem_iff.mp ha
theorem RowIs.sorted {x : Nat → Int} {i : Nat} {js : List Nat} (h : RowIs x i js) : (js.map x).Pairwise (· ≤ ·) :=
  List.pairwise_map.mpr (h.2.imp fun {a b} q => by k_extra "w my om")
theorem RowIs.ins {x : Nat → Int} {i k : Nat} {js : List Nat} (h : RowIs x i js) (hc : Cut (fun t => (js.map x).getD t 0 ≤ x i) js.length k) : RowIs x (i + 1) (js.take k ++ i :: js.drop k) := by
  have get : ∀ {t : Nat} (ht : t < js.length), (js.map x).getD t 0 = x js[t] := fun ht => by simp [List.getD, ht]
  have h1 : ∀ a ∈ js.take k, x a < x i ∨ (x a = x i ∧ a < i) := fun a ha => by
    obtain ⟨t, ht, rfl⟩ := List.getElem_of_mem ha
    rw [List.length_take] at ht
    rw [List.getElem_take]
    have q := hc.2.1 t (by k_extra "w my om")
    dsimp only at q
    rw [get (by k_extra "w my om")] at q
    have := h.lt (List.getElem_mem (l := js) (n := t) (by k_extra "w my om"))
    k_extra "w my om"
  have h2 : ∀ b ∈ js.drop k, x i < x b := fun b hb => by
    obtain ⟨t, ht, rfl⟩ := List.getElem_of_mem hb
    rw [List.length_drop] at ht
    rw [List.getElem_drop]
    have q := hc.2.2 (k + t) (by k_extra "w my om") (by k_extra "w my om")
    dsimp only at q
    rw [get (by k_extra "w my om")] at q
    k_extra "w my om"
  have h3 := h.2
  rw [← List.take_append_drop k js, List.pairwise_append] at h3
  refine ⟨?_, ?_⟩
  · have : (js.take k ++ i :: js.drop k).Perm (i :: js) := (List.perm_middle).trans (by rw [List.take_append_drop])
    refine this.trans ?_
    rw [List.range_succ]
    exact (h.1.cons i).trans (List.perm_append_singleton i _).symm
  · rw [List.pairwise_append, List.pairwise_cons]
    refine ⟨h3.1, ⟨fun b hb => .inl (h2 b hb), h3.2.1⟩, fun a ha b hb => ?_⟩
    rcases List.mem_cons.mp hb with rfl | hb
    · exact h1 a ha
    · exact h3.2.2 a ha b hb
theorem row_ins {h : Heap} {l : Addr} {vs : List Value} {js : List Nat} {k n i : Nat} {v : Value} {t : Tok} {x : Nat → Int} (he : h.get? l = some (listOf (vs.take k ++ v :: vs.drop k).toArray n)) (hv : v = .str (nm i) t) (hn : Names vs js) (hr : RowIs x i js)
    (hc : Cut (fun t => (js.map x).getD t 0 ≤ x i) (js.map x).length k) : ∃ vs' js', h.get? l = some (listOf vs'.toArray n) ∧ Names vs' js' ∧ RowIs x (i + 1) js' := by
  subst hv
  rw [List.length_map] at hc
  exact ⟨_, _, he, hn.ins k i t, hr.ins hc⟩
theorem row_len {x : Nat → Int} {i : Nat} {vs : List Value} {js : List Nat} (hn : Names vs js) (hr : RowIs x i js) : vs.length = (js.map x).length ∧ (js.map x).length = i := by
  rw [List.length_map, hn.length]; exact ⟨rfl, hr.length⟩
/-- the dict's rows: each name its moment -/
noncomputable def dk (x : Nat → Int) (u : Nat → Tok) (i : Nat) : List (Str × Value) := (List.range i).map fun j => (nm j, .int (x j) (u j))
theorem nm_inj {a b : Nat} (h : nm a = nm b) : a = b := by
  unfold nm at h
  simp at h
  exact h
theorem dk_succ (x : Nat → Int) (u : Nat → Tok) (i : Nat) : dk x u (i + 1) = dk x u i ++ [(nm i, .int (x i) (u i))] := by
  unfold dk; rw [List.range_succ, List.map_append]; rfl
theorem dk_conv {w : World} {o : Obj} {kvs : List (Str × Value)} {x : Nat → Int} {u : Nat → Tok} {i : Nat} (h : o.IsDictOf (strKind PG w) kvs) (e : kvs = dk x u i) : o.IsDictOf (strKind PG w) (dk x u i) := e ▸ h
theorem dk_at (x : Nat → Int) (u : Nat → Tok) : ∀ {i j : Nat}, j < i → valueAt (dk x u i) (nm j) = some (.int (x j) (u j))
  | 0, _, h => absurd h (Nat.not_lt_zero _)
  | i + 1, j, h => by
    unfold valueAt
    rw [dk_succ, List.find?_append]
    by_cases e : j < i
    · have := dk_at x u e
      unfold valueAt at this
      cases q : (dk x u i).find? (fun kv => decide (kv.1 = nm j)) with
      | none => rw [q] at this; cases this
      | some p => rw [q] at this; simpa using this
    · obtain rfl : j = i := by k_extra "w my om"
      cases q : (dk x u j).find? (fun kv => decide (kv.1 = nm j)) with
      | none => simp
      | some p =>
        have h1 := List.find?_some q
        have h2 := List.mem_of_find?_eq_some q
        obtain ⟨a, ha, rfl⟩ := List.mem_map.mp h2
        have := nm_inj (of_decide_eq_true h1)
        have := List.mem_range.mp ha
        k_extra "w my om"
theorem came_keys {w : World} {h : Heap} {f c' cell d : Addr} {qual : Str} {pm ctv : Value} {p1 p2 p3 p4 : Pos} {oc o : Obj} {x : Nat → Int} {u : Nat → Tok} {i : Nat}
    (hf : h.get? f = some (kla_obj (Str.ofString "<lambda>") qual (keyArgs (Str.ofString "name") p1) ((Expr.Name (Str.ofString "came") p2).Subscript (Expr.Name (Str.ofString "name") p3) p4) (keyScope (Str.ofString "name") (Str.ofString "came")) [(Str.ofString "came", cell)] pm c' ctv))
    (hrec : h.CodeRec (.ref c') qual) (hc : h.get? cell = some oc) (hcd : oc.data = .cell (some (.ref d))) (hd : h.get? d = some o) (hod : o.IsDictOf (strKind PG w) (dk x u i)) : ∀ j, j < i → ∀ t, KeyOk w h f (.str (nm j) t) (x j) :=
  fun _ hj _ => key_came hf hrec hc hcd hd hod (dk_at x u hj)
theorem row_keys {w : World} {h : Heap} {f : Addr} {x : Nat → Int} {i : Nat} {vs : List Value} {js : List Nat} (K : ∀ j, j < i + 1 → ∀ t, KeyOk w h f (.str (nm j) t) (x j)) (hn : Names vs js) (hr : RowIs x i js) : ∀ k v, vs[k]? = some v → KeyOk w h f v ((js.map x).getD k 0) := by
  intro k v e
  obtain ⟨j, t, rfl, hj⟩ := hn.get e
  have : (js.map x).getD k 0 = x j := by simp [List.getD, hj]
  rw [this]
  exact K j (Nat.lt_succ_of_lt (hr.lt (List.mem_of_getElem? hj))) t
/-- the first i marks by moment, of like ones the last laid first -/
noncomputable def LRow (x : Nat → Int) (i : Nat) (js : List Nat) : Prop := js.Perm (List.range i) ∧ js.Pairwise fun a b => x a < x b ∨ (x a = x b ∧ b < a)
theorem LRow.nil (x : Nat → Int) : LRow x 0 [] := ⟨.nil, .nil⟩
theorem LRow.length {x : Nat → Int} {i : Nat} {js : List Nat} (h : LRow x i js) : js.length = i := by simpa using h.1.length_eq
theorem LRow.lt {x : Nat → Int} {i : Nat} {js : List Nat} (h : LRow x i js) {a : Nat} (ha : a ∈ js) : a < i := by simpa using h.1.mem_iff.mp ha
theorem LRow.sorted {x : Nat → Int} {i : Nat} {js : List Nat} (h : LRow x i js) : (js.map x).Pairwise (· ≤ ·) :=
  List.pairwise_map.mpr (h.2.imp fun {a b} q => by k_extra "w my om")
theorem LRow.ins {x : Nat → Int} {i k : Nat} {js : List Nat} (h : LRow x i js) (hc : Cut (fun t => (js.map x).getD t 0 < x i) js.length k) : LRow x (i + 1) (js.take k ++ i :: js.drop k) := by
  have get : ∀ {t : Nat} (ht : t < js.length), (js.map x).getD t 0 = x js[t] := fun ht => by simp [List.getD, ht]
  have h1 : ∀ a ∈ js.take k, x a < x i := fun a ha => by
    obtain ⟨t, ht, rfl⟩ := List.getElem_of_mem ha
    rw [List.length_take] at ht
    rw [List.getElem_take]
    have q := hc.2.1 t (by k_extra "w my om")
    dsimp only at q
    rw [get (by k_extra "w my om")] at q
    k_extra "w my om"
  have h2 : ∀ b ∈ js.drop k, x i < x b ∨ (x i = x b ∧ b < i) := fun b hb => by
    obtain ⟨t, ht, rfl⟩ := List.getElem_of_mem hb
    rw [List.length_drop] at ht
    rw [List.getElem_drop]
    have q := hc.2.2 (k + t) (by k_extra "w my om") (by k_extra "w my om")
    dsimp only at q
    rw [get (by k_extra "w my om")] at q
    have := h.lt (List.getElem_mem (l := js) (n := k + t) (by k_extra "w my om"))
    k_extra "w my om"
  have h3 := h.2
  rw [← List.take_append_drop k js, List.pairwise_append] at h3
  refine ⟨?_, ?_⟩
  · have : (js.take k ++ i :: js.drop k).Perm (i :: js) := (List.perm_middle).trans (by rw [List.take_append_drop])
    refine this.trans ?_
    rw [List.range_succ]
    exact (h.1.cons i).trans (List.perm_append_singleton i _).symm
  · rw [List.pairwise_append, List.pairwise_cons]
    refine ⟨h3.1, ⟨h2, h3.2.1⟩, fun a ha b hb => ?_⟩
    rcases List.mem_cons.mp hb with rfl | hb
    · exact .inl (h1 a ha)
    · exact h3.2.2 a ha b hb
theorem News.drop1 {h₀ h : Heap} {L : Addr} {q : Addr × Obj} {news : List (Addr × Obj)} (N : News h₀ L h (q :: news)) : News h₀ L h news := fun r hr => N r (.tail _ hr)
theorem News.upd {h₀ h h' : Heap} {L d : Addr} {o o' : Obj} {news news' : List (Addr × Obj)} (N : News h₀ L h news) (U : Upd d o o' news news') (T : Touch [d] h h') (e : h'.get? d = some o') : News h₀ L h' news' := by
  obtain ⟨pre, post, rfl, rfl, a, b⟩ := U.split
  intro q hq
  have off : ∀ r, r ∈ pre ∨ r ∈ post → r.1 ≠ d := fun r hr => hr.elim (a r) (b r)
  rcases List.mem_append.mp hq with hq | hq
  · have n := N q (List.mem_append_left _ hq)
    exact ⟨T.2 _ _ n.1 (by simpa using off q (.inl hq)), n.2⟩
  · rcases List.mem_cons.mp hq with rfl | hq
    · exact ⟨e, (N (d, o) (List.mem_append_right _ (.head _))).2⟩
    · have n := N q (List.mem_append_right _ (.tail _ hq))
      exact ⟨T.2 _ _ n.1 (by simpa using off q (.inr hq)), n.2⟩
end
section
noncomputable abbrev tup2 (x y : Value) : Obj := { cls := .type "tuple", data := .seq [x, y].toArray }
/-- a pair of a name and a moment, in the ledger -/
noncomputable def PairIn (nw : List (Addr × Obj)) (y : Value) (p : Str × Int) : Prop := ∃ a t u, y = .ref a ∧ (a, tup2 (.str p.1 t) (.int p.2 u)) ∈ nw
inductive All2 {α : Type} (R : Value → α → Prop) : List Value → List α → Prop
  | nil : All2 R [] []
  | cons {v : Value} {a : α} {vs : List Value} {as : List α} : R v a → All2 R vs as → All2 R (v :: vs) (a :: as)
theorem paired_mono {α : Type} {R R' : Value → α → Prop} (h : ∀ v a, R v a → R' v a) : ∀ {vs : List Value} {as : List α}, All2 R vs as → All2 R' vs as := fun H => by
  induction H with
  | nil => exact .nil
  | cons a _ ih => exact .cons (h _ _ a) ih
theorem paired_snoc {α : Type} {R : Value → α → Prop} {v : Value} {a : α} (h : R v a) : ∀ {vs : List Value} {as : List α}, All2 R vs as → All2 R (vs ++ [v]) (as ++ [a]) := fun H => by
  induction H with
  | nil => exact .cons h .nil
  | cons a _ ih => exact .cons a ih
section
variable {w : World} {A : Around} {s : Shared} {g : Heap} {L : Addr} {m : Str → Option Value} {env : Env} {news : List (Addr × Obj)}
theorem comp_came {l cell d : Addr} {vs : List Value} {n : Nat} {oc o : Obj} {x : Nat → Int} {u : Nat → Tok} {i : Nat} {js : List Nat} {p1 p2 p3 p4 p5 : Pos} {k : Nat} {Q : Value → Shared → Prop}
    (hh : A.handled = none) (F : Fr g L s.heap m) (N : News g L s.heap news) (hl : (l, listOf vs.toArray n) ∈ news) (hc : (cell, oc) ∈ news) (hcd : oc.data = .cell (some (.ref d))) (hd : (d, o) ∈ news) (hod : o.IsDictOf (strKind PG w) (dk x u i))
    (hn : Names vs js) (hj : ∀ j ∈ js, j < i) (hz : vs.length ≤ 100)
    (hkc : ∀ C, (compEnvC { kind := ScopeKind.function, names := [(Str.ofString ".0", NameKind.local), (Str.ofString "name", NameKind.local), (Str.ofString "came", NameKind.free)], isGenerator := false, isCoroutine := false } [(Str.ofString "came", cell)] C env).kindOf (Str.ofString "came") = some .cell)
    (hQ : ∀ ys nw D h tk, Fr g L h m → News g L h ((D, LCg.lst ys) :: nw) → LCg.Off1 D nw → (∀ q ∈ news, q ∈ nw) → All2 (PairIn nw) ys (js.map fun j => (nm j, x j)) → Q (.ref D) { s with heap := h, toks := tk }) :
    LCg.CompSrc PG w A g L m env (Expr.Tuple [Expr.Name (Str.ofString "name") p1, (Expr.Name (Str.ofString "came") p2).Subscript (Expr.Name (Str.ofString "name") p3) p4] k p5) (Str.ofString "name")
      { kind := ScopeKind.function, names := [(Str.ofString ".0", NameKind.local), (Str.ofString "name", NameKind.local), (Str.ofString "came", NameKind.free)], isGenerator := false, isCoroutine := false } [(Str.ofString "came", cell)]
      (fun s₂ => LCg.FinE g L m s₂ Q) (.ref l) s := by
  refine LCg.CompSrc.ledger hh F N hl (by rw [List.size_toArray]; exact Nat.le_trans hz (by decide)) fun g2 => ?_
  refine rest_ind (n := vs.toArray.size) (fun i ys nw => (∀ q ∈ news, q ∈ nw) ∧ All2 (PairIn nw) ys ((js.take i).map fun j => (nm j, x j))) ?_ ?_ vs.toArray.size 0 [] news (Nat.zero_add _) rfl ⟨fun _ h => h, by rw [List.take_zero]; exact .nil⟩
  · rintro i2 ys nw hi hlen ⟨hsub, hys⟩ v I oI C oC D m₂ h tk E' hP hnC hm2 F2 N2 off3 hne
    have hv : vs[i2]? = some v := by simpa using hP
    obtain ⟨j, t, rfl, hjs⟩ := hn.get hv
    have nsC := hnC.ns (N2.get (.tail _ (.head _)))
    refine Tuple_ (spliced_more (wpAny_Name (wpAny_loadName_local rfl rfl nsC hm2 ?_)))
    refine spliced_more (Subscript_ (wpAny_Name (wpAny_loadName_cell (c := cell) (v := .ref d) rfl (hkc C) rfl ⟨_, N2.get (.tail _ (.tail _ (.tail _ (hsub _ hc)))), hcd⟩ ?_)))
    refine wpAny_Name (wpAny_loadName_local rfl rfl nsC hm2 ?_)
    have hD := Heap.dictOf_iff.mpr ⟨o, N2.get (.tail _ (.tail _ (.tail _ (hsub _ hd)))), hod⟩
    refine tail_any hD.typeIs slot_dict_getitem.lookup (wpAny_getItem_of (strKind_is _ _ _ _) hD.mapOf (dk_at x u (hj j (List.mem_of_getElem? hjs))) ?_) (by with_unfolding_all rfl)
    refine spliced_none (newTuple_N F2 N2 (fun h3 F3 N3 => ?_) (by show 2 ≤ sizeLine; decide))
    have lt : ∀ q ∈ (I, oI) :: (C, oC) :: (D, LCg.lst ys) :: nw, @Ne Nat h.objs.size q.1 := fun q hq => Nat.ne_of_gt (Heap.lt_size (N2 q hq).1)
    refine LCg.CompEnd.intro F3 N3 ((h.objs.size, tup2 (.str (nm j) t) (.int (x j) (u j))) :: nw) ?_ ⟨⟨lt _ (.head _), lt _ (.tail _ (.head _)), lt _ (.tail _ (.tail _ (.head _)))⟩, off3⟩ (.inr ⟨_, .tail _ (hsub _ hl), rfl, n, rfl⟩) ⟨fun q hq => .tail _ (hsub q hq), ?_⟩
    · exact turn3
    · rw [List.take_add_one, hjs, Option.toList, List.map_append]
      exact paired_snoc ⟨_, t, u j, rfl, .head _⟩ (paired_mono (fun v p ⟨a, t, u, e, hm⟩ => ⟨a, t, u, e, .tail _ hm⟩) hys)
  · rintro ys nw hlen ⟨hsub, hys⟩ D h tk F2 N2 o1
    refine hQ ys nw D h tk F2 N2 o1 hsub ?_
    have e : vs.toArray.size = js.length := by rw [List.size_toArray, hn.length]
    rw [e, List.take_length] at hys
    exact hys
end
/-- where four people lie, and who they are -/
structure PplA where
  l : Addr
  p0 : Addr
  p1 : Addr
  p2 : Addr
  p3 : Addr
  n : Nat
  y0 : Str
  y1 : Str
  y2 : Str
  y3 : Str
  k0 : Int
  k1 : Int
  k2 : Int
  k3 : Int
  t0 : Tok
  t1 : Tok
  t2 : Tok
  t3 : Tok
  u0 : Tok
  u1 : Tok
  u2 : Tok
  u3 : Tok
noncomputable abbrev pplLed (a : PplA) : List (Addr × Obj) :=
  [(a.l, listOf #[.ref a.p0, .ref a.p1, .ref a.p2, .ref a.p3] a.n), (a.p0, tup2 (.str a.y0 a.t0) (.int a.k0 a.u0)), (a.p1, tup2 (.str a.y1 a.t1) (.int a.k1 a.u1)), (a.p2, tup2 (.str a.y2 a.t2) (.int a.k2 a.u2)), (a.p3, tup2 (.str a.y3 a.t3) (.int a.k3 a.u3))]
/-- who they are -/
noncomputable def PplA.are (a : PplA) (y0 y1 y2 y3 : Str) (k0 k1 k2 k3 : Int) : Prop := a.y0 = y0 ∧ a.y1 = y1 ∧ a.y2 = y2 ∧ a.y3 = y3 ∧ a.k0 = k0 ∧ a.k1 = k1 ∧ a.k2 = k2 ∧ a.k3 = k3
theorem All2.uncons {α : Type} {R : Value → α → Prop} {ys : List Value} {b : α} {bs : List α} (h : All2 R ys (b :: bs)) : ∃ a as, ys = a :: as ∧ R a b ∧ All2 R as bs := by
  cases h with
  | cons h1 h2 => exact ⟨_, _, rfl, h1, h2⟩
theorem All2.none {α : Type} {R : Value → α → Prop} {ys : List Value} (h : All2 R ys []) : ys = [] := by cases h; rfl
theorem ppl_of2 {D : Addr} {n : Nat} {ys : List Value} {nw : List (Addr × Obj)} {y0 y1 y2 y3 : Str} {k0 k1 k2 k3 : Int} (h : All2 (PairIn nw) ys [(y0, k0), (y1, k1), (y2, k2), (y3, k3)]) :
    ∃ a : PplA, a.l = D ∧ a.are y0 y1 y2 y3 k0 k1 k2 k3 ∧ ∀ q ∈ pplLed a, q ∈ (D, listOf ys.toArray n) :: nw := by
  obtain ⟨_, _, rfl, ⟨p0, t0, u0, rfl, m0⟩, h1⟩ := h.uncons
  obtain ⟨_, _, rfl, ⟨p1, t1, u1, rfl, m1⟩, h2⟩ := h1.uncons
  obtain ⟨_, _, rfl, ⟨p2, t2, u2, rfl, m2⟩, h3⟩ := h2.uncons
  obtain ⟨_, _, rfl, ⟨p3, t3, u3, rfl, m3⟩, h4⟩ := h3.uncons
  obtain rfl := h4.none
  exact ⟨⟨D, p0, p1, p2, p3, n, y0, y1, y2, y3, k0, k1, k2, k3, t0, t1, t2, t3, u0, u1, u2, u3⟩, rfl, ⟨rfl, rfl, rfl, rfl, rfl, rfl, rfl, rfl⟩,
    each_cons (.head _) (each_cons (.tail _ m0) (each_cons (.tail _ m1) (each_cons (.tail _ m2) (each_cons (.tail _ m3) each_nil))))⟩
theorem ppl_of {D : Addr} {ys : List Value} {nw : List (Addr × Obj)} {y0 y1 y2 y3 : Str} {k0 k1 k2 k3 : Int} (h : All2 (PairIn nw) ys [(y0, k0), (y1, k1), (y2, k2), (y3, k3)]) :
    ∃ a : PplA, a.l = D ∧ a.are y0 y1 y2 y3 k0 k1 k2 k3 ∧ ∀ q ∈ pplLed a, q ∈ (D, LCg.lst ys) :: nw := by
  obtain ⟨_, ys1, rfl, _, h1⟩ := h.uncons
  obtain ⟨_, ys2, rfl, _, h2⟩ := h1.uncons
  obtain ⟨_, ys3, rfl, _, h3⟩ := h2.uncons
  obtain ⟨_, ys4, rfl, _, h4⟩ := h3.uncons
  obtain rfl := h4.none
  exact ppl_of2 (n := 4) h
theorem off1_mem {D : Addr} : ∀ {l : List (Addr × Obj)}, LCg.Off1 D l → ∀ p ∈ l, p.1 ≠ D
  | [], _, _, h => (List.not_mem_nil h).elim
  | r :: l, x, p, h => by
    rcases List.mem_cons.mp h with e | h
    · rw [e]; exact x.1
    · exact off1_mem x.2 p h
noncomputable def osz (o : Obj) : Nat := match o.data with | .seq xs _ => xs.size | _ => 0
theorem four {js : List Nat} (h : js.length = 4) : ∃ j0 j1 j2 j3, js = [j0, j1, j2, j3] := by
  obtain ⟨a, js, rfl⟩ := List.exists_cons_of_length_eq_add_one h
  obtain ⟨b, js, rfl⟩ := List.exists_cons_of_length_eq_add_one (Nat.succ.inj h)
  obtain ⟨c, js, rfl⟩ := List.exists_cons_of_length_eq_add_one (Nat.succ.inj (Nat.succ.inj h))
  obtain ⟨d, js, rfl⟩ := List.exists_cons_of_length_eq_add_one (Nat.succ.inj (Nat.succ.inj (Nat.succ.inj h)))
  obtain rfl := List.eq_nil_of_length_eq_zero (Nat.succ.inj (Nat.succ.inj (Nat.succ.inj (Nat.succ.inj h))))
  exact ⟨a, b, c, d, rfl⟩
end
section
/-- an iterator over the list l, i items taken -/
noncomputable def IterO (o : Obj) (l : Addr) (i : Nat) : Prop := o.cls = .type "list_iterator" ∧ o.data = .fields #[.ref l, .int i 0]
section
variable {prog : Program} {w : World} {A : Around} {s : Shared} {h₀ : Heap} {env : Env} {m : Str → Option Value} {news : List (Addr × Obj)} {E : Value → Shared → Prop}
/-- what a turn's end owes -/
noncomputable def TurnEnd (h₀ : Heap) (L : Addr) (s : Shared) (I : Addr) (oI : Obj) (Inv : (Str → Option Value) → List (Addr × Obj) → Prop) (R : Result → Shared → Prop) (f : Flow) (s₂ : Shared) : Prop := match f with
  | .next | .cont => ∃ h tk m₂ news₂, s₂ = { s with heap := h, toks := tk } ∧ Fr h₀ L h m₂ ∧ News h₀ L h ((I, oI) :: news₂) ∧ (∀ q ∈ news₂, q.1 ≠ I) ∧ Inv m₂ news₂
  | .brk => R (.ok .next) s₂
  | .ret v => R (.ok (.ret v)) s₂
theorem TurnEnd.goes {L : Addr} {I : Addr} {oI : Obj} {Inv : (Str → Option Value) → List (Addr × Obj) → Prop} {R : Result → Shared → Prop} {h : Heap} {tk : Nat} {m₂ : Str → Option Value} {news₂ : List (Addr × Obj)} (F : Fr h₀ L h m₂) (N : News h₀ L h ((I, oI) :: news₂)) (off : ∀ q ∈ news₂, q.1 ≠ I) (hi : Inv m₂ news₂) :
    TurnEnd h₀ L s I oI Inv R .next { s with heap := h, toks := tk } := ⟨h, tk, m₂, news₂, rfl, F, N, off, hi⟩
theorem fr_same {L I : Addr} {h h' : Heap} (F : Fr h₀ L h m) (hs : Heap.SameBut I h h') (h1 : L ≠ I) (h2 : h₀.get? I = none) : Fr h₀ L h' m := F.change hs h1.symm h2
/-- the loop's state ahead of the i-th item -/
inductive ForI (s : Shared) (h₀ : Heap) (L l : Addr) (n : Nat) (Inv : Nat → (Str → Option Value) → List (Addr × Obj) → Prop) (k : Nat) : Shared → Prop
  | mk {i : Nat} {h : Heap} {tk : Nat} {m₁ : Str → Option Value} {news₁ : List (Addr × Obj)} {oI : Obj} : k = n - i → i ≤ n → IterO oI l i → Fr h₀ L h m₁ → News h₀ L h ((s.heap.objs.size, oI) :: news₁) → (∀ q ∈ news₁, q.1 ≠ s.heap.objs.size) → Inv i m₁ news₁ → ForI s h₀ L l n Inv k { s with heap := h, toks := tk }
theorem ForI.elim {s s' : Shared} {h₀ : Heap} {L l : Addr} {n : Nat} {Inv : Nat → (Str → Option Value) → List (Addr × Obj) → Prop} {k : Nat} {P : Shared → Prop} (st : ForI s h₀ L l n Inv k s')
    (f : ∀ (i : Nat) (h : Heap) (tk : Nat) (m₁ : Str → Option Value) (news₁ : List (Addr × Obj)) (oI : Obj), k = n - i → i ≤ n → IterO oI l i → Fr h₀ L h m₁ → News h₀ L h ((s.heap.objs.size, oI) :: news₁) → (∀ q ∈ news₁, q.1 ≠ s.heap.objs.size) → Inv i m₁ news₁ → P { s with heap := h, toks := tk }) : P s' := by
  cases st with
  | mk a0 a1 a2 a3 a4 a5 a6 => exact f _ _ _ _ _ _ a0 a1 a2 a3 a4 a5 a6
theorem ForI.on {L l : Addr} {n i k : Nat} {Inv : Nat → (Str → Option Value) → List (Addr × Obj) → Prop} {oJ : Obj} {s₃ : Shared} (hk : k = n - i) (hlt : i < n) (hO : IterO oJ l (i + 1))
    (p : ∃ h tk m₂ news₂, s₃ = { s with heap := h, toks := tk } ∧ Fr h₀ L h m₂ ∧ News h₀ L h ((s.heap.objs.size, oJ) :: news₂) ∧ (∀ q ∈ news₂, q.1 ≠ s.heap.objs.size) ∧ Inv (i + 1) m₂ news₂) : ∃ k', k' < k ∧ ForI s h₀ L l n Inv k' s₃ := by
  obtain ⟨h', tk', m₂, news₂, rfl, a1, a2, a3, a4⟩ := p
  exact ⟨n - (i + 1), hk ▸ Nat.sub_lt_sub_left hlt (Nat.lt_succ_self i), .mk rfl hlt hO a1 a2 a3 a4⟩
theorem for_led {x : Str} {px : Pos} {body : List Stmt} {l : Addr} {vs : List Value} {R : Result → Shared → Prop} (Inv : Nat → (Str → Option Value) → List (Addr × Obj) → Prop)
    (hx : env.kindOf x = some .local) (hp : (env.scope.kind == .class || (env.scope.kind == .module && env.locals != env.globals)) = false) (hh : A.handled = none)
    (F : Fr h₀ env.locals s.heap m) (N : News h₀ env.locals s.heap news) (hl : ∀ i m news h, Inv i m news → Fr h₀ env.locals h m → News h₀ env.locals h news → Heap.IsList h l vs.toArray) (h0 : Inv 0 m news)
    (turn : ∀ i v m₁ news₁ h tk I oI, vs[i]? = some v → Inv i m₁ news₁ → IterO oI l (i + 1) → (∀ q ∈ news₁, @Ne Nat q.1 I) → Fr h₀ env.locals h (fun y => if y = x then some v else m₁ y) → News h₀ env.locals h ((I, oI) :: news₁) →
      wpAny (model prog w) A (execs body env) (TurnEnd h₀ env.locals s I oI (Inv (i + 1)) R) (fun _ _ => False) { s with heap := h, toks := tk })
    (done : ∀ m₁ news₁ h tk, Inv vs.length m₁ news₁ → Fr h₀ env.locals h m₁ → News h₀ env.locals h news₁ → R (.ok .next) { s with heap := h, toks := tk }) :
    wpAny (model prog w) A (pyIter (.ref l)) (fun it s₂ => codeAny (model prog w) A (.forLoop (.Name x px) it body [] env) R s₂) E s := by
  have hL0 := hl _ _ _ _ h0 F N
  refine wpAny_pyIter_list hL0 ?_
  have hLs : env.locals < s.heap.objs.size := F.ns.lt
  refine codeAny_forLoop (ForI s h₀ env.locals l vs.length Inv) ?_ vs.length
    (.mk (i := 0) rfl (Nat.zero_le _) ⟨rfl, rfl⟩ (F.push _) (N.push F _) (fun q hq => Nat.ne_of_lt (Heap.lt_size (N q hq).1)) h0)
  intro k s' st
  refine st.elim fun i h tk m₁ news₁ oI hk hi hO F₁ N₁ off hI => ?_
  have zI := N₁ _ (.head _)
  have N₁' := Mine.News.drop1 N₁
  have hL1 : Heap.IsList h l vs.toArray := hl _ _ _ _ hI F₁ N₁'
  have hit : Heap.IsListIter h s.heap.objs.size l i := ⟨oI, zI.1, hO.1, hO.2⟩
  by_cases hlt : i < vs.length
  · refine wpAny_pyNext_list_item hit hL1 (x := vs[i]) (by simp [hlt]) fun h₂ hit₂ hs₂ => ?_
    obtain ⟨oJ, hoJ, hc, hd⟩ := hit₂
    have F₂ := F₁.change hs₂ zI.2.1 zI.2.2
    refine wpAny_assign_Name (wpAny_storeName_local hx F₂.ns (fun h₃ hn₃ hs₃ => ?_) hp)
    have F₃ := F₂.set hn₃ hs₃
    have N₂ : News h₀ env.locals h₂ ((s.heap.objs.size, oJ) :: news₁) := each_cons ⟨hoJ, zI.2⟩ fun q hq => ⟨hs₂.extBut _ _ (off q hq) (N₁' q hq).1, (N₁' q hq).2⟩
    have N₃ : News h₀ env.locals h₃ ((s.heap.objs.size, oJ) :: news₁) := fun q hq => ⟨hs₃.extBut _ _ (N₂ q hq).2.1 (N₂ q hq).1, (N₂ q hq).2⟩
    refine wpAny_mono (turn i vs[i] m₁ news₁ h₃ _ _ oJ (by simp [hlt]) hI ⟨hc, hd⟩ off F₃ N₃) (fun f s₃ p => ?_) fun _ _ x => x.elim
    cases f with
    | next => exact ForI.on hk hlt ⟨hc, hd⟩ p
    | cont => exact ForI.on hk hlt ⟨hc, hd⟩ p
    | brk => exact p
    | ret v => exact p
  · obtain rfl : i = vs.length := Nat.le_antisymm hi (Nat.not_lt.mp hlt)
    refine wpAny_pyNext_list_end hh hit hL1 (by simp) fun h₂ hx₂ => ?_
    refine wpAny_execs_nil (done m₁ news₁ h₂ _ hI ⟨F₁.ns.extBut hx₂ zI.2.1.symm, fun b o e => hx₂ b o (fun q => by rw [q, zI.2.2] at e; cases e) (F₁.keep b o e), F₁.above⟩ fun q hq => ⟨hx₂ _ _ (off q hq) (N₁' q hq).1, (N₁' q hq).2⟩)
/-- the same, the items pairs -/
theorem for_led2 {xi xc : Str} {pk pv pt : Pos} {x1 : Nat} {body : List Stmt} {l : Addr} {vs : List Value} {R : Result → Shared → Prop} (Inv : Nat → (Str → Option Value) → List (Addr × Obj) → Prop)
    (hxi : env.kindOf xi = some .local) (hxc : env.kindOf xc = some .local) (hp : (env.scope.kind == .class || (env.scope.kind == .module && env.locals != env.globals)) = false) (hh : A.handled = none)
    (F : Fr h₀ env.locals s.heap m) (N : News h₀ env.locals s.heap news) (hl : ∀ i m news h, Inv i m news → Fr h₀ env.locals h m → News h₀ env.locals h news → Heap.IsList h l vs.toArray) (h0 : Inv 0 m news)
    (hv : ∀ i v m news, vs[i]? = some v → Inv i m news → ∃ T v0 v1, v = .ref T ∧ (T, tup2 v0 v1) ∈ news)
    (turn : ∀ i T v0 v1 m₁ news₁ h tk I oI, vs[i]? = some (.ref T) → (T, tup2 v0 v1) ∈ news₁ → Inv i m₁ news₁ → IterO oI l (i + 1) → (∀ q ∈ news₁, @Ne Nat q.1 I) → Fr h₀ env.locals h (fun y => if y = xc then some v1 else if y = xi then some v0 else m₁ y) → News h₀ env.locals h ((I, oI) :: news₁) →
      wpAny (model prog w) A (execs body env) (TurnEnd h₀ env.locals s I oI (Inv (i + 1)) R) (fun _ _ => False) { s with heap := h, toks := tk })
    (done : ∀ m₁ news₁ h tk, Inv vs.length m₁ news₁ → Fr h₀ env.locals h m₁ → News h₀ env.locals h news₁ → R (.ok .next) { s with heap := h, toks := tk }) :
    wpAny (model prog w) A (pyIter (.ref l)) (fun it s₂ => codeAny (model prog w) A (.forLoop (.Tuple [.Name xi pk, .Name xc pv] x1 pt) it body [] env) R s₂) E s := by
  have hL0 := hl _ _ _ _ h0 F N
  refine wpAny_pyIter_list hL0 ?_
  have hLs : env.locals < s.heap.objs.size := F.ns.lt
  refine codeAny_forLoop_any (ForI s h₀ env.locals l vs.length Inv) ?_ vs.length
    (.mk (i := 0) rfl (Nat.zero_le _) ⟨rfl, rfl⟩ (F.push _) (N.push F _) (fun q hq => Nat.ne_of_lt (Heap.lt_size (N q hq).1)) h0)
  intro k s' st
  refine st.elim fun i h tk m₁ news₁ oI hk hi hO F₁ N₁ off hI => ?_
  have zI := N₁ _ (.head _)
  have N₁' := Mine.News.drop1 N₁
  have hL1 : Heap.IsList h l vs.toArray := hl _ _ _ _ hI F₁ N₁'
  have hit : Heap.IsListIter h s.heap.objs.size l i := ⟨oI, zI.1, hO.1, hO.2⟩
  by_cases hlt : i < vs.length
  · have hvi : vs[i]? = some vs[i] := by simp [hlt]
    obtain ⟨T, v0, v1, eT, hT⟩ := hv i vs[i] m₁ news₁ hvi hI
    refine wpAny_pyNext_list_item hit hL1 (x := vs[i]) (by simp [hlt]) fun h₂ hit₂ hs₂ => ?_
    rw [eT] at hvi ⊢
    refine wpAny_letOwnedTupleGo_listiter hit₂ ?_
    obtain ⟨oJ, hoJ, hc, hd⟩ := hit₂
    have F₂ := F₁.change hs₂ zI.2.1 zI.2.2
    have N₂ : News h₀ env.locals h₂ ((s.heap.objs.size, oJ) :: news₁) := each_cons ⟨hoJ, zI.2⟩ fun q hq => ⟨hs₂.extBut _ _ (off q hq) (N₁' q hq).1, (N₁' q hq).2⟩
    have ht₂ : h₂.IsTuple T #[v0, v1] := ⟨_, (N₂ _ (.tail _ hT)).1, rfl, _, rfl⟩
    refine wpAny_assign_Tuple hh ht₂ rfl rfl fun h₃ hx₃ => ?_
    replace hx₃ : Heap.ExtBut h₂.objs.size h₂ h₃ := hx₃
    have up₃ : ∀ b o, h₂.get? b = some o → h₃.get? b = some o := fun b o x => hx₃ b o (Nat.ne_of_lt (Heap.lt_size x)) x
    have F₃ : Fr h₀ env.locals h₃ m₁ := F₂.keeps up₃
    have N₃ : News h₀ env.locals h₃ ((s.heap.objs.size, oJ) :: news₁) := fun q hq => ⟨up₃ _ _ (N₂ q hq).1, (N₂ q hq).2⟩
    show wpAny _ A (do holding [v1] (assign (.Name xi pk) env v0); do holding [] (assign (.Name xc pv) env v1); pure ()) _ _ _
    refine wpAny_bind (wpAny_holding (wpAny_assign_Name (wpAny_storeName_local hxi F₃.ns (fun h₄ hn₄ hs₄ => ?_) hp)))
    have F₄ := F₃.set hn₄ hs₄
    refine wpAny_bind (wpAny_holding (wpAny_assign_Name (wpAny_storeName_local hxc F₄.ns (fun h₅ hn₅ hs₅ => wpAny_pure ?_) hp)))
    have F₅ := F₄.set hn₅ hs₅
    have N₅ : News h₀ env.locals h₅ ((s.heap.objs.size, oJ) :: news₁) := fun q hq => ⟨hs₅.extBut _ _ (N₃ q hq).2.1 (hs₄.extBut _ _ (N₃ q hq).2.1 (N₃ q hq).1), (N₃ q hq).2⟩
    refine wpAny_mono (turn i T v0 v1 m₁ news₁ h₅ _ _ oJ hvi hT hI ⟨hc, hd⟩ off F₅ N₅) (fun f s₃ p => ?_) fun _ _ x => x.elim
    cases f with
    | next => exact ForI.on hk hlt ⟨hc, hd⟩ p
    | cont => exact ForI.on hk hlt ⟨hc, hd⟩ p
    | brk => exact p
    | ret v => exact p
  · obtain rfl : i = vs.length := Nat.le_antisymm hi (Nat.not_lt.mp hlt)
    refine wpAny_pyNext_list_end hh hit hL1 (by simp) fun h₂ hx₂ => ?_
    refine wpAny_execs_nil (done m₁ news₁ h₂ _ hI ⟨F₁.ns.extBut hx₂ zI.2.1.symm, fun b o e => hx₂ b o (fun q => by rw [q, zI.2.2] at e; cases e) (F₁.keep b o e), F₁.above⟩ fun q hq => ⟨hx₂ _ _ (off q hq) (N₁' q hq).1, (N₁' q hq).2⟩)
end
end
section
theorem resetMarks : (0 : Nat) = 0 := by
  w_top off
  k_with_none
  (k_with "w my pick" => (with_reducible first | assumption | exact lo1 | exact lo2 | exact lo3 | exact lo4 | exact ls1 (by assumption) | exact ls2 (by assumption) | exact ls3 (by assumption) | exact pk0 (by assumption) | exact pk1 (by assumption) | exact pk2 (by assumption) | exact pk3 (by assumption) | exact pk4 (by assumption) | exact pk5 (by assumption) | exact pk6 (by assumption) | exact pk7 (by assumption) | exact pk8 (by assumption) | exact pk9 (by assumption) | exact pk10 (by assumption) | exact pk11 (by assumption) | exact pk12 (by assumption) | exact pk13 (by assumption) | exact pk14 (by assumption) | exact pk15 (by assumption) | exact pk16 (by assumption) | exact pk17 (by assumption) | exact qk1 (by assumption) | exact qk2 (by assumption) | exact qk3 (by assumption) | exact qk4 (by assumption) | exact qk5 (by assumption) | exact qk6 (by assumption) | exact qk7 (by assumption) | exact qk8 (by assumption) | exact qk9 (by assumption) | exact qk10 (by assumption) | exact qk11 (by assumption) | exact qk12 (by assumption) | exact qk13 (by assumption) | exact qk14 (by assumption) | exact qk15 (by assumption) | exact qk16 (by assumption) | exact qk17 (by assumption)))
  (k_with "w my sml" => (with_reducible first | (refine Nat.ne_of_lt ?_; k_extra "w my pick") | (refine Nat.ne_of_gt ?_; k_extra "w my pick") | (refine Ne.symm ?_; k_extra "w my pick") | (refine id ?_; k_extra "w my pick") | (refine Nat.le_of_lt ?_; k_extra "w my pick") | exact lrefl | exact lzero | exact one_le | exact room0 (by assumption) | exact room (by assumption) (by decide) | exact room1 (by assumption) (by decide) | exact room2 (by assumption) (by decide) | exact room3 (by assumption) (by decide) | exact le_le (by assumption) (by decide) | exact le_sc (by assumption) | (refine above1' ?_ (by assumption); k_extra "w my pick") | (refine above2' ?_ (by assumption); k_extra "w my pick")))
  (k_with "w my om" => (first | k_extra "w my sml" | lia | omega))
  rfl
theorem rgMarksx1 : (0 : Nat) = 0 := by
  (k_with "w my k_room" => ((try simp only [depth_under_make, depth_under_kw, depth_in1, depth_deeper]); (show _ < 1000); (try dsimp only); omega))
  (k_with "w my units_room" => ((try simp only [units_in1, units_deeper, Around.mark_units]); (show _ < 9900); (try dsimp only); omega))
  (k_with "w my small" => (first
  | (refine Sm.int ?_; (try simp only [Int.fmod_eq_emod_of_nonneg, Int.fdiv_eq_ediv_of_nonneg, Int.reduceLE]); omega)
  | (apply Sm.slice; k_extra "w my small")
  | (apply Sm.add <;> k_extra "w my small")
  | (apply Sm.ite <;> k_extra "w my small")
  | assumption
  | exact Sm.refl _))
  (k_with "w subscriptTail Name Slice str ref" => ((with_reducible show wpAny _ _ (subscriptTail _ (Expr.Slice (some _) none none _) (Value.str _ _) (Value.ref _)) _ _ _); dsimp only; (with_reducible rename Fr _ _ _ _ => F'); (with_reducible rename News _ _ _ _ => N'); (refine' slice_strN_sn (hsz := by (apply Sm.size <;> first | k_extra "w my small" | decide)) (s := ⟨_, _, _, _, _⟩) F' N' ?_); intro _ _ _ _ _))
  (k_with "w binaryOp Add str str" => ((with_reducible show wpAny _ _ (binaryOp Operator.Add (Value.str _ _) (Value.str _ _)) _ _ _); (refine' PyProof.Rows.add_str ?_ (by (apply Sm.size2 <;> first | k_extra "w my small" | decide))); intro _ _))
  (k_with "w ite" => ((with_reducible refine ite_strs ?_); intro _))
  rfl
noncomputable abbrev markQual : Str := Str.ofString "_law_marks" ++ ".<locals>." ++ Str.ofString "<lambda>"
noncomputable abbrev markTab (c : Addr) : Obj := tabObj #[rawInt 177, rawInt 37, .ref c]
noncomputable def MarkInv (x : Nat → Int) (vs : List Value) (l : Addr) (i : Nat) (m : Str → Option Value) (news : List (Addr × Obj)) : Prop :=
  ∃ (M : Addr) (rest : Str → Option Value) (ws : List Value) (js : List Nat) (n : Nat), m = (fun y => if y = Str.ofString "marks" then some (.ref M) else rest y) ∧ @LT.lt Nat _ 160 M ∧ All2 (fun v j => vs[j]? = some v) ws js ∧ LRow x i js ∧
    ((i = 0 ∧ news = [(M, listOf ws.toArray n), (160, tabObj #[])]) ∨ ∃ c oc vc t, news = [(c, oc), (M, listOf ws.toArray n), (160, markTab c)] ∧ @LT.lt Nat _ M c ∧ oc.data = .fields vc ∧ vc[1]? = some (.str markQual t))
theorem MarkInv.first {x : Nat → Int} {vs : List Value} {l M : Addr} {m : Str → Option Value} (h : m (Str.ofString "marks") = some (.ref M)) (hM : @LT.lt Nat _ 160 M) : MarkInv x vs l 0 m [(M, listOf ([] : List Value).toArray 0), (160, tabObj #[])] :=
  ⟨M, m, [], [], 0, funext fun z => by by_cases e : z = Str.ofString "marks"; · subst e; rw [if_pos rfl]; exact h
                                       · rw [if_neg e], hM, .nil, LRow.nil x, .inl ⟨rfl, rfl⟩⟩
theorem MarkInv.next {x : Nat → Int} {vs : List Value} {l M c : Addr} {m : Str → Option Value} {ws : List Value} {js : List Nat} {n i : Nat} {oc : Obj} {vc : Array Value} {t : Tok} (h : m (Str.ofString "marks") = some (.ref M)) (hM : @LT.lt Nat _ 160 M) (hw : All2 (fun v j => vs[j]? = some v) ws js) (hr : LRow x i js) (hc : @LT.lt Nat _ M c) (h1 : oc.data = .fields vc) (h2 : vc[1]? = some (.str markQual t)) :
    MarkInv x vs l i m [(c, oc), (M, listOf ws.toArray n), (160, markTab c)] :=
  ⟨M, m, ws, js, n, funext fun z => by by_cases e : z = Str.ofString "marks"; · subst e; rw [if_pos rfl]; exact h
                                       · rw [if_neg e], hM, hw, hr, .inr ⟨c, oc, vc, t, rfl, hc, h1, h2⟩⟩
theorem all2_len {α : Type} {R : Value → α → Prop} {vs : List Value} {as : List α} (h : All2 R vs as) : vs.length = as.length := by induction h with | nil => rfl | cons _ _ ih => simp [ih]
theorem all2_app {α : Type} {R : Value → α → Prop} {vs ws : List Value} {as bs : List α} (h : All2 R vs as) (g : All2 R ws bs) : All2 R (vs ++ ws) (as ++ bs) := by induction h with | nil => exact g | cons a _ ih => exact .cons a ih
theorem all2_take {α : Type} {R : Value → α → Prop} {vs : List Value} {as : List α} (h : All2 R vs as) : ∀ k, All2 R (vs.take k) (as.take k) := by
  induction h with
  | nil => intro k; simpa using All2.nil
  | cons a _ ih => intro k; cases k with | zero => exact .nil | succ k => exact .cons a (ih k)
theorem all2_drop {α : Type} {R : Value → α → Prop} {vs : List Value} {as : List α} (h : All2 R vs as) : ∀ k, All2 R (vs.drop k) (as.drop k) := by
  induction h with
  | nil => intro k; simpa using All2.nil
  | cons a h ih => intro k; cases k with | zero => exact .cons a h | succ k => exact ih k
theorem all2_ins {α : Type} {R : Value → α → Prop} {vs : List Value} {as : List α} (h : All2 R vs as) {v : Value} {a : α} (ha : R v a) (k : Nat) : All2 R (vs.take k ++ v :: vs.drop k) (as.take k ++ a :: as.drop k) := all2_app (all2_take h k) (.cons ha (all2_drop h k))
theorem all2_get {α : Type} {R : Value → α → Prop} {vs : List Value} {as : List α} (h : All2 R vs as) : ∀ {i : Nat} {v : Value}, vs[i]? = some v → ∃ a, as[i]? = some a ∧ R v a := by
  induction h with
  | nil => intro i v e; simp at e
  | cons a _ ih =>
    intro i v e
    cases i with
    | zero =>
      obtain rfl := Option.some.inj (show some _ = some v from e)
      exact ⟨_, rfl, a⟩
    | succ i => obtain ⟨b, e1, e2⟩ := ih (i := i) (v := v) (by simpa using e); exact ⟨b, by simpa using e1, e2⟩
/-- the marks' keys -/
theorem mark_keys {w : World} {h : Heap} {f : Addr} {x : Nat → Int} {vs ws : List Value} {js : List Nat} (K : ∀ j v, vs[j]? = some v → KeyOk w h f v (x j)) (hw : All2 (fun v j => vs[j]? = some v) ws js) : ∀ k v, ws[k]? = some v → KeyOk w h f v ((js.map x).getD k 0) := by
  intro k v e
  obtain ⟨j, e1, e2⟩ := all2_get hw e
  have : (js.map x).getD k 0 = x j := by simp [List.getD, e1]
  rw [this]; exact K j v e2
theorem mark_end {x : Nat → Int} {vs : List Value} {l M c I : Addr} {m : Str → Option Value} {ws : List Value} {js : List Nat} {n i : Nat} {oc oI : Obj} {vc : Array Value} {t : Tok} {g h : Heap} {L : Addr} {s : Shared} {tk : Nat} {R : Result → Shared → Prop} {led : List (Addr × Obj)}
    (F : Fr g L h m) (N : News g L h led) (hI : (I, oI) ∈ led) (mc : (c, oc) ∈ led) (mM : (M, listOf ws.toArray n) ∈ led) (mT : (160, markTab c) ∈ led) (o1 : @Ne Nat c I) (o2 : @Ne Nat M I) (o3 : @Ne Nat 160 I)
    (hm : m (Str.ofString "marks") = some (.ref M)) (hM : @LT.lt Nat _ 160 M) (hw : All2 (fun v j => vs[j]? = some v) ws js) (hr : LRow x i js) (hc : @LT.lt Nat _ M c) (h1 : oc.data = .fields vc) (h2 : vc[1]? = some (.str markQual t)) :
    TurnEnd g L s I oI (MarkInv x vs l i) R .next { s with heap := h, toks := tk } := by
  refine TurnEnd.goes F (fun q hq => N q ?_) ?_ (MarkInv.next (n := n) hm hM hw hr hc h1 h2)
  · simp only [List.mem_cons, List.not_mem_nil, or_false] at hq
    rcases hq with rfl | rfl | rfl | rfl <;> assumption
  · intro q hq
    simp only [List.mem_cons, List.not_mem_nil, or_false] at hq
    rcases hq with rfl | rfl | rfl <;> assumption
theorem rgMarksx2 : (0 : Nat) = 0 := by
  (k_with "w pyIter ref" => (refine stop_here ?_))
  (k_with "w exec For Name Name cons nil" => (refine stop_here ?_))
  (k_with "w TurnEnd" => (refine stop_here ?_))
  (k_with "w call ref" => ((with_reducible show wpAny _ _ (call (Value.ref 71) _ _) _ _ _); refine stop_here ?_))
  rfl
set_option maxHeartbeats 8000000 in
theorem marks_spec {w : World} {A : Around} {s : Shared} {G base : Heap} {outer : List Env} {p : Program} {loose : List Str} {mean : ExcName → Option Value} {mg mb : Str → Option Value}
    (hS : Setup 20 w A base outer p loose mean mg mb G) (hG : ∀ b o, G.get? b = some o → s.heap.get? b = some o) {l : Addr} {vs : List Value} {x : Nat → Int} (hP : s.heap.get? 160 = some (tabObj #[])) (hPG : G.get? 160 = none) (hl : s.heap.IsList l vs.toArray) (hz : vs.length ≤ 8)
    (hv : ∀ i v, vs[i]? = some v → ∃ P y u, v = .ref P ∧ IsTup s.heap P [.int (x i) u, y].toArray) :
    CallsTo w A (.ref 165) [.ref l] [] s [160] (fun v h' => ∃ a n ws js, v = .ref a ∧ s.heap.get? a = none ∧ h'.get? a = some (listOf ws.toArray n) ∧ All2 (fun v j => vs[j]? = some v) ws js ∧ LRow x vs.length js ∧ ∃ ps, h'.get? 160 = some (tabObj ps)) := by
  intro R hret
  (rename Setup _ _ _ _ _ _ _ _ _ _ _ => hSu)
  apply Setup.open hSu
  clear hSu
  intro dpt grs uni X T B hdp hun
  refine' enterH (news := [(160, tabObj #[])]) ?k1 ?k2 ?kb ?k3 ?kN ?k6 ?k7 ?k8 ?k9 ?kB ?_ ?c2 ?c3 ?c4 ?c5
  case kN => exact fun q hq => by rw [List.mem_singleton.mp hq]; exact ⟨hP, hPG⟩
  (case k1 => assumption)
  (case k2 => assumption)
  (case kb => assumption)
  (case k3 => assumption)
  (case k6 => k_dflt k_is)
  (case k7 => k_dflt k_is)
  (case k8 => (show _ < 1000; dsimp only; omega))
  (case k9 => exact BindsTo.of_eq rfl)
  (case kB => exact locs rfl)
  (case c5 => decide)
  (case c2 => exact rfl)
  (case c3 => exact rfl)
  (case c4 => exact rfl)
  intro g L' h₁ hg hg' hL' X' T' B' F' N' hl'
  have hCd : CodeHd g 164 160 := codeHd_of_K X' (by kernel_rfl)
  have hl1 : g.IsList l vs.toArray := by
    obtain ⟨o, ho, hc, n, hd⟩ := hl
    refine ⟨o, hg _ _ ho fun q => ?_, hc, n, hd⟩
    have e : l = 160 := by simpa using q
    rw [e, hP] at ho
    cases ho
    cases hc
  have hv1 : ∀ i v, vs[i]? = some v → ∃ P y u, v = .ref P ∧ IsTup g P [.int (x i) u, y].toArray := fun i v e => by
    obtain ⟨P, y, u, rfl, o, ho, hc, r⟩ := hv i v e
    refine ⟨P, y, u, rfl, o, hg _ _ ho fun q => ?_, hc, r⟩
    have e : P = 160 := by simpa using q
    rw [e, hP] at ho
    cases ho
    cases hc
  k_lt hl'
  (try dsimp only)
  (try k_fold)
  k_steps
  unfold Stop
  refine wpAny_For ?_
  k_steps
  unfold Stop
  (rename Fr _ _ _ _ => F); (rename News _ _ _ _ => N)
  refine for_led (vs := vs) (MarkInv x vs l) rfl rfl rfl F N (fun _ _ _ _ _ F _ => keeps_list hl1 F.keep) (MarkInv.first rfl (by assumption)) ?turn ?done
  case done =>
    clear F N
    rintro _ _ h tk ⟨M, rest, ws, js, n, rfl, hM, hw, hr, hn⟩ F N
    dsimp only
    k_steps
    dsimp only
    have hM3 : ∃ ps, h.get? 160 = some (tabObj ps) := by
      rcases hn with ⟨_, rfl⟩ | ⟨c, oc, vc, t, rfl, _⟩
      · exact ⟨_, (N _ (.tail _ (.head _))).1⟩
      · exact ⟨_, (N _ (.tail _ (.tail _ (.head _)))).1⟩
    have hM2 : h.get? M = some (listOf ws.toArray n) ∧ g.get? M = none := by
      rcases hn with ⟨_, rfl⟩ | ⟨c, oc, vc, t, rfl, _⟩
      · exact ⟨(N _ (.head _)).1, (N _ (.head _)).2.2⟩
      · exact ⟨(N _ (.tail _ (.head _))).1, (N _ (.tail _ (.head _))).2.2⟩
    refine hret _ _ _ (touch_led (S := [160]) hg hL' F (fun q hq => by rw [List.mem_singleton.mp hq]; exact hP) N (fun q hq => .inl (by rw [List.mem_singleton.mp hq]; exact .head _))) ⟨M, n, ws, js, rfl, ?_, hM2.1, hw, hr, hM3⟩
    cases e : s.heap.get? M with
    | none => rfl
    | some o =>
      have := hg _ _ e (by simp; exact Nat.ne_of_gt hM)
      rw [hM2.2] at this; cases this
  case turn =>
    clear F N
    rintro i v m₁ news₁ h tk I oI hvi ⟨M, rest, ws, js, n, rfl, hM, hw, hr, hn⟩ hO off F N
    have hil : i < vs.length := (List.getElem?_eq_some_iff.mp hvi).1
    rcases hn with ⟨rfl, rfl⟩ | ⟨c, oc, vc, tq, rfl, hMc, hc1, hc2⟩
    · have o0 := off _ (.head _); have o1 := off _ (.tail _ (.head _)); dsimp only at o0 o1
      k_steps
      unfold Stop
      (rename Fr _ _ _ _ => F); (rename News _ _ _ _ => N)
      dsimp only [List.filterMap, backToKw, keywordEach, List.map, List.zip, List.zipWith]
      have hK : ∀ j v, vs[j]? = some v → KeyOk w _ _ v (x j) := fun j v e => by
        obtain ⟨P, y, u, rfl, hT⟩ := hv1 j v e
        exact key_mark (N.get (.head _)) ⟨_, _, _, _, rfl, N.get (.tail _ (.head _)), by assumption, by assumption⟩ (hT.keeps F.keep)
      refine use (insl_key (vs := ws) (ns := js.map x) (Setup.down0 (n := 10) (A := ⟨none, _, some outer, _, _⟩) ⟨X', T', B', rfl, by dsimp only; k_extra "w my om", by dsimp only; k_extra "w my om"⟩ F N rfl rfl) (fun b o e => of_hideAll _ e) (N.get (.tail _ (.tail _ (.tail _ (.head _))))) (hideAll_none _ (List.mem_map_of_mem (.tail _ (.tail _ (.tail _ (.head _)))))) (by rw [List.length_map]; exact all2_len hw) (by rw [List.length_map, hr.length]; k_extra "w my om") hr.sorted
        ⟨_, _, N.get (.head _), rfl⟩ (mark_keys hK hw) (hK 0 _ hvi)) F N (by first | exact each_nil | (refine each_cons ?_ each_nil; repeat (first | exact .head _ | refine .tail _ ?_)) | (refine each_cons ?_ (each_cons ?_ each_nil) <;> repeat (first | exact .head _ | refine .tail _ ?_)) | simp) ?_
      rintro _ h2 tk2 F2 _ ht2 ⟨rfl, k0, hc0, he0⟩
      have N2 := News.upd N (by k_upd) ht2 he0
      rw [List.length_map] at hc0
      have hw2 := all2_ins hw hvi k0
      have hr2 := hr.ins hc0
      dsimp only at F2 N2 ⊢
      clear F N
      k_steps
      unfold Stop
      (rename Fr _ _ _ _ => F); (rename News _ _ _ _ => N)
      refine mark_end F N (.tail _ (.tail _ (.head _))) (.tail _ (.head _)) (.tail _ (.tail _ (.tail _ (.head _)))) (.tail _ (.tail _ (.tail _ (.tail _ (.head _))))) ?_ ?_ ?_ rfl hM hw2 hr2 ?_ (by assumption) (by assumption) <;> k_extra "w my om"
    · have o0 := off _ (.head _); have o1 := off _ (.tail _ (.head _)); have o2 := off _ (.tail _ (.tail _ (.head _))); dsimp only at o0 o1 o2
      k_steps
      unfold Stop
      (rename Fr _ _ _ _ => F); (rename News _ _ _ _ => N)
      dsimp only [List.filterMap, backToKw, keywordEach, List.map, List.zip, List.zipWith]
      have hK : ∀ j v, vs[j]? = some v → KeyOk w _ _ v (x j) := fun j v e => by
        obtain ⟨P, y, u, rfl, hT⟩ := hv1 j v e
        exact key_mark (N.get (.head _)) ⟨_, _, _, _, rfl, N.get (.tail _ (.tail _ (.head _))), by assumption, by assumption⟩ (hT.keeps F.keep)
      refine use (insl_key (vs := ws) (ns := js.map x) (Setup.down0 (n := 10) (A := ⟨none, _, some outer, _, _⟩) ⟨X', T', B', rfl, by dsimp only; k_extra "w my om", by dsimp only; k_extra "w my om"⟩ F N rfl rfl) (fun b o e => of_hideAll _ e) (N.get (.tail _ (.tail _ (.tail _ (.head _))))) (hideAll_none _ (List.mem_map_of_mem (.tail _ (.tail _ (.tail _ (.head _)))))) (by rw [List.length_map]; exact all2_len hw) (by rw [List.length_map, hr.length]; k_extra "w my om") hr.sorted
        ⟨_, _, N.get (.head _), rfl⟩ (mark_keys hK hw) (hK i _ hvi)) F N (by first | exact each_nil | (refine each_cons ?_ each_nil; repeat (first | exact .head _ | refine .tail _ ?_)) | (refine each_cons ?_ (each_cons ?_ each_nil) <;> repeat (first | exact .head _ | refine .tail _ ?_)) | simp) ?_
      rintro _ h2 tk2 F2 _ ht2 ⟨rfl, k0, hc0, he0⟩
      have N2 := News.upd N (by k_upd) ht2 he0
      rw [List.length_map] at hc0
      have hw2 := all2_ins hw hvi k0
      have hr2 := hr.ins hc0
      dsimp only at F2 N2 ⊢
      clear F N
      k_steps
      unfold Stop
      (rename Fr _ _ _ _ => F); (rename News _ _ _ _ => N)
      refine mark_end F N (.tail _ (.head _)) (.tail _ (.tail _ (.head _))) (.tail _ (.tail _ (.tail _ (.head _)))) (.tail _ (.tail _ (.tail _ (.tail _ (.head _))))) ?_ ?_ ?_ rfl hM hw2 hr2 ?_ (by assumption) (by assumption) <;> k_extra "w my om"
end
section
theorem resetLex : (0 : Nat) = 0 := by
  w_top off
  k_with_none
  (k_with "w my pick" => (with_reducible first | assumption | exact lo1 | exact lo2 | exact lo3 | exact lo4 | exact ls1 (by assumption) | exact ls2 (by assumption) | exact ls3 (by assumption) | exact pk0 (by assumption) | exact pk1 (by assumption) | exact pk2 (by assumption) | exact pk3 (by assumption) | exact pk4 (by assumption) | exact pk5 (by assumption) | exact pk6 (by assumption) | exact pk7 (by assumption) | exact pk8 (by assumption) | exact pk9 (by assumption) | exact pk10 (by assumption) | exact pk11 (by assumption) | exact pk12 (by assumption) | exact pk13 (by assumption) | exact pk14 (by assumption) | exact pk15 (by assumption) | exact pk16 (by assumption) | exact pk17 (by assumption) | exact qk1 (by assumption) | exact qk2 (by assumption) | exact qk3 (by assumption) | exact qk4 (by assumption) | exact qk5 (by assumption) | exact qk6 (by assumption) | exact qk7 (by assumption) | exact qk8 (by assumption) | exact qk9 (by assumption) | exact qk10 (by assumption) | exact qk11 (by assumption) | exact qk12 (by assumption) | exact qk13 (by assumption) | exact qk14 (by assumption) | exact qk15 (by assumption) | exact qk16 (by assumption) | exact qk17 (by assumption)))
  (k_with "w my sml" => (with_reducible first | (refine Nat.ne_of_lt ?_; k_extra "w my pick") | (refine Nat.ne_of_gt ?_; k_extra "w my pick") | (refine Ne.symm ?_; k_extra "w my pick") | (refine id ?_; k_extra "w my pick") | (refine Nat.le_of_lt ?_; k_extra "w my pick") | exact lrefl | exact lzero | exact one_le | exact room0 (by assumption) | exact room (by assumption) (by decide) | exact room1 (by assumption) (by decide) | exact room2 (by assumption) (by decide) | exact room3 (by assumption) (by decide) | exact le_le (by assumption) (by decide) | exact le_sc (by assumption) | (refine above1' ?_ (by assumption); k_extra "w my pick") | (refine above2' ?_ (by assumption); k_extra "w my pick")))
  (k_with "w my om" => (first | k_extra "w my sml" | lia | omega))
  rfl
theorem rgLexx1 : (0 : Nat) = 0 := by
  (k_with "w my k_room" => ((try simp only [depth_under_make, depth_under_kw, depth_in1, depth_deeper]); (show _ < 1000); (try dsimp only); omega))
  (k_with "w my units_room" => ((try simp only [units_in1, units_deeper, Around.mark_units]); (show _ < 9900); (try dsimp only); omega))
  (k_with "w my small" => (first
  | (refine Sm.int ?_; (try simp only [Int.fmod_eq_emod_of_nonneg, Int.fdiv_eq_ediv_of_nonneg, Int.reduceLE]); omega)
  | (apply Sm.slice; k_extra "w my small")
  | (apply Sm.add <;> k_extra "w my small")
  | (apply Sm.ite <;> k_extra "w my small")
  | assumption
  | exact Sm.refl _))
  (k_with "w subscriptTail Name Slice str ref" => ((with_reducible show wpAny _ _ (subscriptTail _ (Expr.Slice (some _) none none _) (Value.str _ _) (Value.ref _)) _ _ _); dsimp only; (with_reducible rename Fr _ _ _ _ => F'); (with_reducible rename News _ _ _ _ => N'); (refine' slice_strN_sn (hsz := by (apply Sm.size <;> first | k_extra "w my small" | decide)) (s := ⟨_, _, _, _, _⟩) F' N' ?_); intro _ _ _ _ _))
  (k_with "w binaryOp Add str str" => ((with_reducible show wpAny _ _ (binaryOp Operator.Add (Value.str _ _) (Value.str _ _)) _ _ _); (refine' PyProof.Rows.add_str ?_ (by (apply Sm.size2 <;> first | k_extra "w my small" | decide))); intro _ _))
  (k_with "w ite" => ((with_reducible refine ite_strs ?_); intro _))
  rfl
inductive Signs : List Value → List Nat → Prop
  | nil : Signs [] []
  | cons {c : Nat} {t : Tok} {vs : List Value} {cs : List Nat} : Signs vs cs → Signs (.str ⟨#[c]⟩ t :: vs) (c :: cs)
theorem Signs.length {vs : List Value} {cs : List Nat} (h : Signs vs cs) : vs.length = cs.length := by induction h with | nil => rfl | cons _ ih => simp [ih]
theorem Signs.append {vs ws : List Value} {cs ds : List Nat} (h : Signs vs cs) (g : Signs ws ds) : Signs (vs ++ ws) (cs ++ ds) := by induction h with | nil => exact g | cons _ ih => exact .cons ih
theorem Signs.reverse {vs : List Value} {cs : List Nat} (h : Signs vs cs) : Signs vs.reverse cs.reverse := by
  induction h with
  | nil => exact .nil
  | cons _ ih => rw [List.reverse_cons, List.reverse_cons]; exact ih.append (.cons .nil)
theorem signs_of : ∀ {vs : List Value} {cs : List Nat}, vs.length = cs.length → (∀ (j : Nat) (v : Value), vs[j]? = some v → ∃ c u, cs[j]? = some c ∧ v = .str ⟨#[c]⟩ u) → Signs vs cs
  | [], [], _, _ => .nil
  | [], _ :: _, h, _ => by simp at h
  | _ :: _, [], h, _ => by simp at h
  | v :: vs, c :: cs, h, hp => by
    obtain ⟨c', u, e, rfl⟩ := hp 0 v rfl
    cases e
    exact .cons (signs_of (Nat.succ.inj h) fun j v hv => hp (j + 1) v hv)

section
variable {prog : Program} {w : World} {A : Around} {E : Value → Shared → Prop} {s : Shared} {h₀ : Heap} {L : Addr} {m : Str → Option Value} {news : List (Addr × Obj)}
theorem list_str_N {x : Str} {t : Tok} {Q : Value → Shared → Prop} (hh : A.handled = none) (F : Fr h₀ L s.heap m) (N : News h₀ L s.heap news) (hn : x.cps.size ≤ sizeLine)
    (k : ∀ D h' tk vs n, Fr h₀ L h' m → News h₀ L h' ((D, listOf vs.toArray n) :: news) → Signs vs x.cps.toList → (∀ q ∈ news, q.1 < D) → Q (.ref D) { s with heap := h', toks := tk }) :
    wpAny (model prog w) A (call (.type "list") [.str x t]) Q E s := by
  refine call_list_str hh x t (fun h' tk acc c hk hS hacc => ?_) hn
  obtain ⟨xs⟩ := acc
  refine k _ h' tk xs c (F.keeps hk) (fun q hq => ?_) (signs_of (by have := hacc.1; simpa using this) fun j v hv => ?_) fun q hq => Heap.lt_size (N q hq).1
  · rcases List.mem_cons.mp hq with rfl | hq
    · exact ⟨hS, Nat.ne_of_gt F.ns.lt, Heap.get?_none_of_le (Nat.le_trans F.above (Nat.le_of_lt F.ns.lt))⟩
    · exact ⟨hk _ _ (N q hq).1, (N q hq).2⟩
  · obtain ⟨c, u, hc, rfl⟩ := hacc.2 j v (by simpa using hv)
    exact ⟨c, u, by simpa using hc, rfl⟩
theorem rev_led {its : Array Value} {l : List Value} {D : Addr} {n : Nat} {news' : List (Addr × Obj)} {Q : Value → Shared → Prop} (F : Fr h₀ L s.heap m) (N : News h₀ L s.heap news) (U : Upd D (listOf its n) (listOf l.toArray n) news news')
    (e : its.toList.reverse = l) (hz : its.toList.length ≤ sizeLine) (h : ∀ h', Fr h₀ L h' m → News h₀ L h' news' → Q .none { s with heap := h' }) : wpAny (model prog w) A (call (.builtin "list.reverse") [.ref D]) Q E s := kl_reverse F N e U hz h
end
theorem rgLexx2 : (0 : Nat) = 0 := by
  (k_with "w call type:list" => (k_here; (with_reducible show wpAny _ _ (call (Value.type "list") [Value.str _ _]) _ _ _); (refine' list_str_N (by rfl) (by k_asm) (by k_asm) (by assumption) ?_); intro D' h' tk' vs' n' F' N' hSg l1; (try k_lt l1)))
  (k_with "w call builtin:list.reverse" => (k_here; (with_reducible show wpAny _ _ (call (Value.builtin _) [Value.ref _]) _ _ _); (refine' rev_led (by k_asm) (by k_asm) (by k_upd) (by rfl) (by simp only [List.toList_toArray]; rw [Signs.length (by assumption)]; (try simp only [Array.length_toList]); assumption) ?_); intro h' F' N'; (try dsimp only at N'); (try k_sweep)))
  rfl
/-- where a lexer's parts lie -/
structure LexA where
  x : Addr
  d : Addr
  l : Addr
  x2 : Addr
  d2 : Addr
  l2 : Addr
  f : Addr
  c : Addr
  D : Addr
  e : Addr
  pm : Value
  ct : Value
  oc : Obj
  oe : Obj
  t1 : Tok
  t2 : Tok
  t3 : Tok
  t4 : Tok
  t5 : Tok
  u1 : Tok
  u2 : Tok
  u3 : Tok
  u4 : Tok
  u5 : Tok
  u6 : Tok
  u7 : Tok

noncomputable abbrev lexQual : Str := Str.ofString "_law_lexer" ++ ".<locals>." ++ Str.ofString "<lambda>"
noncomputable abbrev lexFn (a : LexA) : Obj := kla_obj (Str.ofString "<lambda>") lexQual
  { posonlyargs := [], args := [{ arg := Str.ofString "size", annotation := none, pos := { line := 147, col := 25, endLine := 147, endCol := 29 } }], vararg := none, kwonlyargs := [], kw_defaults := [], kwarg := none, defaults := [] }
  ((Expr.Name (Str.ofString "left") { line := 147, col := 45, endLine := 147, endCol := 49 }).IfExp
    (((Expr.Name (Str.ofString "left") { line := 147, col := 31, endLine := 147, endCol := 35 }).Attribute (Str.ofString "pop") { line := 147, col := 31, endLine := 147, endCol := 39 }).Call [] [] { line := 147, col := 31, endLine := 147, endCol := 41 })
    (Expr.Constant (Const.str (Str.ofString "")) 0 { line := 147, col := 55, endLine := 147, endCol := 57 }) { line := 147, col := 31, endLine := 147, endCol := 57 })
  { kind := ScopeKind.function, names := [(Str.ofString "size", NameKind.local), (Str.ofString "left", NameKind.free)], isGenerator := false, isCoroutine := false }
  [(Str.ofString "left", a.e)] a.pm a.c a.ct
noncomputable abbrev lexDict (P : Params) (a : LexA) (no : Int) (tn : Tok) : Obj := dictOf [
  { hash := PyData.keyHash P (Str.ofString "lineno"), key := Value.str (Str.ofString "lineno") a.t1, val := Value.int no tn },
  { hash := PyData.keyHash P (Str.ofString "instream"), key := Value.str (Str.ofString "instream") a.t2, val := Value.ref a.x2 },
  { hash := PyData.keyHash P (Str.ofString "whitespace"), key := Value.str (Str.ofString "whitespace") a.t3, val := Value.str (Str.ofString "\n\t\x0d ") a.t4 },
  { hash := PyData.keyHash P (Str.ofString "pushback"), key := Value.str (Str.ofString "pushback") a.t5, val := Value.ref a.l }] 4
noncomputable abbrev strDict (P : Params) (a : LexA) : Obj := dictOf [
  { hash := PyData.keyHash P (Str.ofString "lineno"), key := Value.str (Str.ofString "lineno") a.u1, val := Value.int 1 a.u2 },
  { hash := PyData.keyHash P (Str.ofString "instream"), key := Value.str (Str.ofString "instream") a.u3, val := Value.none },
  { hash := PyData.keyHash P (Str.ofString "whitespace"), key := Value.str (Str.ofString "whitespace") a.u4, val := Value.str (Str.ofString "\n\t\x0d ") a.u5 },
  { hash := PyData.keyHash P (Str.ofString "pushback"), key := Value.str (Str.ofString "pushback") a.u6, val := Value.ref a.l2 },
  { hash := PyData.keyHash P (Str.ofString "read"), key := Value.str (Str.ofString "read") a.u7, val := Value.ref a.f }] 5
/-- the lexer's parts: what is left of the text stands from behind -/
noncomputable abbrev lexLed (P : Params) (a : LexA) (no : Int) (tn : Tok) (vs : List Value) (n : Nat) (pb : List Value) (k : Nat) : List (Addr × Obj) :=
  [(a.l, listOf pb.toArray k), (a.x, instObj 118 a.d), (a.d, lexDict P a no tn), (a.f, lexFn a), (a.c, a.oc), (a.x2, instObj 118 a.d2), (a.d2, strDict P a), (a.D, listOf vs.toArray n), (a.e, a.oe)]
structure LexOk (a : LexA) : Prop where
  oe : a.oe.data = .cell (some (.ref a.D))
  oc : ∃ vs t, a.oc.data = .fields vs ∧ vs[1]? = some (.str lexQual t)
  o1 : @LT.lt Nat _ a.e a.D
  o2 : @LT.lt Nat _ a.D a.d2
  o3 : @LT.lt Nat _ a.d2 a.x2
  o4 : @LT.lt Nat _ a.x2 a.f
  o5 : @LT.lt Nat _ a.f a.d
  o6 : @LT.lt Nat _ a.d a.x
  o7 : @LT.lt Nat _ a.x a.l
  o8 : @LT.lt Nat _ a.c a.e ∨ (@LT.lt Nat _ a.x2 a.c ∧ @LT.lt Nat _ a.c a.f)
/-- what is written lies apart from the rest -/
theorem LexOk.ne {a : LexA} (k : LexOk a) : (@Ne Nat a.l a.D ∧ @Ne Nat a.x a.D ∧ @Ne Nat a.d a.D ∧ @Ne Nat a.f a.D ∧ @Ne Nat a.c a.D ∧ @Ne Nat a.x2 a.D ∧ @Ne Nat a.d2 a.D ∧ @Ne Nat a.e a.D) ∧
    @Ne Nat a.l a.d ∧ @Ne Nat a.x a.d ∧ @Ne Nat a.f a.d ∧ @Ne Nat a.c a.d ∧ @Ne Nat a.x2 a.d ∧ @Ne Nat a.d2 a.d ∧ @Ne Nat a.e a.d := by
  have h1 := Nat.lt_trans k.o1 k.o2
  have h2 := Nat.lt_trans k.o2 k.o3
  have h3 := Nat.lt_trans h2 k.o4
  have h4 := Nat.lt_trans h3 k.o5
  have h5 := Nat.lt_trans h4 k.o6
  have h6 := Nat.lt_trans h5 k.o7
  have f4 := Nat.lt_trans k.o3 (Nat.lt_trans k.o4 k.o5)
  have c1 : @LT.lt Nat _ a.c a.D ∨ @LT.lt Nat _ a.D a.c := k.o8.imp (fun h => Nat.lt_trans h k.o1) fun h => Nat.lt_trans h2 h.1
  have c2 : @LT.lt Nat _ a.c a.d := k.o8.elim (fun h => Nat.lt_trans h (Nat.lt_trans k.o1 h4)) fun h => Nat.lt_trans h.2 k.o5
  exact ⟨⟨Nat.ne_of_gt h6, Nat.ne_of_gt h5, Nat.ne_of_gt h4, Nat.ne_of_gt h3, c1.elim Nat.ne_of_lt Nat.ne_of_gt, Nat.ne_of_gt h2, Nat.ne_of_gt k.o2, Nat.ne_of_lt k.o1⟩,
    Nat.ne_of_gt (Nat.lt_trans k.o6 k.o7), Nat.ne_of_gt k.o6, Nat.ne_of_lt k.o5, Nat.ne_of_lt c2, Nat.ne_of_lt (Nat.lt_trans k.o4 k.o5), Nat.ne_of_lt f4, Nat.ne_of_lt (Nat.lt_trans k.o1 h4)⟩
theorem LexOk.lt {a : LexA} (k : LexOk a) {z : Nat} (h : @LT.lt Nat _ a.l z) : @LT.lt Nat _ a.x z ∧ @LT.lt Nat _ a.d z ∧ @LT.lt Nat _ a.f z ∧ @LT.lt Nat _ a.c z ∧ @LT.lt Nat _ a.x2 z ∧ @LT.lt Nat _ a.d2 z ∧ @LT.lt Nat _ a.D z ∧ @LT.lt Nat _ a.e z := by
  have hx := Nat.lt_trans k.o7 h
  have hd := Nat.lt_trans k.o6 hx
  have hf := Nat.lt_trans k.o5 hd
  have h2 := Nat.lt_trans k.o4 hf
  have h3 := Nat.lt_trans k.o3 h2
  have hD := Nat.lt_trans k.o2 h3
  have he := Nat.lt_trans k.o1 hD
  exact ⟨hx, hd, hf, k.o8.elim (fun q => Nat.lt_trans q he) fun q => Nat.lt_trans q.2 hf, h2, h3, hD, he⟩
theorem LexOk.lts {a : LexA} (k : LexOk a) : @LT.lt Nat _ a.x a.l ∧ @LT.lt Nat _ a.d a.l ∧ @LT.lt Nat _ a.f a.l ∧ @LT.lt Nat _ a.c a.l ∧ @LT.lt Nat _ a.x2 a.l ∧ @LT.lt Nat _ a.d2 a.l ∧ @LT.lt Nat _ a.D a.l ∧ @LT.lt Nat _ a.e a.l := by
  have hx := k.o7
  have hd := Nat.lt_trans k.o6 hx
  have hf := Nat.lt_trans k.o5 hd
  have h2 := Nat.lt_trans k.o4 hf
  have h3 := Nat.lt_trans k.o3 h2
  have hD := Nat.lt_trans k.o2 h3
  have he := Nat.lt_trans k.o1 hD
  exact ⟨hx, hd, hf, k.o8.elim (fun q => Nat.lt_trans q he) fun q => Nat.lt_trans q.2 hf, h2, h3, hD, he⟩
theorem LexOk.below {a : LexA} (k : LexOk a) {z : Nat} (h : @LT.lt Nat _ a.l z) {P : Params} {no : Int} {tn : Tok} {vs : List Value} {n : Nat} {pb : List Value} {j : Nat} : ∀ r ∈ lexLed P a no tn vs n pb j, @LT.lt Nat _ r.1 z := by
  obtain ⟨hx, hd, hf, hc, h2, h3, hD, he⟩ := k.lt h
  exact each_cons h (each_cons hx (each_cons hd (each_cons hf (each_cons hc (each_cons h2 (each_cons h3 (each_cons hD (each_cons he each_nil))))))))
theorem LexOk.above {a : LexA} (k : LexOk a) {z : Nat} (h : @LE.le Nat _ z a.e) {P : Params} {no : Int} {tn : Tok} {vs : List Value} {n : Nat} {pb : List Value} {j : Nat} : ∀ q ∈ lexLed P a no tn vs n pb j, q.1 = a.c ∨ z ≤ q.1 := by
  have hD := Nat.le_trans h (Nat.le_of_lt k.o1)
  have h3 := Nat.le_trans hD (Nat.le_of_lt k.o2)
  have h2 := Nat.le_trans h3 (Nat.le_of_lt k.o3)
  have hf := Nat.le_trans h2 (Nat.le_of_lt k.o4)
  have hd := Nat.le_trans hf (Nat.le_of_lt k.o5)
  have hx := Nat.le_trans hd (Nat.le_of_lt k.o6)
  have hl := Nat.le_trans hx (Nat.le_of_lt k.o7)
  exact each_cons (.inr hl) (each_cons (.inr hx) (each_cons (.inr hd) (each_cons (.inr hf) (each_cons (.inl rfl) (each_cons (.inr h2) (each_cons (.inr h3) (each_cons (.inr hD) (each_cons (.inr h) each_nil))))))))
noncomputable abbrev lexTab (c : Addr) : Obj := tabObj #[rawInt 147, rawInt 18, .ref c]
theorem lexLed_ch {P : Params} {a : LexA} {no no' : Int} {tn tn' : Tok} {vs vs' : List Value} {n n' : Nat} {pb : List Value} {k : Nat} : ∀ q ∈ lexLed P a no tn vs n pb k, q.1 ∈ [a.d, a.D] ∨ q ∈ lexLed P a no' tn' vs' n' pb k :=
  ch_same (ch_same (ch_diff (.head _) (ch_same (ch_same (ch_same (ch_same (ch_diff (.tail _ (.head _)) (ch_same ch_nil))))))))
theorem rgLexx3 : (0 : Nat) = 0 := by
  (k_with "w truthy ref" => refine stop_here ?_)
  (k_with "w call builtin:list.pop" => refine stop_here ?_)
  rfl
set_option maxHeartbeats 8000000 in
theorem read_char_spec {w : World} {A : Around} {s : Shared} {G base : Heap} {outer : List Env} {p : Program} {loose : List Str} {mean : ExcName → Option Value} {mg mb : Str → Option Value}
    (hS : Setup 10 w A base outer p loose mean mg mb G) (hG : ∀ b o, G.get? b = some o → s.heap.get? b = some o)
    (a : LexA) (no : Int) (tn : Tok) (vs : List Value) (n : Nat) (pb : List Value) (k : Nat) (c : Nat) (t : Tok) (ok : LexOk a) (hz : vs.length ≤ 5000) (hN : ∀ q ∈ lexLed w.params a no tn (vs ++ [.str ⟨#[c]⟩ t]) n pb k, s.heap.get? q.1 = some q.2 ∧ G.get? q.1 = none) :
    CallsTo w A (.ref 101) [.ref a.x] [] s [a.d, a.D] (fun v h' => v = .str ⟨#[c]⟩ t ∧ ∃ tn', Holds h' (lexLed w.params a (if c = 10 then no + 1 else no) tn' vs (n + 1) pb k)) := by
  intro R hret
  (rename Setup _ _ _ _ _ _ _ _ _ _ _ => hSu)
  apply Setup.open hSu
  clear hSu
  intro dpt grs uni X T B hdp hun
  refine' enterH (news := lexLed w.params a no tn (vs ++ [.str ⟨#[c]⟩ t]) n pb k) ?k1 ?k2 ?kb ?k3 ?kN ?k6 ?k7 ?k8 ?k9 ?kB ?_ ?c2 ?c3 ?c4 ?c5
  case kN => exact hN
  (case k1 => assumption)
  (case k2 => assumption)
  (case kb => assumption)
  (case k3 => assumption)
  (case k6 => k_dflt k_is)
  (case k7 => k_dflt k_is)
  (case k8 => (show _ < 1000; dsimp only; omega))
  (case k9 => exact BindsTo.of_eq rfl)
  (case kB => exact locs rfl)
  (case c5 => decide)
  (case c2 => exact rfl)
  (case c3 => exact rfl)
  (case c4 => exact rfl)
  intro g L' h₁ hg hg' hL' X' T' B' F' N' hl'
  have hCd : CodeHd g 147 143 := codeHd_of_K X' (by kernel_rfl)
  replace hN := fun q hq => (hN q hq).1
  obtain ⟨ne1, ne2⟩ := ok.ne
  obtain ⟨oe, ⟨ocv, oct, oc1, oc2⟩, o1, o2, o3, o4, o5, o6, o7, o8⟩ := ok
  k_lt hl'
  (try dsimp only)
  (try k_fold)
  k_steps
  unfold Stop
  refine truthy_led_yes (by k_asm) (by k_mem) (by simp) (Nat.le_trans (by simpa using Nat.succ_le_succ hz) (by decide : (5001 : Nat) ≤ sizeLine)) ?_
  k_steps
  unfold Stop
  dsimp only
  refine' pop_led (p := vs) (y := .str ⟨#[c]⟩ t) ?F ?N ?U (Nat.le_trans (Nat.succ_le_succ hz) (by decide)) ?_
  case F => k_asm
  case N => k_asm
  case U => k_upd
  intro h' F' N'
  k_steps
  · have hc : c = 10 := by
      have q : ((⟨#[c]⟩ : Str) == Str.ofString "\n") = true := by assumption
      rw [one_sign (d := 10) (by decide)] at q; exact of_decide_eq_true q
    dsimp only
    rw [if_pos hc] at hret
    refine hret _ _ _ (touch_led hg hL' (by assumption) hN (by assumption) ?_) ⟨rfl, _, fun q hq => (by assumption : News _ _ _ _) q hq |>.1⟩
    exact lexLed_ch
  · have hc : ¬ c = 10 := by
      have q : ((⟨#[c]⟩ : Str) == Str.ofString "\n") = false := by assumption
      rw [one_sign (d := 10) (by decide)] at q; exact of_decide_eq_false q
    dsimp only
    rw [if_neg hc] at hret
    refine hret _ _ _ (touch_led hg hL' (by assumption) hN (by assumption) ?_) ⟨rfl, _, fun q hq => (by assumption : News _ _ _ _) q hq |>.1⟩
    exact lexLed_ch
set_option maxHeartbeats 8000000 in
theorem read_end_spec {w : World} {A : Around} {s : Shared} {G base : Heap} {outer : List Env} {p : Program} {loose : List Str} {mean : ExcName → Option Value} {mg mb : Str → Option Value}
    (hS : Setup 10 w A base outer p loose mean mg mb G) (hG : ∀ b o, G.get? b = some o → s.heap.get? b = some o)
    (a : LexA) (no : Int) (tn : Tok) (n : Nat) (pb : List Value) (k : Nat) (ok : LexOk a) (hN : ∀ q ∈ lexLed w.params a no tn [] n pb k, s.heap.get? q.1 = some q.2 ∧ G.get? q.1 = none) :
    CallsTo w A (.ref 101) [.ref a.x] [] s [] (fun v h' => ∃ t, v = .str (Str.ofString "") t) := by
  intro R hret
  (rename Setup _ _ _ _ _ _ _ _ _ _ _ => hSu)
  apply Setup.open hSu
  clear hSu
  intro dpt grs uni X T B hdp hun
  refine' enterH (news := lexLed w.params a no tn [] n pb k) ?k1 ?k2 ?kb ?k3 ?kN ?k6 ?k7 ?k8 ?k9 ?kB ?_ ?c2 ?c3 ?c4 ?c5
  case kN => exact hN
  (case k1 => assumption)
  (case k2 => assumption)
  (case kb => assumption)
  (case k3 => assumption)
  (case k6 => k_dflt k_is)
  (case k7 => k_dflt k_is)
  (case k8 => (show _ < 1000; dsimp only; omega))
  (case k9 => exact BindsTo.of_eq rfl)
  (case kB => exact locs rfl)
  (case c5 => decide)
  (case c2 => exact rfl)
  (case c3 => exact rfl)
  (case c4 => exact rfl)
  intro g L' h₁ hg hg' hL' X' T' B' F' N' hl'
  have hCd : CodeHd g 147 143 := codeHd_of_K X' (by kernel_rfl)
  replace hN := fun q hq => (hN q hq).1
  obtain ⟨oe, ⟨ocv, oct, oc1, oc2⟩, o1, o2, o3, o4, o5, o6, o7, o8⟩ := ok
  k_lt hl'
  (try dsimp only)
  (try k_fold)
  k_steps
  unfold Stop
  refine truthy_led_no (by k_asm) (by k_mem) ?_
  k_steps
  dsimp only
  refine hret _ _ _ (touch_led hg hL' (by assumption) hN (by assumption) ?_) ⟨_, rfl⟩
  intro q hq
  exact .inr hq
end
section
theorem resetTok : (0 : Nat) = 0 := by
  w_top off
  k_with_none
  (k_with "w my pick" => (with_reducible first | assumption | exact lo1 | exact lo2 | exact lo3 | exact lo4 | exact ls1 (by assumption) | exact ls2 (by assumption) | exact ls3 (by assumption) | exact pk0 (by assumption) | exact pk1 (by assumption) | exact pk2 (by assumption) | exact pk3 (by assumption) | exact pk4 (by assumption) | exact pk5 (by assumption) | exact pk6 (by assumption) | exact pk7 (by assumption) | exact pk8 (by assumption) | exact pk9 (by assumption) | exact pk10 (by assumption) | exact pk11 (by assumption) | exact pk12 (by assumption) | exact pk13 (by assumption) | exact pk14 (by assumption) | exact pk15 (by assumption) | exact pk16 (by assumption) | exact pk17 (by assumption) | exact qk1 (by assumption) | exact qk2 (by assumption) | exact qk3 (by assumption) | exact qk4 (by assumption) | exact qk5 (by assumption) | exact qk6 (by assumption) | exact qk7 (by assumption) | exact qk8 (by assumption) | exact qk9 (by assumption) | exact qk10 (by assumption) | exact qk11 (by assumption) | exact qk12 (by assumption) | exact qk13 (by assumption) | exact qk14 (by assumption) | exact qk15 (by assumption) | exact qk16 (by assumption) | exact qk17 (by assumption)))
  (k_with "w my sml" => (with_reducible first | (refine Nat.ne_of_lt ?_; k_extra "w my pick") | (refine Nat.ne_of_gt ?_; k_extra "w my pick") | (refine Ne.symm ?_; k_extra "w my pick") | (refine id ?_; k_extra "w my pick") | (refine Nat.le_of_lt ?_; k_extra "w my pick") | exact lrefl | exact lzero | exact one_le | exact room0 (by assumption) | exact room (by assumption) (by decide) | exact room1 (by assumption) (by decide) | exact room2 (by assumption) (by decide) | exact room3 (by assumption) (by decide) | exact le_le (by assumption) (by decide) | exact le_sc (by assumption) | (refine above1' ?_ (by assumption); k_extra "w my pick") | (refine above2' ?_ (by assumption); k_extra "w my pick")))
  (k_with "w my om" => (first | k_extra "w my sml" | lia | omega))
  rfl
theorem rgTokx1 : (0 : Nat) = 0 := by
  (k_with "w my k_room" => ((try simp only [depth_under_make, depth_under_kw, depth_in1, depth_deeper]); (show _ < 1000); (try dsimp only); omega))
  (k_with "w my units_room" => ((try simp only [units_in1, units_deeper, Around.mark_units]); (show _ < 9900); (try dsimp only); omega))
  (k_with "w my small" => (first
  | (refine Sm.int ?_; (try simp only [Int.fmod_eq_emod_of_nonneg, Int.fdiv_eq_ediv_of_nonneg, Int.reduceLE]); omega)
  | (apply Sm.slice; k_extra "w my small")
  | (apply Sm.add <;> k_extra "w my small")
  | (apply Sm.ite <;> k_extra "w my small")
  | assumption
  | exact Sm.refl _))
  (k_with "w subscriptTail Name Slice str ref" => ((with_reducible show wpAny _ _ (subscriptTail _ (Expr.Slice (some _) none none _) (Value.str _ _) (Value.ref _)) _ _ _); dsimp only; (with_reducible rename Fr _ _ _ _ => F'); (with_reducible rename News _ _ _ _ => N'); (refine' slice_strN_sn (hsz := by (apply Sm.size <;> first | k_extra "w my small" | decide)) (s := ⟨_, _, _, _, _⟩) F' N' ?_); intro _ _ _ _ _))
  (k_with "w binaryOp Add str str" => ((with_reducible show wpAny _ _ (binaryOp Operator.Add (Value.str _ _) (Value.str _ _)) _ _ _); (refine' PyProof.Rows.add_str ?_ (by (apply Sm.size2 <;> first | k_extra "w my small" | decide))); intro _ _))
  (k_with "w ite" => ((with_reducible refine ite_strs ?_); intro _))
  rfl
noncomputable def nls (cs : List Nat) : Int := (cs.count 10 : Int)
theorem nls_cons (c : Nat) (cs : List Nat) : nls (c :: cs) = nls cs + (if c = 10 then 1 else 0) := by
  unfold nls
  by_cases h : c = 10
  · subst h; simp
  · simp [List.count_cons, h]
theorem Signs.split_rev : ∀ {vs : List Value} {c : Nat} {cs : List Nat}, Signs vs (c :: cs).reverse → ∃ vs' t, vs = vs' ++ [.str ⟨#[c]⟩ t] ∧ Signs vs' cs.reverse := by
  intro vs c cs h
  rw [List.reverse_cons] at h
  generalize cs.reverse = ds at h
  induction ds generalizing vs with
  | nil => cases h with | cons h => cases h; exact ⟨[], _, rfl, .nil⟩
  | cons d ds ih =>
    cases h with
    | cons h =>
      obtain ⟨vs', t, rfl, h'⟩ := ih h
      exact ⟨_ :: vs', t, rfl, .cons h'⟩
noncomputable abbrev tokMap (a : LexA) (I : Addr) (acc : Str) (t : Tok) (ch : Option Value) : Str → Option Value := fun y =>
  if y = Str.ofString "ch" then ch else if y = Str.ofString "token" then some (.str acc t) else if y = Str.ofString "fiter" then some (.ref I) else if y = Str.ofString "self" then some (.ref a.x) else none
noncomputable abbrev tokLed (P : Params) (a : LexA) (I q : Addr) (ti : Tok) (no : Int) (tn : Tok) (vs : List Value) (n k : Nat) : List (Addr × Obj) :=
  (I, callIter q ti) :: (q, methodObj (.ref 101) (.ref a.x)) :: lexLed P a no tn vs n [] k
structure TokCtx (w : World) (A : Around) (base : Heap) (outer : List Env) (p : Program) (loose : List Str) (mean : ExcName → Option Value) (mg mb : Str → Option Value) (g : Heap) (L' : Addr) (a : LexA) (I q : Addr) (env : Env) : Prop where
  S : Setup 19 w A base outer p loose mean mg mb g
  ok : LexOk a
  hA : A.frames = some outer
  hf : env.frame = some L'
  hk : env.scope.kind = .function
  fn : ∃ fo fd, g.get? 101 = some fo ∧ fo.data = .func fd
  q1 : @LT.lt Nat _ a.l q
  q2 : @LT.lt Nat _ q I
/-- within get_token: the signs cs are to be read, acc is read -/
noncomputable def TokSt (w : World) (g : Heap) (L' : Addr) (a : LexA) (I q : Addr) (ti : Tok) (K : Int) (k : Nat) (s₀ : Shared) (cs : List Nat) (acc : Str) (s : Shared) : Prop :=
  ∃ h tk vs n tn t ch, s = { s₀ with heap := h, toks := tk } ∧ Fr g L' h (tokMap a I acc t ch) ∧ News g L' h (tokLed w.params a I q ti (K - nls cs) tn vs n k) ∧ Signs vs cs.reverse
theorem TokSt.intro {w : World} {g : Heap} {L' : Addr} {a : LexA} {I q : Addr} {ti : Tok} {K : Int} {k : Nat} {s₀ : Shared} {cs : List Nat} {acc : Str} {h : Heap} {tk n : Nat} {vs : List Value} {tn t : Tok} {ch : Option Value}
    (F : Fr g L' h (tokMap a I acc t ch)) (N : News g L' h (tokLed w.params a I q ti (K - nls cs) tn vs n k)) (hs : Signs vs cs.reverse) : TokSt w g L' a I q ti K k s₀ cs acc { s₀ with heap := h, toks := tk } := ⟨h, tk, vs, n, tn, t, ch, rfl, F, N, hs⟩
theorem TokSt.elim {w : World} {g : Heap} {L' : Addr} {a : LexA} {I q : Addr} {ti : Tok} {K : Int} {k : Nat} {s₀ s : Shared} {cs : List Nat} {acc : Str} {P : Shared → Prop} (st : TokSt w g L' a I q ti K k s₀ cs acc s)
    (f : ∀ h tk vs n tn t ch, Fr g L' h (tokMap a I acc t ch) → News g L' h (tokLed w.params a I q ti (K - nls cs) tn vs n k) → Signs vs cs.reverse → P { s₀ with heap := h, toks := tk }) : P s := by
  obtain ⟨h, tk, vs, n, tn, t, ch, rfl, F, N, hs⟩ := st
  exact f h tk vs n tn t ch F N hs
theorem tok_read {w : World} {A : Around} {base g : Heap} {outer : List Env} {p : Program} {loose : List Str} {mean : ExcName → Option Value} {mg mb m : Str → Option Value} {L' : Addr} {a : LexA} {I q : Addr} {env : Env} {ti : Tok} {K : Int} {k n : Nat} {tn : Tok} {vs : List Value} {s : Shared} {c : Nat} {cs : List Nat}
    {R : Result → Shared → Prop} (C : TokCtx w A base outer p loose mean mg mb g L' a I q env) (F : Fr g L' s.heap m) (N : News g L' s.heap (tokLed w.params a I q ti (K - nls (c :: cs)) tn vs n k)) (hs : Signs vs (c :: cs).reverse) (hl : cs.length ≤ 5000)
    (hR : ∀ h' tk' u tn' vs' n', Fr g L' h' m → News g L' h' (tokLed w.params a I q ti (K - nls cs) tn' vs' n' k) → Signs vs' cs.reverse → R (.ok (.ret (.str ⟨#[c]⟩ u))) { s with heap := h', toks := tk' }) :
    codeAny (model PG w) (A.deeper env).in1 (.call (.ref 101) ⟨[.ref a.x], []⟩) R s := by
  obtain ⟨vs', u, rfl, hs'⟩ := hs.split_rev
  have S' := C.S.down (env := env) F N C.hf C.hk
  have hvl : vs'.length ≤ 5000 := by rw [hs'.length, List.length_reverse]; exact hl
  refine read_char_spec (n := n) (pb := []) (k := k) (tn := tn) (no := K - nls (c :: cs)) (vs := vs') (c := c) (t := u) (S'.le (by decide)) (fun b o e => of_hideAll _ e) a C.ok hvl (fun r hr => ⟨(N r (.tail _ (.tail _ hr))).1, hideAll_none _ (List.mem_map_of_mem (.tail _ (.tail _ hr)))⟩) _ ?_
  intro v h' tk' T ⟨e, tn', H⟩
  subst e
  have lq := C.ok.lt C.q1
  have lI := C.ok.lt (Nat.lt_trans C.q1 C.q2)
  have nI : I ∉ [a.d, a.D] := notin2 (Nat.ne_of_gt lI.2.1) (Nat.ne_of_gt lI.2.2.2.2.2.2.1)
  have nq : q ∉ [a.d, a.D] := notin2 (Nat.ne_of_gt lq.2.1) (Nat.ne_of_gt lq.2.2.2.2.2.2.1)
  have hS : ∀ x ∈ [a.d, a.D], x ∈ (tokLed w.params a I q ti (K - nls (c :: cs)) tn (vs' ++ [.str ⟨#[c]⟩ u]) n k).map (·.1) :=
    each_cons (.tail _ (.tail _ (.tail _ (.tail _ (.head _))))) (each_cons (.tail _ (.tail _ (.tail _ (.tail _ (.tail _ (.tail _ (.tail _ (.tail _ (.tail _ (.head _)))))))))) each_nil)
  have F' := touch_fr F N hS T
  have hI := T.2 _ _ (N.get (.head _)) nI
  have hq := T.2 _ _ (N.get (.tail _ (.head _))) nq
  refine hR h' tk' u tn' vs' (n + 1) F' (Mine.News.holds N ?_ ?_) hs'
  · have e : (if c = 10 then K - nls (c :: cs) + 1 else K - nls (c :: cs)) = K - nls cs := by rw [nls_cons]; split <;> k_extra "w my om"
    rw [e] at H
    exact each_cons hI (each_cons hq H)
  · intro r hr
    have hm : r.1 ∈ (tokLed w.params a I q ti (K - nls cs) tn' vs' (n + 1) k).map (·.1) := List.mem_map_of_mem hr
    exact hm
theorem tok_next {w : World} {A : Around} {base g : Heap} {outer : List Env} {p : Program} {loose : List Str} {mean : ExcName → Option Value} {mg mb : Str → Option Value} {L' : Addr} {a : LexA} {I q : Addr} {env : Env} {ti : Tok} {K : Int} {k : Nat} {s₀ s : Shared} {c : Nat} {cs : List Nat} {acc : Str}
    {Q : Option Value → Shared → Prop} {E : Value → Shared → Prop} (C : TokCtx w A base outer p loose mean mg mb g L' a I q env) (hl : cs.length ≤ 5000) (st : TokSt w g L' a I q ti K k s₀ (c :: cs) acc s) (hQ : ∀ u s', TokSt w g L' a I q ti K k s₀ cs acc s' → Q (some (.str ⟨#[c]⟩ u)) s') :
    wpAny (model PG w) (A.deeper env) (pyNext (.ref I)) Q E s := by
  refine st.elim fun h tk vs n tn t ch F N hs => ?_
  obtain ⟨fo, fd, hfo, hfd⟩ := C.fn
  refine next_led C.S.hh (N.get (.head _)) (N.get (.tail _ (.head _))) (F.keep _ _ hfo) hfd ?_
  refine tok_read (s := { s₀ with heap := h, toks := tk }) C F N hs hl fun h' tk' u tn' vs' n' F' N' hs' => ?_
  refine ⟨⟨#[c]⟩, u, rfl, N'.get (.head _), N'.get (.tail _ (.head _)), F'.keep _ _ hfo, .inl ⟨?_, hQ u _ (.intro F' N' hs')⟩⟩
  intro e; exact absurd (show (1 : Nat) = 0 from congrArg Str.length e) (by decide)
/-- the text is read: the iterator ends -/
noncomputable def EndSt (w : World) (g : Heap) (L' : Addr) (a : LexA) (I q : Addr) (K : Int) (k : Nat) (s₀ : Shared) (acc : Str) (s : Shared) : Prop :=
  ∃ h tk n tn t ch, s = { s₀ with heap := h, toks := tk } ∧ Fr g L' h (tokMap a I acc t ch) ∧ News g L' h (lexLed w.params a K tn [] n [] k)
theorem EndSt.intro {w : World} {g : Heap} {L' : Addr} {a : LexA} {I q : Addr} {K : Int} {k : Nat} {s₀ : Shared} {acc : Str} {h : Heap} {tk n : Nat} {tn t : Tok} {ch : Option Value} (F : Fr g L' h (tokMap a I acc t ch)) (N : News g L' h (lexLed w.params a K tn [] n [] k)) :
    EndSt w g L' a I q K k s₀ acc { s₀ with heap := h, toks := tk } := ⟨h, tk, n, tn, t, ch, rfl, F, N⟩
theorem EndSt.elim {w : World} {g : Heap} {L' : Addr} {a : LexA} {I q : Addr} {K : Int} {k : Nat} {s₀ s : Shared} {acc : Str} {P : Shared → Prop} (st : EndSt w g L' a I q K k s₀ acc s)
    (f : ∀ h tk n tn t ch, Fr g L' h (tokMap a I acc t ch) → News g L' h (lexLed w.params a K tn [] n [] k) → P { s₀ with heap := h, toks := tk }) : P s := by
  obtain ⟨h, tk, n, tn, t, ch, rfl, F, N⟩ := st
  exact f h tk n tn t ch F N
theorem tok_end {w : World} {A : Around} {base g : Heap} {outer : List Env} {p : Program} {loose : List Str} {mean : ExcName → Option Value} {mg mb : Str → Option Value} {L' : Addr} {a : LexA} {I q : Addr} {env : Env} {ti : Tok} {K : Int} {k : Nat} {s₀ s : Shared} {acc : Str}
    {Q : Option Value → Shared → Prop} {E : Value → Shared → Prop} (C : TokCtx w A base outer p loose mean mg mb g L' a I q env) (st : TokSt w g L' a I q ti K k s₀ [] acc s) (hQ : ∀ s', EndSt w g L' a I q K k s₀ acc s' → Q none s') :
    wpAny (model PG w) (A.deeper env) (pyNext (.ref I)) Q E s := by
  refine st.elim fun h tk vs n tn t ch F N hs => ?_
  obtain rfl : vs = [] := by cases hs; rfl
  obtain ⟨fo, fd, hfo, hfd⟩ := C.fn
  have S' := C.S.down (s := { s₀ with heap := h, toks := tk }) (env := env) F N C.hf C.hk
  refine next_led C.S.hh (N.get (.head _)) (N.get (.tail _ (.head _))) (F.keep _ _ hfo) hfd ?_
  refine read_end_spec (n := n) (pb := []) (k := k) (tn := tn) (no := K - nls []) (S'.le (by decide)) (fun b o e => of_hideAll _ e) a C.ok (fun r hr => ⟨(N r (.tail _ (.tail _ hr))).1, hideAll_none _ (List.mem_map_of_mem (.tail _ (.tail _ hr)))⟩) _ ?_
  rintro v h' tk' T ⟨u, rfl⟩
  have F' := F.keeps T.keep
  refine ⟨_, u, rfl, T.keep _ _ (N.get (.head _)), T.keep _ _ (N.get (.tail _ (.head _))), F'.keep _ _ hfo, .inr ⟨rfl, fun h'' hx => ?_⟩⟩
  have z := N _ (.head _)
  have e0 : K - nls [] = K := Int.sub_zero K
  rw [e0] at N
  refine hQ _ (.intro (n := n) (tn := tn) ⟨F'.ns.extBut hx (Ne.symm z.2.1), fun b o e => hx b o (fun q => by rw [q, z.2.2] at e; cases e) (F'.keep b o e), F'.above⟩ fun r hr => ?_)
  have z' := N r (.tail _ (.tail _ hr))
  exact ⟨hx _ _ (Nat.ne_of_lt (C.ok.below (Nat.lt_trans C.q1 C.q2) r hr)) (T.keep _ _ z'.1), z'.2⟩
noncomputable def TokTurn (w : World) (g : Heap) (L' : Addr) (a : LexA) (I q : Addr) (ti : Tok) (K : Int) (k : Nat) (s₀ : Shared) (Inv : List Nat → Str → Prop) (R : Result → Shared → Prop) (len : Nat) (f : Flow) (s₃ : Shared) : Prop := match f with
  | .next | .cont => ∃ r' acc', r'.length < len ∧ Inv r' acc' ∧ TokSt w g L' a I q ti K k s₀ r' acc' s₃
  | .brk => R (.ok .next) s₃
  | .ret v => R (.ok (.ret v)) s₃
theorem TokTurn.goes {w : World} {g : Heap} {L' : Addr} {a : LexA} {I q : Addr} {ti : Tok} {K : Int} {k : Nat} {s₀ s₃ : Shared} {Inv : List Nat → Str → Prop} {R : Result → Shared → Prop} {len : Nat} {f : Flow} {r' : List Nat} {acc' : Str} (hf : f = .next ∨ f = .cont) (h1 : r'.length < len) (h2 : Inv r' acc') (h3 : TokSt w g L' a I q ti K k s₀ r' acc' s₃) :
    TokTurn w g L' a I q ti K k s₀ Inv R len f s₃ := by
  rcases hf with rfl | rfl <;> exact ⟨r', acc', h1, h2, h3⟩
theorem fn_of {K : Frag} {g : Heap} {f : Addr} (X : K.In g) (h : fnIn K f = true) : ∃ fo fd, g.get? f = some fo ∧ fo.data = .func fd := by
  unfold fnIn at h
  split at h
  · rename_i e; exact ⟨_, _, X _ _ e, rfl⟩
  · cases h
/-- a for over the signs that are left -/
theorem tok_loop {w : World} {A : Around} {base g : Heap} {outer : List Env} {p : Program} {loose : List Str} {mean : ExcName → Option Value} {mg mb : Str → Option Value} {L' : Addr} {a : LexA} {I q : Addr} {env : Env} {ti : Tok} {K : Int} {k : Nat} {s₀ s : Shared} {acc : Str}
    {px : Pos} {body : List Stmt} {R : Result → Shared → Prop} {cs : List Nat} (Inv : List Nat → Str → Prop) (h : Inv cs acc) (st : TokSt w g L' a I q ti K k s₀ cs acc s) (C : TokCtx w A base outer p loose mean mg mb g L' a I q env) (small : ∀ cs acc, Inv cs acc → cs.length ≤ 5000)
    (turn : ∀ c r acc u s₁, Inv (c :: r) acc → TokSt w g L' a I q ti K k s₀ r acc s₁ → wpAny (model PG w) (A.deeper env) (storeName env (Str.ofString "ch") (.str ⟨#[c]⟩ u)) (fun _ s₂ => wpAny (model PG w) (A.deeper env) (execs body env) (TokTurn w g L' a I q ti K k s₀ Inv R (r.length + 1)) (fun _ _ => False) s₂) (fun _ _ => False) s₁)
    (stop : ∀ acc s₁, Inv [] acc → EndSt w g L' a I q K k s₀ acc s₁ → R (.ok .next) s₁) :
    codeAny (model PG w) (A.deeper env) (.forLoop (.Name (Str.ofString "ch") px) (.ref I) body [] env) R s := by
  refine codeAny_forLoop (fun n s' => ∃ cs acc, cs.length = n ∧ Inv cs acc ∧ TokSt w g L' a I q ti K k s₀ cs acc s') (fun n s' hI => ?_) cs.length ⟨cs, acc, rfl, h, st⟩
  obtain ⟨cs, acc, rfl, hi, st⟩ := hI
  cases cs with
  | nil => exact tok_end C st fun s₁ e => wpAny_execs_nil (stop _ _ hi e)
  | cons c r =>
    refine tok_next C (by have := small _ _ hi; simp only [List.length_cons] at this; k_extra "w my om") st fun u s₁ st₁ => ?_
    refine wpAny_assign_Name (wpAny_mono (turn c r acc u s₁ hi st₁) (fun _ s₂ h₂ => wpAny_mono h₂ (fun f s₃ h₃ => ?_) fun _ _ x => x.elim) fun _ _ x => x.elim)
    cases f with
    | next => obtain ⟨r', acc', a1, a2, a3⟩ := h₃; exact ⟨_, a1, r', acc', rfl, a2, a3⟩
    | cont => obtain ⟨r', acc', a1, a2, a3⟩ := h₃; exact ⟨_, a1, r', acc', rfl, a2, a3⟩
    | brk => exact h₃
    | ret v => exact h₃
end
section
theorem resetToken : (0 : Nat) = 0 := by
  w_top off
  k_with_none
  (k_with "w my pick" => (with_reducible first | assumption | exact lo1 | exact lo2 | exact lo3 | exact lo4 | exact ls1 (by assumption) | exact ls2 (by assumption) | exact ls3 (by assumption) | exact pk0 (by assumption) | exact pk1 (by assumption) | exact pk2 (by assumption) | exact pk3 (by assumption) | exact pk4 (by assumption) | exact pk5 (by assumption) | exact pk6 (by assumption) | exact pk7 (by assumption) | exact pk8 (by assumption) | exact pk9 (by assumption) | exact pk10 (by assumption) | exact pk11 (by assumption) | exact pk12 (by assumption) | exact pk13 (by assumption) | exact pk14 (by assumption) | exact pk15 (by assumption) | exact pk16 (by assumption) | exact pk17 (by assumption) | exact qk1 (by assumption) | exact qk2 (by assumption) | exact qk3 (by assumption) | exact qk4 (by assumption) | exact qk5 (by assumption) | exact qk6 (by assumption) | exact qk7 (by assumption) | exact qk8 (by assumption) | exact qk9 (by assumption) | exact qk10 (by assumption) | exact qk11 (by assumption) | exact qk12 (by assumption) | exact qk13 (by assumption) | exact qk14 (by assumption) | exact qk15 (by assumption) | exact qk16 (by assumption) | exact qk17 (by assumption)))
  (k_with "w my sml" => (with_reducible first | (refine Nat.ne_of_lt ?_; k_extra "w my pick") | (refine Nat.ne_of_gt ?_; k_extra "w my pick") | (refine Ne.symm ?_; k_extra "w my pick") | (refine id ?_; k_extra "w my pick") | (refine Nat.le_of_lt ?_; k_extra "w my pick") | exact lrefl | exact lzero | exact one_le | exact room0 (by assumption) | exact room (by assumption) (by decide) | exact room1 (by assumption) (by decide) | exact room2 (by assumption) (by decide) | exact room3 (by assumption) (by decide) | exact le_le (by assumption) (by decide) | exact le_sc (by assumption) | (refine above1' ?_ (by assumption); k_extra "w my pick") | (refine above2' ?_ (by assumption); k_extra "w my pick")))
  (k_with "w my om" => (first | k_extra "w my sml" | lia | omega))
  rfl
theorem rgTokenx1 : (0 : Nat) = 0 := by
  (k_with "w my k_room" => ((try simp only [depth_under_make, depth_under_kw, depth_in1, depth_deeper]); (show _ < 1000); (try dsimp only); omega))
  (k_with "w my units_room" => ((try simp only [units_in1, units_deeper, Around.mark_units]); (show _ < 9900); (try dsimp only); omega))
  (k_with "w my small" => (first
  | (refine Sm.int ?_; (try simp only [Int.fmod_eq_emod_of_nonneg, Int.fdiv_eq_ediv_of_nonneg, Int.reduceLE]); omega)
  | (apply Sm.slice; k_extra "w my small")
  | (apply Sm.add <;> k_extra "w my small")
  | (apply Sm.ite <;> k_extra "w my small")
  | assumption
  | exact Sm.refl _))
  (k_with "w subscriptTail Name Slice str ref" => ((with_reducible show wpAny _ _ (subscriptTail _ (Expr.Slice (some _) none none _) (Value.str _ _) (Value.ref _)) _ _ _); dsimp only; (with_reducible rename Fr _ _ _ _ => F'); (with_reducible rename News _ _ _ _ => N'); (refine' slice_strN_sn (hsz := by (apply Sm.size <;> first | k_extra "w my small" | decide)) (s := ⟨_, _, _, _, _⟩) F' N' ?_); intro _ _ _ _ _))
  (k_with "w binaryOp Add str str" => ((with_reducible show wpAny _ _ (binaryOp Operator.Add (Value.str _ _) (Value.str _ _)) _ _ _); (refine' PyProof.Rows.add_str ?_ (by (apply Sm.size2 <;> first | k_extra "w my small" | decide))); intro _ _))
  (k_with "w ite" => ((with_reducible refine ite_strs ?_); intro _))
  rfl
noncomputable abbrev ws (c : Nat) : Prop := c = 10 ∨ c = 9 ∨ c = 13 ∨ c = 32
inductive WTok : List Nat → List Nat → List Nat → Prop
  | stop {c : Nat} {r : List Nat} : ws c → WTok (c :: r) [] r
  | sign {c : Nat} {cs t r : List Nat} : ¬ ws c → c ≠ 92 → WTok cs t r → WTok (c :: cs) (c :: t) r
  | esc {c : Nat} {cs t r : List Nat} : WTok cs t r → WTok (92 :: c :: cs) (c :: t) r
inductive QTok : List Nat → List Nat → List Nat → Prop
  | stop {r : List Nat} : QTok (34 :: r) [] r
  | sign {c : Nat} {cs t r : List Nat} : c ≠ 34 → c ≠ 92 → QTok cs t r → QTok (c :: cs) (c :: t) r
inductive Tok1 : List Nat → List Nat → List Nat → Prop
  | stop : Tok1 [] [] []
  | skip {c : Nat} {cs t r : List Nat} : ws c → Tok1 cs t r → Tok1 (c :: cs) t r
  | quote {cs t r : List Nat} : QTok cs t r → Tok1 (34 :: cs) t r
  | word {c : Nat} {cs t r : List Nat} : ¬ ws c → c ≠ 34 → c ≠ 92 → WTok cs t r → Tok1 (c :: cs) (c :: t) r
  | esc {c : Nat} {cs t r : List Nat} : WTok cs t r → Tok1 (92 :: c :: cs) (c :: t) r
theorem in_ws {c : Nat} {b : Bool} (h : (Builtin.Str.occurrences (Str.ofString "\n\t\x0d ") ⟨#[c]⟩ 0 (Str.ofString "\n\t\x0d ").length 1).isEmpty = b) : b = !decide (ws c) := by
  have q := StrLaws.found_one (Str.ofString "\n\t\x0d ") c
  rw [h] at q
  have e : (c ∈ (Str.ofString "\n\t\x0d ").cps.toList) ↔ ws c := by
    rw [show (Str.ofString "\n\t\x0d ").cps.toList = [10, 9, 13, 32] from by decide]
    simp [ws]
  rw [decide_eq_decide.mpr e] at q
  rw [← q]; simp
theorem is_sign {c d : Nat} {x : String} {b : Bool} (h : ((⟨#[c]⟩ : Str) == Str.ofString x) = b) (hx : Str.ofString x = ⟨#[d]⟩) : b = decide (c = d) := by rw [← h]; exact one_sign hx
theorem str_cons (acc : Str) (c : Nat) (t : List Nat) : acc ++ (⟨(c :: t).toArray⟩ : Str) = (acc ++ (⟨#[c]⟩ : Str)) ++ (⟨t.toArray⟩ : Str) := by
  rw [Str.append_assoc]
  congr 1
  refine Str.ext' ?_
  rw [Str.cps_append]
  apply Array.toList_inj.mp
  simp
theorem str_len1 (acc : Str) (c : Nat) : (acc ++ (⟨#[c]⟩ : Str)).length = acc.length + 1 := by rw [Str.length_append]; rfl
theorem in_ws_yes {c : Nat} (h : (Builtin.Str.occurrences (Str.ofString "\n\t\x0d ") ⟨#[c]⟩ 0 (Str.ofString "\n\t\x0d ").length 1).isEmpty = false) : ws c := Decidable.byContradiction fun n => by have := in_ws h; rw [decide_eq_false n] at this; cases this
theorem in_ws_no {c : Nat} (h : (Builtin.Str.occurrences (Str.ofString "\n\t\x0d ") ⟨#[c]⟩ 0 (Str.ofString "\n\t\x0d ").length 1).isEmpty = true) : ¬ ws c := fun n => by have := in_ws h; rw [decide_eq_true n] at this; cases this
theorem sign_yes {c d : Nat} {x : String} (h : ((⟨#[c]⟩ : Str) == Str.ofString x) = true) (hx : Str.ofString x = ⟨#[d]⟩) : c = d := by simpa using is_sign h hx
theorem sign_no {c d : Nat} {x : String} (h : ((⟨#[c]⟩ : Str) == Str.ofString x) = false) (hx : Str.ofString x = ⟨#[d]⟩) : c ≠ d := by simpa using is_sign h hx
theorem Tok1.nil {t r : List Nat} (h : Tok1 [] t r) : t = [] ∧ r = [] := by cases h; exact ⟨rfl, rfl⟩
theorem Tok1.white {c : Nat} {cs t r : List Nat} (h : Tok1 (c :: cs) t r) (hw : ws c) : Tok1 cs t r := by
  cases h with
  | skip _ h => exact h
  | quote _ => exact absurd hw (by decide)
  | word h _ _ _ => exact absurd hw h
  | esc _ => exact absurd hw (by decide)
theorem Tok1.at34 {c : Nat} {cs t r : List Nat} (h : Tok1 (c :: cs) t r) (hc : c = 34) : QTok cs t r := by
  subst hc
  cases h with
  | skip h _ => exact absurd h (by decide)
  | quote h => exact h
  | word _ h _ _ => exact absurd rfl h
theorem Tok1.at92 {c : Nat} {cs t r : List Nat} (h : Tok1 (c :: cs) t r) (hc : c = 92) : ∃ c2 r2 t2, cs = c2 :: r2 ∧ t = c2 :: t2 ∧ WTok r2 t2 r := by
  subst hc
  cases h with
  | skip h _ => exact absurd h (by decide)
  | word _ _ h _ => exact absurd rfl h
  | esc h => exact ⟨_, _, _, rfl, rfl, h⟩
theorem Tok1.go {c : Nat} {cs t r : List Nat} (h : Tok1 (c :: cs) t r) (h1 : ¬ ws c) (h2 : c ≠ 34) (h3 : c ≠ 92) : ∃ t2, t = c :: t2 ∧ WTok cs t2 r := by
  cases h with
  | skip h _ => exact absurd h h1
  | quote _ => exact absurd rfl h2
  | word _ _ _ h => exact ⟨_, rfl, h⟩
  | esc _ => exact absurd rfl h3
/-- within a word: acc is read, cs is to be read -/
structure WInv (tok rest cs : List Nat) (acc : Str) : Prop where
  w : ∃ t, WTok cs t rest ∧ acc ++ (⟨t.toArray⟩ : Str) = ⟨tok.toArray⟩
  z : cs.length ≤ 3000
  y : acc.length + cs.length ≤ 3002
theorem WInv.hz {tok rest : List Nat} : ∀ cs acc, WInv tok rest cs acc → cs.length ≤ 5000 := fun _ _ h => Nat.le_trans h.z (by decide)
theorem WInv.sm {tok rest cs : List Nat} {acc : Str} (h : WInv tok rest cs acc) : Sm 3002 acc := Nat.le_trans (Nat.le_add_right _ _) h.y
theorem WInv.nil {tok rest : List Nat} {acc : Str} (h : WInv tok rest [] acc) : False := by
  obtain ⟨t, hw, _⟩ := h.w
  cases hw
theorem WInv.stop {tok rest cs : List Nat} {c : Nat} {acc : Str} (h : WInv tok rest (c :: cs) acc) (hc : ws c) : acc = ⟨tok.toArray⟩ ∧ cs = rest := by
  obtain ⟨t, hw, e⟩ := h.w
  cases hw with
  | stop _ => exact ⟨by rw [← e]; exact (Str.append_empty acc).symm, rfl⟩
  | sign h _ _ => exact absurd hc h
  | esc _ => exact absurd hc (by decide)
theorem WInv.go {tok rest cs : List Nat} {c : Nat} {acc : Str} (h : WInv tok rest (c :: cs) acc) (h1 : ¬ ws c) (h2 : c ≠ 92) : WInv tok rest cs (acc ++ (⟨#[c]⟩ : Str)) := by
  obtain ⟨⟨t, hw, e⟩, z, y⟩ := h
  cases hw with
  | stop h => exact absurd h h1
  | sign _ _ h => exact ⟨⟨_, h, by rw [← str_cons]; exact e⟩, Nat.le_of_succ_le z, by rw [str_len1]; simp only [List.length_cons] at y; omega⟩
  | esc _ => exact absurd rfl h2
theorem WInv.esc {tok rest cs : List Nat} {c : Nat} {acc : Str} (h : WInv tok rest (c :: cs) acc) (h2 : c = 92) : ∃ c2 r2, cs = c2 :: r2 ∧ WInv tok rest r2 (acc ++ (⟨#[c2]⟩ : Str)) := by
  obtain ⟨⟨t, hw, e⟩, z, y⟩ := h
  subst h2
  cases hw with
  | stop h => exact absurd h (by decide)
  | sign _ h _ => exact absurd rfl h
  | esc h => exact ⟨_, _, rfl, ⟨_, h, by rw [← str_cons]; exact e⟩, by simp only [List.length_cons] at z; omega, by rw [str_len1]; simp only [List.length_cons] at y; omega⟩
theorem WInv.first {tok rest cs t : List Nat} {c : Nat} {acc : Str} (ea : acc = Str.ofString "") (e : tok = c :: t) (h : WTok cs t rest) (z : cs.length ≤ 3000) : WInv tok rest cs (acc ++ (⟨#[c]⟩ : Str)) := by
  subst ea
  exact ⟨⟨t, h, by rw [e, ← str_cons, show Str.ofString "" = Str.empty from by decide]; exact Str.empty_append _⟩, z, by rw [str_len1, show (Str.ofString "").length = 0 from by decide]; k_extra "w my om"⟩
/-- within quotes -/
structure QInv (tok rest cs : List Nat) (acc : Str) : Prop where
  w : ∃ t, QTok cs t rest ∧ acc ++ (⟨t.toArray⟩ : Str) = ⟨tok.toArray⟩
  z : cs.length ≤ 3000
  y : acc.length + cs.length ≤ 3002
theorem QInv.hz {tok rest : List Nat} : ∀ cs acc, QInv tok rest cs acc → cs.length ≤ 5000 := fun _ _ h => Nat.le_trans h.z (by decide)
theorem QInv.sm {tok rest cs : List Nat} {acc : Str} (h : QInv tok rest cs acc) : Sm 3002 acc := Nat.le_trans (Nat.le_add_right _ _) h.y
theorem QInv.nil {tok rest : List Nat} {acc : Str} (h : QInv tok rest [] acc) : False := by
  obtain ⟨t, hw, _⟩ := h.w
  cases hw
theorem QInv.stop {tok rest cs : List Nat} {c : Nat} {acc : Str} (h : QInv tok rest (c :: cs) acc) (hc : c = 34) : acc = ⟨tok.toArray⟩ ∧ cs = rest := by
  obtain ⟨t, hw, e⟩ := h.w
  subst hc
  cases hw with
  | stop => exact ⟨by rw [← e]; exact (Str.append_empty acc).symm, rfl⟩
  | sign h _ _ => exact absurd rfl h
theorem QInv.no92 {tok rest cs : List Nat} {c : Nat} {acc : Str} (h : QInv tok rest (c :: cs) acc) (hc : c = 92) : False := by
  obtain ⟨t, hw, e⟩ := h.w
  subst hc
  cases hw with
  | sign _ h _ => exact absurd rfl h
theorem QInv.go {tok rest cs : List Nat} {c : Nat} {acc : Str} (h : QInv tok rest (c :: cs) acc) (h1 : c ≠ 34) : QInv tok rest cs (acc ++ (⟨#[c]⟩ : Str)) := by
  obtain ⟨⟨t, hw, e⟩, z, y⟩ := h
  cases hw with
  | stop => exact absurd rfl h1
  | sign _ _ h => exact ⟨⟨_, h, by rw [← str_cons]; exact e⟩, Nat.le_of_succ_le z, by rw [str_len1]; simp only [List.length_cons] at y; omega⟩
theorem QInv.first {tok rest cs : List Nat} {acc : Str} (ea : acc = Str.ofString "") (h : QTok cs tok rest) (z : cs.length ≤ 3000) : QInv tok rest cs acc := by
  subst ea
  exact ⟨⟨tok, h, by rw [show Str.ofString "" = Str.empty from by decide]; exact Str.empty_append _⟩, z, by rw [show (Str.ofString "").length = 0 from by decide]; k_extra "w my om"⟩
/-- ahead of a token -/
structure AInv (tok rest cs : List Nat) (acc : Str) : Prop where
  e : acc = Str.ofString ""
  t : Tok1 cs tok rest
  z : cs.length ≤ 3000
theorem AInv.hz {tok rest : List Nat} : ∀ cs acc, AInv tok rest cs acc → cs.length ≤ 5000 := fun _ _ h => Nat.le_trans h.z (by decide)
theorem tokMap_none {a : LexA} {I : Addr} {acc : Str} {t : Tok} {ch : Option Value} {y : Str} (h1 : y ≠ Str.ofString "ch") (h2 : y ≠ Str.ofString "token") (h3 : y ≠ Str.ofString "fiter") (h4 : y ≠ Str.ofString "self") : tokMap a I acc t ch y = none := by
  unfold tokMap
  rw [if_neg h1, if_neg h2, if_neg h3, if_neg h4]
theorem rgTokenx2 : (0 : Nat) = 0 := by
  (k_with "w truthy ref" => refine stop_here ?_)
  (k_with "w exec AugAssign" => refine stop_here ?_)
  (k_with "w exec For Name Name cons nil" => refine stop_here ?_)
  (k_with "w pyIter ref" => refine stop_here ?_)
  (k_with "w call ref" => ((with_reducible show wpAny _ _ (call (Value.ref 101) _ _) _ _ _); refine stop_here ?_))
  rfl
noncomputable def TokEndS (w : World) (g : Heap) (L' : Addr) (a : LexA) (K : Int) (k : Nat) (s₀ : Shared) (rest : List Nat) (tok : List Nat) (v : Value) (s₃ : Shared) : Prop :=
  ∃ h tk vs n tn u m news, v = .str ⟨tok.toArray⟩ u ∧ s₃ = { s₀ with heap := h, toks := tk } ∧ Fr g L' h m ∧ News g L' h news ∧ (∀ q ∈ lexLed w.params a (K - nls rest) tn vs n [] k, q ∈ news) ∧ Signs vs rest.reverse
theorem TokEndS.of {w : World} {g h : Heap} {L' : Addr} {a : LexA} {K : Int} {k : Nat} {s₀ : Shared} {rest tok cs : List Nat} {tk n : Nat} {vs : List Value} {tn u : Tok} {m : Str → Option Value} {news : List (Addr × Obj)} {acc : Str} (e : acc = ⟨tok.toArray⟩ ∧ cs = rest)
    (F : Fr g L' h m) (N : News g L' h news) (hsub : ∀ q ∈ lexLed w.params a (K - nls cs) tn vs n [] k, q ∈ news) (hs : Signs vs cs.reverse) : TokEndS w g L' a K k s₀ rest tok (.str acc u) { s₀ with heap := h, toks := tk } := by
  obtain ⟨rfl, rfl⟩ := e
  exact ⟨h, tk, vs, n, tn, u, m, news, rfl, rfl, F, N, hsub, hs⟩
theorem TokEndS.nil {w : World} {g h : Heap} {L' : Addr} {a : LexA} {K : Int} {k : Nat} {s₀ : Shared} {rest tok : List Nat} {tk n : Nat} {tn u : Tok} {m : Str → Option Value} {acc : Str} (e : acc = Str.ofString "") (e2 : tok = [] ∧ rest = [])
    (F : Fr g L' h m) (N : News g L' h (lexLed w.params a K tn [] n [] k)) : TokEndS w g L' a K k s₀ rest tok (.str acc u) { s₀ with heap := h, toks := tk } := by
  obtain ⟨rfl, rfl⟩ := e2
  subst e
  have e0 : K - nls [] = K := Int.sub_zero K
  rw [← e0] at N
  exact ⟨h, tk, [], n, tn, u, m, _, rfl, rfl, F, N, fun _ h => h, .nil⟩
theorem tok_read' {w : World} {A : Around} {base g : Heap} {outer : List Env} {p : Program} {loose : List Str} {mean : ExcName → Option Value} {mg mb m : Str → Option Value} {L' : Addr} {a : LexA} {I q : Addr} {env : Env} {ti : Tok} {K : Int} {k n : Nat} {s : Shared} {c : Nat} {cs r : List Nat} {vs : List Value} {tn : Tok}
    {R : Result → Shared → Prop} (e : r = c :: cs) (hl : r.length ≤ 3000) (C : TokCtx w A base outer p loose mean mg mb g L' a I q env) (F : Fr g L' s.heap m) (N : News g L' s.heap (tokLed w.params a I q ti (K - nls r) tn vs n k)) (hs : Signs vs r.reverse)
    (hR : ∀ h' tk' u tn' vs' n', Fr g L' h' m → News g L' h' (tokLed w.params a I q ti (K - nls cs) tn' vs' n' k) → Signs vs' cs.reverse → R (.ok (.ret (.str ⟨#[c]⟩ u))) { s with heap := h', toks := tk' }) :
    codeAny (model PG w) (A.deeper env).in1 (.call (.ref 101) ⟨[.ref a.x], []⟩) R s := by
  subst e
  exact tok_read C F N hs (Nat.le_trans (Nat.le_of_succ_le hl) (by decide)) hR
/-- a word's first sign is at hand -/
inductive TokW (w : World) (g : Heap) (L' : Addr) (a : LexA) (I q : Addr) (K : Int) (k : Nat) (s₀ : Shared) (tok rest : List Nat) (acc : Str) : Shared → Prop
  | mk {ti : Tok} {c : Nat} {u : Tok} {r t2 : List Nat} {h : Heap} {tk n : Nat} {vs : List Value} {tn t : Tok} : tok = c :: t2 → WTok r t2 rest → r.length ≤ 3000 → Fr g L' h (tokMap a I acc t (some (.str ⟨#[c]⟩ u))) →
      News g L' h (tokLed w.params a I q ti (K - nls r) tn vs n k) → Signs vs r.reverse → TokW w g L' a I q K k s₀ tok rest acc { s₀ with heap := h, toks := tk }
theorem TokW.elim {w : World} {g : Heap} {L' : Addr} {a : LexA} {I q : Addr} {K : Int} {k : Nat} {s₀ s : Shared} {tok rest : List Nat} {acc : Str} {P : Shared → Prop} (st : TokW w g L' a I q K k s₀ tok rest acc s)
    (f : ∀ (ti : Tok) (c : Nat) (u : Tok) (r t2 : List Nat) (h : Heap) (tk n : Nat) (vs : List Value) (tn t : Tok), tok = c :: t2 → WTok r t2 rest → r.length ≤ 3000 → Fr g L' h (tokMap a I acc t (some (.str ⟨#[c]⟩ u))) →
      News g L' h (tokLed w.params a I q ti (K - nls r) tn vs n k) → Signs vs r.reverse → P { s₀ with heap := h, toks := tk }) : P s := by
  cases st with
  | mk h1 h2 h3 h4 h5 h6 => exact f _ _ _ _ _ _ _ _ _ _ _ h1 h2 h3 h4 h5 h6
theorem haveW {m : Model} {A : Around} {st : Stmt} {env : Env} {Q : Flow → Shared → Prop} {E : Value → Shared → Prop} {G : Prop} (pre : Shared → Prop) (main : (∀ s, pre s → wpAny m A (exec st env) Q E s) → G) (word : ∀ s, pre s → wpAny m A (exec st env) Q E s) : G := main word
theorem haveP {P G : Prop} (main : P → G) (h : P) : G := main h
theorem fr_tok {g h : Heap} {L' : Addr} {a : LexA} {I : Addr} {acc : Str} {t : Tok} {ch : Option Value} {m : Str → Option Value} (F : Fr g L' h m) (e1 : m (Str.ofString "ch") = ch) (e2 : m (Str.ofString "token") = some (.str acc t)) (e3 : m (Str.ofString "fiter") = some (.ref I)) (e4 : m (Str.ofString "self") = some (.ref a.x))
    (e5 : ∀ y, y ≠ Str.ofString "ch" → y ≠ Str.ofString "token" → y ≠ Str.ofString "fiter" → y ≠ Str.ofString "self" → m y = none) : Fr g L' h (tokMap a I acc t ch) := by
  refine Mine.Fr.congr F fun y => ?_
  unfold tokMap
  by_cases a1 : y = Str.ofString "ch"
  · subst a1; rw [if_pos rfl]; exact e1
  by_cases a2 : y = Str.ofString "token"
  · subst a2; rw [if_neg a1, if_pos rfl]; exact e2
  by_cases a3 : y = Str.ofString "fiter"
  · subst a3; rw [if_neg a1, if_neg a2, if_pos rfl]; exact e3
  by_cases a4 : y = Str.ofString "self"
  · subst a4; rw [if_neg a1, if_neg a2, if_neg a3, if_pos rfl]; exact e4
  rw [if_neg a1, if_neg a2, if_neg a3, if_neg a4]; exact e5 y a1 a2 a3 a4
set_option maxHeartbeats 8000000 in
theorem token_spec {w : World} {A : Around} {s : Shared} {G base : Heap} {outer : List Env} {p : Program} {loose : List Str} {mean : ExcName → Option Value} {mg mb : Str → Option Value}
    (hS : Setup 21 w A base outer p loose mean mg mb G) (hG : ∀ b o, G.get? b = some o → s.heap.get? b = some o)
    (a : LexA) (K : Int) (tn : Tok) (vs : List Value) (n : Nat) (k : Nat) (cs tok rest : List Nat) (hs : Signs vs cs.reverse) (ht : Tok1 cs tok rest) (ok : LexOk a) (hz : cs.length ≤ 3000) (hN : ∀ q ∈ lexLed w.params a (K - nls cs) tn vs n [] k, s.heap.get? q.1 = some q.2 ∧ G.get? q.1 = none) :
    CallsTo w A (.ref 108) [.ref a.x] [] s [a.d, a.D] (fun v h' => ∃ u tn' vs' n', v = .str ⟨tok.toArray⟩ u ∧ Signs vs' rest.reverse ∧ Holds h' (lexLed w.params a (K - nls rest) tn' vs' n' [] k)) := by
  intro R hret
  (rename Setup _ _ _ _ _ _ _ _ _ _ _ => hSu)
  apply Setup.open hSu
  clear hSu
  intro dpt grs uni X T B hdp hun
  refine' enterH (news := lexLed w.params a (K - nls cs) tn vs n [] k) ?k1 ?k2 ?kb ?k3 ?kN ?k6 ?k7 ?k8 ?k9 ?kB ?_ ?c2 ?c3 ?c4 ?c5
  case kN => exact hN
  (case k1 => assumption)
  (case k2 => assumption)
  (case kb => assumption)
  (case k3 => assumption)
  (case k6 => k_dflt k_is)
  (case k7 => k_dflt k_is)
  (case k8 => (show _ < 1000; dsimp only; omega))
  (case k9 => exact BindsTo.of_eq rfl)
  (case kB => exact locs rfl)
  (case c5 => decide)
  (case c2 => exact rfl)
  (case c3 => exact rfl)
  (case c4 => exact rfl)
  intro g L' h₁ hg hg' hL' X' T' B' F' N' hl'
  have hCd : CodeHd g 147 143 := codeHd_of_K X' (by kernel_rfl)
  replace hN := fun q hq => (hN q hq).1
  obtain ⟨oe, ⟨ocv, oct, oc1, oc2⟩, o1, o2, o3, o4, o5, o6, o7, o8⟩ := id ok
  k_lt hl'
  have hfin : ∀ v s₃, TokEndS w g L' a K k s rest tok v s₃ → R (.ok (.ret v)) s₃ := by
    rintro v s₃ ⟨h, tk, vs', n', tn', u, m, news, rfl, rfl, F, N, hsub, hs'⟩
    exact hret _ _ _ (touch_led hg hL' F hN N fun q hq => (lexLed_ch q hq).imp id (hsub q)) ⟨u, tn', vs', n', rfl, hs', fun q hq => (N q (hsub q hq)).1⟩
  clear hret
  (try dsimp only)
  (try k_fold)
  k_steps
  unfold Stop
  refine truthy_led_no (by k_asm) (by k_mem) ?_
  k_steps
  (try dsimp only)
  rename Nat => q
  refine' iter_led ?F ?N ?m ?_
  case F => k_asm
  case N => k_asm
  case m => k_mem
  intro I h' F' N' l1
  k_lt l1
  k_steps
  unfold Stop
  refine wpAny_For ?_
  k_steps
  unfold Stop
  refine iter_self ((by assumption : News _ _ _ _) _ (.head _)).1 ?_
  (rename Fr _ _ _ _ => F); (rename News _ _ _ _ => N)
  refine' haveP (P := TokCtx w ⟨none, dpt, some outer, grs, uni⟩ base outer p loose mean mg mb g L' a I q _) ?m ?c
  case m =>
    intro C
    refine' tok_loop (A := ⟨none, dpt, some outer, grs, uni⟩) (AInv tok rest) ⟨rfl, ht, hz⟩ (.intro (fr_tok (ch := none) F rfl rfl rfl rfl ?m) N hs) C AInv.hz ?turn ?stop
    case m =>
      intro y e1 e2 e3 e4
      refine (if_neg e3).trans ((if_neg e2).trans ?_)
      show List.lookup y [(Str.ofString "self", Value.ref a.x)] = none
      have e5 : (y == Str.ofString "self") = false := by simpa using e4
      simp [List.lookup, e5]
    case stop =>
      intro acc s₁ inv st
      dsimp only
      refine st.elim fun h tk n' tn' t' ch' F N => ?_
      k_steps
      exact hfin _ _ (.nil inv.e inv.t.nil (by assumption) (by assumption))
    case turn =>
      clear hs F N
      intro c r acc u s₁ inv st
      have hr : r.length ≤ 3000 := Nat.le_of_succ_le inv.z
      have hsm0 : acc.length ≤ 0 := by rw [inv.e]; decide
      refine' haveW (TokW w g L' a I q K k s tok rest acc) ?main ?word
      case main =>
        intro word
        refine st.elim fun h tk vs' n' tn' t' ch' F N hs' => ?_
        k_steps
        · -- a quote
          have hq : QTok r tok rest := inv.t.at34 (sign_yes (by assumption) (d := 34) (by decide))
          unfold Stop
          refine wpAny_For ?_
          k_steps
          unfold Stop
          refine iter_self ((by assumption : News _ _ _ _) _ (.head _)).1 ?_
          (rename Fr _ _ _ _ => F); (rename News _ _ _ _ => N)
          refine' tok_loop (A := ⟨none, dpt, some outer, grs, uni⟩) (QInv tok rest) (.first inv.e hq hr) (.intro (fr_tok F rfl rfl rfl rfl fun y a1 a2 a3 a4 => (if_neg a1).trans (tokMap_none a1 a2 a3 a4)) N hs') C QInv.hz ?turn2 ?stop2
          case stop2 => exact fun acc s₁ i _ => i.nil.elim
          case turn2 =>
            clear word; clear hs' F N
            intro c1 r1 acc u1 s₁ inv st
            refine st.elim fun h tk vs' n' tn' t' ch' F N hs' => ?_
            have hsm : acc.length ≤ 3002 := inv.sm
            k_steps
            · -- the quote's end
              exact hfin _ _ (.of (inv.stop (sign_yes (by assumption) (d := 34) (by decide))) (by assumption) (by assumption) (fun q hq => .tail _ (.tail _ hq)) hs')
            · -- a backslash: none stands here
              exact (inv.no92 (sign_yes (by assumption) (d := 92) (by decide))).elim
            · -- a sign
              have w4 := sign_no (by assumption : (_ == Str.ofString "\"") = false) (d := 34) (by decide)
              unfold Stop
              refine wpAny_AugAssign_Name ?_
              k_steps
              (rename Fr _ _ _ _ => F); (rename News _ _ _ _ => N)
              exact TokTurn.goes (.inl rfl) (Nat.lt_succ_self _) (inv.go w4) (.intro (fr_tok F rfl rfl rfl rfl fun y a1 a2 a3 a4 => (if_neg a2).trans ((if_neg a1).trans (tokMap_none a1 a2 a3 a4))) N hs')
        · -- a sign behind a backslash
          obtain ⟨c2, r2, t2, er, htok, hw2⟩ := inv.t.at92 (sign_yes (by assumption) (d := 92) (by decide))
          unfold Stop
          (rename Fr _ _ _ _ => F); (rename News _ _ _ _ => N)
          refine wpAny_call (codeAny_of_in1 ?_)
          refine tok_read' er hr C F N hs' ?_
          clear hs' F N
          intro h' tk' u2 tn' vs' n' F' N' hs'
          dsimp only
          k_steps
          unfold Stop
          (rename Fr _ _ _ _ => F); (rename News _ _ _ _ => N)
          exact word _ (.mk htok hw2 (by rw [er] at hr; exact Nat.le_of_succ_le hr) (fr_tok F rfl rfl rfl rfl fun y a1 a2 a3 a4 => (if_neg a1).trans ((if_neg a1).trans (tokMap_none a1 a2 a3 a4))) N hs')
        · -- a word
          have w2 := in_ws_no (by assumption)
          have w4 := sign_no (by assumption : (_ == Str.ofString "\"") = false) (d := 34) (by decide)
          have w6 := sign_no (by assumption : (_ == Str.ofString "\\") = false) (d := 92) (by decide)
          obtain ⟨t2, htok, hw2⟩ := inv.t.go w2 w4 w6
          unfold Stop
          (rename Fr _ _ _ _ => F); (rename News _ _ _ _ => N)
          exact word _ (.mk htok hw2 hr (fr_tok F rfl rfl rfl rfl fun y a1 a2 a3 a4 => (if_neg a1).trans (tokMap_none a1 a2 a3 a4)) N hs')
        · -- white
          have w2 := in_ws_yes (by assumption)
          (rename Fr _ _ _ _ => F); (rename News _ _ _ _ => N)
          exact TokTurn.goes (.inr rfl) (Nat.lt_succ_self _) ⟨inv.e, inv.t.white w2, hr⟩ (.intro (fr_tok F rfl rfl rfl rfl fun y a1 a2 a3 a4 => (if_neg a1).trans (tokMap_none a1 a2 a3 a4)) N hs')
      case word =>
        clear st
        intro s₁ st
        refine st.elim fun ti c' u' r' t2 h tk n vs tn t htok hw2 hr' F N hs' => ?_
        refine wpAny_AugAssign_Name ?_
        k_steps
        unfold Stop
        refine wpAny_For ?_
        k_steps
        unfold Stop
        refine iter_self ((by assumption : News _ _ _ _) _ (.head _)).1 ?_
        (rename Fr _ _ _ _ => F); (rename News _ _ _ _ => N)
        refine' tok_loop (A := ⟨none, dpt, some outer, grs, uni⟩) (WInv tok rest) (.first inv.e htok hw2 hr') (.intro (fr_tok F rfl rfl rfl rfl fun y a1 a2 a3 a4 => (if_neg a2).trans (tokMap_none a1 a2 a3 a4)) N hs') C WInv.hz ?turn2 ?stop2
        case stop2 => exact fun acc s₁ i _ => i.nil.elim
        case turn2 =>
          clear hs' F N
          intro c1 r1 acc u1 s₁ inv st
          refine st.elim fun h tk vs' n' tn' t' ch' F N hs' => ?_
          have hsm : acc.length ≤ 3002 := inv.sm
          k_steps
          · -- a sign behind a backslash
            obtain ⟨c2, r2, er, inv2⟩ := inv.esc (sign_yes (by assumption) (d := 92) (by decide))
            unfold Stop
            (rename Fr _ _ _ _ => F); (rename News _ _ _ _ => N)
            refine wpAny_call (codeAny_of_in1 ?_)
            refine tok_read' er (Nat.le_of_succ_le inv.z) C F N hs' ?_
            clear hs' F N
            intro h' tk' u2 tn' vs' n' F' N' hs'
            dsimp only
            k_steps
            unfold Stop
            refine wpAny_AugAssign_Name ?_
            k_steps
            (rename Fr _ _ _ _ => F); (rename News _ _ _ _ => N)
            exact TokTurn.goes (.inl rfl) (by rw [er]; exact Nat.lt_succ_of_lt (Nat.lt_succ_self _)) inv2 (.intro (fr_tok F rfl rfl rfl rfl fun y a1 a2 a3 a4 => (if_neg a2).trans ((if_neg a1).trans ((if_neg a1).trans (tokMap_none a1 a2 a3 a4)))) N hs')
          · -- a sign
            have w2 := in_ws_no (by assumption)
            have w4 := sign_no (by assumption : (_ == Str.ofString "\\") = false) (d := 92) (by decide)
            unfold Stop
            refine wpAny_AugAssign_Name ?_
            k_steps
            (rename Fr _ _ _ _ => F); (rename News _ _ _ _ => N)
            exact TokTurn.goes (.inl rfl) (Nat.lt_succ_self _) (inv.go w2 w4) (.intro (fr_tok F rfl rfl rfl rfl fun y a1 a2 a3 a4 => (if_neg a2).trans ((if_neg a1).trans (tokMap_none a1 a2 a3 a4))) N hs')
          · -- white: the word is read
            exact hfin _ _ (.of (inv.stop (in_ws_yes (by assumption))) (by assumption) (by assumption) (fun q hq => .tail _ (.tail _ hq)) hs')
  case c => exact ⟨⟨X', T', B', rfl, by dsimp only; k_extra "w my om", by dsimp only; k_extra "w my om"⟩, ok, rfl, rfl, rfl, fn_of X' (by k_is), by k_extra "w my om", by k_extra "w my om"⟩
end
section
theorem resetPush : (0 : Nat) = 0 := by
  w_top off
  k_with_none
  (k_with "w my pick" => (with_reducible first | assumption | exact lo1 | exact lo2 | exact lo3 | exact lo4 | exact ls1 (by assumption) | exact ls2 (by assumption) | exact ls3 (by assumption) | exact pk0 (by assumption) | exact pk1 (by assumption) | exact pk2 (by assumption) | exact pk3 (by assumption) | exact pk4 (by assumption) | exact pk5 (by assumption) | exact pk6 (by assumption) | exact pk7 (by assumption) | exact pk8 (by assumption) | exact pk9 (by assumption) | exact pk10 (by assumption) | exact pk11 (by assumption) | exact pk12 (by assumption) | exact pk13 (by assumption) | exact pk14 (by assumption) | exact pk15 (by assumption) | exact pk16 (by assumption) | exact pk17 (by assumption) | exact qk1 (by assumption) | exact qk2 (by assumption) | exact qk3 (by assumption) | exact qk4 (by assumption) | exact qk5 (by assumption) | exact qk6 (by assumption) | exact qk7 (by assumption) | exact qk8 (by assumption) | exact qk9 (by assumption) | exact qk10 (by assumption) | exact qk11 (by assumption) | exact qk12 (by assumption) | exact qk13 (by assumption) | exact qk14 (by assumption) | exact qk15 (by assumption) | exact qk16 (by assumption) | exact qk17 (by assumption)))
  (k_with "w my sml" => (with_reducible first | (refine Nat.ne_of_lt ?_; k_extra "w my pick") | (refine Nat.ne_of_gt ?_; k_extra "w my pick") | (refine Ne.symm ?_; k_extra "w my pick") | (refine id ?_; k_extra "w my pick") | (refine Nat.le_of_lt ?_; k_extra "w my pick") | exact lrefl | exact lzero | exact one_le | exact room0 (by assumption) | exact room (by assumption) (by decide) | exact room1 (by assumption) (by decide) | exact room2 (by assumption) (by decide) | exact room3 (by assumption) (by decide) | exact le_le (by assumption) (by decide) | exact le_sc (by assumption) | (refine above1' ?_ (by assumption); k_extra "w my pick") | (refine above2' ?_ (by assumption); k_extra "w my pick")))
  (k_with "w my om" => (first | k_extra "w my sml" | lia | omega))
  rfl
theorem rgPushx1 : (0 : Nat) = 0 := by
  (k_with "w my k_room" => ((try simp only [depth_under_make, depth_under_kw, depth_in1, depth_deeper]); (show _ < 1000); (try dsimp only); omega))
  (k_with "w my units_room" => ((try simp only [units_in1, units_deeper, Around.mark_units]); (show _ < 9900); (try dsimp only); omega))
  (k_with "w my small" => (first
  | (refine Sm.int ?_; (try simp only [Int.fmod_eq_emod_of_nonneg, Int.fdiv_eq_ediv_of_nonneg, Int.reduceLE]); omega)
  | (apply Sm.slice; k_extra "w my small")
  | (apply Sm.add <;> k_extra "w my small")
  | (apply Sm.ite <;> k_extra "w my small")
  | assumption
  | exact Sm.refl _))
  (k_with "w subscriptTail Name Slice str ref" => ((with_reducible show wpAny _ _ (subscriptTail _ (Expr.Slice (some _) none none _) (Value.str _ _) (Value.ref _)) _ _ _); dsimp only; (with_reducible rename Fr _ _ _ _ => F'); (with_reducible rename News _ _ _ _ => N'); (refine' slice_strN_sn (hsz := by (apply Sm.size <;> first | k_extra "w my small" | decide)) (s := ⟨_, _, _, _, _⟩) F' N' ?_); intro _ _ _ _ _))
  (k_with "w binaryOp Add str str" => ((with_reducible show wpAny _ _ (binaryOp Operator.Add (Value.str _ _) (Value.str _ _)) _ _ _); (refine' PyProof.Rows.add_str ?_ (by (apply Sm.size2 <;> first | k_extra "w my small" | decide))); intro _ _))
  (k_with "w ite" => ((with_reducible refine ite_strs ?_); intro _))
  (k_with "w truthy ref" => refine stop_here ?_)
  (k_with "w call builtin:list.pop" => refine stop_here ?_)
  (k_with "w call builtin:list.append" => refine stop_here ?_)
  rfl
set_option maxHeartbeats 8000000 in
theorem push_spec {w : World} {A : Around} {s : Shared} {G base : Heap} {outer : List Env} {p : Program} {loose : List Str} {mean : ExcName → Option Value} {mg mb : Str → Option Value}
    (hS : Setup 10 w A base outer p loose mean mg mb G) (hG : ∀ b o, G.get? b = some o → s.heap.get? b = some o)
    (a : LexA) (no : Int) (tn : Tok) (vs : List Value) (n : Nat) (pb : List Value) (k : Nat) (v : Value) (ok : LexOk a) (hz : pb.length ≤ 5000) (hN : ∀ q ∈ lexLed w.params a no tn vs n pb k, s.heap.get? q.1 = some q.2 ∧ G.get? q.1 = none) :
    CallsTo w A (.ref 115) [.ref a.x, v] [] s [a.l] (fun v' h' => Holds h' (lexLed w.params a no tn vs n (pb ++ [v]) (k + 1))) := by
  intro R hret
  (rename Setup _ _ _ _ _ _ _ _ _ _ _ => hSu)
  apply Setup.open hSu
  clear hSu
  intro dpt grs uni X T B hdp hun
  refine' enterH (news := lexLed w.params a no tn vs n pb k) ?k1 ?k2 ?kb ?k3 ?kN ?k6 ?k7 ?k8 ?k9 ?kB ?_ ?c2 ?c3 ?c4 ?c5
  case kN => exact hN
  (case k1 => assumption)
  (case k2 => assumption)
  (case kb => assumption)
  (case k3 => assumption)
  (case k6 => k_dflt k_is)
  (case k7 => k_dflt k_is)
  (case k8 => (show _ < 1000; dsimp only; omega))
  (case k9 => exact BindsTo.of_eq rfl)
  (case kB => exact locs rfl)
  (case c5 => decide)
  (case c2 => exact rfl)
  (case c3 => exact rfl)
  (case c4 => exact rfl)
  intro g L' h₁ hg hg' hL' X' T' B' F' N' hl'
  have hCd : CodeHd g 147 143 := codeHd_of_K X' (by kernel_rfl)
  replace hN := fun q hq => (hN q hq).1
  have hlts := ok.lts
  obtain ⟨oe, ⟨ocv, oct, oc1, oc2⟩, o1, o2, o3, o4, o5, o6, o7, o8⟩ := ok
  k_lt hl'
  (try dsimp only)
  (try k_fold)
  k_steps
  unfold Stop
  refine' append_led (p := pb) (y := v) ?F ?N ?U (Nat.le_trans hz (by decide)) ?_
  case F => k_asm
  case N => k_asm
  case U => k_upd
  intro h' F' N'
  k_steps
  (try dsimp only)
  refine hret _ _ _ (touch_led hg hL' (by assumption) hN (by assumption) ?_) (fun q hq => ((by assumption : News _ _ _ _) q hq).1)
  exact ch_diff (.head _) fun _ hq => .inr hq
set_option maxHeartbeats 8000000 in
theorem pop_spec {w : World} {A : Around} {s : Shared} {G base : Heap} {outer : List Env} {p : Program} {loose : List Str} {mean : ExcName → Option Value} {mg mb : Str → Option Value}
    (hS : Setup 10 w A base outer p loose mean mg mb G) (hG : ∀ b o, G.get? b = some o → s.heap.get? b = some o)
    (a : LexA) (no : Int) (tn : Tok) (vs : List Value) (n : Nat) (pb : List Value) (k : Nat) (v : Value) (ok : LexOk a) (hz : pb.length ≤ 5000) (hN : ∀ q ∈ lexLed w.params a no tn vs n (v :: pb) k, s.heap.get? q.1 = some q.2 ∧ G.get? q.1 = none) :
    CallsTo w A (.ref 108) [.ref a.x] [] s [a.l] (fun v' h' => v' = v ∧ Holds h' (lexLed w.params a no tn vs n pb (k + 1))) := by
  intro R hret
  (rename Setup _ _ _ _ _ _ _ _ _ _ _ => hSu)
  apply Setup.open hSu
  clear hSu
  intro dpt grs uni X T B hdp hun
  refine' enterH (news := lexLed w.params a no tn vs n (v :: pb) k) ?k1 ?k2 ?kb ?k3 ?kN ?k6 ?k7 ?k8 ?k9 ?kB ?_ ?c2 ?c3 ?c4 ?c5
  case kN => exact hN
  (case k1 => assumption)
  (case k2 => assumption)
  (case kb => assumption)
  (case k3 => assumption)
  (case k6 => k_dflt k_is)
  (case k7 => k_dflt k_is)
  (case k8 => (show _ < 1000; dsimp only; omega))
  (case k9 => exact BindsTo.of_eq rfl)
  (case kB => exact locs rfl)
  (case c5 => decide)
  (case c2 => exact rfl)
  (case c3 => exact rfl)
  (case c4 => exact rfl)
  intro g L' h₁ hg hg' hL' X' T' B' F' N' hl'
  have hCd : CodeHd g 147 143 := codeHd_of_K X' (by kernel_rfl)
  replace hN := fun q hq => (hN q hq).1
  have hlts := ok.lts
  obtain ⟨oe, ⟨ocv, oct, oc1, oc2⟩, o1, o2, o3, o4, o5, o6, o7, o8⟩ := ok
  k_lt hl'
  (try dsimp only)
  (try k_fold)
  k_steps
  unfold Stop
  refine truthy_led_yes (by k_asm) (by k_mem) (by simp) (Nat.le_trans (by simpa using Nat.succ_le_succ hz) (by decide : (5001 : Nat) ≤ sizeLine)) ?_
  k_steps
  unfold Stop
  refine' pop0_led (p := pb) (y := v) ?F ?N ?U (Nat.le_trans (Nat.succ_le_succ hz) (by decide)) ?_
  case F => k_asm
  case N => k_asm
  case U => k_upd
  intro h' F' N'
  k_steps
  (try dsimp only)
  refine hret _ _ _ (touch_led hg hL' (by assumption) hN (by assumption) ?_) ⟨rfl, fun q hq => ((by assumption : News _ _ _ _) q hq).1⟩
  exact ch_diff (.head _) fun _ hq => .inr hq
end
section
theorem resetLexer : (0 : Nat) = 0 := by
  w_top off
  k_with_none
  (k_with "w my pick" => (with_reducible first | assumption | exact lo1 | exact lo2 | exact lo3 | exact lo4 | exact ls1 (by assumption) | exact ls2 (by assumption) | exact ls3 (by assumption) | exact pk0 (by assumption) | exact pk1 (by assumption) | exact pk2 (by assumption) | exact pk3 (by assumption) | exact pk4 (by assumption) | exact pk5 (by assumption) | exact pk6 (by assumption) | exact pk7 (by assumption) | exact pk8 (by assumption) | exact pk9 (by assumption) | exact pk10 (by assumption) | exact pk11 (by assumption) | exact pk12 (by assumption) | exact pk13 (by assumption) | exact pk14 (by assumption) | exact pk15 (by assumption) | exact pk16 (by assumption) | exact pk17 (by assumption) | exact qk1 (by assumption) | exact qk2 (by assumption) | exact qk3 (by assumption) | exact qk4 (by assumption) | exact qk5 (by assumption) | exact qk6 (by assumption) | exact qk7 (by assumption) | exact qk8 (by assumption) | exact qk9 (by assumption) | exact qk10 (by assumption) | exact qk11 (by assumption) | exact qk12 (by assumption) | exact qk13 (by assumption) | exact qk14 (by assumption) | exact qk15 (by assumption) | exact qk16 (by assumption) | exact qk17 (by assumption)))
  (k_with "w my sml" => (with_reducible first | (refine Nat.ne_of_lt ?_; k_extra "w my pick") | (refine Nat.ne_of_gt ?_; k_extra "w my pick") | (refine Ne.symm ?_; k_extra "w my pick") | (refine id ?_; k_extra "w my pick") | (refine Nat.le_of_lt ?_; k_extra "w my pick") | exact lrefl | exact lzero | exact one_le | exact room0 (by assumption) | exact room (by assumption) (by decide) | exact room1 (by assumption) (by decide) | exact room2 (by assumption) (by decide) | exact room3 (by assumption) (by decide) | exact le_le (by assumption) (by decide) | exact le_sc (by assumption) | (refine above1' ?_ (by assumption); k_extra "w my pick") | (refine above2' ?_ (by assumption); k_extra "w my pick")))
  (k_with "w my om" => (first | k_extra "w my sml" | lia | omega))
  rfl
theorem rgLexerx1 : (0 : Nat) = 0 := by
  (k_with "w my k_room" => ((try simp only [depth_under_make, depth_under_kw, depth_in1, depth_deeper]); (show _ < 1000); (try dsimp only); omega))
  (k_with "w my units_room" => ((try simp only [units_in1, units_deeper, Around.mark_units]); (show _ < 9900); (try dsimp only); omega))
  (k_with "w my small" => (first
  | (refine Sm.int ?_; (try simp only [Int.fmod_eq_emod_of_nonneg, Int.fdiv_eq_ediv_of_nonneg, Int.reduceLE]); omega)
  | (apply Sm.slice; k_extra "w my small")
  | (apply Sm.add <;> k_extra "w my small")
  | (apply Sm.ite <;> k_extra "w my small")
  | assumption
  | exact Sm.refl _))
  (k_with "w subscriptTail Name Slice str ref" => ((with_reducible show wpAny _ _ (subscriptTail _ (Expr.Slice (some _) none none _) (Value.str _ _) (Value.ref _)) _ _ _); dsimp only; (with_reducible rename Fr _ _ _ _ => F'); (with_reducible rename News _ _ _ _ => N'); (refine' slice_strN_sn (hsz := by (apply Sm.size <;> first | k_extra "w my small" | decide)) (s := ⟨_, _, _, _, _⟩) F' N' ?_); intro _ _ _ _ _))
  (k_with "w binaryOp Add str str" => ((with_reducible show wpAny _ _ (binaryOp Operator.Add (Value.str _ _) (Value.str _ _)) _ _ _); (refine' PyProof.Rows.add_str ?_ (by (apply Sm.size2 <;> first | k_extra "w my small" | decide))); intro _ _))
  (k_with "w ite" => ((with_reducible refine ite_strs ?_); intro _))
  rfl
theorem lex_made1 {g h : Heap} {L' : Addr} {P : Params} {x d l x2 d2 l2 f c D e : Addr} {pm ct : Value} {oc oe o2 : Obj} {t1 t2 t3 t4 t5 u1 u2 u3 u4 u5 u6 u7 tn : Tok} {vs : List Value} {n : Nat} {news : List (Addr × Obj)}
    (N : News g L' h ((l, listOf ([] : List Value).toArray 0) :: (x, instObj 118 d) :: (d, lexDict P (⟨x, d, l, x2, d2, l2, f, c, D, e, pm, ct, oc, oe, t1, t2, t3, t4, t5, u1, u2, u3, u4, u5, u6, u7⟩ : LexA) 1 tn) :: (f, lexFn (⟨x, d, l, x2, d2, l2, f, c, D, e, pm, ct, oc, oe, t1, t2, t3, t4, t5, u1, u2, u3, u4, u5, u6, u7⟩ : LexA)) :: (c, oc) :: (l2, o2) :: (x2, instObj 118 d2) :: (d2, strDict P (⟨x, d, l, x2, d2, l2, f, c, D, e, pm, ct, oc, oe, t1, t2, t3, t4, t5, u1, u2, u3, u4, u5, u6, u7⟩ : LexA)) :: (D, listOf vs.toArray n) :: (e, oe) :: news)) : Holds h (lexLed P (⟨x, d, l, x2, d2, l2, f, c, D, e, pm, ct, oc, oe, t1, t2, t3, t4, t5, u1, u2, u3, u4, u5, u6, u7⟩ : LexA) 1 tn vs n [] 0) := by
  exact fun q hq => (N q (sub_keep (sub_keep (sub_keep (sub_keep (sub_keep (sub_skip (sub_keep (sub_keep (sub_keep (sub_keep sub_nil))))))))) q hq)).1
theorem lex_made2 {g h : Heap} {L' : Addr} {P : Params} {x d l x2 d2 l2 f c D e : Addr} {pm ct : Value} {oc oe o2 : Obj} {t1 t2 t3 t4 t5 u1 u2 u3 u4 u5 u6 u7 tn : Tok} {vs : List Value} {n : Nat} {news : List (Addr × Obj)}
    (N : News g L' h ((l, listOf ([] : List Value).toArray 0) :: (x, instObj 118 d) :: (d, lexDict P (⟨x, d, l, x2, d2, l2, f, c, D, e, pm, ct, oc, oe, t1, t2, t3, t4, t5, u1, u2, u3, u4, u5, u6, u7⟩ : LexA) 1 tn) :: (f, lexFn (⟨x, d, l, x2, d2, l2, f, c, D, e, pm, ct, oc, oe, t1, t2, t3, t4, t5, u1, u2, u3, u4, u5, u6, u7⟩ : LexA)) :: (l2, o2) :: (x2, instObj 118 d2) :: (d2, strDict P (⟨x, d, l, x2, d2, l2, f, c, D, e, pm, ct, oc, oe, t1, t2, t3, t4, t5, u1, u2, u3, u4, u5, u6, u7⟩ : LexA)) :: (D, listOf vs.toArray n) :: (e, oe) :: (143, lexTab c) :: (c, oc) :: news)) : Holds h (lexLed P (⟨x, d, l, x2, d2, l2, f, c, D, e, pm, ct, oc, oe, t1, t2, t3, t4, t5, u1, u2, u3, u4, u5, u6, u7⟩ : LexA) 1 tn vs n [] 0) := by
  exact fun q hq => (N q (sub_keep (sub_keep (sub_keep (sub_keep (sub_at (.tail _ (.tail _ (.tail _ (.tail _ (.tail _ (.tail _ (.head _))))))) (sub_skip (sub_keep (sub_keep (sub_keep (sub_keep sub_nil))))))))) q hq)).1
theorem rgLexerx2 : (0 : Nat) = 0 := by
  (k_with "w call type:list" => refine stop_here ?_)
  (k_with "w call builtin:list.reverse" => refine stop_here ?_)
  rfl
/-- a lexer over the signs cs, made from z on -/
noncomputable def LexNew (P : Params) (z : Addr) (cs : List Nat) (v : Value) (h : Heap) (a : LexA) : Prop :=
  ∃ vs n tn, v = .ref a.x ∧ LexOk a ∧ Signs vs cs.reverse ∧ Holds h (lexLed P a 1 tn vs n [] 0) ∧ ∀ q ∈ lexLed P a 1 tn vs n [] 0, q.1 = a.c ∨ z ≤ q.1
theorem lexNew_of {P : Params} {z : Addr} {cs : List Nat} {h : Heap} {a : LexA} {vs : List Value} {n : Nat} {tn : Tok} (ok : LexOk a) (hs : Signs vs cs.reverse) (H : Holds h (lexLed P a 1 tn vs n [] 0)) (he : @LE.le Nat _ z a.e) : LexNew P z cs (.ref a.x) h a :=
  ⟨vs, n, tn, rfl, ok, hs, H, ok.above he⟩
set_option maxHeartbeats 8000000 in
theorem lexer_first {w : World} {A : Around} {s : Shared} {G base : Heap} {outer : List Env} {p : Program} {loose : List Str} {mean : ExcName → Option Value} {mg mb : Str → Option Value}
    (hS : Setup 20 w A base outer p loose mean mg mb G) (hG : ∀ b o, G.get? b = some o → s.heap.get? b = some o)
    (hP : s.heap.get? 143 = some (tabObj #[])) (hPG : G.get? 143 = none) (x : Str) (t1 : Tok) (hx : x.length ≤ 3000) :
    CallsTo w A (.ref 148) [.str x t1] [] s [143] (fun v h' => ∃ a, LexNew w.params s.heap.objs.size x.cps.toList v h' a ∧ s.heap.objs.size ≤ a.c ∧ h'.get? 143 = some (lexTab a.c)) := by
  intro R hret
  (rename Setup _ _ _ _ _ _ _ _ _ _ _ => hSu)
  apply Setup.open hSu
  clear hSu
  intro dpt grs uni X T B hdp hun
  refine' enterC (news := [(143, tabObj #[])]) ?k1 ?k2 ?kb ?k3 ?kN ?k6 ?k7 ?k8 ?k9 ?kB ?kD ?_ ?c2 ?c3 ?c4
  case kN => exact fun q hq => by rw [List.mem_singleton.mp hq]; exact ⟨hP, hPG⟩
  (case k1 => assumption)
  (case k2 => assumption)
  (case kb => assumption)
  (case k3 => assumption)
  (case k6 => k_dflt k_is)
  (case k7 => k_dflt k_is)
  (case k8 => (show _ < 1000; dsimp only; omega))
  (case k9 => exact BindsTo.of_eq rfl)
  (case kB => (intro _; exact (by simp)))
  (case kD => decide +kernel)
  (case c2 => exact rfl)
  (case c3 => exact rfl)
  (case c4 => exact rfl)
  intro g L' h₁ tk cells hg hg' hL' X' T' B' F' N' Y' hl'
  have hCd : CodeHd g 147 143 := codeHd_of_K X' (by kernel_rfl)
  have hxz : x.cps.size ≤ sizeLine := Nat.le_trans hx (by decide)
  k_lt hl'
  k_cells Y'
  (try simp only [List.cons_append, List.nil_append] at N')
  (try dsimp only)
  (try k_fold)
  k_steps
  unfold Stop
  refine' list_str_N rfl ?F ?N hxz ?_
  case F => k_asm
  case N => k_asm
  intro D h' tk' vs n F' N' hSg l1
  k_lt l1
  k_steps
  unfold Stop
  (try dsimp only)
  refine' kl_reverse (l := vs.reverse) ?F ?N ?e ?U ?z ?_
  case F => k_asm
  case N => k_asm
  case U => k_upd
  case e => simp
  case z => (simp only [List.toList_toArray]; rw [hSg.length]; simpa using hxz)
  intro h' F' N'
  k_steps
  (rename News _ _ _ _ => N)
  (rename Fr _ _ _ _ => F)
  have H := lex_made1 N
  refine hret _ _ _ (touch_of hg hL' F) ⟨_, lexNew_of ⟨(by assumption), ⟨_, _, (by assumption), (by assumption)⟩, ?o1, ?o2, ?o3, ?o4, ?o5, ?o6, ?o7, ?o8⟩ hSg.reverse H (Nat.le_succ_of_le hL'), ?fc, ?ft⟩
  case ft => exact (N (143, _) (.tail _ (.tail _ (.tail _ (.tail _ (.tail _ (.tail _ (.tail _ (.tail _ (.tail _ (.tail _ (.head _)))))))))))).1
  case fc => (show @LE.le Nat _ _ _); dsimp only; k_extra "w my om"
  all_goals (dsimp only; k_extra "w my om")
set_option maxHeartbeats 8000000 in
theorem lexer_again {w : World} {A : Around} {s : Shared} {G base : Heap} {outer : List Env} {p : Program} {loose : List Str} {mean : ExcName → Option Value} {mg mb : Str → Option Value}
    (hS : Setup 20 w A base outer p loose mean mg mb G) (hG : ∀ b o, G.get? b = some o → s.heap.get? b = some o)
    (c : Addr) (oc : Obj) (hc : ∃ vs t, oc.data = .fields vs ∧ vs[1]? = some (.str lexQual t)) (hP : s.heap.get? 143 = some (lexTab c)) (hPG : G.get? 143 = none) (hC : s.heap.get? c = some oc) (hCG : G.get? c = none) (x : Str) (t1 : Tok) (hx : x.length ≤ 3000) :
    CallsTo w A (.ref 148) [.str x t1] [] s [] (fun v h' => ∃ a, LexNew w.params s.heap.objs.size x.cps.toList v h' a ∧ a.c = c) := by
  intro R hret
  have hcs : @LT.lt Nat _ c s.heap.objs.size := Heap.lt_size hC
  obtain ⟨cvs, ct, hc1, hc2⟩ := hc
  (rename Setup _ _ _ _ _ _ _ _ _ _ _ => hSu)
  apply Setup.open hSu
  clear hSu
  intro dpt grs uni X T B hdp hun
  refine' enterC (news := [(143, lexTab c), (c, oc)]) ?k1 ?k2 ?kb ?k3 ?kN ?k6 ?k7 ?k8 ?k9 ?kB ?kD ?_ ?c2 ?c3 ?c4
  case kN => exact each_cons ⟨hP, hPG⟩ (each_cons ⟨hC, hCG⟩ each_nil)
  (case k1 => assumption)
  (case k2 => assumption)
  (case kb => assumption)
  (case k3 => assumption)
  (case k6 => k_dflt k_is)
  (case k7 => k_dflt k_is)
  (case k8 => (show _ < 1000; dsimp only; omega))
  (case k9 => exact BindsTo.of_eq rfl)
  (case kB => (intro _; exact (by simp)))
  (case kD => decide +kernel)
  (case c2 => exact rfl)
  (case c3 => exact rfl)
  (case c4 => exact rfl)
  intro g L' h₁ tk cells hg hg' hL' X' T' B' F' N' Y' hl'
  have hCd : CodeHd g 147 143 := codeHd_of_K X' (by kernel_rfl)
  have hxz : x.cps.size ≤ sizeLine := Nat.le_trans hx (by decide)
  k_lt hl'
  k_cells Y'
  (try simp only [List.cons_append, List.nil_append] at N')
  (try dsimp only)
  (try k_fold)
  k_steps
  unfold Stop
  refine' list_str_N rfl ?F ?N hxz ?_
  case F => k_asm
  case N => k_asm
  intro D h' tk' vs n F' N' hSg l1
  k_lt l1
  k_steps
  unfold Stop
  (try dsimp only)
  refine' kl_reverse (l := vs.reverse) ?F ?N ?e ?U ?z ?_
  case F => k_asm
  case N => k_asm
  case U => k_upd
  case e => simp
  case z => (simp only [List.toList_toArray]; rw [hSg.length]; simpa using hxz)
  intro h' F' N'
  k_steps
  (rename News _ _ _ _ => N)
  (rename Fr _ _ _ _ => F)
  have H := lex_made2 N
  have hT : Touch [] s.heap _ := touch_led hg hL' F (each_cons hP (each_cons hC each_nil)) N (each_cons (.inr (.tail _ (.tail _ (.tail _ (.tail _ (.tail _ (.tail _ (.tail _ (.tail _ (.tail _ (.head _)))))))))))
    (each_cons (.inr (.tail _ (.tail _ (.tail _ (.tail _ (.tail _ (.tail _ (.tail _ (.tail _ (.tail _ (.tail _ (.head _)))))))))))) each_nil))
  refine hret _ _ _ hT ⟨_, lexNew_of ⟨(by assumption), ⟨_, _, hc1, hc2⟩, ?o1, ?o2, ?o3, ?o4, ?o5, ?o6, ?o7, ?o8⟩ hSg.reverse H (Nat.le_succ_of_le hL'), rfl⟩
  all_goals (dsimp only; k_extra "w my om")
end
section
theorem resetBis : (0 : Nat) = 0 := by
  w_top off
  k_with_none
  (k_with "w my pick" => (with_reducible first | assumption | exact lo1 | exact lo2 | exact lo3 | exact lo4 | exact ls1 (by assumption) | exact ls2 (by assumption) | exact ls3 (by assumption) | exact pk0 (by assumption) | exact pk1 (by assumption) | exact pk2 (by assumption) | exact pk3 (by assumption) | exact pk4 (by assumption) | exact pk5 (by assumption) | exact pk6 (by assumption) | exact pk7 (by assumption) | exact pk8 (by assumption) | exact pk9 (by assumption) | exact pk10 (by assumption) | exact pk11 (by assumption) | exact pk12 (by assumption) | exact pk13 (by assumption) | exact pk14 (by assumption) | exact pk15 (by assumption) | exact pk16 (by assumption) | exact pk17 (by assumption) | exact qk1 (by assumption) | exact qk2 (by assumption) | exact qk3 (by assumption) | exact qk4 (by assumption) | exact qk5 (by assumption) | exact qk6 (by assumption) | exact qk7 (by assumption) | exact qk8 (by assumption) | exact qk9 (by assumption) | exact qk10 (by assumption) | exact qk11 (by assumption) | exact qk12 (by assumption) | exact qk13 (by assumption) | exact qk14 (by assumption) | exact qk15 (by assumption) | exact qk16 (by assumption) | exact qk17 (by assumption)))
  (k_with "w my sml" => (with_reducible first | (refine Nat.ne_of_lt ?_; k_extra "w my pick") | (refine Nat.ne_of_gt ?_; k_extra "w my pick") | (refine Ne.symm ?_; k_extra "w my pick") | (refine id ?_; k_extra "w my pick") | (refine Nat.le_of_lt ?_; k_extra "w my pick") | exact lrefl | exact lzero | exact one_le | exact room0 (by assumption) | exact room (by assumption) (by decide) | exact room1 (by assumption) (by decide) | exact room2 (by assumption) (by decide) | exact room3 (by assumption) (by decide) | exact le_le (by assumption) (by decide) | exact le_sc (by assumption) | (refine above1' ?_ (by assumption); k_extra "w my pick") | (refine above2' ?_ (by assumption); k_extra "w my pick")))
  (k_with "w my om" => (first | k_extra "w my sml" | lia | omega))
  rfl
theorem rgBisx1 : (0 : Nat) = 0 := by
  (k_with "w my k_room" => ((try simp only [depth_under_make, depth_under_kw, depth_in1, depth_deeper]); (show _ < 1000); (try dsimp only); omega))
  (k_with "w my units_room" => ((try simp only [units_in1, units_deeper, Around.mark_units]); (show _ < 9900); (try dsimp only); omega))
  (k_with "w my small" => (first
  | (refine Sm.int ?_; (try simp only [Int.fmod_eq_emod_of_nonneg, Int.fdiv_eq_ediv_of_nonneg, Int.reduceLE]); omega)
  | (apply Sm.slice; k_extra "w my small")
  | (apply Sm.add <;> k_extra "w my small")
  | (apply Sm.ite <;> k_extra "w my small")
  | assumption
  | exact Sm.refl _))
  (k_with "w subscriptTail Name Slice str ref" => ((with_reducible show wpAny _ _ (subscriptTail _ (Expr.Slice (some _) none none _) (Value.str _ _) (Value.ref _)) _ _ _); dsimp only; (with_reducible rename Fr _ _ _ _ => F'); (with_reducible rename News _ _ _ _ => N'); (refine' slice_strN_sn (hsz := by (apply Sm.size <;> first | k_extra "w my small" | decide)) (s := ⟨_, _, _, _, _⟩) F' N' ?_); intro _ _ _ _ _))
  (k_with "w binaryOp Add str str" => ((with_reducible show wpAny _ _ (binaryOp Operator.Add (Value.str _ _) (Value.str _ _)) _ _ _); (refine' PyProof.Rows.add_str ?_ (by (apply Sm.size2 <;> first | k_extra "w my small" | decide))); intro _ _))
  (k_with "w ite" => ((with_reducible refine ite_strs ?_); intro _))
  (k_with "w exec While Compare cons nil" => refine stop_here ?_)
  (k_with "w subscriptTail Name Name ref int" => refine stop_here ?_)
  (k_with "w KswPost" => refine stop_here ?_)
  (k_with "w KswEnd" => refine stop_here ?_)
  rfl
set_option maxHeartbeats 8000000 in
theorem bisr_ints {w : World} {A : Around} {s : Shared} {G base : Heap} {outer : List Env} {p : Program} {loose : List Str} {mean : ExcName → Option Value} {mg mb : Str → Option Value}
    (hS : Setup 5 w A base outer p loose mean mg mb G) (hG : ∀ b o, G.get? b = some o → s.heap.get? b = some o)
    {l : Addr} {vs : List Value} {ns : List Int} (x : Int) (t : Tok) (hl : s.heap.IsList l vs.toArray) (hi : IntsAre vs ns) (hz : ns.length ≤ 100) (hs : ns.Pairwise (· ≤ ·)) :
    CallsTo w A (.ref 62) [.ref l, .int x t] [] s [] (fun v _ => ∃ k t, v = .int (k : Nat) t ∧ Cut (fun i => ns.getD i 0 ≤ x) ns.length k) := by
  intro R hret
  (rename Setup _ _ _ _ _ _ _ _ _ _ _ => hSu)
  apply Setup.open hSu
  clear hSu
  intro dpt grs uni X T B hdp hun
  refine' enterH (news := []) ?k1 ?k2 ?kb ?k3 ?kN ?k6 ?k7 ?k8 ?k9 ?kB ?_ ?c2 ?c3 ?c4 ?c5
  case kN => exact fun _ h => nomatch h
  (case k1 => assumption)
  (case k2 => assumption)
  (case kb => assumption)
  (case k3 => assumption)
  (case k6 => k_dflt k_is)
  (case k7 => k_dflt k_is)
  (case k8 => (show _ < 1000; dsimp only; omega))
  (case c5 => decide)
  (case c2 => exact rfl)
  (case c3 => exact rfl)
  (case c4 => exact rfl)
  case k9 =>
    have X9 : Frag.In (hdT.heap_39 w.params) s.heap := (by assumption : Frag.In _ _).keeps (by assumption)
    exact binds_two (X9 _ _ (by k_is)) rfl (ns_one X9 (by k_is) rfl) (ns_one_find rfl)
  case kB => exact locs rfl
  intro g L' h₁ hg hg' hL' X' T' B' F' N' hl'
  replace hl : g.IsList l vs.toArray := keeps_list hl fun b o e => hg b o e (by simp)
  have hlen := hi.length
  have hM : Mono (fun i => ns.getD i 0 ≤ x) ns.length := fun _ _ h1 h2 h3 => Int.le_trans (sorted_get hs h1 h2) h3
  (try dsimp only)
  (try k_fold)
  k_steps
  unfold Stop
  (rename Fr _ _ _ _ => F); (rename News _ _ _ _ => N)
  refine ksw_while (σ := Nat × Nat × Tok × Tok) (fun _ => []) (fun c => [(Str.ofString "lo", .int (c.1 : Nat) c.2.2.1), (Str.ofString "hi", .int (c.2.1 : Nat) c.2.2.2)]) (fun _ => True) [Str.ofString "mid"] (BisInv (fun i => ns.getD i 0 ≤ x) ns.length) (fun c => c.2.1 - c.1) (0, ns.length, _, _) F N trivial (by kst_all) (BisInv.start _ _ _ _) ?_
  clear F N
  rintro ⟨lo, hi2, tl, th⟩ u h tk2 _ inv F N
  dsimp only [kstB] at F N ⊢
  k_steps
  unfold Stop
  (rename Fr _ _ _ _ => F)
  obtain ⟨i1, i2, i3, i4⟩ := inv
  dsimp only at i1 i2 i3 i4
  have hlt : (lo : Int) < hi2 := by assumption
  have hm := mid_cast lo hi2
  obtain ⟨m1, m2, m3, m4⟩ := mid_of (Int.ofNat_lt.mp (by assumption : ((lo : Nat) : Int) < ((hi2 : Nat) : Int)))
  obtain ⟨ti, hti⟩ := are_get hi (i := (lo + hi2) / 2) (by k_extra "w my om")
  refine item_at (keeps_list hl F.keep) (by k_extra "w my om") (by k_extra "w my om") (by rw [hm]; exact hti) ?_
  have hI : BisInv (fun i => ns.getD i 0 ≤ x) ns.length (lo, hi2, tl, th) := ⟨i1, i2, i3, i4⟩
  rw [hm] at F
  k_steps
  · unfold Stop
    dsimp only [KswPost]
    refine ksw_end (lo, (lo + hi2) / 2, _, _) (by assumption) (by assumption) (fun _ h => nomatch h) trivial (by kst_all) (by ksw_same) (hI.no hM m1 m2 (Int.not_le.mpr (by assumption)) _) (by dsimp only; k_extra "w my om")
  · unfold Stop
    dsimp only [KswPost]
    refine ksw_end ((lo + hi2) / 2 + 1, hi2, _, _) (by assumption) (by assumption) (fun _ h => nomatch h) trivial (by kst_all) (by ksw_same) (hI.yes hM m1 m2 (Int.not_lt.mp (by assumption)) _) (by dsimp only; k_extra "w my om")
  · dsimp only
    refine hret _ _ _ (touch_of (by simpa using hg) hL' (by assumption)) ⟨_, _, rfl, inv.cut fun q => ?_⟩
    have : ¬ (lo : Int) < hi2 := by assumption
    dsimp only at q; k_extra "w my om"
end
section
theorem resetTotals : (0 : Nat) = 0 := by
  w_top off
  k_with_none
  (k_with "w my pick" => (with_reducible first | assumption | exact lo1 | exact lo2 | exact lo3 | exact lo4 | exact ls1 (by assumption) | exact ls2 (by assumption) | exact ls3 (by assumption) | exact pk0 (by assumption) | exact pk1 (by assumption) | exact pk2 (by assumption) | exact pk3 (by assumption) | exact pk4 (by assumption) | exact pk5 (by assumption) | exact pk6 (by assumption) | exact pk7 (by assumption) | exact pk8 (by assumption) | exact pk9 (by assumption) | exact pk10 (by assumption) | exact pk11 (by assumption) | exact pk12 (by assumption) | exact pk13 (by assumption) | exact pk14 (by assumption) | exact pk15 (by assumption) | exact pk16 (by assumption) | exact pk17 (by assumption) | exact qk1 (by assumption) | exact qk2 (by assumption) | exact qk3 (by assumption) | exact qk4 (by assumption) | exact qk5 (by assumption) | exact qk6 (by assumption) | exact qk7 (by assumption) | exact qk8 (by assumption) | exact qk9 (by assumption) | exact qk10 (by assumption) | exact qk11 (by assumption) | exact qk12 (by assumption) | exact qk13 (by assumption) | exact qk14 (by assumption) | exact qk15 (by assumption) | exact qk16 (by assumption) | exact qk17 (by assumption)))
  (k_with "w my sml" => (with_reducible first | (refine Nat.ne_of_lt ?_; k_extra "w my pick") | (refine Nat.ne_of_gt ?_; k_extra "w my pick") | (refine Ne.symm ?_; k_extra "w my pick") | (refine id ?_; k_extra "w my pick") | (refine Nat.le_of_lt ?_; k_extra "w my pick") | exact lrefl | exact lzero | exact one_le | exact room0 (by assumption) | exact room (by assumption) (by decide) | exact room1 (by assumption) (by decide) | exact room2 (by assumption) (by decide) | exact room3 (by assumption) (by decide) | exact le_le (by assumption) (by decide) | exact le_sc (by assumption) | (refine above1' ?_ (by assumption); k_extra "w my pick") | (refine above2' ?_ (by assumption); k_extra "w my pick")))
  (k_with "w my om" => (first | k_extra "w my sml" | lia | omega))
  rfl
theorem rgTotalsx1 : (0 : Nat) = 0 := by
  (k_with "w my k_room" => ((try simp only [depth_under_make, depth_under_kw, depth_in1, depth_deeper]); (show _ < 1000); (try dsimp only); omega))
  (k_with "w my units_room" => ((try simp only [units_in1, units_deeper, Around.mark_units]); (show _ < 9900); (try dsimp only); omega))
  (k_with "w my small" => (first
  | (refine Sm.int ?_; (try simp only [Int.fmod_eq_emod_of_nonneg, Int.fdiv_eq_ediv_of_nonneg, Int.reduceLE]); omega)
  | (apply Sm.slice; k_extra "w my small")
  | (apply Sm.add <;> k_extra "w my small")
  | (apply Sm.ite <;> k_extra "w my small")
  | assumption
  | exact Sm.refl _))
  (k_with "w subscriptTail Name Slice str ref" => ((with_reducible show wpAny _ _ (subscriptTail _ (Expr.Slice (some _) none none _) (Value.str _ _) (Value.ref _)) _ _ _); dsimp only; (with_reducible rename Fr _ _ _ _ => F'); (with_reducible rename News _ _ _ _ => N'); (refine' slice_strN_sn (hsz := by (apply Sm.size <;> first | k_extra "w my small" | decide)) (s := ⟨_, _, _, _, _⟩) F' N' ?_); intro _ _ _ _ _))
  (k_with "w binaryOp Add str str" => ((with_reducible show wpAny _ _ (binaryOp Operator.Add (Value.str _ _) (Value.str _ _)) _ _ _); (refine' PyProof.Rows.add_str ?_ (by (apply Sm.size2 <;> first | k_extra "w my small" | decide))); intro _ _))
  (k_with "w ite" => ((with_reducible refine ite_strs ?_); intro _))
  rfl
theorem intv_set {x : Nat → Int} {u : Nat → Tok} {n j : Nat} {y : Int} {t : Tok} : (intv x u n).set j (.int y t) = intv (fun i => if i = j then y else x i) (fun i => if i = j then t else u i) n := by
  apply List.ext_getElem?
  intro i
  by_cases hi : i < n
  · rw [intv_get hi, List.getElem?_set]
    by_cases e : j = i
    · subst e; simp [intv_len, hi]
    · rw [if_neg e, intv_get hi, if_neg (fun q => e q.symm), if_neg (fun q => e q.symm)]
  · rw [List.getElem?_eq_none (by rw [List.length_set, intv_len]; k_extra "w my om"), List.getElem?_eq_none (by rw [intv_len]; k_extra "w my om")]
theorem upd_pre {d : Addr} {o o' : Obj} {r r' : List (Addr × Obj)} (U : Upd d o o' r r') : ∀ {own : List (Addr × Obj)}, (∀ p ∈ own, p.1 ≠ d) → Upd d o o' (own ++ r) (own ++ r')
  | [], _ => U
  | _ :: _, h => .tail (h _ (.head _)) (upd_pre U fun p hp => h p (.tail _ hp))
section
variable {prog : Program} {w : World} {A : Around} {s : Shared} {h₀ : Heap} {m : Str → Option Value} {env : Env} {E : Value → Shared → Prop}
/-- a for over enumerate(D), D a list of the ledger -/
theorem enum_led {D : Addr} {ws : List Value} {n0 : Nat} {rest : List (Addr × Obj)} {xi xc : Str} {body : List Stmt} {Q : Flow → Shared → Prop} (J : Nat → (Str → Option Value) → List (Addr × Obj) → Prop)
    (hh : A.handled = none) (F : Fr h₀ env.locals s.heap m) (N : News h₀ env.locals s.heap ((D, listOf ws.toArray n0) :: rest)) (hD : ∀ p ∈ rest, p.1 ≠ D) (h0 : J 0 m rest)
    (step : ∀ i v t m₁ news₁ s₁ own, (∃ h tk, s₁ = { s with heap := h, toks := tk }) → ws[i]? = some v → J i m₁ news₁ → news₁.map (·.1) = rest.map (·.1) → (∀ p ∈ own, ∀ q ∈ rest, p.1 ≠ q.1) →
      Fr h₀ env.locals s₁.heap (fun y => if y = xc then some v else if y = xi then some (.int i t) else m₁ y) → News h₀ env.locals s₁.heap (own ++ news₁) →
      wpAny (model prog w) A (execs body env) (LoopStep3 h₀ env.locals own news₁ (J (i + 1)) s₁ (fun v s' => Q (.ret v) s') fun s' => Q .next s') E s₁)
    (hQ : ∀ h' tk m' news', Fr h₀ env.locals h' m' → News h₀ env.locals h' news' → news'.map (·.1) = rest.map (·.1) → J ws.length m' news' → Q .next { s with heap := h', toks := tk }) :
    wpAny (model prog w) A (call (.type "enumerate") [.ref D]) (fun xv s₁ => wpAny (model prog w) A (pyIter xv) (fun it s₂ => PairAt3 prog w A h₀ env xi xc body Q E it s₂) E s₁) E s := by
  have hl := N.isList (.head _)
  have hlt : D < s.heap.objs.size := Heap.lt_size (N _ (.head _)).1
  have hLs : env.locals < s.heap.objs.size := F.ns.lt
  have hDL := (N _ (.head _)).2.1
  refine call_enumerate_list hl fun h' he hit hsz hk => ?_
  refine wpAny_pyIter_enum he ?_
  have none_at : ∀ b, s.heap.objs.size ≤ b → h₀.get? b = none := fun b hb => Heap.get?_none_of_le (Nat.le_trans F.above (Nat.le_trans (Nat.le_of_lt hLs) hb))
  have N' : News h₀ env.locals h' rest := fun p hp => ⟨hk _ _ (N p (.tail _ hp)).1, (N p (.tail _ hp)).2⟩
  have wr : ∀ p ∈ rest, p.1 ∉ [s.heap.objs.size + 1, s.heap.objs.size] := fun p hp q => by
    have hlt : p.1 < s.heap.objs.size := Heap.lt_size (N p (.tail _ hp)).1
    rcases List.mem_cons.mp q with e | q
    · exact Nat.ne_of_lt (Nat.lt_succ_of_lt hlt) e
    · exact Nat.ne_of_lt hlt (List.mem_singleton.mp q)
  refine ⟨s.heap.objs.size + 1, [s.heap.objs.size + 1, s.heap.objs.size, D], [s.heap.objs.size + 1, s.heap.objs.size], ws.toArray.size, _, _, _, fun i v0 v1 => ∃ t, v0 = .int i t ∧ ws[i]? = some v1, m, rest, J, rfl,
    WalksT.enumerate hh (s.heap.objs.size + 1) s.heap.objs.size D (Nat.succ_ne_self _) (Nat.ne_of_lt (Nat.lt_succ_of_lt hlt)) (Nat.ne_of_lt hlt) ws.toArray, ?_, ?_, ?_, wr, ?_, ?_, N', h0, ?_, ?_⟩
  · rintro i vals ⟨t, x, hx, rfl⟩
    exact ⟨_, _, rfl, t, rfl, by simpa using hx⟩
  · intro q
    rcases List.mem_cons.mp q with e | q
    · exact Nat.ne_of_lt (Nat.lt_succ_of_lt hLs) e
    rcases List.mem_cons.mp q with e | q
    · exact Nat.ne_of_lt hLs e
    · exact hDL (List.mem_singleton.mp q).symm
  · intro b hb
    rcases List.mem_cons.mp hb with rfl | hb
    · exact none_at _ (Nat.le_succ _)
    · rw [List.mem_singleton.mp hb]; exact none_at _ (Nat.le_refl _)
  · exact ⟨⟨_, he⟩, hit, hl.at fun o e => hk D o e⟩
  · exact ⟨F.ns.keeps hk, fun b o e => hk b o (F.keep b o e), F.above⟩
  · rintro i v0 v1 m₁ news₁ s₁ own ⟨h2, tk2, rfl⟩ hi ⟨t, rfl, hv⟩ hJ ha how F₁ N₁
    refine step i v1 t m₁ news₁ _ own ⟨_, _, rfl⟩ hv hJ ha (fun p hp q hq e => ?_) F₁ N₁
    have hp' := how p hp
    rcases List.mem_cons.mp hp' with e1 | hp'
    · exact wr q hq (by rw [← e, e1]; exact .head _)
    rcases List.mem_cons.mp hp' with e1 | hp'
    · exact wr q hq (by rw [← e, e1]; exact .tail _ (.head _))
    · exact hD q hq (by rw [← e, List.mem_singleton.mp hp'])
  · intro h2 tk2 m' news' F₂ N₂ ha hJ
    exact hQ h2 tk2 m' news' F₂ N₂ ha (by simpa using hJ)
end
theorem seven {t0 t1 t2 t3 t4 t5 t6 : Tok} {n : Nat} : listOf #[.int 29 t0, .int 70 t1, .int 181 t2, .int 278 t3, .int 12 t4, .int 30 t5, .int 20 t6] n = listOf (intv (fun j => ([29, 70, 181, 278, 12, 30, 20] : List Int).getD j 0) (fun j => ([t0, t1, t2, t3, t4, t5, t6] : List Tok).getD j 0) 7).toArray n := rfl
noncomputable def start7 : List Int := [29, 70, 181, 278, 12, 30, 20]
noncomputable def TotJ (i : Nat) (m : Str → Option Value) (news : List (Addr × Obj)) : Prop :=
  ∃ (T : Addr) (rest : Str → Option Value) (x : Nat → Int) (u : Nat → Tok) (n : Nat), m = (fun y => if y = Str.ofString "totals" then some (.ref T) else rest y) ∧ news = [(T, listOf (intv x u 7).toArray n)] ∧ ∀ j, (x j).natAbs ≤ 300 + i * 10 ^ 6
theorem tot_bound {a y z : Int} {i : Nat} (h2 : a.natAbs ≤ 300 + i * 10 ^ 6) (h3 : z = y % 1000000) (h4 : 0 ≤ y % 1000000 ∧ y % 1000000 < 1000000) : (a + z).natAbs ≤ 300 + (i + 1) * 10 ^ 6 := by
  subst h3; rw [Nat.succ_mul, ← Nat.add_assoc]; exact Nat.le_trans (Int.natAbs_add_le _ _) (Nat.add_le_add h2 (Int.ofNat_le.mp (by rw [Int.natAbs_of_nonneg h4.1]; exact Int.le_of_lt h4.2)))
theorem TotJ.of {i : Nat} {m : Str → Option Value} {T : Addr} {x : Nat → Int} {u : Nat → Tok} {n : Nat} (h : m (Str.ofString "totals") = some (.ref T)) (hx : ∀ j, (x j).natAbs ≤ 300 + i * 10 ^ 6) : TotJ i m [(T, listOf (intv x u 7).toArray n)] := by
  refine ⟨T, m, x, u, n, funext fun z => ?_, rfl, hx⟩
  by_cases e : z = Str.ofString "totals"
  · subst e; rw [if_pos rfl]; exact h
  · rw [if_neg e]
theorem rgTotalsx2 : (0 : Nat) = 0 := by
  (k_with "w exec For Tuple Call cons nil" => refine stop_here ?_)
  (k_with "w LoopStep3" => refine stop_here ?_)
  (k_with "w call type:enumerate" => refine stop_here ?_)
  rfl
set_option maxHeartbeats 8000000 in
theorem totals_spec {w : World} {A : Around} {s : Shared} {G base : Heap} {outer : List Env} {p : Program} {loose : List Str} {mean : ExcName → Option Value} {mg mb : Str → Option Value}
    (hS : Setup 5 w A base outer p loose mean mg mb G) (hG : ∀ b o, G.get? b = some o → s.heap.get? b = some o) {sc : Addr} {vs : List Value} {ns : List Int} (hl : s.heap.IsList sc vs.toArray) (hi : IntsAre vs ns) (hz : ns.length ≤ 63) :
    CallsTo w A (.ref 129) [.ref sc] [] s [] (fun v h' => ∃ a n x u, v = .ref a ∧ s.heap.get? a = none ∧ h'.get? a = some (listOf (intv x u 7).toArray n) ∧ ∀ j, (x j).natAbs ≤ 10 ^ 8) := by
  intro R hret
  (rename Setup _ _ _ _ _ _ _ _ _ _ _ => hSu)
  apply Setup.open hSu
  clear hSu
  intro dpt grs uni X T B hdp hun
  refine' enterH (news := []) ?k1 ?k2 ?kb ?k3 ?kN ?k6 ?k7 ?k8 ?k9 ?kB ?_ ?c2 ?c3 ?c4 ?c5
  case kN => exact fun _ h => nomatch h
  (case k1 => assumption)
  (case k2 => assumption)
  (case kb => assumption)
  (case k3 => assumption)
  (case k6 => k_dflt k_is)
  (case k7 => k_dflt k_is)
  (case k8 => (show _ < 1000; dsimp only; omega))
  (case k9 => exact BindsTo.of_eq rfl)
  (case kB => exact locs rfl)
  (case c5 => decide)
  (case c2 => exact rfl)
  (case c3 => exact rfl)
  (case c4 => exact rfl)
  intro g L' h₁ hg hg' hL' X' T' B' F' N' hl'
  replace hl : g.IsList sc vs.toArray := keeps_list hl fun b o e => hg b o e (by simp)
  have hlen := hi.length
  (try dsimp only)
  (try k_fold)
  k_steps
  unfold Stop
  (rename Fr _ _ _ _ => F); (rename News _ _ _ _ => N)
  refine For_pair3 (E := fun _ _ => False) g rfl rfl rfl rfl ?_ (by intro _; rfl)
  k_steps
  unfold Stop
  (rename Fr _ _ _ _ => F); (rename News _ _ _ _ => N)
  refine enum_led TotJ rfl F N ?hD ?h0 ?step ?hQ
  case hD => intro p hp; rw [List.mem_singleton.mp hp]; exact Nat.ne_of_lt (by assumption)
  case h0 =>
    refine ⟨_, _, _, _, _, rfl, congrArg (fun o => [(_, o)]) seven, fun j => ?_⟩
    have : ∀ j, j < 7 → (start7.getD j 0).natAbs ≤ 300 := by decide
    by_cases hj : j < 7
    · exact Nat.le_trans (this j hj) (by k_extra "w my om")
    · show ((start7).getD j 0).natAbs ≤ _
      have e : start7.getD j 0 = 0 := by rw [List.getD_eq_getElem?_getD, List.getElem?_eq_none (by show 7 ≤ j; k_extra "w my om")]; rfl
      rw [e]; simp
  case hQ =>
    clear F N
    rintro h' tk m' news' F N ha ⟨T, rest, x, u, n, rfl, rfl, hx⟩
    dsimp only
    k_steps
    dsimp only
    refine hret _ _ _ (touch_of (by simpa using hg) hL' F) ⟨T, n, x, u, rfl, ?_, (N _ (.head _)).1, fun j => ?_⟩
    · cases e : s.heap.get? T with
      | none => rfl
      | some o => have := hg _ _ e (by simp); rw [(N _ (.head _)).2.2] at this; cases this
    · have := hx j
      have : (List.take 21 ns).length ≤ 21 := List.length_take_le _ _
      (rename IntsAre _ (List.take 21 ns) => hW)
      have hw := hW.length
      k_extra "w my om"
  case step =>
    clear F N
    rintro i v t m₁ news₁ s₁ own ⟨h, tk2, rfl⟩ hv ⟨T, rest, x, u, n, rfl, rfl, hx⟩ ha how F N
    (rename IntsAre _ (List.take 21 ns) => hW)
    have hwl := hW.length
    have hil : i < (List.take 21 ns).length := by
      have := (List.getElem?_eq_some_iff.mp hv).1
      k_extra "w my om"
    have : (List.take 21 ns).length ≤ 21 := List.length_take_le _ _
    obtain ⟨tv, hv2⟩ := are_get hW hil
    rw [hv2] at hv
    cases hv
    generalize (List.take 21 ns).getD i 0 = y at F
    have hT : ∀ p ∈ own, p.1 ≠ T := fun p hp => by
      simp only [List.map_cons, List.map_nil, List.cons.injEq, and_true] at ha
      have := how p hp _ (.head _)
      intro e; exact this (e.trans ha)
    k_steps
    have hm := mod7_cast i
    have h7 : i % 7 < 7 := Nat.mod_lt _ (by decide)
    have hmem : (T, listOf (intv x u 7).toArray n) ∈ own ++ [(T, listOf (intv x u 7).toArray n)] := List.mem_append_right _ (.head _)
    refine wpAny_getItem_list (x := .int (x (i % 7)) (u (i % 7))) (N.isList hmem) (by rw [hm]; k_extra "w my om") (by rw [hm]; k_extra "w my om") (by rw [hm, Int.toNat_natCast]; simpa using intv_get h7) ?_
    k_steps
    refine ksa_set F N (upd_pre (.head (by simp)) hT) (intv_are x u 7) (by rw [hm]; k_extra "w my om") (by rw [hm, List.length_map, List.length_range]; k_extra "w my om") (by rw [hm]; k_extra "w my om") ?_
    clear F N hmem
    intro h' F N _ _ _
    rw [hm, Int.toNat_natCast, intv_set] at N
    k_steps
    unfold Stop
    refine ⟨rfl, h', _, _, _, rfl, F, N, rfl, TotJ.of rfl fun j => ?_⟩
    · have h1 := hx j
      have h2 := hx (i % 7)
      have h3 : y.fmod (10 ^ Int.toNat 6) = y % 1000000 := by
        rw [Int.fmod_eq_emod_of_nonneg _ (by decide)]; rfl
      have h4 : 0 ≤ y % 1000000 ∧ y % 1000000 < 1000000 := ⟨Int.emod_nonneg _ (by decide), Int.emod_lt_of_pos _ (by decide)⟩
      split
      · exact tot_bound h2 h3 h4
      · exact Nat.le_trans h1 (Nat.add_le_add_left (Nat.mul_le_mul_right _ (Nat.le_succ i)) _)
end
section
theorem resetTill0 : (0 : Nat) = 0 := by
  w_top off
  k_with_none
  (k_with "w my pick" => (with_reducible first | assumption | exact lo1 | exact lo2 | exact lo3 | exact lo4 | exact ls1 (by assumption) | exact ls2 (by assumption) | exact ls3 (by assumption) | exact pk0 (by assumption) | exact pk1 (by assumption) | exact pk2 (by assumption) | exact pk3 (by assumption) | exact pk4 (by assumption) | exact pk5 (by assumption) | exact pk6 (by assumption) | exact pk7 (by assumption) | exact pk8 (by assumption) | exact pk9 (by assumption) | exact pk10 (by assumption) | exact pk11 (by assumption) | exact pk12 (by assumption) | exact pk13 (by assumption) | exact pk14 (by assumption) | exact pk15 (by assumption) | exact pk16 (by assumption) | exact pk17 (by assumption) | exact qk1 (by assumption) | exact qk2 (by assumption) | exact qk3 (by assumption) | exact qk4 (by assumption) | exact qk5 (by assumption) | exact qk6 (by assumption) | exact qk7 (by assumption) | exact qk8 (by assumption) | exact qk9 (by assumption) | exact qk10 (by assumption) | exact qk11 (by assumption) | exact qk12 (by assumption) | exact qk13 (by assumption) | exact qk14 (by assumption) | exact qk15 (by assumption) | exact qk16 (by assumption) | exact qk17 (by assumption)))
  (k_with "w my sml" => (with_reducible first | (refine Nat.ne_of_lt ?_; k_extra "w my pick") | (refine Nat.ne_of_gt ?_; k_extra "w my pick") | (refine Ne.symm ?_; k_extra "w my pick") | (refine id ?_; k_extra "w my pick") | (refine Nat.le_of_lt ?_; k_extra "w my pick") | exact lrefl | exact lzero | exact one_le | exact room0 (by assumption) | exact room (by assumption) (by decide) | exact room1 (by assumption) (by decide) | exact room2 (by assumption) (by decide) | exact room3 (by assumption) (by decide) | exact le_le (by assumption) (by decide) | exact le_sc (by assumption) | (refine above1' ?_ (by assumption); k_extra "w my pick") | (refine above2' ?_ (by assumption); k_extra "w my pick")))
  (k_with "w my om" => (first | k_extra "w my sml" | lia | omega))
  rfl
/-- none of these is a part of the lexer that turns -/
noncomputable def OffL (lx : LexA) (oth : List (Addr × Obj)) : Prop := ∀ q ∈ oth, (@Ne Nat q.1 lx.l) ∧ (@Ne Nat q.1 lx.d) ∧ (@Ne Nat q.1 lx.D)
theorem lex_addr {P : Params} {lx : LexA} {no no' : Int} {tn tn' : Tok} {vs vs' : List Value} {n n' : Nat} {pb pb' : List Value} {k k' : Nat} {q : Addr × Obj} (h : q ∈ lexLed P lx no tn vs n pb k) : ∃ o, (q.1, o) ∈ lexLed P lx no' tn' vs' n' pb' k' := by
  have h1 : q.1 ∈ (lexLed P lx no' tn' vs' n' pb' k').map (·.1) := show q.1 ∈ (lexLed P lx no tn vs n pb k).map (·.1) from List.mem_map_of_mem h
  obtain ⟨r, hr, e⟩ := List.mem_map.mp h1
  exact ⟨r.2, by rw [← e]; exact hr⟩
theorem lex_step {P : Params} {g h h' : Heap} {L : Addr} {lx : LexA} {no no' : Int} {tn tn' : Tok} {vs vs' : List Value} {n n' : Nat} {pb pb' : List Value} {k k' : Nat} {oth : List (Addr × Obj)} {S : List Addr}
    (N : News g L h (lexLed P lx no tn vs n pb k ++ oth)) (T : Touch S h h') (hS : ∀ x ∈ S, x = lx.l ∨ x = lx.d ∨ x = lx.D) (H : Holds h' (lexLed P lx no' tn' vs' n' pb' k')) (off : OffL lx oth) : News g L h' (lexLed P lx no' tn' vs' n' pb' k' ++ oth) := by
  intro q hq
  rcases List.mem_append.mp hq with hq | hq
  · obtain ⟨o, ho⟩ := lex_addr (no' := no) (tn' := tn) (vs' := vs) (n' := n) (pb' := pb) (k' := k) hq
    exact ⟨H q hq, (N _ (List.mem_append_left _ ho)).2⟩
  · have z := N q (List.mem_append_right _ hq)
    refine ⟨T.2 _ _ z.1 fun hx => ?_, z.2⟩
    have o := off q hq
    rcases hS _ hx with e | e | e
    · exact o.1 e
    · exact o.2.1 e
    · exact o.2.2 e
theorem signs_nil {vs : List Value} (h : Signs vs []) : vs = [] := by cases h; rfl
/-- a new lexer comes to the ledger -/
theorem lex_new {P : Params} {g h h' : Heap} {L z : Addr} {m : Str → Option Value} {lx : LexA} {no : Int} {tn : Tok} {vs : List Value} {n : Nat} {pb : List Value} {k : Nat} {old oth : List (Addr × Obj)} {oc : Obj}
    (F : Fr g L h' m) (N : News g L h old) (T : Touch [] h h') (hL : L < z) (H : Holds h' (lexLed P lx no tn vs n pb k)) (hfr : ∀ q ∈ lexLed P lx no tn vs n pb k, q.1 = lx.c ∨ z ≤ q.1) (hc : (lx.c, oc) ∈ old) (ho : ∀ q ∈ oth, q ∈ old) :
    News g L h' (lexLed P lx no tn vs n pb k ++ oth) := by
  intro q hq
  rcases List.mem_append.mp hq with hq | hq
  · refine ⟨H q hq, ?_⟩
    rcases hfr q hq with e | e
    · rw [e]; exact (N _ hc).2
    · exact ⟨Nat.ne_of_gt (Nat.lt_of_lt_of_le hL e), Heap.get?_none_of_le (Nat.le_trans F.above (Nat.le_of_lt (Nat.lt_of_lt_of_le hL e)))⟩
  · have z := N q (ho q hq)
    exact ⟨T.2 _ _ z.1 (by simp), z.2⟩
theorem lex_off {P : Params} {g h : Heap} {L z : Addr} {lx : LexA} {no : Int} {tn : Tok} {vs : List Value} {n : Nat} {pb : List Value} {k : Nat} {old oth : List (Addr × Obj)} (N : News g L h old) (hz : z = h.objs.size) (hfr : ∀ q ∈ lexLed P lx no tn vs n pb k, q.1 = lx.c ∨ z ≤ q.1)
    (okl : LexOk lx) (ho : ∀ q ∈ oth, q ∈ old) : OffL lx oth := by
  intro q hq
  have hlt : q.1 < z := hz ▸ Heap.lt_size (N q (ho q hq)).1
  obtain ⟨⟨_, _, _, _, cD, _⟩, _, _, _, cd, _⟩ := okl.ne
  have cl := okl.lts.2.2.2.1
  have hl : z ≤ lx.l := (hfr (lx.l, _) (.head _)).resolve_left fun e => Nat.ne_of_gt cl e
  have hd : z ≤ lx.d := (hfr (lx.d, _) (.tail _ (.tail _ (.head _)))).resolve_left fun e => cd e.symm
  have hD : z ≤ lx.D := (hfr (lx.D, _) (.tail _ (.tail _ (.tail _ (.tail _ (.tail _ (.tail _ (.tail _ (.head _))))))))).resolve_left fun e => cD e.symm
  exact ⟨Nat.ne_of_lt (Nat.lt_of_lt_of_le hlt hl), Nat.ne_of_lt (Nat.lt_of_lt_of_le hlt hd), Nat.ne_of_lt (Nat.lt_of_lt_of_le hlt hD)⟩
/-- the moments and names of four people -/
noncomputable def mom (a : PplA) (j : Nat) : Int := [a.k0, a.k1, a.k2, a.k3].getD j 0
noncomputable def who (a : PplA) (j : Nat) : Str := [a.y0, a.y1, a.y2, a.y3].getD j (Str.ofString "")
/-- when the j-th goes -/
noncomputable def outT (a : PplA) (cost : Int) : Nat → Int
  | 0 => mom a 0 + cost
  | j + 1 => max (outT a cost j) (mom a (j + 1)) + cost
noncomputable def baseT (a : PplA) (cost : Int) : Nat → Int
  | 0 => mom a 0
  | j + 1 => outT a cost j
theorem outT_base (a : PplA) (cost : Int) (j : Nat) : outT a cost j = max (baseT a cost j) (mom a j) + cost := by
  cases j with
  | zero => show mom a 0 + cost = max (mom a 0) (mom a 0) + cost; rw [Int.max_self]
  | succ j => rfl
structure TSt where
  g : Nat
  ins : Nat
  clock : Int
  tc : Tok
  ti : Tok
  refs : List Value
  n : Nat
  tl : List (Addr × Obj)
  pb : List Value
  kk : Nat
  tn : Tok
  nl : Nat
noncomputable abbrev momL (a : PplA) : List Value := [.int a.k0 a.u0, .int a.k1 a.u1, .int a.k2 a.u2, .int a.k3 a.u3]
noncomputable abbrev tillOth (a : PplA) (G Mo : Addr) (c : TSt) : List (Addr × Obj) := (G, listOf c.refs.toArray c.n) :: (Mo, LCg.lst (momL a)) :: (pplLed a ++ c.tl)
structure TInv (L : Addr) (lx : LexA) (a : PplA) (cost : Int) (G Mo : Addr) (c : TSt) : Prop where
  g_le : c.g ≤ c.ins
  ins_le : c.ins ≤ 4
  clk : c.clock = baseT a cost c.g ∨ c.clock = max (baseT a cost c.g) (mom a c.g)
  seen : ∀ j, j < c.ins → mom a j ≤ c.clock
  refs : All2 (PairIn c.tl) c.refs ((List.range c.g).map fun j => (who a j, outT a cost j))
  pb : All2 (fun v j => ∃ t, v = .str (who a j) t) c.pb (List.range' c.g (c.ins - c.g))
  offL : OffL lx (tillOth a G Mo c)
  offG : ∀ q ∈ (Mo, LCg.lst (momL a)) :: (pplLed a ++ c.tl), @Ne Nat q.1 G
  tab : (143, lexTab lx.c) ∈ c.tl
  far : ∀ q ∈ c.tl, osz q.2 = 2 → @LT.lt Nat _ L q.1
theorem TInv.len {L : Addr} {lx : LexA} {a : PplA} {cost : Int} {G Mo : Addr} {c : TSt} (I : TInv L lx a cost G Mo c) : c.refs.length = c.g := by
  have := all2_len I.refs
  simpa using this
theorem TInv.start {L : Addr} {lx : LexA} {a : PplA} {cost : Int} {G Mo : Addr} {tc ti tn : Tok} {nl : Nat} (offL : OffL lx ((G, listOf ([] : List Value).toArray 0) :: (Mo, LCg.lst (momL a)) :: (pplLed a ++ [(143, lexTab lx.c)]))) (offG : ∀ q ∈ (Mo, LCg.lst (momL a)) :: (pplLed a ++ [(143, lexTab lx.c)]), @Ne Nat q.1 G) :
    TInv L lx a cost G Mo ⟨0, 0, mom a 0, tc, ti, [], 0, [(143, lexTab lx.c)], [], 0, tn, nl⟩ where
  g_le := Nat.le_refl _
  ins_le := Nat.zero_le _
  clk := .inl rfl
  seen := fun j h => absurd h (Nat.not_lt_zero _)
  refs := .nil
  pb := .nil
  offL := offL
  offG := offG
  tab := .head _
  far := fun q h e => by rw [List.mem_singleton.mp h] at e; exact absurd (show (0 : Nat) = 2 from e) (by decide)
section
variable {prog : Program} {w : World} {A : Around} {E : Value → Shared → Prop} {Q : Flow → Shared → Prop} {s : Shared} {env : Env} {h₀ : Heap} {L : Addr}
noncomputable abbrev tillPs (c : TSt) : List (Str × Value) := [(Str.ofString "clock", .int c.clock c.tc), (Str.ofString "inside", .int (c.ins : Nat) c.ti)]
noncomputable abbrev tillLed (P : Params) (lx : LexA) (a : PplA) (G Mo : Addr) (c : TSt) : List (Addr × Obj) := lexLed P lx 1 c.tn [] c.nl c.pb c.kk ++ tillOth a G Mo c
noncomputable abbrev tillMu (a : PplA) (c : TSt) : Nat := 2 * (4 - c.g) + (if mom a c.g ≤ c.clock then 0 else 1)
noncomputable abbrev tillEnd (P : Params) (h₀ : Heap) (L : Addr) (s : Shared) (m₀ : Str → Option Value) (lx : LexA) (a : PplA) (cost : Int) (G Mo : Addr) (Q : Flow → Shared → Prop) (c : TSt) : Flow → Shared → Prop :=
  KswPost h₀ L s (tillLed P lx a G Mo) tillPs (fun _ => True) [Str.ofString "now", Str.ofString "name", Str.ofString "moment"] m₀ (TInv L lx a cost G Mo) (tillMu a) Q c
theorem till_while {test : Expr} {body : List Stmt} {pos : Pos} {m₀ : Str → Option Value} {lx : LexA} {a : PplA} {cost : Int} {G Mo : Addr} {tn tc ti : Tok} {nl : Nat}
    (F : Fr h₀ L s.heap m₀) (N : News h₀ L s.heap ((G, listOf ([] : List Value).toArray 0) :: (Mo, LCg.lst (momL a)) :: (lexLed w.params lx 1 tn [] nl [] 0 ++ (pplLed a ++ [(143, lexTab lx.c)]))))
    (offG : ∀ q ∈ (Mo, LCg.lst (momL a)) :: (lexLed w.params lx 1 tn [] nl [] 0 ++ (pplLed a ++ [(143, lexTab lx.c)])), @Ne Nat q.1 G) (offM : ∀ q ∈ lexLed w.params lx 1 tn [] nl [] 0 ++ (pplLed a ++ [(143, lexTab lx.c)]), q.1 ≠ Mo) (offL : OffL lx ((pplLed a ++ [(143, lexTab lx.c)])))
    (hk : ∀ q ∈ tillPs ⟨0, 0, mom a 0, tc, ti, [], 0, [(143, lexTab lx.c)], [], 0, tn, nl⟩, m₀ q.1 = some q.2)
    (turn : ∀ (c : TSt) (u : Str → Option Value) h tk, TInv L lx a cost G Mo c → Fr h₀ L h (kstB (fun z => if [Str.ofString "now", Str.ofString "name", Str.ofString "moment"].contains z then u z else m₀ z) (tillPs c)) → News h₀ L h (tillLed w.params lx a G Mo c) →
      wpAny (model prog w) A (isTrue test env (eval test env)) (fun b s₂ =>
        if b = true then wpAny (model prog w) A (execs body env) (tillEnd w.params h₀ L s m₀ lx a cost G Mo Q c) E s₂ else Q .next s₂) E { s with heap := h, toks := tk })
    (hE : PassesOwn (model prog w) A env E := by passes_own) :
    wpAny (model prog w) A (exec (.While test body [] pos) env) Q E s := by
  have hl : (lx.l, listOf ([] : List Value).toArray 0) ∈ lexLed w.params lx 1 tn [] nl [] 0 ++ (pplLed a ++ [(143, lexTab lx.c)]) := .head _
  have hd : (lx.d, lexDict w.params lx 1 tn) ∈ lexLed w.params lx 1 tn [] nl [] 0 ++ (pplLed a ++ [(143, lexTab lx.c)]) := .tail _ (.tail _ (.head _))
  have hD : (lx.D, listOf ([] : List Value).toArray nl) ∈ lexLed w.params lx 1 tn [] nl [] 0 ++ (pplLed a ++ [(143, lexTab lx.c)]) := .tail _ (.tail _ (.tail _ (.tail _ (.tail _ (.tail _ (.tail _ (.head _)))))))
  have o1 : OffL lx ((G, listOf ([] : List Value).toArray 0) :: (Mo, LCg.lst (momL a)) :: (pplLed a ++ [(143, lexTab lx.c)])) := by
    intro q hq
    rcases List.mem_cons.mp hq with rfl | hq
    · exact ⟨fun e => offG _ (.tail _ hl) e.symm, fun e => offG _ (.tail _ hd) e.symm, fun e => offG _ (.tail _ hD) e.symm⟩
    · rcases List.mem_cons.mp hq with rfl | hq
      · exact ⟨fun e => offM _ hl e.symm, fun e => offM _ hd e.symm, fun e => offM _ hD e.symm⟩
      · exact offL q hq
  have o2 : ∀ q ∈ (Mo, LCg.lst (momL a)) :: (pplLed a ++ [(143, lexTab lx.c)]), @Ne Nat q.1 G := fun q hq => by
    rcases List.mem_cons.mp hq with rfl | hq
    · exact offG _ (.head _)
    · exact offG _ (.tail _ (List.mem_append_right _ hq))
  refine ksw_while (σ := TSt) (tillLed w.params lx a G Mo) tillPs (fun _ => True) [Str.ofString "now", Str.ofString "name", Str.ofString "moment"] (TInv L lx a cost G Mo) (tillMu a) ⟨0, 0, mom a 0, tc, ti, [], 0, [(143, lexTab lx.c)], [], 0, tn, nl⟩ F (fun q hq => N q ?_) trivial hk (TInv.start o1 o2)
    (fun c u h tk _ I F N => turn c u h tk I F N) hE
  rcases List.mem_append.mp hq with hq | hq
  · exact .tail _ (.tail _ (List.mem_append_left _ hq))
  · rcases List.mem_cons.mp hq with rfl | hq
    · exact .head _
    · rcases List.mem_cons.mp hq with rfl | hq
      · exact .tail _ (.head _)
      · exact .tail _ (.tail _ (List.mem_append_right _ hq))
end
theorem mom_are (a : PplA) : IntsAre (momL a) [a.k0, a.k1, a.k2, a.k3] := .cons _ _ (.cons _ _ (.cons _ _ (.cons _ _ .nil)))
theorem mom_sorted {a : PplA} (s01 : a.k0 ≤ a.k1) (s12 : a.k1 ≤ a.k2) (s23 : a.k2 ≤ a.k3) : [a.k0, a.k1, a.k2, a.k3].Pairwise (· ≤ ·) := by
  have s02 := Int.le_trans s01 s12
  have s13 := Int.le_trans s12 s23
  have s03 := Int.le_trans s02 s23
  exact .cons (each_cons s01 (each_cons s02 (each_cons s03 each_nil))) (.cons (each_cons s12 (each_cons s13 each_nil)) (.cons (each_cons s23 each_nil) (.cons each_nil .nil)))
theorem TInv.now_ge {L : Addr} {lx : LexA} {a : PplA} {cost : Int} {G Mo : Addr} {c : TSt} {now : Nat} (I : TInv L lx a cost G Mo c) (hc : Cut (fun i => [a.k0, a.k1, a.k2, a.k3].getD i 0 ≤ c.clock) 4 now) : c.ins ≤ now := by
  rcases Nat.lt_or_ge now c.ins with h | h
  · exact absurd (I.seen now h) (hc.2.2 now (Nat.le_refl _) (Nat.lt_of_lt_of_le h I.ins_le))
  · exact h
/-- those who come up to the clock -/
noncomputable abbrev comeL (a : PplA) (ins now : Nat) : List Value := (([.ref a.p0, .ref a.p1, .ref a.p2, .ref a.p3] : List Value).drop ins).take (now - ins)
theorem come_len {a : PplA} {ins now : Nat} (h1 : ins ≤ now) (h2 : now ≤ 4) : (comeL a ins now).length = now - ins := by
  rw [List.length_take, List.length_drop]; exact Nat.min_eq_left (Nat.sub_le_sub_right h2 ins)
theorem come_get {a : PplA} {ins now i : Nat} {v : Value} (h : (comeL a ins now)[i]? = some v) : ([.ref a.p0, .ref a.p1, .ref a.p2, .ref a.p3] : List Value)[ins + i]? = some v ∧ i < now - ins := by
  have hi := (List.getElem?_eq_some_iff.mp h).1
  rw [List.length_take, List.length_drop] at hi
  rw [List.getElem?_take, List.getElem?_drop] at h
  split at h
  · exact ⟨h, by k_extra "w my om"⟩
  · cases h
theorem ppl_pair {a : PplA} {news : List (Addr × Obj)} (h : ∀ q ∈ pplLed a, q ∈ news) : ∀ (i : Nat) (v : Value), ([.ref a.p0, .ref a.p1, .ref a.p2, .ref a.p3] : List Value)[i]? = some v → ∃ (T : Addr) (t : Tok) (v₂ : Value), v = Value.ref T ∧ (T, tup2 (.str (who a i) t) v₂) ∈ news
  | 0, _, e => by cases e; exact ⟨_, a.t0, _, rfl, h _ (.tail _ (.head _))⟩
  | 1, _, e => by cases e; exact ⟨_, a.t1, _, rfl, h _ (.tail _ (.tail _ (.head _)))⟩
  | 2, _, e => by cases e; exact ⟨_, a.t2, _, rfl, h _ (.tail _ (.tail _ (.tail _ (.head _))))⟩
  | 3, _, e => by cases e; exact ⟨_, a.t3, _, rfl, h _ (.tail _ (.tail _ (.tail _ (.tail _ (.head _)))))⟩
  | n + 4, _, e => by cases e
/-- while they join the line -/
noncomputable def PushInv (P : Params) (lx : LexA) (a : PplA) (G Mo D : Addr) (c : TSt) (m₀ : Str → Option Value) (now : Nat) (i : Nat) (m : Str → Option Value) (news : List (Addr × Obj)) : Prop :=
  ∃ (u1 u2 : Option Value) (pb : List Value) (kk : Nat), m = (fun y => if y = Str.ofString "moment" then u1 else if y = Str.ofString "name" then u2 else m₀ y) ∧
    news = lexLed P lx 1 c.tn [] c.nl pb kk ++ ((D, listOf (comeL a c.ins now).toArray 0) :: tillOth a G Mo c) ∧ All2 (fun v j => ∃ t, v = .str (who a j) t) pb (List.range' c.g (c.ins - c.g + i)) ∧ OffL lx ((D, listOf (comeL a c.ins now).toArray 0) :: tillOth a G Mo c)
theorem PushInv.start {P : Params} {L : Addr} {lx : LexA} {a : PplA} {cost : Int} {G Mo D : Addr} {c : TSt} {m₀ : Str → Option Value} {now : Nat} (I : TInv L lx a cost G Mo c) (hD : (@Ne Nat D lx.l) ∧ (@Ne Nat D lx.d) ∧ (@Ne Nat D lx.D)) :
    PushInv P lx a G Mo D c m₀ now 0 m₀ (lexLed P lx 1 c.tn [] c.nl c.pb c.kk ++ ((D, listOf (comeL a c.ins now).toArray 0) :: tillOth a G Mo c)) := by
  refine ⟨m₀ (Str.ofString "moment"), m₀ (Str.ofString "name"), c.pb, c.kk, funext fun y => ?_, rfl, I.pb, fun q hq => ?_⟩
  · by_cases h1 : y = Str.ofString "moment"
    · subst h1; rw [if_pos rfl]
    · rw [if_neg h1]
      by_cases h2 : y = Str.ofString "name"
      · subst h2; rw [if_pos rfl]
      · rw [if_neg h2]
  · rcases List.mem_cons.mp hq with rfl | hq
    · exact hD
    · exact I.offL q hq
/-- one more has joined it -/
theorem PushInv.end {P : Params} {lx : LexA} {a : PplA} {G Mo D I : Addr} {oI : Obj} {c : TSt} {m₀ : Str → Option Value} {now i : Nat} {g h h' : Heap} {L : Addr} {s : Shared} {tk : Nat} {R : Result → Shared → Prop} {pb : List Value} {kk : Nat} {t : Tok} {v0 v1 : Option Value} {u1 u2 : Option Value} {led : List (Addr × Obj)}
    (F : Fr g L h' (fun y => if y = Str.ofString "moment" then v1 else if y = Str.ofString "name" then v0 else if y = Str.ofString "moment" then u1 else if y = Str.ofString "name" then u2 else m₀ y))
    (N : News g L h led) (hled : ∀ q ∈ (I, oI) :: (lexLed P lx 1 c.tn [] c.nl pb kk ++ ((D, listOf (comeL a c.ins now).toArray 0) :: tillOth a G Mo c)), q ∈ led)
    (T : Touch [lx.l] h h') (H : Holds h' (lexLed P lx 1 c.tn [] c.nl (pb ++ [.str (who a (c.ins + i)) t]) (kk + 1))) (hg : c.g ≤ c.ins)
    (hpb : All2 (fun v j => ∃ t, v = .str (who a j) t) pb (List.range' c.g (c.ins - c.g + i))) (off : OffL lx ((D, listOf (comeL a c.ins now).toArray 0) :: tillOth a G Mo c))
    (hI : ∀ q ∈ lexLed P lx 1 c.tn [] c.nl pb kk ++ ((D, listOf (comeL a c.ins now).toArray 0) :: tillOth a G Mo c), @Ne Nat q.1 I) :
    TurnEnd g L s I oI (PushInv P lx a G Mo D c m₀ now (i + 1)) R .next { s with heap := h', toks := tk } := by
  have hl : (lx.l, listOf pb.toArray kk) ∈ lexLed P lx 1 c.tn [] c.nl pb kk ++ ((D, listOf (comeL a c.ins now).toArray 0) :: tillOth a G Mo c) := .head _
  have hd : (lx.d, lexDict P lx 1 c.tn) ∈ lexLed P lx 1 c.tn [] c.nl pb kk ++ ((D, listOf (comeL a c.ins now).toArray 0) :: tillOth a G Mo c) := .tail _ (.tail _ (.head _))
  have hD : (lx.D, listOf ([] : List Value).toArray c.nl) ∈ lexLed P lx 1 c.tn [] c.nl pb kk ++ ((D, listOf (comeL a c.ins now).toArray 0) :: tillOth a G Mo c) := .tail _ (.tail _ (.tail _ (.tail _ (.tail _ (.tail _ (.tail _ (.head _)))))))
  have off2 : OffL lx ((I, oI) :: (D, listOf (comeL a c.ins now).toArray 0) :: tillOth a G Mo c) := each_cons ⟨fun e => hI _ hl e.symm, fun e => hI _ hd e.symm, fun e => hI _ hD e.symm⟩ off
  have N1 : News g L h (lexLed P lx 1 c.tn [] c.nl pb kk ++ ((I, oI) :: (D, listOf (comeL a c.ins now).toArray 0) :: tillOth a G Mo c)) := each_app (fun q hq => N q (hled q (.tail _ (List.mem_append_left _ hq)))) (each_cons (N _ (hled _ (.head _))) fun q hq => N q (hled q (.tail _ (List.mem_append_right _ hq))))
  have N2 := lex_step (no' := 1) (vs' := []) N1 T (fun x hx => .inl (List.mem_singleton.mp hx)) H off2
  refine TurnEnd.goes (m₂ := fun y => if y = Str.ofString "moment" then v1 else if y = Str.ofString "name" then v0 else m₀ y) (news₂ := lexLed P lx 1 c.tn [] c.nl (pb ++ [.str (who a (c.ins + i)) t]) (kk + 1) ++ ((D, listOf (comeL a c.ins now).toArray 0) :: tillOth a G Mo c)) ?_ (fun q hq => N2 q ?_) ?_ ⟨v1, v0, _, _, rfl, rfl, ?_, off⟩
  · refine Fr.congr F fun y => ?_
    by_cases h1 : y = Str.ofString "moment"
    · simp only [h1, if_true]
    · by_cases h2 : y = Str.ofString "name"
      · simp only [if_neg h1, if_pos h2]
      · simp only [if_neg h1, if_neg h2]
  · rcases List.mem_cons.mp hq with rfl | hq
    · exact List.mem_append_right _ (.head _)
    · rcases List.mem_append.mp hq with hq | hq
      · exact List.mem_append_left _ hq
      · exact List.mem_append_right _ (.tail _ hq)
  · intro q hq
    rcases List.mem_append.mp hq with hq | hq
    · obtain ⟨o, ho⟩ := lex_addr (no' := 1) (tn' := c.tn) (vs' := []) (n' := c.nl) (pb' := pb) (k' := kk) hq
      exact hI (q.1, o) (List.mem_append_left _ ho)
    · exact hI q (List.mem_append_right _ hq)
  · have e : c.ins - c.g + (i + 1) = (c.ins - c.g + i) + 1 := rfl
    rw [e, List.range'_concat]
    refine all2_app hpb (.cons ⟨t, ?_⟩ .nil)
    rw [Nat.one_mul, ← Nat.add_assoc, Nat.add_sub_cancel' hg]
theorem slice_come {prog : Program} {w : World} {A : Around} {E : Value → Shared → Prop} {s : Shared} {h₀ : Heap} {L : Addr} {m : Str → Option Value} {news : List (Addr × Obj)} {a : PplA} {ins now : Nat} {ti tn : Tok} {value slice : Expr} {Q : Value → Shared → Prop}
    (F : Fr h₀ L s.heap m) (N : News h₀ L s.heap news) (hl : (a.l, listOf #[.ref a.p0, .ref a.p1, .ref a.p2, .ref a.p3] a.n) ∈ news) (h1 : ins ≤ now) (h2 : now ≤ 4)
    (h : ∀ D h', Fr h₀ L h' m → News h₀ L h' ((D, listOf (comeL a ins now).toArray 0) :: news) → (∀ q ∈ news, @Ne Nat q.1 D) → Q (.ref D) { s with heap := h' })
    (hs : subscripted slice false (.ref a.l) (.ref s.heap.objs.size) = operate [.ref s.heap.objs.size, .ref a.l] (getItem (.ref a.l) (.ref s.heap.objs.size)) := by with_unfolding_all rfl)
    (ht : ∀ r, letTemporaryGo value (.ref a.l) r = pure () := by intro _; with_unfolding_all rfl) :
    wpAny (model prog w) A (subscriptTail value slice (.ref a.l) (.ref s.heap.objs.size)) Q E { s with heap := s.heap.push { cls := .type "slice", data := .fields #[.int (ins : Nat) ti, .int (now : Nat) tn, .none] } } := by
  refine slice_list (lo := some (ins : Int)) (hi := some (now : Int)) F N (N.isList hl) (by constructor) (by constructor) (fun h' F' N' => ?_) hs ht (by show 4 ≤ sizeLine; decide)
  rw [slicePick_run _ _ _ (show now ≤ 4 from h2) h1] at N'
  exact h _ h' F' N' fun q hq => Nat.ne_of_lt (Nat.lt_succ_of_lt (Heap.lt_size (N q hq).1))
theorem TInv.jump {L : Addr} {lx : LexA} {a : PplA} {cost : Int} {G Mo : Addr} {c : TSt} {now kk nl : Nat} {tn tc ti : Tok} (I : TInv L lx a cost G Mo c) (hc : Cut (fun i => [a.k0, a.k1, a.k2, a.k3].getD i 0 ≤ c.clock) 4 now) (hg : now = c.g) (hg4 : c.g < 4) :
    TInv L lx a cost G Mo { c with ins := now, clock := mom a now, tc := tc, ti := ti, pb := [], kk := kk, tn := tn, nl := nl } ∧
      tillMu a { c with ins := now, clock := mom a now, tc := tc, ti := ti, pb := [], kk := kk, tn := tn, nl := nl } < tillMu a c := by
  subst hg
  have h1 : ¬ mom a c.g ≤ c.clock := hc.2.2 c.g (Nat.le_refl _) hg4
  have h3 : c.clock < mom a c.g := Int.not_le.mp h1
  have h2 : c.clock = baseT a cost c.g := by
    rcases I.clk with e | e
    · exact e
    · exact absurd (e ▸ Int.le_max_right _ _) h1
  refine ⟨⟨Nat.le_refl _, hc.1, .inr (Int.max_eq_right (h2 ▸ Int.le_of_lt h3)).symm, fun j hj => ?_, I.refs, by dsimp only; rw [Nat.sub_self]; exact .nil, I.offL, I.offG, I.tab, I.far⟩, ?_⟩
  · have := hc.2.1 j hj
    dsimp only at this ⊢
    exact Int.le_of_lt (Int.lt_of_le_of_lt this h3)
  · dsimp only [tillMu]
    rw [if_pos (Int.le_refl _), if_neg h1]
    k_extra "w my om"
theorem TInv.serve {L : Addr} {lx : LexA} {a : PplA} {cost : Int} {G Mo : Addr} {c : TSt} {now kk nl : Nat} {tn tc ti t u : Tok} {pb : List Value} {T : Addr} (I : TInv L lx a cost G Mo c) (hc : Cut (fun i => [a.k0, a.k1, a.k2, a.k3].getD i 0 ≤ c.clock) 4 now) (hg : c.g < now) (h0 : 0 ≤ cost)
    (hpb : All2 (fun v j => ∃ t, v = .str (who a j) t) pb (List.range' (c.g + 1) (now - (c.g + 1)))) (hT : (@Ne Nat T lx.l) ∧ (@Ne Nat T lx.d) ∧ (@Ne Nat T lx.D)) (hTG : @Ne Nat T G) (hTL : @LT.lt Nat _ L T) :
    TInv L lx a cost G Mo ⟨c.g + 1, now, c.clock + cost, tc, ti, c.refs ++ [.ref T], c.n + 1, (T, tup2 (.str (who a c.g) t) (.int (c.clock + cost) u)) :: c.tl, pb, kk, tn, nl⟩ ∧
      tillMu a ⟨c.g + 1, now, c.clock + cost, tc, ti, c.refs ++ [.ref T], c.n + 1, (T, tup2 (.str (who a c.g) t) (.int (c.clock + cost) u)) :: c.tl, pb, kk, tn, nl⟩ < tillMu a c := by
  have h1 : mom a c.g ≤ c.clock := hc.2.1 c.g hg
  have h2 : c.clock + cost = outT a cost c.g := by
    rw [outT_base]
    rcases I.clk with e | e
    · rw [Int.max_eq_left (e ▸ h1), e]
    · rw [← e]
  have hn4 := hc.1
  refine ⟨⟨hg, hc.1, .inl h2, fun j hj => ?_, ?_, hpb, fun q hq => ?_, fun q hq => ?_, .tail _ I.tab, fun q hq => ?_⟩, ?_⟩
  · have := hc.2.1 j hj
    dsimp only at this ⊢
    have h3 : mom a j ≤ c.clock := this
    exact Int.le_trans h3 (Int.le_add_of_nonneg_right h0)
  · dsimp only
    rw [List.range_succ, List.map_append]
    refine paired_snoc ⟨T, t, u, rfl, ?_⟩ (paired_mono (fun v p ⟨x, t, u, e, hm⟩ => ⟨x, t, u, e, .tail _ hm⟩) I.refs)
    show (T, tup2 (.str (who a c.g) t) (.int (outT a cost c.g) u)) ∈ _
    rw [← h2]; exact .head _
  · revert q hq
    exact each_cons (I.offL (G, listOf c.refs.toArray c.n) (.head _)) (each_cons (I.offL _ (.tail _ (.head _))) (each_app (fun q hq => I.offL q (.tail _ (.tail _ (List.mem_append_left _ hq))))
      (each_cons hT fun q hq => I.offL q (.tail _ (.tail _ (List.mem_append_right _ hq))))))
  · revert q hq
    exact each_cons (I.offG _ (.head _)) (each_app (fun q hq => I.offG q (.tail _ (List.mem_append_left _ hq))) (each_cons hTG fun q hq => I.offG q (.tail _ (List.mem_append_right _ hq))))
  · intro e2
    rcases List.mem_cons.mp hq with rfl | hq
    · exact hTL
    · exact I.far q hq e2
  · dsimp only [tillMu]
    rw [if_pos h1]
    have h5 : (if mom a (c.g + 1) ≤ c.clock + cost then 0 else 1) ≤ 1 := by split <;> decide
    rw [show 4 - c.g = 4 - (c.g + 1) + 1 from (Nat.succ_sub_succ 4 c.g).symm.trans (Nat.succ_sub (Nat.le_trans hg hn4)), Nat.mul_succ]
    exact Nat.lt_of_le_of_lt (Nat.add_le_add_left h5 _) (Nat.lt_succ_self _)
/-- a lexer whose text is read and whom nobody waits for -/
theorem token_empty {w : World} {A : Around} {s : Shared} {G base : Heap} {outer : List Env} {p : Program} {loose : List Str} {mean : ExcName → Option Value} {mg mb : Str → Option Value}
    (hS : Setup 21 w A base outer p loose mean mg mb G) (hG : ∀ b o, G.get? b = some o → s.heap.get? b = some o) (a : LexA) (no : Int) (tn : Tok) (n k : Nat) (ok : LexOk a) (hN : ∀ q ∈ lexLed w.params a no tn [] n [] k, s.heap.get? q.1 = some q.2 ∧ G.get? q.1 = none) :
    CallsTo w A (.ref 108) [.ref a.x] [] s [a.d, a.D] (fun v h' => ∃ u tn' n', v = .str ⟨#[]⟩ u ∧ Holds h' (lexLed w.params a no tn' [] n' [] k)) := by
  have e : no - nls [] = no := Int.sub_zero no
  intro R hret
  refine token_spec hS hG a no tn [] n k [] [] [] .nil .stop ok (Nat.zero_le _) (by rw [e]; exact hN) R ?_
  rintro v h' tk' T ⟨u, tn', vs', n', rfl, hs, H⟩
  obtain rfl := signs_nil hs
  rw [e] at H
  exact hret _ h' tk' T ⟨u, tn', n', rfl, H⟩
theorem lex_far {P : Params} {L z : Addr} {lx : LexA} {no : Int} {tn : Tok} {vs : List Value} {n : Nat} {pb : List Value} {k : Nat} (hL : L < z) (hfr : ∀ q ∈ lexLed P lx no tn vs n pb k, q.1 = lx.c ∨ z ≤ q.1) (okl : LexOk lx) : @LT.lt Nat _ L lx.l := by
  have hl : z ≤ lx.l := (hfr (lx.l, _) (.head _)).resolve_left fun e => Nat.ne_of_gt okl.lts.2.2.2.1 e
  exact Nat.lt_of_lt_of_le hL hl
theorem till_upd {P : Params} {L : Addr} {lx : LexA} {a : PplA} {cost : Int} {G Mo : Addr} {c : TSt} {no no' : Int} {tn tn' : Tok} {vs vs' : List Value} {n n' : Nat} {pb pb' : List Value} {k k' : Nat} {T : Addr} {o : Obj} {v : Value} (I : TInv L lx a cost G Mo c)
    (oG : ∀ q ∈ lexLed P lx no tn vs n pb k, @Ne Nat q.1 G) (hT : @Ne Nat T G) :
    Upd G (listOf c.refs.toArray c.n) (listOf (c.refs ++ [v]).toArray (c.n + 1)) ((T, o) :: (lexLed P lx no' tn' vs' n' pb' k' ++ tillOth a G Mo c)) ((T, o) :: (lexLed P lx no' tn' vs' n' pb' k' ++ ((G, listOf (c.refs ++ [v]).toArray (c.n + 1)) :: (Mo, LCg.lst (momL a)) :: (pplLed a ++ c.tl)))) :=
  .tail hT (upd_pre (.head fun p hp => I.offG p hp) fun p hp => by
    obtain ⟨o, ho⟩ := lex_addr (no' := no) (tn' := tn) (vs' := vs) (n' := n) (pb' := pb) (k' := k) hp
    exact oG (p.1, o) ho)
/-- four served -/
theorem TInv.done {L : Addr} {lx : LexA} {a : PplA} {cost : Int} {G Mo : Addr} {c : TSt} (I : TInv L lx a cost G Mo c) (h : c.g = 4) :
    ∃ b : PplA, G = b.l ∧ b.are a.y0 a.y1 a.y2 a.y3 (outT a cost 0) (outT a cost 1) (outT a cost 2) (outT a cost 3) ∧ ∀ q ∈ pplLed b, q = (G, listOf c.refs.toArray c.n) ∨ (q ∈ c.tl ∧ @LT.lt Nat _ L q.1) := by
  have h4 := I.refs
  rw [h] at h4
  obtain ⟨b, e, r, hm⟩ := ppl_of2 (D := G) (n := c.n) h4
  refine ⟨b, e.symm, r, fun q hq => ?_⟩
  rcases List.mem_cons.mp (hm q hq) with h5 | h5
  · exact .inl h5
  · rcases List.mem_cons.mp hq with h6 | h6
    · exact .inl (by
        have h7 := hm _ (.head _)
        rcases List.mem_cons.mp h7 with h8 | h8
        · rw [h6]; exact h8
        · exact absurd (I.offG _ (.tail _ (List.mem_append_right _ h8))) (fun x => x e))
    · refine .inr ⟨h5, I.far q h5 ?_⟩
      simp only [List.mem_cons, List.not_mem_nil, or_false] at h6
      rcases h6 with rfl | rfl | rfl | rfl <;> rfl
end
section
theorem resetCompP : (0 : Nat) = 0 := by
  w_top off
  k_with_none
  (k_with "w my pick" => (with_reducible first | assumption | exact lo1 | exact lo2 | exact lo3 | exact lo4 | exact ls1 (by assumption) | exact ls2 (by assumption) | exact ls3 (by assumption) | exact pk0 (by assumption) | exact pk1 (by assumption) | exact pk2 (by assumption) | exact pk3 (by assumption) | exact pk4 (by assumption) | exact pk5 (by assumption) | exact pk6 (by assumption) | exact pk7 (by assumption) | exact pk8 (by assumption) | exact pk9 (by assumption) | exact pk10 (by assumption) | exact pk11 (by assumption) | exact pk12 (by assumption) | exact pk13 (by assumption) | exact pk14 (by assumption) | exact pk15 (by assumption) | exact pk16 (by assumption) | exact pk17 (by assumption) | exact qk1 (by assumption) | exact qk2 (by assumption) | exact qk3 (by assumption) | exact qk4 (by assumption) | exact qk5 (by assumption) | exact qk6 (by assumption) | exact qk7 (by assumption) | exact qk8 (by assumption) | exact qk9 (by assumption) | exact qk10 (by assumption) | exact qk11 (by assumption) | exact qk12 (by assumption) | exact qk13 (by assumption) | exact qk14 (by assumption) | exact qk15 (by assumption) | exact qk16 (by assumption) | exact qk17 (by assumption)))
  (k_with "w my sml" => (with_reducible first | (refine Nat.ne_of_lt ?_; k_extra "w my pick") | (refine Nat.ne_of_gt ?_; k_extra "w my pick") | (refine Ne.symm ?_; k_extra "w my pick") | (refine id ?_; k_extra "w my pick") | (refine Nat.le_of_lt ?_; k_extra "w my pick") | exact lrefl | exact lzero | exact one_le | exact room0 (by assumption) | exact room (by assumption) (by decide) | exact room1 (by assumption) (by decide) | exact room2 (by assumption) (by decide) | exact room3 (by assumption) (by decide) | exact le_le (by assumption) (by decide) | exact le_sc (by assumption) | (refine above1' ?_ (by assumption); k_extra "w my pick") | (refine above2' ?_ (by assumption); k_extra "w my pick")))
  (k_with "w my om" => (first | k_extra "w my sml" | lia | omega))
  rfl
section
variable {prog : Program} {w : World} {A : Around} {h₀ : Heap} {L : Addr} {m : Str → Option Value} {env : Env} {s : Shared} {elt : Expr} {x x₂ : Str} {scope : Scope} {cl : List (Str × Addr)}
  {S : List (Addr × Obj) → Prop} {P : Nat → Value → Prop} {Fin : List Value → List (Addr × Obj) → Prop} {news : List (Addr × Obj)}
/-- a comprehension over pairs by what holds after i items -/
theorem rest_indP {n : Nat} (Inv : Nat → List Value → List (Addr × Obj) → Prop)
    (step : ∀ i ys nw, i < n → ys.length = i → Inv i ys nw → ∀ v, P i v → ∃ T v₁ v₂, v = .ref T ∧ (T, tup2 v₁ v₂) ∈ nw ∧ ∀ I oI C oC D m₂ h tk (E' : Value → Shared → Prop), LCg.NsObj oC m₂ → m₂ x = some v₁ → m₂ x₂ = some v₂ → Fr h₀ L h m → News h₀ L h ((I, oI) :: (C, oC) :: (D, LCg.lst ys) :: nw) → LCg.Off3 I C D nw → ((@Ne Nat I C) ∧ (@Ne Nat I D) ∧ (@Ne Nat C D)) →
      wpAny (model prog w) A (eval elt (compEnvC scope cl C env)) (LCg.CompEnd h₀ L m { s with heap := h, toks := tk } I oI C oC D (LCg.lst ys) S (fun y nw' => Inv (i + 1) (ys ++ [y]) nw')) E' { s with heap := h, toks := tk })
    (fin : ∀ ys nw, ys.length = n → Inv n ys nw → Fin ys nw) :
    ∀ k i ys nw, i + k = n → ys.length = i → Inv i ys nw → LCp.CompRestP prog w A h₀ L m env elt x x₂ scope cl s S P Fin k i ys nw := by
  intro FF
  induction FF with
  | zero =>
    intro i ys nw hk hl hi
    exact LCp.CompRestP.zero (by subst hk; exact fin ys nw hl hi)
  | succ k ih =>
    intro i ys nw hk hl hi
    exact LCp.CompRestP.succ fun v hP => by
      obtain ⟨T, v₁, v₂, e, hT, h⟩ := step i ys nw (by k_extra "w my om") hl hi v hP
      refine ⟨T, _, v₁, v₂, _, e, hT, rfl, rfl, fun I oI C oC D m₂ hp tk E' hn h1 h2 F N o1 o2 => ?_⟩
      refine wpAny_mono (h I oI C oC D m₂ hp tk E' hn h1 h2 F N o1 o2) (fun y s₂ hy => ?_) fun _ _ e => e
      obtain ⟨h', tk', nw', e, F', N', o', hS, hy⟩ := hy
      exact ⟨h', tk', nw', e, F', N', o', hS, ih (i + 1) (ys ++ [y]) nw' (by k_extra "w my om") (by simp [hl]) hy⟩
end
section
variable {prog : Program} {w : World} {A : Around} {h₀ : Heap} {L : Addr} {m : Str → Option Value} {env : Env} {s : Shared} {x x₂ : Str} {scope : Scope} {cl : List (Str × Addr)} {news : List (Addr × Obj)}
/-- [b for a, b in l] -/
theorem comp_second {l : Addr} {items vals : List Value} {n : Nat} {px : Pos} {Fin : Shared → List Value → List (Addr × Obj) → Prop} (hh : A.handled = none) (F : Fr h₀ L s.heap m) (N : News h₀ L s.heap news) (hl : (l, listOf items.toArray n) ∈ news)
    (hi : ∀ (i : Nat) (v : Value), items[i]? = some v → ∃ (T : Addr) (v₁ v₂ : Value), v = Value.ref T ∧ (T, tup2 v₁ v₂) ∈ news ∧ vals[i]? = some v₂) (hlen : vals.length = items.length) (hz : items.length ≤ 100) (hkind : scope.kind = .function) (hx₂ : scope.names.lookup x₂ = some .local)
    (hd : (x₂ == ("__debug__" : Str)) = false) (hQ : ∀ h, Fin { s with heap := h } vals news) : LCp.SrcLP prog w A h₀ L m env (Expr.Name x₂ px) x x₂ scope cl Fin (.ref l) s := by
  refine LCp.SrcLP.ledger hh F N hl (by rw [List.size_toArray]; exact Nat.le_trans hz (by decide)) fun g2 => ?_
  refine rest_indP (n := items.toArray.size) (fun i ys nw => nw = news ∧ ys = vals.take i) ?_ ?_ items.toArray.size 0 [] news (Nat.zero_add _) rfl ⟨rfl, by rw [List.take_zero]⟩
  · rintro i ys nw hin hyl ⟨rfl, rfl⟩ v hP
    have hv : items[i]? = some v := by simpa using hP
    obtain ⟨T, v₁, v₂, e, hT, hvv⟩ := hi i v hv
    refine ⟨T, v₁, v₂, e, hT, fun I oI C oC D m₂ h tk E' hn h1 h2 F2 N2 o1 o2 => ?_⟩
    refine wpAny_Name (wpAny_loadName_local hkind (lookup_relabel_local hx₂) (hn.ns (N2.get (.tail _ (.head _)))) h2 ?_) hd
    refine LCg.CompEnd.intro F2 N2 nw (fun _ h => h) o1 (.inr ⟨_, hl, rfl, n, rfl⟩) ⟨rfl, ?_⟩
    rw [List.take_add_one, hvv]; rfl
  · rintro ys nw hyl ⟨rfl, rfl⟩
    have e : items.toArray.size = vals.length := by rw [List.size_toArray, hlen]
    rw [e, List.take_length]
    exact hQ g2
end
theorem ppl_second {a : PplA} {news : List (Addr × Obj)} (h : ∀ q ∈ pplLed a, q ∈ news) : ∀ (i : Nat) (v : Value), ([.ref a.p0, .ref a.p1, .ref a.p2, .ref a.p3] : List Value)[i]? = some v → ∃ (T : Addr) (v₁ v₂ : Value), v = Value.ref T ∧ (T, tup2 v₁ v₂) ∈ news ∧ ([.int a.k0 a.u0, .int a.k1 a.u1, .int a.k2 a.u2, .int a.k3 a.u3] : List Value)[i]? = some v₂
  | 0, _, e => by cases e; exact ⟨_, _, _, rfl, h _ (.tail _ (.head _)), rfl⟩
  | 1, _, e => by cases e; exact ⟨_, _, _, rfl, h _ (.tail _ (.tail _ (.head _))), rfl⟩
  | 2, _, e => by cases e; exact ⟨_, _, _, rfl, h _ (.tail _ (.tail _ (.tail _ (.head _)))), rfl⟩
  | 3, _, e => by cases e; exact ⟨_, _, _, rfl, h _ (.tail _ (.tail _ (.tail _ (.tail _ (.head _))))), rfl⟩
  | n + 4, _, e => by cases e
end
section
theorem resetTill : (0 : Nat) = 0 := by
  w_top off
  k_with_none
  (k_with "w my pick" => (with_reducible first | assumption | exact lo1 | exact lo2 | exact lo3 | exact lo4 | exact ls1 (by assumption) | exact ls2 (by assumption) | exact ls3 (by assumption) | exact pk0 (by assumption) | exact pk1 (by assumption) | exact pk2 (by assumption) | exact pk3 (by assumption) | exact pk4 (by assumption) | exact pk5 (by assumption) | exact pk6 (by assumption) | exact pk7 (by assumption) | exact pk8 (by assumption) | exact pk9 (by assumption) | exact pk10 (by assumption) | exact pk11 (by assumption) | exact pk12 (by assumption) | exact pk13 (by assumption) | exact pk14 (by assumption) | exact pk15 (by assumption) | exact pk16 (by assumption) | exact pk17 (by assumption) | exact qk1 (by assumption) | exact qk2 (by assumption) | exact qk3 (by assumption) | exact qk4 (by assumption) | exact qk5 (by assumption) | exact qk6 (by assumption) | exact qk7 (by assumption) | exact qk8 (by assumption) | exact qk9 (by assumption) | exact qk10 (by assumption) | exact qk11 (by assumption) | exact qk12 (by assumption) | exact qk13 (by assumption) | exact qk14 (by assumption) | exact qk15 (by assumption) | exact qk16 (by assumption) | exact qk17 (by assumption)))
  (k_with "w my sml" => (with_reducible first | (refine Nat.ne_of_lt ?_; k_extra "w my pick") | (refine Nat.ne_of_gt ?_; k_extra "w my pick") | (refine Ne.symm ?_; k_extra "w my pick") | (refine id ?_; k_extra "w my pick") | (refine Nat.le_of_lt ?_; k_extra "w my pick") | exact lrefl | exact lzero | exact one_le | exact room0 (by assumption) | exact room (by assumption) (by decide) | exact room1 (by assumption) (by decide) | exact room2 (by assumption) (by decide) | exact room3 (by assumption) (by decide) | exact le_le (by assumption) (by decide) | exact le_sc (by assumption) | (refine above1' ?_ (by assumption); k_extra "w my pick") | (refine above2' ?_ (by assumption); k_extra "w my pick")))
  (k_with "w my om" => (first | k_extra "w my sml" | lia | omega))
  rfl
theorem rgTillx1 : (0 : Nat) = 0 := by
  (k_with "w my k_room" => ((try simp only [depth_under_make, depth_under_kw, depth_in1, depth_deeper]); (show _ < 1000); (try dsimp only); omega))
  (k_with "w my units_room" => ((try simp only [units_in1, units_deeper, Around.mark_units]); (show _ < 9900); (try dsimp only); omega))
  (k_with "w my small" => (first
  | (refine Sm.int ?_; (try simp only [Int.fmod_eq_emod_of_nonneg, Int.fdiv_eq_ediv_of_nonneg, Int.reduceLE]); omega)
  | (apply Sm.slice; k_extra "w my small")
  | (apply Sm.add <;> k_extra "w my small")
  | (apply Sm.ite <;> k_extra "w my small")
  | assumption
  | exact Sm.refl _))
  (k_with "w subscriptTail Name Slice str ref" => ((with_reducible show wpAny _ _ (subscriptTail _ (Expr.Slice (some _) none none _) (Value.str _ _) (Value.ref _)) _ _ _); dsimp only; (with_reducible rename Fr _ _ _ _ => F'); (with_reducible rename News _ _ _ _ => N'); (refine' slice_strN_sn (hsz := by (apply Sm.size <;> first | k_extra "w my small" | decide)) (s := ⟨_, _, _, _, _⟩) F' N' ?_); intro _ _ _ _ _))
  (k_with "w binaryOp Add str str" => ((with_reducible show wpAny _ _ (binaryOp Operator.Add (Value.str _ _) (Value.str _ _)) _ _ _); (refine' PyProof.Rows.add_str ?_ (by (apply Sm.size2 <;> first | k_extra "w my small" | decide))); intro _ _))
  (k_with "w ite" => ((with_reducible refine ite_strs ?_); intro _))
  (k_with "w call ref" => ((with_reducible show wpAny _ _ (call (Value.ref 148) _ _) _ _ _); refine stop_here ?_))
  (k_with "w eval ListComp" => refine stop_here ?_)
  (k_with "w exec Assign cons ListComp" => refine stop_here ?_)
  (k_with "w SrcLP" => refine stop_here ?_)
  (k_with "w call builtin:list.append" => refine stop_here ?_)
  (k_with "w call builtin:len" => refine stop_here ?_)
  (k_with "w call ref" => ((with_reducible show wpAny _ _ (call (Value.ref 62) _ _) _ _ _); refine stop_here ?_))
  (k_with "w call ref" => ((with_reducible show wpAny _ _ (call (Value.ref 108) _ _) _ _ _); refine stop_here ?_))
  (k_with "w call ref" => ((with_reducible show wpAny _ _ (call (Value.ref 115) _ _) _ _ _); refine stop_here ?_))
  (k_with "w TurnEnd" => (refine stop_here ?_))
  (k_with "w subscriptTail Name Name ref int" => (refine stop_here ?_))
  (k_with "w KswPost" => (refine stop_here ?_))
  (k_with "w exec For Tuple Subscript cons nil" => refine stop_here ?_)
  (k_with "w subscriptTail Name Slice ref ref" => refine stop_here ?_)
  (k_with "w pyIter ref" => refine stop_here ?_)
  (k_with "w exec While Compare cons nil" => refine stop_here ?_)
  rfl
set_option maxHeartbeats 8000000 in
theorem till_spec {w : World} {A : Around} {s : Shared} {G base : Heap} {outer : List Env} {p : Program} {loose : List Str} {mean : ExcName → Option Value} {mg mb : Str → Option Value}
    (hS : Setup 40 w A base outer p loose mean mg mb G) (hG : ∀ b o, G.get? b = some o → s.heap.get? b = some o) (a : PplA) (c : Addr) (oc : Obj) (hc : ∃ vs t, oc.data = .fields vs ∧ vs[1]? = some (.str lexQual t))
    (hN : ∀ q ∈ (143, lexTab c) :: (c, oc) :: pplLed a, s.heap.get? q.1 = some q.2 ∧ G.get? q.1 = none) (cost : Int) (t : Tok) (hc0 : 0 ≤ cost) (s01 : a.k0 ≤ a.k1) (s12 : a.k1 ≤ a.k2) (s23 : a.k2 ≤ a.k3) (hy : ∀ j, j < 4 → who a j ≠ Str.ofString "") :
    CallsTo w A (.ref 158) [.ref a.l, .int cost t] [] s [] (fun v h' => ∃ b : PplA, v = .ref b.l ∧ b.are a.y0 a.y1 a.y2 a.y3 (outT a cost 0) (outT a cost 1) (outT a cost 2) (outT a cost 3) ∧ Holds h' (pplLed b) ∧ ∀ q ∈ pplLed b, s.heap.get? q.1 = none) := by
  intro R hret
  (rename Setup _ _ _ _ _ _ _ _ _ _ _ => hSu)
  apply Setup.open hSu
  clear hSu
  intro dpt grs uni X T B hdp hun
  refine' enterH (news := (143, lexTab c) :: (c, oc) :: pplLed a) ?k1 ?k2 ?kb ?k3 ?kN ?k6 ?k7 ?k8 ?k9 ?kB ?_ ?c2 ?c3 ?c4 ?c5
  case kN => exact hN
  (case k1 => assumption)
  (case k2 => assumption)
  (case kb => assumption)
  (case k3 => assumption)
  (case k6 => k_dflt k_is)
  (case k7 => k_dflt k_is)
  (case k8 => (show _ < 1000; dsimp only; omega))
  (case k9 => exact BindsTo.of_eq rfl)
  (case kB => exact locs rfl)
  (case c5 => decide)
  (case c2 => exact rfl)
  (case c3 => exact rfl)
  (case c4 => exact rfl)
  intro g L' h₁ hg hg' hL' X' T' B' F' N' hl'
  k_lt hl'
  (try dsimp only)
  (try k_fold)
  k_steps
  unfold Stop
  (rename Fr _ _ _ _ => F); (rename News _ _ _ _ => N)
  refine use (lexer_again (Setup.down0 (n := 20) (A := ⟨none, _, some outer, _, _⟩) ⟨X', T', B', rfl, by dsimp only; k_extra "w my om", by dsimp only; k_extra "w my om"⟩ F N rfl rfl) (fun b o e => of_hideAll _ e) c oc hc (N.get (.head _)) (hideAll_none _ (List.mem_map_of_mem (.head _))) (N.get (.tail _ (.head _))) (hideAll_none _ (List.mem_map_of_mem (.tail _ (.head _)))) _ _ (by decide)) F N (by first | exact each_nil | (refine each_cons ?_ each_nil; repeat (first | exact .head _ | refine .tail _ ?_)) | (refine each_cons ?_ (each_cons ?_ each_nil) <;> repeat (first | exact .head _ | refine .tail _ ?_)) | simp) ?_
  rintro _ h2 tk2 F2 N2 t2 ⟨lx, ⟨vs, nl, tn, rfl, okl, hsg, hlx, hfr⟩, rfl⟩
  obtain rfl := signs_nil hsg
  have hsb : ∀ q ∈ pplLed a ++ [(143, lexTab lx.c)], q ∈ (143, lexTab lx.c) :: (lx.c, oc) :: pplLed a := fun q hq => by
    rcases List.mem_append.mp hq with hq | hq
    · exact .tail _ (.tail _ hq)
    · rw [List.mem_singleton.mp hq]; exact .head _
  have N3 := lex_new (oth := pplLed a ++ [(143, lexTab lx.c)]) F2 N t2 F.ns.lt hlx hfr (.tail _ (.head _)) hsb
  have off := lex_off (oth := pplLed a ++ [(143, lexTab lx.c)]) N rfl hfr okl hsb
  have hoc : lx.oc = oc := Option.some.inj ((hlx (lx.c, lx.oc) (.tail _ (.tail _ (.tail _ (.tail _ (.head _)))))).symm.trans (t2.2 _ _ (N _ (.tail _ (.head _))).1 (by simp)))
  have hfar := lex_far F.ns.lt hfr okl
  clear N N2 t2 hlx hfr F
  dsimp only [lexLed, pplLed, List.cons_append, List.nil_append] at N3
  dsimp only at F2 ⊢
  k_steps
  unfold Stop
  (rename Fr _ _ _ _ => F); (rename News _ _ _ _ => N)
  refine LCp.Assign_ListComp_P (F₀ := F) (by rfl) (by with_unfolding_all rfl) (by with_unfolding_all rfl) (by decide) (by rfl) (by decide) (by rfl) (by rfl) (by decide) (by rfl) (by rfl) ?_
  k_steps
  unfold Stop
  (rename Fr _ _ _ _ => F); (rename News _ _ _ _ => N)
  refine comp_second (items := [.ref a.p0, .ref a.p1, .ref a.p2, .ref a.p3]) (vals := [.int a.k0 a.u0, .int a.k1 a.u1, .int a.k2 a.u2, .int a.k3 a.u3]) rfl F N (.tail _ (.tail _ (.tail _ (.tail _ (.tail _ (.tail _ (.tail _ (.tail _ (.tail _ (.head _)))))))))) (ppl_second fun q hq => List.mem_append_right [_, _, _, _, _, _, _, _, _] (List.mem_append_left [_] hq)) rfl (by show 4 ≤ 100; decide) rfl rfl (by decide) ?_
  intro h3 Mo h4 tk4 F4 N4 o4
  clear F N
  dsimp only at F4 N4 ⊢
  k_steps
  unfold Stop
  (rename Fr _ _ _ _ => F); (rename News _ _ _ _ => N)
  (rename @LT.lt Nat _ _ _ ∧ _ => hlt)
  rename_i Gn hB tkB hC tC hD
  have hlG : @LT.lt Nat _ lx.l Gn := by k_extra "w my om"
  have oG : ∀ q ∈ (Mo, LCg.lst (momL a)) :: (lexLed w.params lx 1 tn [] nl [] 0 ++ (pplLed a ++ [(143, lexTab lx.c)])), @Ne Nat q.1 Gn := by
    intro q hq
    revert q hq
    refine each_cons ?_ (each_cons ?_ (each_cons ?_ (each_cons ?_ (each_cons ?_ (each_cons ?_ (each_cons ?_ (each_cons ?_ (each_cons ?_ (each_cons ?_ (each_cons ?_ (each_cons ?_ (each_cons ?_ (each_cons ?_ (each_cons ?_ (each_cons ?_ each_nil))))))))))))))) <;> (show @Ne Nat _ _; dsimp only; k_extra "w my om")
  refine till_while (lx := lx) (a := a) (cost := cost) (Mo := Mo) F N oG (off1_mem o4) off (by kst_all) ?turn
  case turn =>
    clear F N hlt
    rintro c u h tk I F N
    dsimp only [kstB, tillPs] at F
    dsimp only [tillLed, lexLed, tillOth, pplLed, List.cons_append, List.nil_append] at N
    k_steps
    unfold Stop
    refine PyProof.Rows.len_list (PyProof.Rows.News.isList N (.tail _ (.tail _ (.tail _ (.tail _ (.tail _ (.tail _ (.tail _ (.tail _ (.tail _ (.head _))))))))))) (by rw [List.size_toArray, I.len]; have := I.g_le; have := I.ins_le; k_extra "w my om") ?_
    rw [List.size_toArray, I.len]
    k_steps
    unfold Stop
    refine PyProof.Rows.len_list (PyProof.Rows.News.isList N (.tail _ (.tail _ (.tail _ (.tail _ (.tail _ (.tail _ (.tail _ (.tail _ (.tail _ (.tail _ (.tail _ (.head _))))))))))))) (by show (4 : Int) < 2 ^ 63; decide) ?_
    k_steps
    rotate_left
    · -- the last is served
      have hg4 : c.g = 4 := by
        have hh : ¬ (((c.g : Nat) : Int) < ((4 : Nat) : Int)) := by assumption
        exact Nat.le_antisymm (Nat.le_trans I.g_le I.ins_le) (Nat.not_lt.mp fun q => hh (Int.ofNat_lt.mpr q))
      dsimp only
      k_steps
      (rename Fr _ _ _ _ => F); (rename News _ _ _ _ => N)
      obtain ⟨b, eb, are, hm⟩ := I.done hg4
      have hGL : @LT.lt Nat _ L' Gn := Nat.lt_trans hfar hlG
      have hsz : ∀ q ∈ pplLed b, @LE.le Nat _ s.heap.objs.size q.1 := fun q hq => by
        rcases hm q hq with rfl | hq
        · exact Nat.le_trans hL' (Nat.le_of_lt hGL)
        · exact Nat.le_trans hL' (Nat.le_of_lt hq.2)
      have hin : ∀ q ∈ pplLed b, q ∈ tillLed w.params lx a Gn Mo c := fun q hq => by
        rcases hm q hq with rfl | hq
        · exact List.mem_append_right _ (.head _)
        · exact List.mem_append_right _ (.tail _ (.tail _ (List.mem_append_right _ hq.1)))
      subst eb
      refine hret _ _ _ (touch_led (S := []) hg hL' F (fun q hq => (hN q hq).1) N fun q hq => .inr ?_) ⟨b, rfl, are, fun q hq => (N q (hin q hq)).1, fun q hq => Heap.get?_none_of_le (hsz q hq)⟩
      have htl := I.tab
      have : q ∈ tillLed w.params lx a b.l Mo c := by
        rcases List.mem_cons.mp hq with rfl | hq
        · exact List.mem_append_right _ (.tail _ (.tail _ (List.mem_append_right _ htl)))
        · rcases List.mem_cons.mp hq with rfl | hq
          · rw [← hoc]; exact List.mem_append_left _ (.tail _ (.tail _ (.tail _ (.tail _ (.head _)))))
          · exact List.mem_append_right _ (.tail _ (.tail _ (List.mem_append_left _ hq)))
      exact this
    unfold Stop
    (rename Fr _ _ _ _ => F); (rename News _ _ _ _ => N)
    refine use0 (bisr_ints (ns := [a.k0, a.k1, a.k2, a.k3]) (Setup.down0 (n := 5) (A := ⟨none, _, some outer, _, _⟩) ⟨X', T', B', rfl, by dsimp only; k_extra "w my om", by dsimp only; k_extra "w my om"⟩ F N rfl rfl) (fun b o e => of_hideAll _ e) c.clock c.tc (PyProof.Rows.News.isList N (.tail _ (.tail _ (.tail _ (.tail _ (.tail _ (.tail _ (.tail _ (.tail _ (.tail _ (.tail _ (.head _)))))))))))) (mom_are a) (by show 4 ≤ 100; decide) (mom_sorted s01 s12 s23)) F N (by first | exact each_nil | (refine each_cons ?_ each_nil; repeat (first | exact .head _ | refine .tail _ ?_)) | (refine each_cons ?_ (each_cons ?_ each_nil) <;> repeat (first | exact .head _ | refine .tail _ ?_)) | simp) ?_
    clear F N
    rintro _ h5 tk5 F N _ ⟨now, tnow, rfl, hcut⟩
    dsimp only at F N ⊢
    k_steps
    unfold Stop
    refine wpAny_For ?_
    k_steps
    unfold Stop
    (rename Fr _ _ _ _ => F); (rename News _ _ _ _ => N)
    have hin := I.now_ge hcut
    have hn4 : now ≤ 4 := hcut.1
    refine slice_come F N (.tail _ (.tail _ (.tail _ (.tail _ (.tail _ (.tail _ (.tail _ (.tail _ (.tail _ (.tail _ (.tail _ (.head _)))))))))))) hin hn4 ?_
    clear F N
    intro D h6 F6 N6 offD
    k_steps
    unfold Stop
    refine for_led2 (vs := comeL a c.ins now) (PushInv w.params lx a _ Mo D c _ now) rfl rfl rfl rfl F6 (fun q hq => N6 q ?p1) ?hl (PushInv.start I ⟨(offD _ (.head _)).symm, (offD _ (.tail _ (.tail _ (.head _)))).symm, (offD _ (.tail _ (.tail _ (.tail _ (.tail _ (.tail _ (.tail _ (.tail _ (.head _))))))))).symm⟩) ?hv ?turn ?done
    case p1 => 
      rcases List.mem_append.mp hq with hq | hq
      · exact .tail _ (List.mem_append_left _ hq)
      · rcases List.mem_cons.mp hq with rfl | hq
        · exact .head _
        · exact .tail _ (List.mem_append_right (lexLed w.params lx 1 c.tn [] c.nl c.pb c.kk) hq)
    case hl =>
      rintro i m news h ⟨u1, u2, pb, kk, rfl, rfl, _, _⟩ _ N
      exact PyProof.Rows.News.isList N (List.mem_append_right _ (.head _))
    case hv =>
      rintro i v m news hv ⟨u1, u2, pb, kk, rfl, rfl, _, _⟩
      obtain ⟨T, t, v2, rfl, hT⟩ := ppl_pair (a := a) (news := lexLed w.params lx 1 c.tn [] c.nl pb kk ++ ((D, listOf (comeL a c.ins now).toArray 0) :: tillOth a _ Mo c)) (fun q hq => List.mem_append_right _ (.tail _ (.tail _ (.tail _ (List.mem_append_left _ hq))))) _ _ (come_get hv).1
      exact ⟨T, _, v2, rfl, hT⟩
    case turn =>
      rintro i T v0 v1 m₁ news₁ h tk I2 oI hvi hT ⟨u1, u2, pb, kk, rfl, rfl, hpb, offl⟩ hO offI F N
      obtain ⟨T', t0, v2, eT, hT2⟩ := ppl_pair (a := a) (news := lexLed w.params lx 1 c.tn [] c.nl pb kk ++ ((D, listOf (comeL a c.ins now).toArray 0) :: tillOth a _ Mo c)) (fun q hq => List.mem_append_right _ (.tail _ (.tail _ (.tail _ (List.mem_append_left _ hq))))) _ _ (come_get hvi).1
      obtain rfl : T = T' := by injection eT
      have e2 := (N _ (.tail _ hT)).1.symm.trans (N _ (.tail _ hT2)).1
      obtain ⟨rfl, rfl⟩ : v0 = .str (who a (c.ins + i)) t0 ∧ v1 = v2 := by
        have := Option.some.inj e2
        simp [tup2] at this
        exact this
      have N0 := N
      dsimp only [lexLed, tillOth, pplLed, List.cons_append, List.nil_append] at N
      k_steps
      unfold Stop
      have hpl : pb.length ≤ 100 := by
        have e1 := all2_len hpb
        rw [List.length_range'] at e1
        have e2 := Nat.add_le_add_left (Nat.le_of_lt (come_get hvi).2) (c.ins - c.g)
        rw [gap I.g_le hin, ← e1] at e2
        exact Nat.le_trans e2 (Nat.le_trans (Nat.sub_le _ _) (Nat.le_trans hn4 (by decide)))
      refine use (push_spec (Setup.down0 (n := 10) (A := ⟨none, _, some outer, _, _⟩) ⟨X', T', B', rfl, by dsimp only; k_extra "w my om", by dsimp only; k_extra "w my om"⟩ F N0 rfl rfl) (fun b o e => of_hideAll _ e) lx 1 c.tn [] c.nl pb kk _ okl (Nat.le_trans hpl (by decide))
        (fun q hq => ⟨N0.get (.tail _ (List.mem_append_left _ hq)), hideAll_none _ (List.mem_map_of_mem (.tail _ (List.mem_append_left _ hq)))⟩)) F N0 (by first | exact each_nil | (refine each_cons ?_ each_nil; repeat (first | exact .head _ | refine .tail _ ?_)) | (refine each_cons ?_ (each_cons ?_ each_nil) <;> repeat (first | exact .head _ | refine .tail _ ?_)) | simp) ?_
      rintro _ h7 tk7 F7 _ t7 H7
      dsimp only at F7 ⊢
      k_steps
      unfold Stop
      exact PushInv.end F7 N0 (fun q hq => hq) t7 H7 I.g_le hpb offl offI
    case done =>
      clear F6 N6
      rintro m₁ news₁ h tk ⟨u1, u2, pb, kk, rfl, rfl, hpb, offl⟩ F N
      dsimp only
      rw [come_len hin hn4] at hpb
      have hpb2 : All2 (fun v j => ∃ t, v = .str (who a j) t) pb (List.range' c.g (now - c.g)) := by
        have e : c.ins - c.g + (now - c.ins) = now - c.g := gap I.g_le hin
        rwa [e] at hpb
      have N1 : News _ _ _ (lexLed w.params lx 1 c.tn [] c.nl pb kk ++ tillOth a _ Mo c) := fun q hq => N q (List.mem_append.mpr ((List.mem_append.mp hq).imp id (.tail _)))
      clear N hpb offl
      dsimp only [lexLed, tillOth, pplLed, List.cons_append, List.nil_append] at N1
      k_steps
      unfold Stop
      (rename Fr _ _ _ _ => F); (rename News _ _ _ _ => N)
      have N0 : News _ _ _ (lexLed w.params lx 1 c.tn [] c.nl pb kk ++ tillOth a _ Mo c) := N
      have hg4 : c.g < 4 := by
        have hh : ((c.g : Nat) : Int) < ((4 : Nat) : Int) := by assumption
        exact Int.ofNat_lt.mp hh
      rcases pb with _ | ⟨v, pb⟩
      · -- nobody: on to the next coming
        have hgn : now = c.g := by
          have h1 := all2_len hpb2
          rw [List.length_range'] at h1
          have h3 : (0 : Nat) = now - c.g := h1
          exact Nat.le_antisymm (Nat.sub_eq_zero_iff_le.mp h3.symm) (Nat.le_trans I.g_le hin)
        refine use (token_empty (Setup.down0 (n := 21) (A := ⟨none, _, some outer, _, _⟩) ⟨X', T', B', rfl, by dsimp only; k_extra "w my om", by dsimp only; k_extra "w my om"⟩ F N0 rfl rfl) (fun b o e => of_hideAll _ e) lx 1 c.tn c.nl kk okl
          (fun q hq => ⟨N0.get (List.mem_append_left _ hq), hideAll_none _ (List.mem_map_of_mem (List.mem_append_left _ hq))⟩)) F N0 (by first | exact each_nil | (refine each_cons ?_ each_nil; repeat (first | exact .head _ | refine .tail _ ?_)) | (refine each_cons ?_ (each_cons ?_ each_nil) <;> repeat (first | exact .head _ | refine .tail _ ?_)) | simp) ?_
        rintro _ h7 tk7 F7 _ t7 ⟨u7, tn7, nl7, rfl, H7⟩
        have N7 := lex_step N0 t7 (by simp) H7 I.offL
        clear F N N0
        dsimp only [lexLed, tillOth, pplLed, List.cons_append, List.nil_append] at N7
        dsimp only at F7 ⊢
        k_steps
        unfold Stop
        (rename Fr _ _ _ _ => F); (rename News _ _ _ _ => N)
        obtain ⟨tm, htm⟩ := are_get (mom_are a) (i := now) (by show now < 4; rw [hgn]; exact hg4)
        refine item_at (N.isList (.tail _ (.tail _ (.tail _ (.tail _ (.tail _ (.tail _ (.tail _ (.tail _ (.tail _ (.tail _ (.head _)))))))))))) (Int.natCast_nonneg _) (by have := hg4; k_extra "w my om") (k := (now : Int)) (by rw [Int.toNat_natCast]; exact htm) ?_
        k_steps
        unfold Stop
        (rename Fr _ _ _ _ => F); (rename News _ _ _ _ => N)
        have J := I.jump (kk := kk) (nl := nl7) (tn := tn7) (tc := tm) (ti := tnow) hcut hgn hg4
        exact ksw_end { c with ins := now, clock := [a.k0, a.k1, a.k2, a.k3].getD now 0, tc := tm, ti := tnow, pb := [], kk := kk, tn := tn7, nl := nl7 } F N (fun q hq => hq) trivial (by kst_all) (by ksw_same) J.1 J.2
      · -- the next one goes in
        have hgn : c.g < now := by
          have h1 := all2_len hpb2
          rw [List.length_range'] at h1
          have h3 : pb.length + 1 = now - c.g := h1
          exact Nat.lt_of_sub_pos (h3 ▸ Nat.succ_pos _)
        have hpl : pb.length ≤ 5000 := by
          have h1 := all2_len hpb2
          rw [List.length_range'] at h1
          have h3 : pb.length + 1 = now - c.g := h1
          exact Nat.le_trans (Nat.le_succ _) (Nat.le_trans (Nat.le_of_eq h3) (Nat.le_trans (Nat.sub_le _ _) (Nat.le_trans hn4 (by decide))))
        have er : List.range' c.g (now - c.g) = c.g :: List.range' (c.g + 1) (now - (c.g + 1)) := by
          rw [gap1 hgn]; rfl
        rw [er] at hpb2
        obtain ⟨⟨tv, rfl⟩, hpb3⟩ : (∃ t, v = .str (who a c.g) t) ∧ All2 (fun v j => ∃ t, v = .str (who a j) t) pb (List.range' (c.g + 1) (now - (c.g + 1))) := by
          cases hpb2 with
          | cons h1 h2 => exact ⟨h1, h2⟩
        refine use (pop_spec (Setup.down0 (n := 10) (A := ⟨none, _, some outer, _, _⟩) ⟨X', T', B', rfl, by dsimp only; k_extra "w my om", by dsimp only; k_extra "w my om"⟩ F N0 rfl rfl) (fun b o e => of_hideAll _ e) lx 1 c.tn [] c.nl pb kk _ okl hpl
          (fun q hq => ⟨N0.get (List.mem_append_left _ hq), hideAll_none _ (List.mem_map_of_mem (List.mem_append_left _ hq))⟩)) F N0 (by first | exact each_nil | (refine each_cons ?_ each_nil; repeat (first | exact .head _ | refine .tail _ ?_)) | (refine each_cons ?_ (each_cons ?_ each_nil) <;> repeat (first | exact .head _ | refine .tail _ ?_)) | simp) ?_
        rintro _ h7 tk7 F7 _ t7 ⟨rfl, H7⟩
        have N7 := lex_step N0 t7 (by simp) H7 I.offL
        clear F N N0
        dsimp only [lexLed, tillOth, pplLed, List.cons_append, List.nil_append] at N7
        dsimp only at F7 ⊢
        have hyg := hy c.g hg4
        k_steps
        · exact absurd (eq_of_beq (by assumption : (who a c.g == Str.ofString "") = true)) hyg
        unfold Stop
        (rename Fr _ _ _ _ => F); (rename News _ _ _ _ => N)
        rename_i tkE hE TE hF FF NF
        have hTl : @LT.lt Nat _ lx.l hF := NF.1
        have hTd : @LT.lt Nat _ lx.d hF := NF.2.2.1
        have hTD : @LT.lt Nat _ lx.D hF := NF.2.2.2.2.2.2.2.1
        have hTG : @LT.lt Nat _ Gn hF := NF.2.2.2.2.2.2.2.2.2.1
        have U := till_upd (P := w.params) (no' := 1) (tn' := c.tn) (vs' := []) (n' := c.nl) (pb' := pb) (k' := kk + 1) (T := hF) (o := tup2 (.str (who a c.g) tv) (.int (c.clock + cost) tk)) (v := .ref hF) I (fun q hq => oG q (.tail _ (List.mem_append_left _ hq))) (Nat.ne_of_gt hTG)
        refine append_led (p := c.refs) F N U (by rw [I.len]; exact Nat.le_trans (Nat.le_of_lt hg4) (by decide)) ?_
        intro h8 F8 N8
        have J := I.serve (kk := kk + 1) (nl := c.nl) (tn := c.tn) (tc := tk) (ti := tnow) (t := tv) (u := tk) (T := hF) hcut hgn hc0 hpb3 ⟨Nat.ne_of_gt hTl, Nat.ne_of_gt hTd, Nat.ne_of_gt hTD⟩ (Nat.ne_of_gt hTG) (Nat.lt_trans hfar hTl)
        clear F N
        k_steps
        unfold Stop
        (rename Fr _ _ _ _ => F); (rename News _ _ _ _ => N)
        refine ksw_end ⟨c.g + 1, now, c.clock + cost, tk, tnow, c.refs ++ [.ref hF], c.n + 1, (hF, tup2 (.str (who a c.g) tv) (.int (c.clock + cost) tk)) :: c.tl, pb, kk + 1, c.tn, c.nl⟩ F N (fun q hq => ?_) trivial (by kst_all) (by ksw_same) J.1 J.2
        rcases List.mem_append.mp hq with hq | hq
        · exact .tail _ (List.mem_append_left _ hq)
        · rcases List.mem_cons.mp hq with rfl | hq
          · exact .tail _ (List.mem_append_right _ (.head _))
          · rcases List.mem_cons.mp hq with rfl | hq
            · exact .tail _ (List.mem_append_right _ (.tail _ (.head _)))
            · rcases List.mem_append.mp hq with hq | hq
              · exact .tail _ (List.mem_append_right _ (.tail _ (.tail _ (List.mem_append_left _ hq))))
              · rcases List.mem_cons.mp hq with rfl | hq
                · exact .head _
                · exact .tail _ (List.mem_append_right _ (.tail _ (.tail _ (List.mem_append_right _ hq))))
end
section
theorem resetZone : (0 : Nat) = 0 := by
  w_top off
  k_with_none
  (k_with "w my pick" => (with_reducible first | assumption | exact lo1 | exact lo2 | exact lo3 | exact lo4 | exact ls1 (by assumption) | exact ls2 (by assumption) | exact ls3 (by assumption) | exact pk0 (by assumption) | exact pk1 (by assumption) | exact pk2 (by assumption) | exact pk3 (by assumption) | exact pk4 (by assumption) | exact pk5 (by assumption) | exact pk6 (by assumption) | exact pk7 (by assumption) | exact pk8 (by assumption) | exact pk9 (by assumption) | exact pk10 (by assumption) | exact pk11 (by assumption) | exact pk12 (by assumption) | exact pk13 (by assumption) | exact pk14 (by assumption) | exact pk15 (by assumption) | exact pk16 (by assumption) | exact pk17 (by assumption) | exact qk1 (by assumption) | exact qk2 (by assumption) | exact qk3 (by assumption) | exact qk4 (by assumption) | exact qk5 (by assumption) | exact qk6 (by assumption) | exact qk7 (by assumption) | exact qk8 (by assumption) | exact qk9 (by assumption) | exact qk10 (by assumption) | exact qk11 (by assumption) | exact qk12 (by assumption) | exact qk13 (by assumption) | exact qk14 (by assumption) | exact qk15 (by assumption) | exact qk16 (by assumption) | exact qk17 (by assumption)))
  (k_with "w my sml" => (with_reducible first | (refine Nat.ne_of_lt ?_; k_extra "w my pick") | (refine Nat.ne_of_gt ?_; k_extra "w my pick") | (refine Ne.symm ?_; k_extra "w my pick") | (refine id ?_; k_extra "w my pick") | (refine Nat.le_of_lt ?_; k_extra "w my pick") | exact lrefl | exact lzero | exact one_le | exact room0 (by assumption) | exact room (by assumption) (by decide) | exact room1 (by assumption) (by decide) | exact room2 (by assumption) (by decide) | exact room3 (by assumption) (by decide) | exact le_le (by assumption) (by decide) | exact le_sc (by assumption) | (refine above1' ?_ (by assumption); k_extra "w my pick") | (refine above2' ?_ (by assumption); k_extra "w my pick")))
  (k_with "w my om" => (first | k_extra "w my sml" | lia | omega))
  rfl
theorem rgZonex1 : (0 : Nat) = 0 := by
  (k_with "w my k_room" => ((try simp only [depth_under_make, depth_under_kw, depth_in1, depth_deeper]); (show _ < 1000); (try dsimp only); omega))
  (k_with "w my units_room" => ((try simp only [units_in1, units_deeper, Around.mark_units]); (show _ < 9900); (try dsimp only); omega))
  (k_with "w my small" => (first
  | (refine Sm.int ?_; (try simp only [Int.fmod_eq_emod_of_nonneg, Int.fdiv_eq_ediv_of_nonneg, Int.reduceLE]); omega)
  | (apply Sm.slice; k_extra "w my small")
  | (apply Sm.add <;> k_extra "w my small")
  | (apply Sm.ite <;> k_extra "w my small")
  | assumption
  | exact Sm.refl _))
  (k_with "w subscriptTail Name Slice str ref" => ((with_reducible show wpAny _ _ (subscriptTail _ (Expr.Slice (some _) none none _) (Value.str _ _) (Value.ref _)) _ _ _); dsimp only; (with_reducible rename Fr _ _ _ _ => F'); (with_reducible rename News _ _ _ _ => N'); (refine' slice_strN_sn (hsz := by (apply Sm.size <;> first | k_extra "w my small" | decide)) (s := ⟨_, _, _, _, _⟩) F' N' ?_); intro _ _ _ _ _))
  (k_with "w binaryOp Add str str" => ((with_reducible show wpAny _ _ (binaryOp Operator.Add (Value.str _ _) (Value.str _ _)) _ _ _); (refine' PyProof.Rows.add_str ?_ (by (apply Sm.size2 <;> first | k_extra "w my small" | decide))); intro _ _))
  (k_with "w ite" => ((with_reducible refine ite_strs ?_); intro _))
  rfl
theorem za {mi : Int} (h1 : -90 ≤ mi) (h2 : mi ≤ 90) : 0 ≤ (if mi < 0 then -mi else mi) ∧ (if mi < 0 then -mi else mi) ≤ 90 := by
  split
  · rename_i h; exact ⟨Int.neg_nonneg_of_nonpos (Int.le_of_lt h), Int.neg_le_of_neg_le h1⟩
  · rename_i h; exact ⟨Int.not_lt.mp h, h2⟩
theorem zbig {a : Int} (h : a ≤ 190) : a < 2 ^ 1920 := by k_extra "w my om"
theorem zlow {a : Int} (h : 0 ≤ a) : -2 ^ 1920 < a := by k_extra "w my om"
theorem zabs {a : Int} (h : 0 ≤ a) (h' : a ≤ 190) : a.natAbs < 10 ^ 9 := Int.ofNat_lt.mp (by rw [Int.natAbs_of_nonneg h]; exact Int.lt_of_le_of_lt h' (by decide))
theorem zq {mi : Int} (h1 : -90 ≤ mi) (h2 : mi ≤ 90) : 0 ≤ (if mi < 0 then -mi else mi) / 60 ∧ (if mi < 0 then -mi else mi) / 60 ≤ 190 := ⟨Int.ediv_nonneg (za h1 h2).1 (by decide), Int.le_trans (Int.ediv_le_self _ (za h1 h2).1) (Int.le_trans (za h1 h2).2 (by decide))⟩
theorem zr {a : Int} : 0 ≤ a % 60 + 100 ∧ a % 60 + 100 ≤ 190 := ⟨Int.add_nonneg (Int.emod_nonneg _ (by decide)) (by decide), Int.add_le_add_right (c := 100) (b := 90) (Int.le_of_lt (Int.lt_of_lt_of_le (Int.emod_lt_of_pos a (b := 60) (by decide)) (by decide)))⟩
theorem zs {mi : Int} (h1 : -90 ≤ mi) (h2 : mi ≤ 90) : 0 ≤ (if mi < 0 then -mi else mi) + 100 ∧ (if mi < 0 then -mi else mi) + 100 ≤ 190 := ⟨Int.add_nonneg (za h1 h2).1 (by decide), Int.add_le_add_right (c := 100) (b := 90) (za h1 h2).2⟩
theorem zf1 {mi : Int} (h1 : -90 ≤ mi) (h2 : mi ≤ 90) : (if mi < 0 then -mi else mi) / 60 < 2 ^ 1920 := zbig (zq h1 h2).2
theorem zf2 {mi : Int} (h1 : -90 ≤ mi) (h2 : mi ≤ 90) : ((if mi < 0 then -mi else mi) / 60).natAbs < 10 ^ 9 := zabs (zq h1 h2).1 (zq h1 h2).2
theorem zf3 {mi : Int} (h1 : -90 ≤ mi) (h2 : mi ≤ 90) : ((if mi < 0 then -mi else mi) + 100).natAbs < 10 ^ 9 := zabs (zs h1 h2).1 (zs h1 h2).2
theorem zf4 {a : Int} : (a % 60 + 100).natAbs < 10 ^ 9 := zabs zr.1 zr.2
theorem zf5 {mi : Int} (h1 : -90 ≤ mi) (h2 : mi ≤ 90) : (if mi < 0 then -mi else mi) + 100 < 2 ^ 1920 := zbig (zs h1 h2).2
theorem zf6 {a : Int} : -2 ^ 1920 < a % 60 + 100 := zlow zr.1
theorem zf7 {a : Int} : a % 60 + 100 < 2 ^ 1920 := zbig zr.2
theorem zf8 {mi : Int} (h1 : -90 ≤ mi) (h2 : mi ≤ 90) : -2 ^ 1920 < (if mi < 0 then -mi else mi) / 60 := zlow (zq h1 h2).1
theorem zf9 {mi : Int} (h1 : -90 ≤ mi) (h2 : mi ≤ 90) : -2 ^ 1920 < (if mi < 0 then -mi else mi) + 100 := zlow (zs h1 h2).1

theorem rgZonex2 : (0 : Nat) = 0 := by
  (k_with "w my sml" => (with_reducible first | exact Mine.zf1 (by assumption) (by assumption) | exact Mine.zf2 (by assumption) (by assumption) | exact Mine.zf3 (by assumption) (by assumption) | exact Mine.zf4 | exact Mine.zf5 (by assumption) (by assumption) | exact Mine.zf6 | exact Mine.zf7 | exact Mine.zf8 (by assumption) (by assumption) | exact Mine.zf9 (by assumption) (by assumption)))
  rfl
noncomputable def zsize (mi : Int) : Int := if mi < 0 then -mi else mi
noncomputable def zint (x : Int) : Str := Str.ofString (toString x)
noncomputable def zrest (x : Int) : Str := Txt.slice (zint x) (some 1) none
noncomputable def zone (mi dr : Int) : Str :=
  if dr = 1 then (if mi < 0 then Str.ofString "-" else Str.ofString "+") ++ Str.ofString "0" ++ zint ((zsize mi).fdiv 60) ++ zrest ((zsize mi).fmod 60 + 100)
  else if 1 < dr ∧ zsize mi = 0 then (if dr = 2 then Str.ofString "GMT" else Str.ofString "Z")
  else if dr = 2 then (if mi < 0 then Str.ofString "-" else Str.ofString "+") ++ Str.ofString "0:" ++ zrest (zsize mi + 100)
  else if dr = 3 ∧ (zsize mi).fmod 60 = 0 then (if mi < 0 then Str.ofString "-" else Str.ofString "+") ++ zint ((zsize mi).fdiv 60)
  else if dr = 3 ∧ 0 < mi then zint ((zsize mi).fdiv 60) ++ zrest ((zsize mi).fmod 60 + 100)
  else (if mi < 0 then Str.ofString "-" else Str.ofString "+") ++ zint ((zsize mi).fdiv 60) ++ Str.ofString ":" ++ zrest ((zsize mi).fmod 60 + 100)

set_option maxHeartbeats 8000000 in
theorem zone_spec {w : World} {A : Around} {s : Shared} {G base : Heap} {outer : List Env} {p : Program} {loose : List Str} {mean : ExcName → Option Value} {mg mb : Str → Option Value}
    (hS : Setup 5 w A base outer p loose mean mg mb G) (hG : ∀ b o, G.get? b = some o → s.heap.get? b = some o)
    (mi : Int) (t1 : Tok) (dr : Int) (t2 : Tok) (h1 : -90 ≤ mi) (h2 : mi ≤ 90) (h3 : 0 ≤ dr) (h4 : dr < 4) :
    CallsTo w A (.ref 136) [.int mi t1, .int dr t2] [] s [] (fun v _ => ∃ t, v = .str (zone mi dr) t) := by
  intro R hret
  (rename Setup _ _ _ _ _ _ _ _ _ _ _ => hSu)
  apply Setup.open hSu
  clear hSu
  intro dpt grs uni X T B hdp hun
  refine' enterH (news := []) ?k1 ?k2 ?kb ?k3 ?kN ?k6 ?k7 ?k8 ?k9 ?kB ?_ ?c2 ?c3 ?c4 ?c5
  case kN => exact fun _ h => nomatch h
  (case k1 => assumption)
  (case k2 => assumption)
  (case kb => assumption)
  (case k3 => assumption)
  (case k6 => k_dflt k_is)
  (case k7 => k_dflt k_is)
  (case k8 => (show _ < 1000; dsimp only; omega))
  (case k9 => exact BindsTo.of_eq rfl)
  (case kB => exact locs rfl)
  (case c5 => decide)
  (case c2 => exact rfl)
  (case c3 => exact rfl)
  (case c4 => exact rfl)
  intro g L' h₁ hg hg' hL' X' T' B' F' N' hl'
  (try dsimp only)
  k_fold
  k_steps
  all_goals (try dsimp only)
  all_goals refine hret _ _ _ (touch_of hg hL' (by assumption)) ⟨_, congrArg (fun z => Value.str z _) ?_⟩
  all_goals (try (exfalso; k_extra "w my om"))
  all_goals (try simp only [decide_eq_true_eq, beq_iff_eq])
  all_goals (unfold zone zint zrest zint zsize)
  all_goals first | (simp only [*, if_true, if_false, ne_eq, not_true, not_false_iff, and_true, and_false, true_and, false_and]; done) | (simp [*]; done) | (simp_all; done) | skip
end
section
theorem resetWritten : (0 : Nat) = 0 := by
  w_top off
  k_with_none
  (k_with "w my pick" => (with_reducible first | assumption | exact lo1 | exact lo2 | exact lo3 | exact lo4 | exact ls1 (by assumption) | exact ls2 (by assumption) | exact ls3 (by assumption) | exact pk0 (by assumption) | exact pk1 (by assumption) | exact pk2 (by assumption) | exact pk3 (by assumption) | exact pk4 (by assumption) | exact pk5 (by assumption) | exact pk6 (by assumption) | exact pk7 (by assumption) | exact pk8 (by assumption) | exact pk9 (by assumption) | exact pk10 (by assumption) | exact pk11 (by assumption) | exact pk12 (by assumption) | exact pk13 (by assumption) | exact pk14 (by assumption) | exact pk15 (by assumption) | exact pk16 (by assumption) | exact pk17 (by assumption) | exact qk1 (by assumption) | exact qk2 (by assumption) | exact qk3 (by assumption) | exact qk4 (by assumption) | exact qk5 (by assumption) | exact qk6 (by assumption) | exact qk7 (by assumption) | exact qk8 (by assumption) | exact qk9 (by assumption) | exact qk10 (by assumption) | exact qk11 (by assumption) | exact qk12 (by assumption) | exact qk13 (by assumption) | exact qk14 (by assumption) | exact qk15 (by assumption) | exact qk16 (by assumption) | exact qk17 (by assumption)))
  (k_with "w my sml" => (with_reducible first | (refine Nat.ne_of_lt ?_; k_extra "w my pick") | (refine Nat.ne_of_gt ?_; k_extra "w my pick") | (refine Ne.symm ?_; k_extra "w my pick") | (refine id ?_; k_extra "w my pick") | (refine Nat.le_of_lt ?_; k_extra "w my pick") | exact lrefl | exact lzero | exact one_le | exact room0 (by assumption) | exact room (by assumption) (by decide) | exact room1 (by assumption) (by decide) | exact room2 (by assumption) (by decide) | exact room3 (by assumption) (by decide) | exact le_le (by assumption) (by decide) | exact le_sc (by assumption) | (refine above1' ?_ (by assumption); k_extra "w my pick") | (refine above2' ?_ (by assumption); k_extra "w my pick")))
  (k_with "w my om" => (first | k_extra "w my sml" | lia | omega))
  rfl
theorem rgWrittenx1 : (0 : Nat) = 0 := by
  (k_with "w my k_room" => ((try simp only [depth_under_make, depth_under_kw, depth_in1, depth_deeper]); (show _ < 1000); (try dsimp only); omega))
  (k_with "w my units_room" => ((try simp only [units_in1, units_deeper, Around.mark_units]); (show _ < 9900); (try dsimp only); omega))
  (k_with "w my small" => (first
  | (refine Sm.int ?_; (try simp only [Int.fmod_eq_emod_of_nonneg, Int.fdiv_eq_ediv_of_nonneg, Int.reduceLE]); omega)
  | (apply Sm.slice; k_extra "w my small")
  | (apply Sm.add <;> k_extra "w my small")
  | (apply Sm.ite <;> k_extra "w my small")
  | assumption
  | exact Sm.refl _))
  (k_with "w subscriptTail Name Slice str ref" => ((with_reducible show wpAny _ _ (subscriptTail _ (Expr.Slice (some _) none none _) (Value.str _ _) (Value.ref _)) _ _ _); dsimp only; (with_reducible rename Fr _ _ _ _ => F'); (with_reducible rename News _ _ _ _ => N'); (refine' slice_strN_sn (hsz := by (apply Sm.size <;> first | k_extra "w my small" | decide)) (s := ⟨_, _, _, _, _⟩) F' N' ?_); intro _ _ _ _ _))
  (k_with "w binaryOp Add str str" => ((with_reducible show wpAny _ _ (binaryOp Operator.Add (Value.str _ _) (Value.str _ _)) _ _ _); (refine' PyProof.Rows.add_str ?_ (by (apply Sm.size2 <;> first | k_extra "w my small" | decide))); intro _ _))
  (k_with "w ite" => ((with_reducible refine ite_strs ?_); intro _))
  rfl
noncomputable def bsl (c : Nat) : Str := Str.ofString "\\" ++ ⟨#[c]⟩
noncomputable def written (x : Str) (wy : Int) : Str :=
  if wy = 0 then x ++ Str.ofString "\n"
  else if wy = 1 then Str.ofString "\"" ++ x ++ Str.ofString "\" "
  else Txt.join (Str.ofString "") (x.cps.toList.map bsl) ++ Str.ofString "\t"
theorem bsl_len (c : Nat) : (bsl c).length = 2 := by unfold bsl; rw [Str.length_append]; rfl
theorem bsl_sum : ∀ l : List Nat, ((l.map bsl).map (·.length)).sum = 2 * l.length := by
  intro l; induction l with
  | nil => rfl
  | cons c l ih => simp only [List.map_cons, List.sum_cons, List.length_cons, bsl_len, ih]; omega
theorem sm_join (x : Str) (h : x.length ≤ 100) : Sm 1000 (Txt.join (Str.ofString "") (x.cps.toList.map bsl)) := by
  have e4 : x.cps.toList.length ≤ 100 := by simpa [Str.length] using h
  unfold Sm
  rw [join_len, bsl_sum]; k_extra "w my om"
theorem rgWrittenx2 : (0 : Nat) = 0 := by
  (k_with "w eval ListComp" => ((with_reducible apply ListComp_rowsP); (case hfree => decide); (case hcell => decide); (case hkind => with_unfolding_all rfl); (case hnames => decide); (case hx => with_unfolding_all rfl); (case hs => intro _; with_unfolding_all rfl)))
  (k_with "w pyIter str" => refine stop_here ?_)
  rfl
set_option maxHeartbeats 8000000 in
theorem written_spec {w : World} {A : Around} {s : Shared} {G base : Heap} {outer : List Env} {p : Program} {loose : List Str} {mean : ExcName → Option Value} {mg mb : Str → Option Value}
    (hS : Setup 5 w A base outer p loose mean mg mb G) (hG : ∀ b o, G.get? b = some o → s.heap.get? b = some o)
    (x : Str) (t1 : Tok) (wy : Int) (t2 : Tok) (hx : x.length ≤ 100) :
    CallsTo w A (.ref 141) [.str x t1, .int wy t2] [] s [] (fun v _ => ∃ t, v = .str (written x wy) t) := by
  intro R hret
  (rename Setup _ _ _ _ _ _ _ _ _ _ _ => hSu)
  apply Setup.open hSu
  clear hSu
  intro dpt grs uni X T B hdp hun
  have hsm : Sm 100 x := hx
  refine' enterH (news := []) ?k1 ?k2 ?kb ?k3 ?kN ?k6 ?k7 ?k8 ?k9 ?kB ?_ ?c2 ?c3 ?c4 ?c5
  case kN => exact fun _ h => nomatch h
  (case k1 => assumption)
  (case k2 => assumption)
  (case kb => assumption)
  (case k3 => assumption)
  (case k6 => k_dflt k_is)
  (case k7 => k_dflt k_is)
  (case k8 => (show _ < 1000; dsimp only; omega))
  (case k9 => exact BindsTo.of_eq rfl)
  (case kB => exact locs rfl)
  (case c5 => decide)
  (case c2 => exact rfl)
  (case c3 => exact rfl)
  (case c4 => exact rfl)
  intro g L' h₁ hg hg' hL' X' T' B' F' N' hl'
  (try dsimp only)
  k_fold
  k_steps
  · (try dsimp only)
    refine hret _ _ _ (touch_of hg hL' (by assumption)) ⟨_, congrArg (fun z => Value.str z _) ?_⟩
    unfold written; simp only [*, if_true]
  · (try dsimp only)
    refine hret _ _ _ (touch_of hg hL' (by assumption)) ⟨_, congrArg (fun z => Value.str z _) ?_⟩
    unfold written; simp only [*, if_true, if_false, ne_eq] <;> simp [*]
  · unfold Stop
    refine comp_signs (fun a => Str.ofString "\\" ++ a) rfl (by assumption) (by assumption) (hsm.size (by decide)) ?_ ?_
    · intro C c u s₂ m₂ E' hn hm
      exact wpAny_BinOp (Calls.Constant_str (wpAny_Name (wpAny_loadName_local rfl rfl hn hm (PyProof.Rows.add_str (fun t' tk => ⟨⟨_, rfl⟩, _, _, rfl, fun _ _ e => e⟩) (by show _ + 1 ≤ _; decide)))))
    · intro D l h' tk F N hD hl
      k_steps
      replace hl : l.map (·.1) = x.cps.toList.map bsl := hl
      have e4 : x.cps.toList.length ≤ 100 := by simpa [Str.length] using hx
      refine PySem.SC.join hD hl (joinOk_of_weight (by rw [bsl_sum, List.length_map]; k_extra "w my om") (by decide)) fun t' k => ?_
      have hj := sm_join x hx
      k_steps
      try dsimp only
      refine hret _ _ _ (touch_of hg hL' (by assumption)) ⟨_, congrArg (fun z => Value.str z _) ?_⟩
      unfold written; simp only [*, if_true, if_false, ne_eq] <;> simp [*]
end
section
theorem owner_re_Pattern : Manifest.owners.lookup (String.ofList ['n', 'r', 'e', 't', 't', 'a', 'P', '.', 'e', 'r'].reverse) = some Manifest.sig_re_Pattern := by kernel_rfl
theorem attrs_re_Pattern : PlainAttrs "re.Pattern" :=
  ⟨⟨"object.__getattribute__", by rw [typeLookup_type, builtinLookup_eq_fast]; kernel_rfl, by decide +kernel⟩, by rw [typeLookup_type, builtinLookup_eq_fast]; kernel_rfl⟩
theorem owner_re_Match : Manifest.owners.lookup (String.ofList ['h', 'c', 't', 'a', 'M', '.', 'e', 'r'].reverse) = some Manifest.sig_re_Match := by kernel_rfl
theorem attrs_re_Match : PlainAttrs "re.Match" :=
  ⟨⟨"object.__getattribute__", by rw [typeLookup_type, builtinLookup_eq_fast]; kernel_rfl, by decide +kernel⟩, by rw [typeLookup_type, builtinLookup_eq_fast]; kernel_rfl⟩
theorem slot_search : Slot "re.Pattern" "search" "re.Pattern.search" :=
  .of (owner := "re.Pattern") (n := "search") (by rw [typeLookup_type, builtinLookup_eq_fast]; kernel_rfl) (by decide +kernel) (by decide +kernel) (by decide +kernel)
    (by first | exact .inl (by decide +kernel) | exact .inr (by decide +kernel)) (by rw [isSubtype_type]; kernel_rfl)
theorem entry_search : entryFor table "re.Pattern.search" = some Builtin.«re.Pattern.search» := entryFor_of_tree (by kernel_rfl)
theorem type_search : typeOf (.builtin "re.Pattern.search") = pure (.type "method_descriptor") := by show builtinType _ = _; rw [builtinType_eq_fast]; kernel_rfl
theorem args_search (a b : Value) : argsOk "re.Pattern.search" ⟨[a, b], []⟩ := by
  unfold argsOk; rw [signature?_of (id := "re.Pattern.search") (n := ['h', 'c', 'r', 'a', 'e', 's']) (o := ['n', 'r', 'e', 't', 't', 'a', 'P', '.', 'e', 'r']) (by kernel_rfl) owner_re_Pattern]; kernel_rfl
theorem slot_group : Slot "re.Match" "group" "re.Match.group" :=
  .of (owner := "re.Match") (n := "group") (by rw [typeLookup_type, builtinLookup_eq_fast]; kernel_rfl) (by decide +kernel) (by decide +kernel) (by decide +kernel)
    (by first | exact .inl (by decide +kernel) | exact .inr (by decide +kernel)) (by rw [isSubtype_type]; kernel_rfl)
theorem entry_group : entryFor table "re.Match.group" = some Builtin.«re.Match.group» := entryFor_of_tree (by kernel_rfl)
theorem type_group : typeOf (.builtin "re.Match.group") = pure (.type "method_descriptor") := by show builtinType _ = _; rw [builtinType_eq_fast]; kernel_rfl
theorem args_group (a b : Value) : argsOk "re.Match.group" ⟨[a, b], []⟩ := by
  unfold argsOk; rw [signature?_of (id := "re.Match.group") (n := ['p', 'u', 'o', 'r', 'g']) (o := ['h', 'c', 't', 'a', 'M', '.', 'e', 'r']) (by kernel_rfl) owner_re_Match]; kernel_rfl

theorem match_bool : typeLookup (.type "re.Match") "__bool__" = pure none := by rw [typeLookup_type, builtinLookup_eq_fast]; kernel_rfl
theorem match_len : typeLookup (.type "re.Match") "__len__" = pure none := by rw [typeLookup_type, builtinLookup_eq_fast]; kernel_rfl
end
section
theorem resetRe : (0 : Nat) = 0 := by
  w_top off
  k_with_none
  (k_with "w my pick" => (with_reducible first | assumption | exact lo1 | exact lo2 | exact lo3 | exact lo4 | exact ls1 (by assumption) | exact ls2 (by assumption) | exact ls3 (by assumption) | exact pk0 (by assumption) | exact pk1 (by assumption) | exact pk2 (by assumption) | exact pk3 (by assumption) | exact pk4 (by assumption) | exact pk5 (by assumption) | exact pk6 (by assumption) | exact pk7 (by assumption) | exact pk8 (by assumption) | exact pk9 (by assumption) | exact pk10 (by assumption) | exact pk11 (by assumption) | exact pk12 (by assumption) | exact pk13 (by assumption) | exact pk14 (by assumption) | exact pk15 (by assumption) | exact pk16 (by assumption) | exact pk17 (by assumption) | exact qk1 (by assumption) | exact qk2 (by assumption) | exact qk3 (by assumption) | exact qk4 (by assumption) | exact qk5 (by assumption) | exact qk6 (by assumption) | exact qk7 (by assumption) | exact qk8 (by assumption) | exact qk9 (by assumption) | exact qk10 (by assumption) | exact qk11 (by assumption) | exact qk12 (by assumption) | exact qk13 (by assumption) | exact qk14 (by assumption) | exact qk15 (by assumption) | exact qk16 (by assumption) | exact qk17 (by assumption)))
  (k_with "w my sml" => (with_reducible first | (refine Nat.ne_of_lt ?_; k_extra "w my pick") | (refine Nat.ne_of_gt ?_; k_extra "w my pick") | (refine Ne.symm ?_; k_extra "w my pick") | (refine id ?_; k_extra "w my pick") | (refine Nat.le_of_lt ?_; k_extra "w my pick") | exact lrefl | exact lzero | exact one_le | exact room0 (by assumption) | exact room (by assumption) (by decide) | exact room1 (by assumption) (by decide) | exact room2 (by assumption) (by decide) | exact room3 (by assumption) (by decide) | exact le_le (by assumption) (by decide) | exact le_sc (by assumption) | (refine above1' ?_ (by assumption); k_extra "w my pick") | (refine above2' ?_ (by assumption); k_extra "w my pick")))
  (k_with "w my om" => (first | k_extra "w my sml" | lia | omega))
  rfl
open PySem.Builtin.Re
/-- the matcher driven to its end -/
noncomputable def drive : Nat → Sre.M → Option Sre.M
  | 0, _ => none
  | f + 1, m => let m' := m.runFor reTurnSteps; if m'.outcome.isSome then some m' else drive f m'
noncomputable def spansOf (m : Sre.M) : List Value := (List.range 3).flatMap fun g =>
    match if ((2 * g + 1 : Nat) : Int) ≤ m.lastmark then (m.marks.getD (2 * g) none, m.marks.getD (2 * g + 1) none) else (none, none) with
    | (some b, some e) => [rawInt b, rawInt e]
    | _ => [rawInt (-1), rawInt (-1)]
noncomputable def wrongSpan (m : Sre.M) : Bool := (List.range 3).any (fun g => match m.marks.getD (2 * g) none, m.marks.getD (2 * g + 1) none with | some b, some e => ((2 * g + 1 : Nat) : Int) ≤ m.lastmark && e < b | _, _ => false)
section
variable {prog : Program} {w : World} {A : Around} {E : Value → Shared → Prop} {s : Shared} {h₀ : Heap} {L : Addr} {m : Str → Option Value} {news : List (Addr × Obj)}
theorem re_drive {Q : Sre.M → Shared → Prop} : ∀ (f j : Nat) (x y : Sre.M), drive f x = some y → Q y s → wpAny (model prog w) A (reDrive (f + j) x) Q E s := by
  intro FF
  induction FF with
  | zero =>
    intro _ _ _ h _
    cases h
  | succ f ih =>
    intro j x y h hq
    rw [Nat.add_right_comm]
    show wpAny _ _ (if (x.runFor reTurnSteps).outcome.isSome = true then pure (x.runFor reTurnSteps) else do rule "sre.turn"; reDrive (f + j) (x.runFor reTurnSteps)) _ _ _
    simp only [drive] at h
    split at h
    · rename_i hi
      cases h
      rw [if_pos hi]; exact wpAny_pure hq
    · rename_i hi
      rw [if_neg hi]
      exact wpAny_bind (wpAny_rule (ih j _ y h hq))
theorem rules_loop {Q : PUnit → Shared → Prop} {body : Nat → PUnit → Sem (ForInStep PUnit)} (hb : ∀ i (Q' : ForInStep PUnit → Shared → Prop), Q' (.yield ⟨⟩) s → wpAny (model prog w) A (body i ⟨⟩) Q' E s) (h : Q ⟨⟩ s) : ∀ l : List Nat,
    wpAny (model prog w) A (forIn l PUnit.unit body) Q E s
  | [] => by rw [List.forIn_nil]; exact wpAny_pure h
  | i :: l => by
    rw [List.forIn_cons]
    exact wpAny_bind (hb i _ (rules_loop hb h l))
theorem re_run {x y : Sre.M} {f : Nat} {Q : Option Sre.M → Shared → Prop} (hf : f ≤ 2 ^ 64) (h : drive f x = some y) (hq : (y.outcome matches some .matched) = true ∧ Q (some y) s ∨ (y.outcome matches some .failed) = true ∧ Q none s) : wpAny (model prog w) A (reRunToEnd x) Q E s := by
  unfold reRunToEnd
  obtain ⟨j, hj⟩ : ∃ j, 2 ^ 64 = f + j := ⟨2 ^ 64 - f, by k_extra "w my om"⟩
  rw [hj]
  refine wpAny_bind (re_drive f j x y h ?_)
  refine wpAny_bind (rules_loop (fun i Q' hq' => ?_) ?_ _)
  · split
    · exact wpAny_bind (wpAny_rule (wpAny_pure hq'))
    · exact wpAny_pure hq'
  rcases hq with ⟨e, q⟩ | ⟨e, q⟩
  · split at e
    · rename_i e'; rw [e']; exact wpAny_pure q
    · cases e
  · split at e
    · rename_i e'; rw [e']; exact wpAny_pure q
    · cases e

noncomputable abbrev patObj (ps : Str) (t u : Tok) : Obj := { cls := .type "re.Pattern", data := .fields #[.str ps t, .int 256 u, .int 3 0, .none, .none, .ref 36, .int 0 0] }
/-- what the search over the signs cs comes to -/
noncomputable def Found (code : Array Nat) (x : Str) (r : Option Sre.M) : Prop := ∃ f y, f ≤ 2 ^ 64 ∧ drive f (Sre.forSearch code x.cps 3 0 x.cps.size false) = some y ∧
  (((y.outcome matches some .matched) = true ∧ wrongSpan y = false ∧ r = some y) ∨ ((y.outcome matches some .failed) = true ∧ r = none))
noncomputable abbrev matchObj (x : Str) (t : Tok) (lim : Nat) (y : Sre.M) (T : Addr) : Obj := { cls := .type "re.Match", data := .fields #[.str x t, .ref 37, rawInt 0, rawInt lim, rawInt y.lastindex, .ref T] }
noncomputable abbrev spanObj (y : Sre.M) : Obj := { cls := .type "tuple", data := .seq (rawInt y.start :: rawInt y.handed :: spansOf y).toArray }
theorem re_items {a : Addr} {o : Obj} {vs : Array Value} {n : Nat} {Q : Array Int → Shared → Prop} (ho : s.heap.get? a = some o) (hd : o.data = .seq vs n) (h : Q (vs.map reRawOf) s) : wpAny (model prog w) A (reRawItems (.ref a)) Q E s := by
  unfold reRawItems
  exact wpAny_bind (wpAny_seqItems ho hd (wpAny_pure h))
theorem re_target {x ps : Str} {t t1 t2 : Tok} {code : Array Value} {oc : Obj} {n : Nat} {Q : ReTarget → Shared → Prop}
    (hp : s.heap.get? 37 = some (patObj ps t1 t2)) (hc : s.heap.get? 36 = some oc) (hd : oc.data = .seq code n) (hz : x.cps.size ≤ sizeLine)
    (h : Q { pattern := .ref 37, string := .str x t, code := (code.map reRawOf).map (·.toNat), text := x.cps, kind := 0, groups := 3, pos := 0, lim := x.cps.size } s) :
    wpAny (model prog w) A (reTarget "re.Pattern.search" "search" ⟨[.ref 37, .str x t], []⟩) Q E s := by
  unfold reTarget
  dsimp only
  refine wpAny_bind (m := reNamed _ _ _ _ _ _) (wpAny_of_eq (a := [some (.str x t), none, none]) rfl ?_)
  dsimp only
  refine wpAny_bind (wpAny_pure ?_)
  refine wpAny_bind (wpAny_pure ?_)
  refine wpAny_bind (wpAny_fieldsOf hp rfl ?_)
  refine wpAny_bind (m := reTextOf _) (wpAny_of_eq (a := (x.cps, 0)) rfl ?_)
  dsimp only
  rw [if_neg (by exact Bool.false_ne_true)]
  rw [if_neg (by exact Bool.false_ne_true)]
  refine wpAny_bind (m := reNoCollectionInside _ _) (wpAny_of_eq (a := ()) rfl ?_)
  refine wpAny_bind ?_
  show wpAny _ _ (reRawItems (.ref 36)) _ _ _
  refine re_items hc hd (wpAny_pure ?_)
  have e1 : min (0 : Int).toNat x.cps.size = 0 := by simp
  have e2 : min ((2 : Int) ^ 63 - 1).toNat x.cps.size = x.cps.size := by rw [sizeLine_eq] at hz; k_extra "w my om"
  rw [e1, e2]
  exact h
theorem search_led {x ps : Str} {t t1 t2 : Tok} {code : Array Value} {oc : Obj} {n : Nat} {r : Option Sre.M} {Q : Value → Shared → Prop} (F : Fr h₀ L s.heap m) (N : News h₀ L s.heap news)
    (hp : s.heap.get? 37 = some (patObj ps t1 t2)) (hc : s.heap.get? 36 = some oc) (hd : oc.data = .seq code n) (hz : x.cps.size ≤ sizeLine)
    (hr : Found ((code.map reRawOf).map (·.toNat)) x r)
    (h0 : r = none → Q .none s)
    (h1 : ∀ y T M h', r = some y → Fr h₀ L h' m → News h₀ L h' ((M, matchObj x t x.cps.size y T) :: (T, spanObj y) :: news) → (∀ q ∈ news, q.1 < T) → T < M → Q (.ref M) { s with heap := h' }) :
    wpAny (model prog w) A (call (.builtin "re.Pattern.search") [.ref 37, .str x t]) Q E s := by
  refine wpAny_call_entry slot_search ⟨_, hp, rfl⟩ entry_search ?_ (args_search _ _)
  unfold Builtin.«re.Pattern.search»
  refine wpAny_bind (re_target hp hc hd hz ?_)
  dsimp only
  unfold reAnswer
  obtain ⟨f, y, hf, hdr, hy⟩ := hr
  rcases hy with ⟨e1, e2, rfl⟩ | ⟨e1, rfl⟩
  · refine wpAny_bind (re_run hf hdr (.inl ⟨e1, ?_⟩))
    dsimp only
    refine wpAny_bind ?_
    unfold reNewMatch
    show wpAny _ _ (if wrongSpan y = true then _ else _) _ _ _
    rw [if_neg (by rw [e2]; exact Bool.false_ne_true)]
    show wpAny _ _ (newTuple (rawInt y.start :: rawInt y.handed :: spansOf y) >>= _) _ _ _
    have hsz : (rawInt y.start :: rawInt y.handed :: spansOf y).length ≤ sizeLine := by
      have : (spansOf y).length = 6 := by
        unfold spansOf
        rw [show List.range 3 = [0, 1, 2] from rfl]
        simp only [List.flatMap_cons, List.flatMap_nil, List.append_nil, List.length_append]
        have k : ∀ z : Option Nat × Option Nat, (match z with | (some b, some e) => [rawInt b, rawInt e] | _ => [rawInt (-1), rawInt (-1)]).length = 2 := by
          intro z; rcases z with ⟨_ | _, _ | _⟩ <;> rfl
        rw [k, k, k]
      simp only [List.length_cons, this]; decide
    refine wpAny_bind (newTuple_N F N (fun h₁ F₁ N₁ => ?_) hsz)
    refine wpAny_newObj_type (wpAny_pure ⟨_, rfl, ?_⟩)
    exact h1 y _ _ _ rfl (F₁.push _) (News.push F₁ N₁ _) (fun q hq => Heap.lt_size (N q hq).1) (Heap.lt_size (N₁ _ (.head _)).1)
  · refine wpAny_bind (re_run hf hdr (.inr ⟨e1, ?_⟩))
    exact wpAny_pure ⟨_, rfl, h0 rfl⟩
noncomputable def spanInts (y : Sre.M) : Array Int := (rawInt y.start :: rawInt y.handed :: spansOf y).toArray.map reRawOf
noncomputable def grp (x : Str) (y : Sre.M) (k : Nat) : Option Str :=
  if (spanInts y).getD (2 * k) (-1) < 0 || (spanInts y).getD (2 * k + 1) (-1) < 0 then none else some ⟨x.cps.extract ((spanInts y).getD (2 * k) (-1)).toNat ((spanInts y).getD (2 * k + 1) (-1)).toNat⟩
theorem spans_len (y : Sre.M) : (spanInts y).size = 8 := by
  unfold spanInts
  have : (spansOf y).length = 6 := by
    unfold spansOf
    rw [show List.range 3 = [0, 1, 2] from rfl]
    simp only [List.flatMap_cons, List.flatMap_nil, List.append_nil, List.length_append]
    have k : ∀ z : Option Nat × Option Nat, (match z with | (some b, some e) => [rawInt b, rawInt e] | _ => [rawInt (-1), rawInt (-1)]).length = 2 := by
      intro z; rcases z with ⟨_ | _, _ | _⟩ <;> rfl
    rw [k, k, k]
  simp only [Array.size_map, List.size_toArray, List.length_cons, this]
theorem group_led {x : Str} {t u : Tok} {lim k : Nat} {y : Sre.M} {M T : Addr} {Q : Value → Shared → Prop} (hM : s.heap.get? M = some (matchObj x t lim y T)) (hT : s.heap.get? T = some (spanObj y)) (hk : k < 4) (hz : x.cps.size ≤ sizeLine)
    (h0 : grp x y k = none → Q .none s) (h1 : ∀ z, grp x y k = some z → Q (.str z s.toks) { s with toks := s.toks + 1 }) :
    wpAny (model prog w) A (call (.builtin "re.Match.group") [.ref M, .int k u]) Q E s := by
  refine wpAny_call_entry slot_group ⟨_, hM, rfl⟩ entry_group ?_ (args_group _ _)
  unfold Builtin.«re.Match.group»
  refine wpAny_bind (m := noKeywords _ _) (wpAny_of_eq (a := ()) rfl ?_)
  dsimp only
  unfold reFound
  refine wpAny_bind (wpAny_bind (wpAny_fieldsOf hM rfl ?_))
  refine wpAny_bind ?_
  show wpAny _ _ (reRawItems (.ref T)) _ _ _
  refine re_items hT rfl (wpAny_pure ?_)
  show wpAny _ _ (reGroupNumber ⟨_, spanInts y⟩ (.int k u) >>= _) _ _ _
  unfold reGroupNumber
  refine wpAny_bind ?_
  refine wpAny_bind (m := asInt? _) (wpAny_of_eq (a := some (k : Int)) rfl ?_)
  show wpAny _ _ (asIndex (Value.int (↑k) u) >>= _) _ _ _
  refine wpAny_bind (m := asIndex _) (wpAny_of_eq (a := (k : Int)) rfl ?_)
  have e8 := spans_len y
  show wpAny _ _ (if (decide ((k : Int) < 0) || decide (2 * (k : Int) ≥ ((spanInts y).size : Int))) = true then _ else pure (k : Int).toNat) _ _ _
  rw [if_neg (by rw [e8]; simp; k_extra "w my om")]
  refine wpAny_pure ?_
  refine wpAny_bind ?_
  show wpAny _ _ (reGroupText _ (k : Int).toNat .none) _ _ _
  rw [Int.toNat_natCast]
  unfold reGroupText
  dsimp only
  unfold grp at h0 h1
  split
  · rename_i hc
    replace hc : (decide ((spanInts y).getD (2 * k) (-1) < 0) || decide ((spanInts y).getD (2 * k + 1) (-1) < 0)) = true := hc
    rw [if_pos hc] at h0
    exact wpAny_pure (wpAny_pure ⟨_, rfl, h0 rfl⟩)
  · rename_i hc
    replace hc : ¬ (decide ((spanInts y).getD (2 * k) (-1) < 0) || decide ((spanInts y).getD (2 * k + 1) (-1) < 0)) = true := hc
    rw [if_neg hc] at h1
    refine wpAny_bind (m := reTextOf _) (wpAny_of_eq (a := (x.cps, 0)) rfl ?_)
    dsimp only
    unfold reSlice
    rw [if_pos (show ((0 : Nat) == 0) = true from rfl)]
    refine wpAny_mkStr (wpAny_pure ⟨_, rfl, h1 _ rfl⟩) ?_
    show (x.cps.extract _ _).size ≤ sizeLine
    rw [Array.size_extract]; k_extra "w my om"
theorem truthy_match {x : Str} {t : Tok} {lim : Nat} {y : Sre.M} {M T : Addr} {Q : Bool → Shared → Prop} (hM : s.heap.get? M = some (matchObj x t lim y T)) (h : Q true s) : wpAny (model prog w) A (truthy (.ref M)) Q E s := by
  unfold truthy callSpecial?
  refine wpAny_bind (wpAny_bind (wpAny_specialOf (T := "re.Match") ⟨_, hM, rfl⟩ match_bool (wpAny_pure ?_)))
  show wpAny _ _ (specialOf (.ref M) "__len__" >>= _) _ _ _
  refine wpAny_bind (wpAny_specialOf (T := "re.Match") ⟨_, hM, rfl⟩ match_len ?_)
  exact wpAny_pure h
end
end
section
theorem resetOff : (0 : Nat) = 0 := by
  w_top off
  k_with_none
  (k_with "w my pick" => (with_reducible first | assumption | exact lo1 | exact lo2 | exact lo3 | exact lo4 | exact ls1 (by assumption) | exact ls2 (by assumption) | exact ls3 (by assumption) | exact pk0 (by assumption) | exact pk1 (by assumption) | exact pk2 (by assumption) | exact pk3 (by assumption) | exact pk4 (by assumption) | exact pk5 (by assumption) | exact pk6 (by assumption) | exact pk7 (by assumption) | exact pk8 (by assumption) | exact pk9 (by assumption) | exact pk10 (by assumption) | exact pk11 (by assumption) | exact pk12 (by assumption) | exact pk13 (by assumption) | exact pk14 (by assumption) | exact pk15 (by assumption) | exact pk16 (by assumption) | exact pk17 (by assumption) | exact qk1 (by assumption) | exact qk2 (by assumption) | exact qk3 (by assumption) | exact qk4 (by assumption) | exact qk5 (by assumption) | exact qk6 (by assumption) | exact qk7 (by assumption) | exact qk8 (by assumption) | exact qk9 (by assumption) | exact qk10 (by assumption) | exact qk11 (by assumption) | exact qk12 (by assumption) | exact qk13 (by assumption) | exact qk14 (by assumption) | exact qk15 (by assumption) | exact qk16 (by assumption) | exact qk17 (by assumption)))
  (k_with "w my sml" => (with_reducible first | (refine Nat.ne_of_lt ?_; k_extra "w my pick") | (refine Nat.ne_of_gt ?_; k_extra "w my pick") | (refine Ne.symm ?_; k_extra "w my pick") | (refine id ?_; k_extra "w my pick") | (refine Nat.le_of_lt ?_; k_extra "w my pick") | exact lrefl | exact lzero | exact one_le | exact room0 (by assumption) | exact room (by assumption) (by decide) | exact room1 (by assumption) (by decide) | exact room2 (by assumption) (by decide) | exact room3 (by assumption) (by decide) | exact le_le (by assumption) (by decide) | exact le_sc (by assumption) | (refine above1' ?_ (by assumption); k_extra "w my pick") | (refine above2' ?_ (by assumption); k_extra "w my pick")))
  (k_with "w my om" => (first | k_extra "w my sml" | lia | omega))
  rfl
theorem rgOffx1 : (0 : Nat) = 0 := by
  (k_with "w my k_room" => ((try simp only [depth_under_make, depth_under_kw, depth_in1, depth_deeper]); (show _ < 1000); (try dsimp only); omega))
  (k_with "w my units_room" => ((try simp only [units_in1, units_deeper, Around.mark_units]); (show _ < 9900); (try dsimp only); omega))
  (k_with "w my small" => (first
  | (refine Sm.int ?_; (try simp only [Int.fmod_eq_emod_of_nonneg, Int.fdiv_eq_ediv_of_nonneg, Int.reduceLE]); omega)
  | (apply Sm.slice; k_extra "w my small")
  | (apply Sm.add <;> k_extra "w my small")
  | (apply Sm.ite <;> k_extra "w my small")
  | assumption
  | exact Sm.refl _))
  (k_with "w subscriptTail Name Slice str ref" => ((with_reducible show wpAny _ _ (subscriptTail _ (Expr.Slice (some _) none none _) (Value.str _ _) (Value.ref _)) _ _ _); dsimp only; (with_reducible rename Fr _ _ _ _ => F'); (with_reducible rename News _ _ _ _ => N'); (refine' slice_strN_sn (hsz := by (apply Sm.size <;> first | k_extra "w my small" | decide)) (s := ⟨_, _, _, _, _⟩) F' N' ?_); intro _ _ _ _ _))
  (k_with "w binaryOp Add str str" => ((with_reducible show wpAny _ _ (binaryOp Operator.Add (Value.str _ _) (Value.str _ _)) _ _ _); (refine' PyProof.Rows.add_str ?_ (by (apply Sm.size2 <;> first | k_extra "w my small" | decide))); intro _ _))
  (k_with "w ite" => ((with_reducible refine ite_strs ?_); intro _))
  rfl
noncomputable def tzCode : Array Nat := #[14, 4, 0, 1, 6, 6, 0, 23, 14, 0, 1, 17, 0, 13, 6, 16, 45, 16, 43, 0, 17, 1, 18, 17, 2, 13, 4, 8, 0, 0, 24, 9, 0, 1, 13, 4, 8, 0, 0, 1, 17, 3, 24, 6, 0, 1, 16, 58, 1, 23, 17, 0, 1, 17, 4, 13, 4, 8, 0, 0, 13, 4, 8, 0, 0, 17, 5, 18, 6, 5, 1]
noncomputable def tzUtc (x : Str) : Bool := decide (x = ⟨#[71, 77, 84]⟩) || (decide (x = ⟨#[85, 84, 67]⟩) || (decide (x = ⟨#[85, 84]⟩) || (decide (x = ⟨#[90]⟩) || false)))
/-- what offset_from_tz_string gives for the text x -/
inductive OffOf (x : Str) : Option Int → Prop
  | utc : tzUtc x = true → OffOf x (some 0)
  | no : tzUtc x = false → Found tzCode x none → OffOf x none
  | yes {y : Sre.M} {z2 : Str} {n2 n3 : Int} : tzUtc x = false → Found tzCode x (some y) → grp x y 2 = some z2 → PySem.intText? z2 = some n2 → z2.length ≤ 640 → (0 ≤ n2 ∧ n2 < 100) →
      ((grp x y 3 = none ∧ n3 = 0) ∨ ∃ z3, grp x y 3 = some z3 ∧ 0 < z3.length ∧ z3.length ≤ 640 ∧ PySem.intText? z3 = some n3 ∧ 0 ≤ n3 ∧ n3 < 100) →
      OffOf x (some (if grp x y 1 = some (Str.ofString "-") then -(3600 * n2 + 60 * n3) else 3600 * n2 + 60 * n3))
noncomputable def OffIs : Option Int → Value → Prop
  | some k, v => ∃ t, v = .int k t
  | none, v => v = .none
theorem rgOffx2 : (0 : Nat) = 0 := by
  (k_with "w getMethod ref" => refine stop_here ?_)
  (k_with "w call builtin:re.Pattern.search" => refine stop_here ?_)
  (k_with "w call builtin:re.Match.group" => refine stop_here ?_)
  (k_with "w truthy ref" => refine stop_here ?_)
  (k_with "w call type:int" => refine stop_here ?_)
  rfl
set_option maxHeartbeats 8000000 in
theorem off_spec {w : World} {A : Around} {s : Shared} {G base : Heap} {outer : List Env} {p : Program} {loose : List Str} {mean : ExcName → Option Value} {mg mb : Str → Option Value}
    (hS : Setup 10 w A base outer p loose mean mg mb G) (hG : ∀ b o, G.get? b = some o → s.heap.get? b = some o) (x : Str) (t : Tok) (r : Option Int) (hr : OffOf x r) (hx : x.cps.size ≤ sizeLine) :
    CallsTo w A (.ref 44) [.str x t] [] s [] (fun v _ => OffIs r v) := by
  intro R hret
  (rename Setup _ _ _ _ _ _ _ _ _ _ _ => hSu)
  apply Setup.open hSu
  clear hSu
  intro dpt grs uni X T B hdp hun
  refine' enterH (news := []) ?k1 ?k2 ?kb ?k3 ?kN ?k6 ?k7 ?k8 ?k9 ?kB ?_ ?c2 ?c3 ?c4 ?c5
  case kN => exact fun _ h => nomatch h
  (case k1 => assumption)
  (case k2 => assumption)
  (case kb => assumption)
  (case k3 => assumption)
  (case k6 => k_dflt k_is)
  (case k7 => k_dflt k_is)
  (case k8 => (show _ < 1000; dsimp only; omega))
  (case k9 => exact BindsTo.of_eq rfl)
  (case kB => exact locs rfl)
  (case c5 => decide)
  (case c2 => exact rfl)
  (case c3 => exact rfl)
  (case c4 => exact rfl)
  intro g L' h₁ hg hg' hL' X' T' B' F' N' hl'
  have h36 : ∃ o n, g.get? 36 = some o ∧ o.data = .seq (tzCode.map fun (c : Nat) => Value.int (c : Int) 0) n := by
    have e : (hdT.heap_39 w.params).lookup 36 = some { cls := .type "tuple", data := .seq (tzCode.map fun (c : Nat) => Value.int (c : Int) 0) } := by kernel_rfl
    exact ⟨_, _, X' _ _ e, rfl⟩
  have h37 : ∃ ps t1 t2, g.get? 37 = some (patObj ps t1 t2) := by
    have e : (hdT.heap_39 w.params).lookup 37 = some (patObj (Str.ofString "^([-+])?(\\d\\d?):?(\\d\\d)?$") 294 368) := by kernel_rfl
    exact ⟨_, _, _, X' _ _ e⟩
  (try dsimp only)
  (try k_fold)
  k_steps
  · have hu : tzUtc x = true := by unfold tzUtc; assumption
    dsimp only
    cases hr with
    | utc _ => exact hret _ _ _ (touch_of (by simpa using hg) hL' (by assumption)) ⟨_, rfl⟩
    | no h _ => rw [hu] at h; cases h
    | yes h _ _ _ _ _ _ => rw [hu] at h; cases h
  · have hu : tzUtc x = false := by unfold tzUtc; assumption
    unfold Stop
    obtain ⟨o36, n36, e36, d36⟩ := h36
    obtain ⟨ps, pt1, pt2, e37⟩ := h37
    (rename Fr _ _ _ _ => F); (rename News _ _ _ _ => N)
    have e37' := F.keep _ _ e37
    have e36' := F.keep _ _ e36
    refine getMethod_builtin ⟨_, e37', rfl⟩ attrs_re_Pattern slot_search type_search (fun a e => by cases e; exact ⟨_, e37', rfl⟩) ?_
    k_steps
    unfold Stop
    (try dsimp only)
    have hcode : ((tzCode.map fun (c : Nat) => Value.int (c : Int) 0).map PySem.Builtin.Re.reRawOf).map (·.toNat) = tzCode := by decide +kernel
    have key : ∀ r', Found tzCode x r' → True := fun _ _ => trivial
    cases hr with
    | utc h => rw [hu] at h; cases h
    | no _ hf =>
      refine search_led F N e37' e36' d36 hx (hcode ▸ hf) (fun _ => ?_) (fun y T M h' e => by cases e)
      k_steps
      (try dsimp only)
      exact hret _ _ _ (touch_of (by simpa using hg) hL' (by assumption)) rfl
    | yes _ hf g2 i2 l2 b2 g3 =>
      refine search_led F N e37' e36' d36 hx (hcode ▸ hf) (fun e => by cases e) (fun y T M h' e F' N' l1 l2' => ?_)
      cases e
      k_steps
      unfold Stop
      refine truthy_match (((by assumption : News _ _ _ _) _ (.head _)).1) ?_
      k_steps
      unfold Stop
      refine getMethod_builtin ⟨_, ((by assumption : News _ _ _ _) _ (.head _)).1, rfl⟩ attrs_re_Match slot_group type_group (fun a e => by cases e; exact ⟨_, ((by assumption : News _ _ _ _) _ (.head _)).1, rfl⟩) ?_
      k_steps
      unfold Stop
      (try dsimp only)
      refine group_led (k := 2) (((by assumption : News _ _ _ _) _ (.head _)).1) (((by assumption : News _ _ _ _) _ (.tail _ (.head _))).1) (by decide) hx (fun e => by rw [g2] at e; cases e) (fun z e => ?_)
      rw [g2] at e; cases e
      k_steps
      unfold Stop
      (try dsimp only)
      refine KIN.call_text i2 l2 ?_
      k_steps
      rcases g3 with ⟨g3, rfl⟩ | ⟨z3, g3, p3, l3, i3, b3⟩
      · -- no minutes
        unfold Stop
        refine getMethod_builtin ⟨_, ((by assumption : News _ _ _ _) _ (.head _)).1, rfl⟩ attrs_re_Match slot_group type_group (fun a e => by cases e; exact ⟨_, ((by assumption : News _ _ _ _) _ (.head _)).1, rfl⟩) ?_
        k_steps
        unfold Stop
        (try dsimp only)
        refine group_led (k := 3) (((by assumption : News _ _ _ _) _ (.head _)).1) (((by assumption : News _ _ _ _) _ (.tail _ (.head _))).1) (by decide) hx (fun e => ?g0a) (fun z e => ?g1a)
        case g1a => rw [g3] at e; cases e
        case g0a =>
          k_steps
          unfold Stop
          refine getMethod_builtin ⟨_, ((by assumption : News _ _ _ _) _ (.head _)).1, rfl⟩ attrs_re_Match slot_group type_group (fun a e => by cases e; exact ⟨_, ((by assumption : News _ _ _ _) _ (.head _)).1, rfl⟩) ?_
          k_steps
          unfold Stop
          (try dsimp only)
          refine group_led (k := 1) (((by assumption : News _ _ _ _) _ (.head _)).1) (((by assumption : News _ _ _ _) _ (.tail _ (.head _))).1) (by decide) hx (fun e => ?g0z) (fun z e => ?g1z)
          case g0z =>
            k_steps
            (try dsimp only)
            refine hret _ _ _ (touch_of (by simpa using hg) hL' (by assumption)) ⟨_, congrArg (fun q => Value.int q _) ?_⟩
            rw [if_neg (by rw [e]; simp)]
            try k_extra "w my om"
          case g1z =>
            k_steps
            · (try dsimp only)
              refine hret _ _ _ (touch_of (by simpa using hg) hL' (by assumption)) ⟨_, congrArg (fun q => Value.int q _) ?_⟩
              have hz : (z == Str.ofString "-") = true := by assumption
              rw [if_pos (by rw [e, eq_of_beq hz])]
              try k_extra "w my om"
            · (try dsimp only)
              refine hret _ _ _ (touch_of (by simpa using hg) hL' (by assumption)) ⟨_, congrArg (fun q => Value.int q _) ?_⟩
              have hz : (z == Str.ofString "-") = false := by assumption
              rw [if_neg (by rw [e]; intro q; rw [Option.some.inj q] at hz; simp at hz)]
              try k_extra "w my om"
      · -- minutes
        unfold Stop
        refine getMethod_builtin ⟨_, ((by assumption : News _ _ _ _) _ (.head _)).1, rfl⟩ attrs_re_Match slot_group type_group (fun a e => by cases e; exact ⟨_, ((by assumption : News _ _ _ _) _ (.head _)).1, rfl⟩) ?_
        k_steps
        unfold Stop
        (try dsimp only)
        refine group_led (k := 3) (((by assumption : News _ _ _ _) _ (.head _)).1) (((by assumption : News _ _ _ _) _ (.tail _ (.head _))).1) (by decide) hx (fun e => ?g0b) (fun z e => ?g1b)
        case g0b => rw [g3] at e; cases e
        case g1b =>
          rw [g3] at e; cases e
          k_steps
          · -- it is not empty
            unfold Stop
            refine getMethod_builtin ⟨_, ((by assumption : News _ _ _ _) _ (.head _)).1, rfl⟩ attrs_re_Match slot_group type_group (fun a e => by cases e; exact ⟨_, ((by assumption : News _ _ _ _) _ (.head _)).1, rfl⟩) ?_
            k_steps
            unfold Stop
            (try dsimp only)
            refine group_led (k := 3) (((by assumption : News _ _ _ _) _ (.head _)).1) (((by assumption : News _ _ _ _) _ (.tail _ (.head _))).1) (by decide) hx (fun e => ?g0c) (fun z e => ?g1c)
            case g0c => rw [g3] at e; cases e
            case g1c =>
              rw [g3] at e; cases e
              k_steps
              unfold Stop
              (try dsimp only)
              refine KIN.call_text i3 l3 ?_
              k_steps
              unfold Stop
              refine getMethod_builtin ⟨_, ((by assumption : News _ _ _ _) _ (.head _)).1, rfl⟩ attrs_re_Match slot_group type_group (fun a e => by cases e; exact ⟨_, ((by assumption : News _ _ _ _) _ (.head _)).1, rfl⟩) ?_
              k_steps
              unfold Stop
              (try dsimp only)
              refine group_led (k := 1) (((by assumption : News _ _ _ _) _ (.head _)).1) (((by assumption : News _ _ _ _) _ (.tail _ (.head _))).1) (by decide) hx (fun e => ?g0y) (fun z e => ?g1y)
              case g0y =>
                k_steps
                (try dsimp only)
                refine hret _ _ _ (touch_of (by simpa using hg) hL' (by assumption)) ⟨_, congrArg (fun q => Value.int q _) ?_⟩
                rw [if_neg (by rw [e]; simp)]
                try k_extra "w my om"
              case g1y =>
                k_steps
                · (try dsimp only)
                  refine hret _ _ _ (touch_of (by simpa using hg) hL' (by assumption)) ⟨_, congrArg (fun q => Value.int q _) ?_⟩
                  have hz : (z == Str.ofString "-") = true := by assumption
                  rw [if_pos (by rw [e, eq_of_beq hz])]
                  try k_extra "w my om"
                · (try dsimp only)
                  refine hret _ _ _ (touch_of (by simpa using hg) hL' (by assumption)) ⟨_, congrArg (fun q => Value.int q _) ?_⟩
                  have hz : (z == Str.ofString "-") = false := by assumption
                  rw [if_neg (by rw [e]; intro q; rw [Option.some.inj q] at hz; simp at hz)]
                  try k_extra "w my om"

          · -- it is empty
            exfalso
            k_extra "w my om"
end
section
theorem resetLawHd : (0 : Nat) = 0 := by
  w_top off
  k_with_none
  (k_with "w my pick" => (with_reducible first | assumption | exact lo1 | exact lo2 | exact lo3 | exact lo4 | exact ls1 (by assumption) | exact ls2 (by assumption) | exact ls3 (by assumption) | exact pk0 (by assumption) | exact pk1 (by assumption) | exact pk2 (by assumption) | exact pk3 (by assumption) | exact pk4 (by assumption) | exact pk5 (by assumption) | exact pk6 (by assumption) | exact pk7 (by assumption) | exact pk8 (by assumption) | exact pk9 (by assumption) | exact pk10 (by assumption) | exact pk11 (by assumption) | exact pk12 (by assumption) | exact pk13 (by assumption) | exact pk14 (by assumption) | exact pk15 (by assumption) | exact pk16 (by assumption) | exact pk17 (by assumption) | exact qk1 (by assumption) | exact qk2 (by assumption) | exact qk3 (by assumption) | exact qk4 (by assumption) | exact qk5 (by assumption) | exact qk6 (by assumption) | exact qk7 (by assumption) | exact qk8 (by assumption) | exact qk9 (by assumption) | exact qk10 (by assumption) | exact qk11 (by assumption) | exact qk12 (by assumption) | exact qk13 (by assumption) | exact qk14 (by assumption) | exact qk15 (by assumption) | exact qk16 (by assumption) | exact qk17 (by assumption)))
  (k_with "w my sml" => (with_reducible first | (refine Nat.ne_of_lt ?_; k_extra "w my pick") | (refine Nat.ne_of_gt ?_; k_extra "w my pick") | (refine Ne.symm ?_; k_extra "w my pick") | (refine id ?_; k_extra "w my pick") | (refine Nat.le_of_lt ?_; k_extra "w my pick") | exact lrefl | exact lzero | exact one_le | exact room0 (by assumption) | exact room (by assumption) (by decide) | exact room1 (by assumption) (by decide) | exact room2 (by assumption) (by decide) | exact room3 (by assumption) (by decide) | exact le_le (by assumption) (by decide) | exact le_sc (by assumption) | (refine above1' ?_ (by assumption); k_extra "w my pick") | (refine above2' ?_ (by assumption); k_extra "w my pick")))
  (k_with "w my om" => (first | k_extra "w my sml" | lia | omega))
  rfl
/-- the law's own record, as the head holds it -/
noncomputable def dOf {q : Program} {loose : List Str} {XP : (Str → Option Value) → Heap → Prop} {YP : World → Heap → Prop} {r : RowW} {d : DefRec} {kwd : List (Str × Expr)} {run : Value → List Value → Sem Value} {P : Prop} (_ : WalkO q loose XP YP r d kwd run → P) : DefRec := d
noncomputable def lawD : DefRec := dOf hdT
noncomputable def LE (L fa : Addr) (cd : Value) : Env := envOfC lawD.name lawD.scope L fa cd
/-- what the law's walk leans on -/
structure LawC (w : World) (A : Around) (base : Heap) (outer : List Env) (p : Program) (loose : List Str) (mean : ExcName → Option Value) (mg mb : Str → Option Value) (g : Heap) (L : Addr) (Q : Flow → Shared → Prop) (s : Shared) : Prop where
  S : Setup 45 w A base outer p loose mean mg mb g
  big : @LT.lt Nat _ 160 L
  done : ∀ h tk m ps1 ps2 ps3, Fr g L h m → h.get? 160 = some (tabObj ps1) → h.get? 150 = some (tabObj ps2) → h.get? 143 = some (tabObj ps3) → Q (.ret (.bool true)) { s with heap := h, toks := tk }
/-- the law from its statement k on -/
structure Go (w : World) (A : Around) (g : Heap) (L fa : Addr) (cd : Value) (Q : Flow → Shared → Prop) (s : Shared) (k : Nat) (m : Str → Option Value) (news : List (Addr × Obj)) : Prop where
  run : ∀ h tk, Fr g L h m → News g L h news → wpAny (model PG w) (A.deeper (LE L fa cd)) (execs (lawD.body.drop k) (LE L fa cd)) Q (fun _ _ => False) { s with heap := h, toks := tk }
theorem Go.cut {w : World} {A : Around} {g : Heap} {L fa : Addr} {cd : Value} {Q : Flow → Shared → Prop} {s : Shared} {k : Nat} {m : Str → Option Value} {news : List (Addr × Obj)} (G : Go w A g L fa cd Q s k m news) {h : Heap} {tk : Nat} {news' : List (Addr × Obj)} (F : Fr g L h m) (N : News g L h news') (hs : ∀ q ∈ news, q ∈ news') :
    wpAny (model PG w) (A.deeper (LE L fa cd)) (execs (lawD.body.drop k) (LE L fa cd)) Q (fun _ _ => False) { s with heap := h, toks := tk } := G.run h tk F fun q hq => N q (hs q hq)
/-- the same, shut in a box: nothing looks into it -/
structure Wp {α : Type} (M : Model) (A : Around) (t : Sem α) (Q : α → Shared → Prop) (E : Value → Shared → Prop) (s : Shared) : Prop where
  run : wpAny M A t Q E s
theorem Go.cutW {w : World} {A : Around} {g : Heap} {L fa : Addr} {cd : Value} {Q : Flow → Shared → Prop} {s : Shared} {k : Nat} {m : Str → Option Value} {news : List (Addr × Obj)} (G : Go w A g L fa cd Q s k m news) {h : Heap} {tk : Nat} {news' : List (Addr × Obj)} (F : Fr g L h m) (N : News g L h news') (hs : ∀ q ∈ news, q ∈ news') :
    Wp (model PG w) (A.deeper (LE L fa cd)) (execs (lawD.body.drop k) (LE L fa cd)) Q (fun _ _ => False) { s with heap := h, toks := tk } := ⟨G.cut F N hs⟩
structure Hid (P : Prop) : Prop where
  out : P
theorem Fr.expose {g h : Heap} {L : Addr} {m : Str → Option Value} {x : Str} {v : Value} (F : Fr g L h m) (e : m x = some v) : Fr g L h (fun y => if y = x then some v else m y) :=
  Fr.congr F fun y => by
    by_cases hy : y = x
    · rw [if_pos hy, hy, e]
    · rw [if_neg hy]
/-- an empty cell, or a cell with v in it -/
noncomputable def CellN (o : Obj) : Prop := o.data = .cell none
noncomputable def CellV (o : Obj) (v : Value) : Prop := o.data = .cell (some v)
theorem get_fresh {g h : Heap} {L a : Addr} {m : Str → Option Value} (F : Fr g L h m) (hn : h.get? a = none) : a ≠ L ∧ g.get? a = none := by
  refine ⟨fun e => ?_, ?_⟩
  · obtain ⟨o, _, _, e2, _⟩ := F.ns
    rw [e, e2] at hn; cases hn
  · cases e : g.get? a with
    | none => rfl
    | some o => rw [F.keep _ _ e] at hn; cases hn
theorem news_fresh {g h h' : Heap} {L a : Addr} {o : Obj} {m : Str → Option Value} {news : List (Addr × Obj)} (F : Fr g L h m) (N : News g L h' news) (hn : h.get? a = none) (e : h'.get? a = some o) : News g L h' ((a, o) :: news) := fun q hq => by
  rcases List.mem_cons.mp hq with rfl | hq
  · exact ⟨e, get_fresh F hn⟩
  · exact N q hq
theorem news_off {g h : Heap} {L a : Addr} {news : List (Addr × Obj)} (N : News g L h news) (hn : h.get? a = none) : ∀ q ∈ news, q.1 ≠ a := fun q hq e => by
  have := (N q hq).1
  rw [e, hn] at this; cases this
/-- the law's cells, and the tables of the code that its callees make -/
noncomputable abbrev lawCells (L : Addr) (o1 o2 o3 o4 o5 o6 o7 o8 : Obj) (rest : List (Addr × Obj)) : List (Addr × Obj) :=
  (L + 1 + 1 + 1 + 1 + 1 + 1 + 1 + 1, o8) :: (L + 1 + 1 + 1 + 1 + 1 + 1 + 1, o7) :: (L + 1 + 1 + 1 + 1 + 1 + 1, o6) :: (L + 1 + 1 + 1 + 1 + 1, o5) :: (L + 1 + 1 + 1 + 1, o4) :: (L + 1 + 1 + 1, o3) :: (L + 1 + 1, o2) :: (L + 1, o1) :: rest
noncomputable abbrev lawTabs (p1 p2 p3 : Array Value) : List (Addr × Obj) := [(160, tabObj p1), (150, tabObj p2), (143, tabObj p3)]
/-- a is none of the cells -/
structure CellOff (L a : Addr) : Prop where
  c1 : a ≠ L + 1
  c2 : a ≠ L + 1 + 1
  c3 : a ≠ L + 1 + 1 + 1
  c4 : a ≠ L + 1 + 1 + 1 + 1
  c5 : a ≠ L + 1 + 1 + 1 + 1 + 1
  c6 : a ≠ L + 1 + 1 + 1 + 1 + 1 + 1
  c7 : a ≠ L + 1 + 1 + 1 + 1 + 1 + 1 + 1
  c8 : a ≠ L + 1 + 1 + 1 + 1 + 1 + 1 + 1 + 1
  t1 : a ≠ 160
  t2 : a ≠ 150
  t3 : a ≠ 143
theorem CellOff.of {L a : Addr} {o1 o2 o3 o4 o5 o6 o7 o8 : Obj} {p1 p2 p3 : Array Value} (h : ∀ q ∈ lawCells L o1 o2 o3 o4 o5 o6 o7 o8 (lawTabs p1 p2 p3), q.1 ≠ a) : CellOff L a where
  t1 := (h _ (.tail _ (.tail _ (.tail _ (.tail _ (.tail _ (.tail _ (.tail _ (.tail _ (.head _)))))))))).symm
  t2 := (h _ (.tail _ (.tail _ (.tail _ (.tail _ (.tail _ (.tail _ (.tail _ (.tail _ (.tail _ (.head _))))))))))).symm
  t3 := (h _ (.tail _ (.tail _ (.tail _ (.tail _ (.tail _ (.tail _ (.tail _ (.tail _ (.tail _ (.tail _ (.head _)))))))))))).symm
  c8 := (h _ (.head _)).symm
  c7 := (h _ (.tail _ (.head _))).symm
  c6 := (h _ (.tail _ (.tail _ (.head _)))).symm
  c5 := (h _ (.tail _ (.tail _ (.tail _ (.head _))))).symm
  c4 := (h _ (.tail _ (.tail _ (.tail _ (.tail _ (.head _)))))).symm
  c3 := (h _ (.tail _ (.tail _ (.tail _ (.tail _ (.tail _ (.head _))))))).symm
  c2 := (h _ (.tail _ (.tail _ (.tail _ (.tail _ (.tail _ (.tail _ (.head _)))))))).symm
  c1 := (h _ (.tail _ (.tail _ (.tail _ (.tail _ (.tail _ (.tail _ (.tail _ (.head _))))))))).symm
theorem are_intv {ws : List Value} {ns : List Int} {n : Nat} (h : IntsAre ws ns) (hl : ns.length = n) : ∃ u, ws = intv (fun j => ns.getD j 0) u n :=
  intv_of (by rw [h.length, hl]) fun _ hj => are_get h (by rw [hl]; exact hj)
/-- an element's end: nothing but the new object has changed -/
noncomputable def ElEnd (h₀ : Heap) (L : Addr) (m : Str → Option Value) (s : Shared) (led : List (Addr × Obj)) (R : Value → Prop) (y : Value) (s₂ : Shared) : Prop :=
  ∃ h' tk, s₂ = { s with heap := h', toks := tk } ∧ Fr h₀ L h' m ∧ News h₀ L h' led ∧ R y
theorem ElEnd.intro {h₀ h' : Heap} {L : Addr} {m : Str → Option Value} {s : Shared} {led all : List (Addr × Obj)} {R : Value → Prop} {y : Value} {tk : Nat} (F : Fr h₀ L h' m) (N : News h₀ L h' all) (sub : ∀ q ∈ led, q ∈ all) (r : R y) : ElEnd h₀ L m s led R y { s with heap := h', toks := tk } :=
  ⟨h', tk, rfl, F, fun q hq => N q (sub q hq), r⟩
/-- a comprehension whose elements leave the ledger as it is -/
theorem rest_same {prog : Program} {w : World} {A : Around} {h₀ : Heap} {L : Addr} {m : Str → Option Value} {env : Env} {s : Shared} {elt : Expr} {x : Str} {scope : Scope} {cl : List (Str × Addr)}
    {S : List (Addr × Obj) → Prop} {P : Nat → Value → Prop} {Fin : List Value → List (Addr × Obj) → Prop} {led : List (Addr × Obj)} {n : Nat} (R : Nat → Value → Prop) (hS : S led)
    (step : ∀ i ys v I oI C oC D m₂ h tk (E' : Value → Shared → Prop), i < n → ys.length = i → (∀ j, j < i → ∃ v, ys[j]? = some v ∧ R j v) → P i v → LCg.NsObj oC m₂ → m₂ x = some v → Fr h₀ L h m → News h₀ L h ((I, oI) :: (C, oC) :: (D, LCg.lst ys) :: led) → LCg.Off3 I C D led → ((@Ne Nat I C) ∧ (@Ne Nat I D) ∧ (@Ne Nat C D)) →
      wpAny (model prog w) A (eval elt (compEnvC scope cl C env)) (ElEnd h₀ L m s ((I, oI) :: (C, oC) :: (D, LCg.lst ys) :: led) (R i)) E' { s with heap := h, toks := tk })
    (fin : ∀ ys, ys.length = n → (∀ j, j < n → ∃ v, ys[j]? = some v ∧ R j v) → Fin ys led) :
    LCg.CompRest prog w A h₀ L m env elt x scope cl s S P Fin n 0 [] led := by
  refine rest_ind (n := n) (fun i ys nw => nw = led ∧ ∀ j, j < i → ∃ v, ys[j]? = some v ∧ R j v) ?_ ?_ n 0 [] led (Nat.zero_add _) rfl ⟨rfl, fun j h => absurd h (Nat.not_lt_zero _)⟩
  · rintro i ys nw hin hyl ⟨rfl, hys⟩ v I oI C oC D m₂ h tk E' hP hn hx F N o1 o2
    refine wpAny_mono (step i ys v I oI C oC D m₂ h tk E' hin hyl hys hP hn hx F N o1 o2) (fun y s₂ hy => ?_) fun _ _ e => e
    obtain ⟨h', tk', rfl, F', N', hr⟩ := hy
    refine LCg.CompEnd.intro F' N' nw (fun _ h => h) o1 hS ⟨rfl, fun j hj => ?_⟩
    by_cases e : j < i
    · obtain ⟨v', e1, e2⟩ := hys j e
      exact ⟨v', by rw [List.getElem?_append_left (hyl.symm ▸ e)]; exact e1, e2⟩
    · have : j = ys.length := last_of hj e hyl
      refine ⟨y, by rw [this]; simp, ?_⟩
      rw [this, hyl]; exact hr
  · rintro ys nw hyl ⟨rfl, hys⟩
    exact fin ys hyl hys
section
variable {prog : Program} {w : World} {A : Around} {E : Value → Shared → Prop} {s : Shared} {h₀ : Heap} {L l : Addr} {news : List (Addr × Obj)} {value slice : PySem.Expr} {n nL i : Nat} {tv : Tok} {u : Nat → Tok} {Q : Value → Shared → Prop}
theorem item_intv {x : Nat → Int} (N : News h₀ L s.heap news) (hm : (l, listOf (intv x u n).toArray nL) ∈ news) (hi : i < n) (hz : n ≤ 1000) (h : Q (.int (x i) (u i)) s)
    (hs : subscripted slice false (.ref l) (.int (0 + (i : Int)) tv) = operate [.ref l, .int (0 + (i : Int)) tv] (getItem (.ref l) (.int (0 + (i : Int)) tv))) :
    wpAny (model prog w) A (subscriptTail value slice (.ref l) (.int (0 + (i : Int)) tv)) Q E s := by
  refine item_at (N.isList hm) (cast0_nn i) (cast0_lt hi hz) ?_ h hs
  rw [cast0 i]
  exact intv_get hi
theorem item_textv {x : Nat → Str} (N : News h₀ L s.heap news) (hm : (l, listOf (textv x u n).toArray nL) ∈ news) (hi : i < n) (hz : n ≤ 1000) (h : Q (.str (x i) (u i)) s)
    (hs : subscripted slice false (.ref l) (.int (0 + (i : Int)) tv) = operate [.ref l, .int (0 + (i : Int)) tv] (getItem (.ref l) (.int (0 + (i : Int)) tv))) :
    wpAny (model prog w) A (subscriptTail value slice (.ref l) (.int (0 + (i : Int)) tv)) Q E s := by
  refine item_at (N.isList hm) (cast0_nn i) (cast0_lt hi hz) ?_ h hs
  rw [cast0 i]
  exact textv_get hi
end
theorem textv_vals (x : Nat → Str) (u : Nat → Tok) (n : Nat) : textv x u n = strValues ((List.range n).map fun j => (x j, u j)) := by
  unfold textv strValues; rw [List.map_map]; rfl
theorem written_len {x : Str} {wy : Int} (h : x.length ≤ 10) : (written x wy).length ≤ 30 := by
  unfold written
  split
  · rw [Str.length_append, show (Str.ofString "\n").length = 1 from by decide]; k_extra "w my om"
  split
  · rw [Str.length_append, Str.length_append, show (Str.ofString "\" ").length = 2 from by decide, show (Str.ofString "\"").length = 1 from by decide]; k_extra "w my om"
  · rw [Str.length_append, join_len, bsl_sum, show (Str.ofString "\t").length = 1 from by decide, show x.cps.toList.length = x.length from by simp [Str.length]]; k_extra "w my om"
theorem sum_le {α : Type} (f : α → Nat) (k : Nat) : ∀ l : List α, (∀ a ∈ l, f a ≤ k) → (l.map f).sum ≤ k * l.length
  | [], _ => by simp
  | a :: l, h => by
    have h1 := h a (.head _)
    have h2 := sum_le f k l fun b hb => h b (.tail _ hb)
    rw [List.map_cons, List.sum_cons, List.length_cons, Nat.mul_add, Nat.mul_one, Nat.add_comm]; exact Nat.add_le_add h2 h1
theorem OffL.addr {lx : LexA} {oth oth' : List (Addr × Obj)} (h : OffL lx oth) (e : oth'.map (·.1) = oth.map (·.1)) : OffL lx oth' := fun q hq => by
  have : q.1 ∈ oth.map (·.1) := e ▸ List.mem_map_of_mem hq
  obtain ⟨r, hr, e2⟩ := List.mem_map.mp this
  rw [← e2]; exact h r hr
theorem OffL.sub {lx : LexA} {oth oth' : List (Addr × Obj)} (h : OffL lx oth) (e : ∀ q ∈ oth', q ∈ oth) : OffL lx oth' := fun q hq => h q (e q hq)
theorem lex_news {P : Params} {g h' : Heap} {L z : Addr} {m : Str → Option Value} {lx : LexA} {no : Int} {tn : Tok} {vs : List Value} {n : Nat} {pb : List Value} {k : Nat} {oth : List (Addr × Obj)}
    (F : Fr g L h' m) (N : News g L h' oth) (hL : L < z) (H : Holds h' (lexLed P lx no tn vs n pb k)) (hfr : ∀ q ∈ lexLed P lx no tn vs n pb k, z ≤ q.1) : News g L h' (lexLed P lx no tn vs n pb k ++ oth) := by
  intro q hq
  rcases List.mem_append.mp hq with hq | hq
  · have e := hfr q hq
    exact ⟨H q hq, Nat.ne_of_gt (Nat.lt_of_lt_of_le hL e), Heap.get?_none_of_le (Nat.le_trans F.above (Nat.le_of_lt (Nat.lt_of_lt_of_le hL e)))⟩
  · exact N q hq
/-- all parts of the lexer are none of the cells -/
structure LexFar (L : Addr) (lx : LexA) : Prop where
  f1 : CellOff L lx.l
  f2 : CellOff L lx.x
  f3 : CellOff L lx.d
  f4 : CellOff L lx.f
  f5 : CellOff L lx.c
  f6 : CellOff L lx.x2
  f7 : CellOff L lx.d2
  f8 : CellOff L lx.D
  f9 : CellOff L lx.e
theorem CellOff.gt {L a z : Addr} (big : @LT.lt Nat _ 160 L) (h : @LT.lt Nat _ (L + 1 + 1 + 1 + 1 + 1 + 1 + 1 + 1) z) (hz : @LE.le Nat _ z a) : CellOff L a := by constructor <;> (refine neN ?_; k_extra "w my om")
theorem LexFar.of {P : Params} {L z : Addr} {lx : LexA} {no : Int} {tn : Tok} {vs : List Value} {n : Nat} {pb : List Value} {k : Nat} (big : @LT.lt Nat _ 160 L) (hL : @LT.lt Nat _ (L + 1 + 1 + 1 + 1 + 1 + 1 + 1 + 1) z) (hfr : ∀ q ∈ lexLed P lx no tn vs n pb k, z ≤ q.1) : LexFar L lx where
  f1 := .gt big hL (hfr (lx.l, _) (.head _))
  f2 := .gt big hL (hfr (lx.x, _) (.tail _ (.head _)))
  f3 := .gt big hL (hfr (lx.d, _) (.tail _ (.tail _ (.head _))))
  f4 := .gt big hL (hfr (lx.f, _) (.tail _ (.tail _ (.tail _ (.head _)))))
  f5 := .gt big hL (hfr (lx.c, _) (.tail _ (.tail _ (.tail _ (.tail _ (.head _))))))
  f6 := .gt big hL (hfr (lx.x2, _) (.tail _ (.tail _ (.tail _ (.tail _ (.tail _ (.head _)))))))
  f7 := .gt big hL (hfr (lx.d2, _) (.tail _ (.tail _ (.tail _ (.tail _ (.tail _ (.tail _ (.head _))))))))
  f8 := .gt big hL (hfr (lx.D, _) (.tail _ (.tail _ (.tail _ (.tail _ (.tail _ (.tail _ (.tail _ (.head _)))))))))
  f9 := .gt big hL (hfr (lx.e, _) (.tail _ (.tail _ (.tail _ (.tail _ (.tail _ (.tail _ (.tail _ (.tail _ (.head _))))))))))
noncomputable abbrev lexPs (c : Addr) : Array Value := #[rawInt 147, rawInt 18, .ref c]
theorem off3_addr {I C D : Addr} {l l' : List (Addr × Obj)} (h : LCg.Off3 I C D l) (e : l'.map (·.1) = l.map (·.1)) : LCg.Off3 I C D l' := LCg.Off3.of fun q hq => by
  have : q.1 ∈ l.map (·.1) := e ▸ List.mem_map_of_mem hq
  obtain ⟨r, hr, e2⟩ := List.mem_map.mp this
  rw [← e2]; exact LCg.Off3.mem h r hr
theorem str_toks (x : Str) : (⟨x.cps.toList.toArray⟩ : Str) = x := by cases x; simp
theorem ne_ints_no {prog : Program} {w : World} {A : Around} {E : Value → Shared → Prop} {s : Shared} {a b : Addr} {vs us : List Value} {ns : List Int} {Q : Value → Shared → Prop} (hl : s.heap.IsList a vs.toArray) (hi : IntsAre vs ns) (hl' : s.heap.IsList b us.toArray) (hi' : IntsAre us ns) (hu : A.units + 64 < cLine)
    (h : Q (.bool false) s) : wpAny (model prog w) A (compareOp .NotEq (.ref a) (.ref b)) Q E s :=
  ne_intsK hl hi hl' hi' hu (by rw [decide_eq_true rfl]; exact h)
theorem ne_data_no {prog : Program} {w : World} {A : Around} {E : Value → Shared → Prop} {s : Shared} {a b : Addr} {d : PyData} {as bs : List Addr} {Q : Value → Shared → Prop} (ha : Reads s.heap (.ref a) d as) (hb : Reads s.heap (.ref b) d bs) (hd : PySem.SeqAt.shaped d = true) (hu : A.units + 64 < cLine) (hn : PySem.SeqAt.noMix d d = true) (hs : PySem.Spec.same d d = true)
    (h : Q (.bool false) s) : wpAny (model prog w) A (compareOp .NotEq (.ref a) (.ref b)) Q E s :=
  ne_dataH_same ha hb hd hd hu hn (by rw [hs]; exact h)
noncomputable abbrev lawR (Z M L : Addr) (z : Nat → Str) (mi : Nat → Int) (uz um : Nat → Tok) (nZ nM : Nat) (o1 o2 o3 o4 o5 o6 o7 o8 : Obj) (c : Addr) : List (Addr × Obj) :=
  (Z, listOf (textv z uz 7).toArray nZ) :: (M, listOf (intv mi um 7).toArray nM) :: lawCells L o1 o2 o3 o4 o5 o6 o7 o8 (lawTabs #[] #[] (lexPs c))
noncomputable abbrev m3 (sc D : Addr) (tx : Str) (tt : Tok) : Str → Option Value := fun y => if y = Str.ofString "told" then some (.ref D) else if y = Str.ofString "text" then some (.str tx tt) else if y = Str.ofString "script" then some (.ref sc) else none
theorem intv_at {x : Nat → Int} {u : Nat → Tok} {n i : Nat} {v : Value} (hi : i < n) (e : (intv x u n).toArray[i]? = some v) : v = .int (x i) (u i) := by
  rw [List.getElem?_toArray, intv_get hi] at e
  exact (Option.some.inj e).symm
theorem intv_size (x : Nat → Int) (u : Nat → Tok) (n : Nat) : (intv x u n).toArray.size = n := by rw [List.size_toArray, intv_len]
theorem textv_at {x : Nat → Str} {u : Nat → Tok} {n i : Nat} {v : Value} (hi : i < n) (e : (textv x u n).toArray[i]? = some v) : v = .str (x i) (u i) := by
  rw [List.getElem?_toArray, textv_get hi] at e
  exact (Option.some.inj e).symm
structure PplFar (L : Addr) (a : PplA) : Prop where
  f1 : CellOff L a.l
  f2 : CellOff L a.p0
  f3 : CellOff L a.p1
  f4 : CellOff L a.p2
  f5 : CellOff L a.p3
theorem PplFar.of {L : Addr} {a : PplA} {h : Heap} {o1 o2 o3 o4 o5 o6 o7 o8 : Obj} {p1 p2 p3 : Array Value} (H : ∀ q ∈ lawCells L o1 o2 o3 o4 o5 o6 o7 o8 (lawTabs p1 p2 p3), h.get? q.1 = some q.2) (hf : ∀ q ∈ pplLed a, h.get? q.1 = none) : PplFar L a := by
  have k : ∀ q ∈ pplLed a, CellOff L q.1 := fun q hq => CellOff.of (p1 := p1) (p2 := p2) (p3 := p3) fun r hr e => by
    have h1 := H r hr
    rw [e, hf q hq] at h1; cases h1
  exact ⟨k _ (.head _), k _ (.tail _ (.head _)), k _ (.tail _ (.tail _ (.head _))), k _ (.tail _ (.tail _ (.tail _ (.head _)))), k _ (.tail _ (.tail _ (.tail _ (.tail _ (.head _)))))⟩
theorem ppl_news {g h h' : Heap} {L : Addr} {m : Str → Option Value} {a : PplA} {news : List (Addr × Obj)} (F : Fr g L h m) (N : News g L h' news) (H : Holds h' (pplLed a)) (hf : ∀ q ∈ pplLed a, h.get? q.1 = none) : News g L h' (pplLed a ++ news) := fun q hq => by
  rcases List.mem_append.mp hq with hq | hq
  · exact ⟨H q hq, get_fresh F (hf q hq)⟩
  · exact N q hq
noncomputable def momU (a : PplA) (j : Nat) : Tok := [a.u0, a.u1, a.u2, a.u3].getD j 0
noncomputable abbrev timesO (a : PplA) : Obj := listOf (intv (mom a) (momU a) 4).toArray 4
/-- when the k-th is to come out, by the law's own word -/
noncomputable def inn (a : PplA) (S M : Int) (k j : Nat) : Int := mom a j + S + ((k : Int) - (j : Int)) * M
noncomputable def dueF (a : PplA) (S M : Int) : Nat → Int
  | 0 => inn a S M 0 0
  | 1 => max (inn a S M 1 0) (inn a S M 1 1)
  | 2 => max (max (inn a S M 2 0) (inn a S M 2 1)) (inn a S M 2 2)
  | _ => max (max (max (inn a S M 3 0) (inn a S M 3 1)) (inn a S M 3 2)) (inn a S M 3 3)
noncomputable def maxC (x : Nat → Int) : Int := max (max (x 4) (x 5)) (x 6)
noncomputable def sumC (x : Nat → Int) : Int := x 4 + x 5 + x 6
noncomputable abbrev costsO (x : Nat → Int) (ud : Nat → Tok) : Obj := listOf #[.int (x 4) (ud 4), .int (x 5) (ud 5), .int (x 6) (ud 6)] 0
noncomputable abbrev dueO (f : Nat → Int) (uv : Nat → Tok) : Obj := listOf (intv f uv 4).toArray 4
theorem max_of2 {M p q : Int} (h : M = p ∨ M = q) (b : p ≤ M ∧ q ≤ M) : M = max p q := by
  rcases h with rfl | rfl
  · exact (Int.max_eq_left b.2).symm
  · exact (Int.max_eq_right b.1).symm
theorem max_of3 {M p q r : Int} (h : M = p ∨ M = q ∨ M = r) (b : p ≤ M ∧ q ≤ M ∧ r ≤ M) : M = max (max p q) r := by
  rcases h with h | h | h
  · rw [← max_of2 (.inl h) ⟨b.1, b.2.1⟩]; exact (Int.max_eq_left b.2.2).symm
  · rw [← max_of2 (.inr h) ⟨b.1, b.2.1⟩]; exact (Int.max_eq_left b.2.2).symm
  · rw [← h]; exact (Int.max_eq_right (Int.max_le.mpr ⟨b.1, b.2.1⟩)).symm
theorem max_of4 {M p q r s : Int} (h : M = p ∨ M = q ∨ M = r ∨ M = s) (b : p ≤ M ∧ q ≤ M ∧ r ≤ M ∧ s ≤ M) : M = max (max (max p q) r) s := by
  rcases h with h | h | h | h
  · rw [← max_of3 (.inl h) ⟨b.1, b.2.1, b.2.2.1⟩]; exact (Int.max_eq_left b.2.2.2).symm
  · rw [← max_of3 (.inr (.inl h)) ⟨b.1, b.2.1, b.2.2.1⟩]; exact (Int.max_eq_left b.2.2.2).symm
  · rw [← max_of3 (.inr (.inr h)) ⟨b.1, b.2.1, b.2.2.1⟩]; exact (Int.max_eq_left b.2.2.2).symm
  · rw [← h]; exact (Int.max_eq_right (Int.max_le.mpr ⟨Int.max_le.mpr ⟨b.1, b.2.1⟩, b.2.2.1⟩)).symm
/-- a pair of ints, in the ledger -/
noncomputable def PairII (nw : List (Addr × Obj)) (y : Value) (p : Int × Int) : Prop := ∃ a t u, y = .ref a ∧ (a, tup2 (.int p.1 t) (.int p.2 u)) ∈ nw
/-- comings and, behind them, goings -/
noncomputable def allT (a : PplA) (f : Nat → Int) (j : Nat) : Int := [mom a 0, mom a 1, mom a 2, mom a 3, f 0, f 1, f 2, f 3].getD j 0
noncomputable def allU (a : PplA) (uv : Nat → Tok) (j : Nat) : Tok := [momU a 0, momU a 1, momU a 2, momU a 3, uv 0, uv 1, uv 2, uv 3].getD j 0
noncomputable def laidP (x : Nat → Int) : List (Int × Int) := (List.range 8).map fun j => (x j, -(j : Int))
set_option maxHeartbeats 8000000 in
theorem law_top
    (body : ∀ {w : World} {A : Around} {base : Heap} {outer : List Env} {p : Program} {loose : List Str} {mean : ExcName → Option Value} {mg mb : Str → Option Value} {g : Heap} {L fa : Addr} {cd : Value} {Q : Flow → Shared → Prop} {s : Shared} {sc : Addr} {vs : List Value} {ns : List Int} {o1 o2 o3 o4 o5 o6 o7 o8 : Obj},
      LawC w A base outer p loose mean mg mb g L Q s → g.IsList sc vs.toArray → IntsAre vs ns → ns.length ≤ 63 → CellN o1 → CellN o2 → CellN o3 → CellN o4 → CellN o5 → CellN o6 → CellN o7 → CellN o8 →
      Go w A g L fa cd Q s 0 (fun y => if y = Str.ofString "script" then some (.ref sc) else none)
        (lawCells L o1 o2 o3 o4 o5 o6 o7 o8 (lawTabs #[] #[] #[]))) :
    PySem.Challenge.rw_xe0029_01.Holds := hdT (by
  k_go0
  (all_goals try k_fold)
  rename Fr _ _ _ _ => F
  rename News _ _ _ _ => N
  rename Frag.In _ _ => X
  rename Top _ _ _ _ _ _ => T
  rename Below _ _ _ _ => B
  rename IntsAre _ _ => hI
  rename ¬ _ < _ => hz
  refine wpAny_mono ((body (w := _) (A := callerA) (outer := []) ⟨⟨X, T, B, rfl, by decide, by decide⟩, by k_extra "w my om", ?done⟩ (by assumption) hI (by k_extra "w my om") (by assumption) (by assumption) (by assumption) (by assumption) (by assumption) (by assumption) (by assumption) (by assumption)).run _ _ F N) (fun _ _ x => x) (fun _ _ x => x.elim)
  case done =>
    intro h tk m ps1 ps2 ps3 F1 e1 e2 e3
    refine ⟨?_, ⟨_, e1⟩, ⟨_, e2⟩, ⟨_, e3⟩, True.intro⟩
    dsimp only
    refine goodW_bool F1 (by assumption) (raisesW_false ?_) ?_
    · wrow_none_raised
    · wrow_post)
end
section
/-- a till's work on the moments m -/
noncomputable def outF (m : Nat → Int) (c : Int) : Nat → Int
  | 0 => m 0 + c
  | j + 1 => max (outF m c j) (m (j + 1)) + c
/-- at the greatest, over all j up to k, of m j + S + (k - j) * M -/
noncomputable def DF (m : Nat → Int) (S M : Int) : Nat → Int
  | 0 => m 0 + S
  | k + 1 => max (DF m S M k + M) (m (k + 1) + S)
theorem mx_add (a b c : Int) : max a b + c = max (a + c) (b + c) := by
  rcases Int.le_total a b with h | h
  · rw [Int.max_eq_right h, Int.max_eq_right (Int.add_le_add_right h c)]
  · rw [Int.max_eq_left h, Int.max_eq_left (Int.add_le_add_right h c)]
theorem outF_eq (m : Nat → Int) (c : Int) : ∀ k, outF m c k = DF m c c k
  | 0 => rfl
  | k + 1 => by
    show max (outF m c k) (m (k + 1)) + c = max (DF m c c k + c) (m (k + 1) + c)
    rw [outF_eq m c k, mx_add]
theorem DF_shift (m : Nat → Int) (S M d : Int) : ∀ k, DF m (S + d) M k = DF m S M k + d
  | 0 => (Int.add_assoc _ _ _).symm
  | k + 1 => by
    show max (DF m (S + d) M k + M) (m (k + 1) + (S + d)) = max (DF m S M k + M) (m (k + 1) + S) + d
    rw [DF_shift m S M d k, mx_add, Int.add_right_comm, Int.add_assoc (m _)]
theorem DF_mono (m : Nat → Int) (S M N : Int) (h : M ≤ N) : ∀ k, DF m S M k ≤ DF m S N k
  | 0 => Int.le_refl _
  | k + 1 => Int.max_le.mpr ⟨Int.le_trans (Int.add_le_add (DF_mono m S M N h k) h) (Int.le_max_left _ _), Int.le_max_right _ _⟩
theorem outF_DF (m : Nat → Int) (S M c : Int) : ∀ k, outF (DF m S M) c k = DF m (S + c) (max M c) k
  | 0 => Int.add_assoc _ _ _
  | k + 1 => by
    show max (outF (DF m S M) c k) (max (DF m S M k + M) (m (k + 1) + S)) + c = max (DF m (S + c) (max M c) k + max M c) (m (k + 1) + (S + c))
    rw [outF_DF m S M c k, DF_shift, mx_add, mx_add, Int.add_assoc (m _)]
    rcases Int.le_total c M with h | h
    · rw [Int.max_eq_left h, Int.add_right_comm _ M c, ← Int.max_assoc, Int.max_eq_right (Int.add_le_add_left h _)]
    · have h1 := DF_mono m S M c h k
      rw [Int.max_eq_right h, ← Int.max_assoc, Int.max_eq_left (Int.add_le_add_right (Int.add_le_add h1 h) c)]
theorem outF_congr {m m' : Nat → Int} {c : Int} : ∀ {k : Nat}, (∀ j, j ≤ k → m j = m' j) → outF m c k = outF m' c k
  | 0, h => by show m 0 + c = m' 0 + c; rw [h 0 (Nat.le_refl _)]
  | k + 1, h => by
    show max (outF m c k) (m (k + 1)) + c = max (outF m' c k) (m' (k + 1)) + c
    rw [outF_congr fun j hj => h j (Nat.le_succ_of_le hj), h (k + 1) (Nat.le_refl _)]
theorem DF_le (m : Nat → Int) (S M : Int) (h : 0 ≤ M) (k : Nat) : DF m S M k ≤ DF m S M (k + 1) :=
  Int.le_trans (Int.le_add_of_nonneg_right h) (Int.le_max_left _ _)
/-- three tills -/
theorem three (m : Nat → Int) (c1 c2 c3 : Int) (k : Nat) : outF (outF (outF m c1) c2) c3 k = DF m (c1 + c2 + c3) (max (max c1 c2) c3) k := by
  have e1 : outF m c1 = DF m c1 c1 := funext (outF_eq m c1)
  have e2 : outF (DF m c1 c1) c2 = DF m (c1 + c2) (max c1 c2) := funext (outF_DF m c1 c1 c2)
  rw [e1, e2, outF_DF]
theorem DF_ext {m m' : Nat → Int} {S M : Int} : ∀ {k : Nat}, (∀ j, j ≤ k → m j = m' j) → DF m S M k = DF m' S M k
  | 0, h => by show m 0 + S = m' 0 + S; rw [h 0 (Nat.le_refl _)]
  | k + 1, h => by
    show max (DF m S M k + M) (m (k + 1) + S) = max (DF m' S M k + M) (m' (k + 1) + S)
    rw [DF_ext fun j hj => h j (Nat.le_succ_of_le hj), h (k + 1) (Nat.le_refl _)]
theorem outT_outF (a : PplA) (c : Int) : ∀ k, outT a c k = outF (mom a) c k
  | 0 => rfl
  | k + 1 => by show max (outT a c k) (mom a (k + 1)) + c = _; rw [outT_outF a c k]; rfl
/-- the tills in any order: the same -/
theorem perm3f : ∀ a b c : Fin 3, a ≠ b → a ≠ c → b ≠ c → (a.val = 0 ∧ b.val = 1 ∧ c.val = 2) ∨ (a.val = 0 ∧ b.val = 2 ∧ c.val = 1) ∨ (a.val = 1 ∧ b.val = 0 ∧ c.val = 2) ∨ (a.val = 1 ∧ b.val = 2 ∧ c.val = 0) ∨ (a.val = 2 ∧ b.val = 0 ∧ c.val = 1) ∨ (a.val = 2 ∧ b.val = 1 ∧ c.val = 0) := by decide
theorem perm3 {a b c : Nat} (h : a < 3) (h' : b < 3) (h'' : c < 3) (d1 : a ≠ b) (d2 : a ≠ c) (d3 : b ≠ c) : (a = 0 ∧ b = 1 ∧ c = 2) ∨ (a = 0 ∧ b = 2 ∧ c = 1) ∨ (a = 1 ∧ b = 0 ∧ c = 2) ∨ (a = 1 ∧ b = 2 ∧ c = 0) ∨ (a = 2 ∧ b = 0 ∧ c = 1) ∨ (a = 2 ∧ b = 1 ∧ c = 0) :=
  perm3f ⟨a, h⟩ ⟨b, h'⟩ ⟨c, h''⟩ (fun e => d1 (Fin.mk.inj e)) (fun e => d2 (Fin.mk.inj e)) fun e => d3 (Fin.mk.inj e)
theorem friedman (m : Nat → Int) (x : Nat → Int) {i0 i1 i2 : Nat} (h0 : i0 < 3) (h1 : i1 < 3) (h2 : i2 < 3) (d1 : i0 ≠ i1) (d2 : i0 ≠ i2) (d3 : i1 ≠ i2) (k : Nat) :
    outF (outF (outF m (x (4 + i0))) (x (4 + i1))) (x (4 + i2)) k = DF m (x 4 + x 5 + x 6) (max (max (x 4) (x 5)) (x 6)) k := by
  rw [three]
  have key : ∀ {a b c : Int}, a + b + c = x 4 + x 5 + x 6 → max (max a b) c = max (max (x 4) (x 5)) (x 6) → DF m (a + b + c) (max (max a b) c) k = DF m (x 4 + x 5 + x 6) (max (max (x 4) (x 5)) (x 6)) k := fun e1 e2 => by rw [e1, e2]
  rcases perm3 h0 h1 h2 d1 d2 d3 with ⟨rfl, rfl, rfl⟩ | ⟨rfl, rfl, rfl⟩ | ⟨rfl, rfl, rfl⟩ | ⟨rfl, rfl, rfl⟩ | ⟨rfl, rfl, rfl⟩ | ⟨rfl, rfl, rfl⟩
  · exact rfl
  · exact key (Int.add_right_comm _ _ _) (by show max (max (x 4) (x 6)) (x 5) = _; rw [Int.max_assoc, Int.max_comm (x 6), ← Int.max_assoc])
  · exact key (by show x 5 + x 4 + x 6 = _; rw [Int.add_comm (x 5)]) (by show max (max (x 5) (x 4)) (x 6) = _; rw [Int.max_comm (x 5)])
  · exact key (by show x 5 + x 6 + x 4 = _; rw [Int.add_comm, Int.add_assoc]) (by show max (max (x 5) (x 6)) (x 4) = _; rw [Int.max_comm, Int.max_assoc])
  · exact key (by show x 6 + x 4 + x 5 = _; rw [Int.add_assoc, Int.add_comm]) (by show max (max (x 6) (x 4)) (x 5) = _; rw [Int.max_assoc, Int.max_comm])
  · exact key (by show x 6 + x 5 + x 4 = _; rw [Int.add_comm, Int.add_comm (x 6), Int.add_assoc]) (by show max (max (x 6) (x 5)) (x 4) = _; rw [Int.max_comm, Int.max_comm (x 6), Int.max_assoc])
end
section
theorem resetCompD : (0 : Nat) = 0 := by
  w_top off
  k_with_none
  (k_with "w my pick" => (with_reducible first | assumption | exact lo1 | exact lo2 | exact lo3 | exact lo4 | exact ls1 (by assumption) | exact ls2 (by assumption) | exact ls3 (by assumption) | exact pk0 (by assumption) | exact pk1 (by assumption) | exact pk2 (by assumption) | exact pk3 (by assumption) | exact pk4 (by assumption) | exact pk5 (by assumption) | exact pk6 (by assumption) | exact pk7 (by assumption) | exact pk8 (by assumption) | exact pk9 (by assumption) | exact pk10 (by assumption) | exact pk11 (by assumption) | exact pk12 (by assumption) | exact pk13 (by assumption) | exact pk14 (by assumption) | exact pk15 (by assumption) | exact pk16 (by assumption) | exact pk17 (by assumption) | exact qk1 (by assumption) | exact qk2 (by assumption) | exact qk3 (by assumption) | exact qk4 (by assumption) | exact qk5 (by assumption) | exact qk6 (by assumption) | exact qk7 (by assumption) | exact qk8 (by assumption) | exact qk9 (by assumption) | exact qk10 (by assumption) | exact qk11 (by assumption) | exact qk12 (by assumption) | exact qk13 (by assumption) | exact qk14 (by assumption) | exact qk15 (by assumption) | exact qk16 (by assumption) | exact qk17 (by assumption)))
  (k_with "w my sml" => (with_reducible first | (refine Nat.ne_of_lt ?_; k_extra "w my pick") | (refine Nat.ne_of_gt ?_; k_extra "w my pick") | (refine Ne.symm ?_; k_extra "w my pick") | (refine id ?_; k_extra "w my pick") | (refine Nat.le_of_lt ?_; k_extra "w my pick") | exact lrefl | exact lzero | exact one_le | exact room0 (by assumption) | exact room (by assumption) (by decide) | exact room1 (by assumption) (by decide) | exact room2 (by assumption) (by decide) | exact room3 (by assumption) (by decide) | exact le_le (by assumption) (by decide) | exact le_sc (by assumption) | (refine above1' ?_ (by assumption); k_extra "w my pick") | (refine above2' ?_ (by assumption); k_extra "w my pick")))
  (k_with "w my om" => (first | k_extra "w my sml" | lia | omega))
  rfl
noncomputable abbrev dueScope : Scope := { kind := ScopeKind.function, names := [(Str.ofString ".0", NameKind.local), (Str.ofString "k", NameKind.local), (Str.ofString "due", NameKind.free), (Str.ofString "guests", NameKind.free)], isGenerator := false, isCoroutine := false }
/-- an item of a list by a place that is told as an int -/
theorem item_ref {prog : Program} {w : World} {A : Around} {E : Value → Shared → Prop} {s : Shared} {value slice : PySem.Expr} {l : Addr} {vs : List Value} {i : Nat} {u : Tok} {v : Value} {Q : Value → Shared → Prop}
    (hl : s.heap.IsList l vs.toArray) (hi : i < 100) (hx : vs[i]? = some v) (h : Q v s)
    (hs : subscripted slice false (.ref l) (.int (0 + (i : Int)) u) = operate [.ref l, .int (0 + (i : Int)) u] (getItem (.ref l) (.int (0 + (i : Int)) u)) := by with_unfolding_all rfl) :
    wpAny (model prog w) A (subscriptTail value slice (.ref l) (.int (0 + (i : Int)) u)) Q E s :=
  item_at hl (by k_extra "w my om") (by k_extra "w my om") (by rw [show (0 + (i : Int)).toNat = i from by k_extra "w my om"]; exact hx) h hs
noncomputable def ptA (a : PplA) (i : Nat) : Addr := [a.p0, a.p1, a.p2, a.p3].getD i 0
noncomputable def ptT (a : PplA) (i : Nat) : Tok := [a.t0, a.t1, a.t2, a.t3].getD i 0
noncomputable def ptU (a : PplA) (i : Nat) : Tok := [a.u0, a.u1, a.u2, a.u3].getD i 0
theorem ppl_at (a : PplA) {i : Nat} (h : i < 4) : ([.ref a.p0, .ref a.p1, .ref a.p2, .ref a.p3] : List Value)[i]? = some (.ref (ptA a i)) ∧ (ptA a i, tup2 (.str (who a i) (ptT a i)) (.int (mom a i) (ptU a i))) ∈ pplLed a := by
  have : i = 0 ∨ i = 1 ∨ i = 2 ∨ i = 3 := lt4 (by assumption)
  rcases this with rfl | rfl | rfl | rfl
  · exact ⟨rfl, .tail _ (.head _)⟩
  · exact ⟨rfl, .tail _ (.tail _ (.head _))⟩
  · exact ⟨rfl, .tail _ (.tail _ (.tail _ (.head _)))⟩
  · exact ⟨rfl, .tail _ (.tail _ (.tail _ (.tail _ (.head _))))⟩
section
variable {prog : Program} {w : World} {A : Around} {s : Shared} {g : Heap} {L : Addr} {m : Str → Option Value} {env : Env} {led : List (Addr × Obj)}
theorem rest_due {a : PplA} {cg cd Du : Addr} {og od : Obj} {f : Nat → Int} {uv : Nat → Tok} {p1 p2 p3 p4 p5 p6 p7 p8 p9 : Pos} {k0 : Nat} {kt : Nat} {cl : List (Str × Addr)} {Fin : List Value → List (Addr × Obj) → Prop}
    (hg : (cg, og) ∈ led) (hgd : og.data = .cell (some (.ref a.l))) (ha : ∀ q ∈ pplLed a, q ∈ led) (hd : (cd, od) ∈ led) (hdd : od.data = .cell (some (.ref Du))) (hDu : (Du, dueO f uv) ∈ led)
    (hclg : cl.lookup (Str.ofString "guests") = some cg) (hcld : cl.lookup (Str.ofString "due") = some cd)
    (hkg : ∀ C, (compEnvC dueScope cl C env).kindOf (Str.ofString "guests") = some .cell) (hkd : ∀ C, (compEnvC dueScope cl C env).kindOf (Str.ofString "due") = some .cell)
    (fin : ∀ ys nw, (∀ q ∈ led, q ∈ nw) → All2 (PairIn nw) ys [(who a 0, f 0), (who a 1, f 1), (who a 2, f 2), (who a 3, f 3)] → Fin ys nw) :
    LCg.CompRest prog w A g L m env (Expr.Tuple [((Expr.Name (Str.ofString "guests") p1).Subscript (Expr.Name (Str.ofString "k") p2) p3).Subscript (Expr.Constant (Const.int 0) k0 p4) p5, (Expr.Name (Str.ofString "due") p6).Subscript (Expr.Name (Str.ofString "k") p7) p8] kt p9)
      (Str.ofString "k") dueScope cl s (fun _ => True) (fun i v => ∃ t, v = .int (0 + (i : Int)) t) Fin 4 0 [] led := by
  refine rest_ind (n := 4) (fun i ys nw => (∀ q ∈ led, q ∈ nw) ∧ All2 (PairIn nw) ys ((List.range i).map fun j => (who a j, f j))) ?_ ?_ 4 0 [] led (Nat.zero_add _) rfl ⟨fun _ h => h, .nil⟩
  · rintro i ys nw hi hlen ⟨hsub, hys⟩ v I oI C oC D m₂ h tk E' ⟨tv, rfl⟩ hnC hm2 F2 N2 off3 hne
    have nsC := hnC.ns (N2.get (.tail _ (.head _)))
    have up : ∀ q ∈ led, q ∈ (I, oI) :: (C, oC) :: (D, LCg.lst ys) :: nw := fun q hq => .tail _ (.tail _ (.tail _ (hsub q hq)))
    obtain ⟨hp1, hp2⟩ := ppl_at a hi
    refine Tuple_ (spliced_more (Subscript_ (Subscript_ (wpAny_Name (wpAny_loadName_cell (c := cg) (v := .ref a.l) rfl (hkg C) hclg ⟨_, N2.get (up _ hg), hgd⟩ ?_)))))
    refine wpAny_Name (wpAny_loadName_local rfl rfl nsC hm2 ?_)
    refine item_ref (vs := [.ref a.p0, .ref a.p1, .ref a.p2, .ref a.p3]) (N2.isList (up _ (ha _ (.head _)))) (by k_extra "w my om") hp1 ?_
    refine wpAny_Constant_int ?_
    have hT := N2.get (up _ (ha _ hp2))
    refine item_tupleT (j := 0) (l := [.str (who a i) (ptT a i), .int (mom a i) (ptU a i)]) ⟨_, hT, rfl, _, rfl⟩ (by decide) (by decide) rfl rfl ?_
    refine spliced_more (Subscript_ (wpAny_Name (wpAny_loadName_cell (c := cd) (v := .ref Du) rfl (hkd C) hcld ⟨_, N2.get (up _ hd), hdd⟩ ?_)))
    refine wpAny_Name (wpAny_loadName_local rfl rfl nsC hm2 ?_)
    refine item_ref (vs := intv f uv 4) (N2.isList (up _ hDu)) (by k_extra "w my om") (intv_get hi) ?_
    refine spliced_none (newTuple_N F2 N2 (fun h3 F3 N3 => ?_) (by show 2 ≤ sizeLine; decide))
    have lt : ∀ q ∈ (I, oI) :: (C, oC) :: (D, LCg.lst ys) :: nw, @Ne Nat h.objs.size q.1 := fun q hq => Nat.ne_of_gt (Heap.lt_size (N2 q hq).1)
    refine LCg.CompEnd.intro F3 N3 ((h.objs.size, tup2 (.str (who a i) (ptT a i)) (.int (f i) (uv i))) :: nw) ?_ ⟨⟨lt _ (.head _), lt _ (.tail _ (.head _)), lt _ (.tail _ (.tail _ (.head _)))⟩, off3⟩ trivial ⟨fun q hq => .tail _ (hsub q hq), ?_⟩
    · exact turn3
    · rw [List.range_succ, List.map_append]
      exact paired_snoc ⟨_, ptT a i, uv i, rfl, .head _⟩ (paired_mono (fun v p ⟨a, t, u, e, hm⟩ => ⟨a, t, u, e, .tail _ hm⟩) hys)
  · rintro ys nw hlen ⟨hsub, hys⟩
    exact fin ys nw hsub hys
end
end
section
section
variable {prog : Program} {w : World} {A : Around} {h₀ : Heap} {L : Addr} {m : Str → Option Value} {env : Env} {s : Shared} {x x₂ : Str} {scope : Scope} {cl : List (Str × Addr)} {news : List (Addr × Obj)}
/-- [(b, a) for a, b in l] -/
theorem comp_swap {l : Addr} {items : List Value} {n kt : Nat} {p1 p2 p3 : Pos} {Fin : Shared → List Value → List (Addr × Obj) → Prop} (R : Nat → Value → Value → Prop) (hh : A.handled = none) (F : Fr h₀ L s.heap m) (N : News h₀ L s.heap news) (hl : (l, listOf items.toArray n) ∈ news)
    (hi : ∀ (i : Nat) (v : Value), items[i]? = some v → ∃ (T : Addr) (v₁ v₂ : Value), v = Value.ref T ∧ (T, tup2 v₁ v₂) ∈ news ∧ R i v₁ v₂) (hz : items.length ≤ 100) (hkind : scope.kind = .function) (hx : scope.names.lookup x = some .local) (hx₂ : scope.names.lookup x₂ = some .local)
    (hd : (x == ("__debug__" : Str)) = false) (hd₂ : (x₂ == ("__debug__" : Str)) = false)
    (hQ : ∀ h ys nw, (∀ q ∈ news, q ∈ nw) → All2 (fun y i => ∃ T v₁ v₂, y = Value.ref T ∧ (T, tup2 v₂ v₁) ∈ nw ∧ R i v₁ v₂) ys (List.range items.length) → Fin { s with heap := h } ys nw) : LCp.SrcLP prog w A h₀ L m env (Expr.Tuple [Expr.Name x₂ p1, Expr.Name x p2] kt p3) x x₂ scope cl Fin (.ref l) s := by
  refine LCp.SrcLP.ledger hh F N hl (by rw [List.size_toArray]; exact Nat.le_trans hz (by decide)) fun g2 => ?_
  refine rest_indP (n := items.toArray.size) (fun i ys nw => (∀ q ∈ news, q ∈ nw) ∧ All2 (fun y i => ∃ T v₁ v₂, y = Value.ref T ∧ (T, tup2 v₂ v₁) ∈ nw ∧ R i v₁ v₂) ys (List.range i)) ?_ ?_ items.toArray.size 0 [] news (Nat.zero_add _) rfl ⟨fun _ h => h, .nil⟩
  · rintro i ys nw hin hyl ⟨hsub, hys⟩ v hP
    have hv : items[i]? = some v := by simpa using hP
    obtain ⟨T, v₁, v₂, e, hT, hR⟩ := hi i v hv
    refine ⟨T, v₁, v₂, e, hsub _ hT, fun I oI C oC D m₂ h tk E' hn h1 h2 F2 N2 o1 o2 => ?_⟩
    have nsC := hn.ns (N2.get (.tail _ (.head _)))
    refine Tuple_ (spliced_more (wpAny_Name (wpAny_loadName_local hkind (lookup_relabel_local hx₂) nsC h2 ?_) hd₂))
    refine spliced_more (wpAny_Name (wpAny_loadName_local hkind (lookup_relabel_local hx) nsC h1 ?_) hd)
    refine spliced_none (newTuple_N F2 N2 (fun h3 F3 N3 => ?_) (by show 2 ≤ sizeLine; decide))
    have lt : ∀ q ∈ (I, oI) :: (C, oC) :: (D, LCg.lst ys) :: nw, @Ne Nat h.objs.size q.1 := fun q hq => Nat.ne_of_gt (Heap.lt_size (N2 q hq).1)
    refine LCg.CompEnd.intro F3 N3 ((h.objs.size, tup2 v₂ v₁) :: nw) ?_ ⟨⟨lt _ (.head _), lt _ (.tail _ (.head _)), lt _ (.tail _ (.tail _ (.head _)))⟩, o1⟩ (.inr ⟨_, .tail _ (hsub _ hl), rfl, n, rfl⟩) ⟨fun q hq => .tail _ (hsub q hq), ?_⟩
    · exact turn3
    · rw [List.range_succ]
      exact paired_snoc ⟨_, v₁, v₂, rfl, .head _, hR⟩ (paired_mono (fun v p ⟨a, t, u, e, hm, r⟩ => ⟨a, t, u, e, .tail _ hm, r⟩) hys)
  · rintro ys nw hyl ⟨hsub, hys⟩
    exact hQ g2 ys nw hsub (by simpa using hys)
end
end
section
theorem resetZip : (0 : Nat) = 0 := by
  w_top off
  k_with_none
  (k_with "w my pick" => (with_reducible first | assumption | exact lo1 | exact lo2 | exact lo3 | exact lo4 | exact ls1 (by assumption) | exact ls2 (by assumption) | exact ls3 (by assumption) | exact pk0 (by assumption) | exact pk1 (by assumption) | exact pk2 (by assumption) | exact pk3 (by assumption) | exact pk4 (by assumption) | exact pk5 (by assumption) | exact pk6 (by assumption) | exact pk7 (by assumption) | exact pk8 (by assumption) | exact pk9 (by assumption) | exact pk10 (by assumption) | exact pk11 (by assumption) | exact pk12 (by assumption) | exact pk13 (by assumption) | exact pk14 (by assumption) | exact pk15 (by assumption) | exact pk16 (by assumption) | exact pk17 (by assumption) | exact qk1 (by assumption) | exact qk2 (by assumption) | exact qk3 (by assumption) | exact qk4 (by assumption) | exact qk5 (by assumption) | exact qk6 (by assumption) | exact qk7 (by assumption) | exact qk8 (by assumption) | exact qk9 (by assumption) | exact qk10 (by assumption) | exact qk11 (by assumption) | exact qk12 (by assumption) | exact qk13 (by assumption) | exact qk14 (by assumption) | exact qk15 (by assumption) | exact qk16 (by assumption) | exact qk17 (by assumption)))
  (k_with "w my sml" => (with_reducible first | (refine Nat.ne_of_lt ?_; k_extra "w my pick") | (refine Nat.ne_of_gt ?_; k_extra "w my pick") | (refine Ne.symm ?_; k_extra "w my pick") | (refine id ?_; k_extra "w my pick") | (refine Nat.le_of_lt ?_; k_extra "w my pick") | exact lrefl | exact lzero | exact one_le | exact room0 (by assumption) | exact room (by assumption) (by decide) | exact room1 (by assumption) (by decide) | exact room2 (by assumption) (by decide) | exact room3 (by assumption) (by decide) | exact le_le (by assumption) (by decide) | exact le_sc (by assumption) | (refine above1' ?_ (by assumption); k_extra "w my pick") | (refine above2' ?_ (by assumption); k_extra "w my pick")))
  (k_with "w my om" => (first | k_extra "w my sml" | lia | omega))
  rfl
noncomputable abbrev zipO (f0 : Value) (f : Bool) (TI TO : Addr) : Obj := { cls := .type "zip", dict := none, data := .fields #[f0, .bool f, .bool false, .ref TI, .ref TO], slots := #[] }
/-- the parts of a zip of a list and a text stand apart -/
structure ZApart (z TI TO i1 i2 l : Addr) : Prop where
  TIz : TI ≠ z
  TOz : TO ≠ z
  i1z : i1 ≠ z
  i2z : i2 ≠ z
  TITO : TI ≠ TO
  TIi1 : TI ≠ i1
  TIi2 : TI ≠ i2
  TOi1 : TO ≠ i1
  TOi2 : TO ≠ i2
  i12 : i1 ≠ i2
  lz : l ≠ z
  lTO : l ≠ TO
  li1 : l ≠ i1
  li2 : l ≠ i2
/-- what stands after i items -/
structure ZSt (h : Heap) (z TI TO i1 i2 l S : Addr) (xs : Array Value) (x : Str) (t : Tok) (i : Nat) : Prop where
  owner : (i = 0 ∧ h.get? z = some (zipO .none false TI TO)) ∨ ∃ (a : Addr) (f : Bool) (oa : Obj), h.get? z = some (zipO (rawInt a) f TI TO) ∧ h.get? a = some oa ∧ a ≠ z ∧ a ≠ TO ∧ a ≠ i1 ∧ a ≠ i2 ∧ a ≠ S
  ti : IsPair h TI (.ref i1) (.ref i2)
  to : ∃ a b, IsPair h TO a b
  it1 : h.IsListIter i1 l i
  it2 : h.IsStrIter i2 "str_ascii_iterator" x t i
  li : h.IsList l xs
section
variable {prog : Program} {w : World} {A : Around} {E : Value → Shared → Prop} {s : Shared} {z TI TO i1 i2 l S : Addr} {xs : Array Value} {x : Str} {t : Tok} {i : Nat}
theorem zs_first {v : Value} {c : Nat} {a b : Value} {Q : Value → Shared → Prop} (D : ZApart z TI TO i1 i2 l)
    (hz : IsZip s.heap z TI TO .none) (hTI : IsPair s.heap TI (.ref i1) (.ref i2)) (hTO : IsPair s.heap TO a b)
    (h1 : s.heap.IsListIter i1 l i) (h2 : s.heap.IsStrIter i2 "str_ascii_iterator" x t i) (hl1 : s.heap.IsList l xs) (hx : xs[i]? = some v) (hy : x.cps[i]? = some c)
    (hQ : ∀ h' u tk, IsZip h' z TI TO (rawInt s.heap.objs.size) → IsPair h' TO v (.str ⟨#[c]⟩ u) → h'.IsListIter i1 l (i + 1) → h'.IsStrIter i2 "str_ascii_iterator" x t (i + 1) → IsPair h' s.heap.objs.size v (.str ⟨#[c]⟩ u) → h'.objs.size = s.heap.objs.size + 1 →
      (∀ c o, c ≠ z → c ≠ TO → c ≠ i1 → c ≠ i2 → s.heap.get? c = some o → h'.get? c = some o) → Q (.ref s.heap.objs.size) { s with heap := h', toks := tk }) :
    wpAny (model prog w) A (Builtin.«zip.__next__» ⟨[.ref z], []⟩) (fun fin s' => ∃ v, fin = .done (.ret v) ∧ Q v s') E s := by
  show wpAny _ _ (field (.ref z) 2 >>= _) _ _ _
  refine wpAny_bind (wpAny_field hz rfl (x := .bool false) rfl ?_)
  show wpAny _ _ (field (.ref z) 3 >>= _) _ _ _
  refine wpAny_bind (wpAny_field hz rfl (x := .ref TI) rfl ?_)
  refine wpAny_bind (wpAny_seqItems hTI rfl ?_)
  show wpAny _ _ (Builtin.SmallTypes.ownedTupleIsFree (.ref z) >>= _) _ _ _
  refine wpAny_bind ?_
  unfold Builtin.SmallTypes.ownedTupleIsFree
  refine wpAny_bind (wpAny_field hz rfl (x := .none) rfl (wpAny_pure ?_))
  simp only [if_true]
  refine wpAny_bind (wpAny_rule ?_)
  refine wpAny_bind (wpAny_field hz rfl (x := .ref TO) rfl ?_)
  refine wpAny_bind (wpAny_setField_rec hz (by simp) fun h₁ hz₁ hs₁ => ?_)
  replace hz₁ : IsZip h₁ z TI TO .ellipsis := hz₁
  refine wpAny_bind ?_
  simp only [List.zipIdx_cons, List.zipIdx_nil, List.forIn_cons, List.forIn_nil]
  refine wpAny_bind (wpAny_bind (wpAny_onRaise ?_))
  show wpAny _ _ (Builtin.SmallTypes.nextOf (.ref i1) >>= _) _ _ _
  refine wpAny_bind (wpAny_nextOf_list_item (h1.extBut hs₁.extBut D.i1z) (hl1.extBut hs₁.extBut D.lz) hx fun h₂ h1₂ hs₂ => wpAny_pure ?_)
  have hTO₂ : IsPair h₂ TO a b := hs₂.extBut _ _ D.TOi1 (hs₁.extBut _ _ D.TOz hTO)
  refine wpAny_bind (wpAny_seqItems hTO₂ rfl ?_)
  refine wpAny_bind (wpAny_updateSeq_pair hTO₂ fun h₃ hTO₃ hs₃ => ?_)
  replace hTO₃ : IsPair h₃ TO v b := hTO₃
  refine wpAny_bind (wpAny_letGo (wpAny_pure ?_))
  refine wpAny_bind (wpAny_bind (wpAny_onRaise ?_))
  show wpAny _ _ (Builtin.SmallTypes.nextOf (.ref i2) >>= _) _ _ _
  have h2₃ : h₃.IsStrIter i2 "str_ascii_iterator" x t i := by
    obtain ⟨o, ho, r⟩ := h2
    exact ⟨o, hs₃.extBut _ _ D.TOi2.symm (hs₂.extBut _ _ D.i12.symm (hs₁.extBut _ _ D.i2z ho)), r⟩
  refine wpAny_bind (wpAny_nextOf_ascii_item h2₃ hy fun h₄ h2₄ hs₄ => wpAny_pure ?_)
  have hTO₄ : IsPair h₄ TO v b := hs₄.extBut _ _ D.TOi2 hTO₃
  refine wpAny_bind (wpAny_seqItems hTO₄ rfl ?_)
  refine wpAny_bind (wpAny_updateSeq_pair hTO₄ fun h₅ hTO₅ hs₅ => ?_)
  replace hTO₅ : IsPair h₅ TO v (.str ⟨#[c]⟩ s.toks) := hTO₅
  refine wpAny_bind (wpAny_letGo (wpAny_pure (wpAny_pure ?_)))
  refine wpAny_bind (wpAny_seqItems hTO₅ rfl ?_)
  refine wpAny_bind (wpAny_newTuple ?_)
  have hsz : h₅.objs.size = s.heap.objs.size := by rw [hs₅.1, hs₄.1, hs₃.1, hs₂.1, hs₁.1]
  have hz₅ : IsZip h₅ z TI TO .ellipsis := hs₅.extBut _ _ D.TOz.symm (hs₄.extBut _ _ D.i2z.symm (hs₃.extBut _ _ D.TOz.symm (hs₂.extBut _ _ D.i1z.symm hz₁)))
  have hk₅ : ∀ c o, c ≠ z → c ≠ TO → c ≠ i1 → c ≠ i2 → s.heap.get? c = some o → h₅.get? c = some o := fun c o c1 c2 c3 c4 e =>
    hs₅.extBut _ _ c2 (hs₄.extBut _ _ c4 (hs₃.extBut _ _ c2 (hs₂.extBut _ _ c3 (hs₁.extBut _ _ c1 e))))
  have h1₅ : h₅.IsListIter i1 l (i + 1) := ((h1₂.extBut hs₃.extBut D.TOi1.symm).extBut hs₄.extBut D.i12).extBut hs₅.extBut D.TOi1.symm
  have h2₅ : h₅.IsStrIter i2 "str_ascii_iterator" x t (i + 1) := by
    obtain ⟨o, ho, r⟩ := h2₄
    exact ⟨o, hs₅.extBut _ _ D.TOi2.symm ho, r⟩
  have hzlt : z < h₅.objs.size := Heap.lt_size hz₅
  show wpAny _ _ (Builtin.SmallTypes.ownedTupleHandOut (.ref z) (.ref h₅.objs.size) >>= _) _ _ _
  refine wpAny_bind ?_
  unfold Builtin.SmallTypes.ownedTupleHandOut
  have hz₆ : IsZip (h₅.push { cls := .type "tuple", data := .seq #[v, .str ⟨#[c]⟩ s.toks] }) z TI TO .ellipsis := Heap.get?_push_of_some _ hz₅
  refine wpAny_bind (wpAny_setField_rec hz₆ (by simp) fun h₇ hz₇ hs₇ => ?_)
  replace hz₇ : IsZip h₇ z TI TO (rawInt h₅.objs.size) := hz₇
  refine wpAny_setField_rec hz₇ (by simp) fun h₈ hz₈ hs₈ => ?_
  replace hz₈ : IsZip h₈ z TI TO (rawInt h₅.objs.size) := hz₈
  have up : ∀ c o, c ≠ z → h₅.get? c = some o → h₈.get? c = some o := fun c o c1 e => hs₈.extBut _ _ c1 (hs₇.extBut _ _ c1 (Heap.get?_push_of_some _ e))
  have hT₈ : IsPair h₈ h₅.objs.size v (.str ⟨#[c]⟩ s.toks) := hs₈.extBut _ _ (Nat.ne_of_gt hzlt) (hs₇.extBut _ _ (Nat.ne_of_gt hzlt) (Heap.get?_push_size _ rfl))
  have hz8 : h₈.objs.size = h₅.objs.size + 1 := by rw [hs₈.1, hs₇.1, Heap.size_push]
  rw [hsz] at hz₈ hT₈ hz8
  refine wpAny_pure ⟨_, rfl, ?_⟩
  show Q (.ref h₅.objs.size) _
  rw [hsz]
  refine hQ h₈ _ _ hz₈ (up _ _ D.TOz hTO₅) (h1₅.at fun o e => up _ o D.i1z e) ?_ hT₈ hz8 fun c o c1 c2 c3 c4 e => up c o c1 (hk₅ c o c1 c2 c3 c4 e)
  obtain ⟨o, ho, r⟩ := h2₅
  exact ⟨o, up _ _ D.i2z ho, r⟩
theorem own_busy {f : Bool} {p : Addr} {op : Obj} {Q : Bool → Shared → Prop} (hz : s.heap.get? z = some (zipO (rawInt p) f TI TO)) (hp : s.heap.get? p = some op)
    (h : ∀ h₁ : Heap, h₁.get? z = some (zipO (rawInt p) true TI TO) → Heap.SameBut z s.heap h₁ → Q false { s with heap := h₁ }) : wpAny (model prog w) A (Builtin.SmallTypes.ownedTupleIsFree (.ref z)) Q E s := by
  unfold Builtin.SmallTypes.ownedTupleIsFree
  refine wpAny_bind (wpAny_field hz rfl (x := rawInt p) rfl ?_)
  show wpAny _ _ (loadIfAlive ((p : Int).toNat) >>= _) _ _ _
  rw [Int.toNat_natCast]
  refine wpAny_bind (kdx_alive hp ?_)
  simp only [Option.isNone_some, Bool.false_eq_true, if_false]
  refine wpAny_bind (wpAny_field hz rfl (x := .bool f) rfl ?_)
  cases f with
  | true =>
    rw [if_neg (show ¬ ((Value.bool true != Value.bool true) = true) from Bool.false_ne_true)]
    exact wpAny_pure (h s.heap hz (Heap.SameBut.refl _ _))
  | false =>
    rw [if_pos (show (Value.bool false != Value.bool true) = true from rfl)]
    exact wpAny_bind (wpAny_setField_rec hz (by simp) fun h₁ he₁ hs₁ => wpAny_pure (h h₁ he₁ hs₁))
theorem zs_later {v : Value} {c : Nat} {f : Bool} {p : Addr} {op : Obj} {Q : Value → Shared → Prop} (D : ZApart z TI TO i1 i2 l)
    (hz : s.heap.get? z = some (zipO (rawInt p) f TI TO)) (hp : s.heap.get? p = some op) (hTI : IsPair s.heap TI (.ref i1) (.ref i2))
    (h1 : s.heap.IsListIter i1 l i) (h2 : s.heap.IsStrIter i2 "str_ascii_iterator" x t i) (hl1 : s.heap.IsList l xs) (hx : xs[i]? = some v) (hy : x.cps[i]? = some c)
    (hQ : ∀ h' u tk, h'.get? z = some (zipO (rawInt p) true TI TO) → h'.IsListIter i1 l (i + 1) → h'.IsStrIter i2 "str_ascii_iterator" x t (i + 1) → IsPair h' s.heap.objs.size v (.str ⟨#[c]⟩ u) → h'.objs.size = s.heap.objs.size + 1 →
      (∀ c o, c ≠ z → c ≠ i1 → c ≠ i2 → s.heap.get? c = some o → h'.get? c = some o) → Q (.ref s.heap.objs.size) { s with heap := h', toks := tk }) :
    wpAny (model prog w) A (Builtin.«zip.__next__» ⟨[.ref z], []⟩) (fun fin s' => ∃ v, fin = .done (.ret v) ∧ Q v s') E s := by
  show wpAny _ _ (field (.ref z) 2 >>= _) _ _ _
  refine wpAny_bind (wpAny_field hz rfl (x := .bool false) rfl ?_)
  show wpAny _ _ (field (.ref z) 3 >>= _) _ _ _
  refine wpAny_bind (wpAny_field hz rfl (x := .ref TI) rfl ?_)
  refine wpAny_bind (wpAny_seqItems hTI rfl ?_)
  show wpAny _ _ (Builtin.SmallTypes.ownedTupleIsFree (.ref z) >>= _) _ _ _
  refine wpAny_bind (own_busy hz hp fun h₁ hz₁ hs₁ => ?_)
  simp only [Bool.false_eq_true, if_false]
  refine wpAny_bind ?_
  simp only [List.forIn_toArray, List.forIn_cons, List.forIn_nil]
  refine wpAny_bind (wpAny_bind (wpAny_holding ?_))
  show wpAny _ _ (Builtin.SmallTypes.nextOf (.ref i1) >>= _) _ _ _
  refine wpAny_bind (wpAny_nextOf_list_item (h1.extBut hs₁.extBut D.i1z) (hl1.extBut hs₁.extBut D.lz) hx fun h₂ h1₂ hs₂ => wpAny_pure (wpAny_pure ?_))
  refine wpAny_bind (wpAny_bind (wpAny_holding ?_))
  show wpAny _ _ (Builtin.SmallTypes.nextOf (.ref i2) >>= _) _ _ _
  have h2₂ : h₂.IsStrIter i2 "str_ascii_iterator" x t i := by
    obtain ⟨o, ho, r⟩ := h2
    exact ⟨o, hs₂.extBut _ _ D.i12.symm (hs₁.extBut _ _ D.i2z ho), r⟩
  refine wpAny_bind (wpAny_nextOf_ascii_item h2₂ hy fun h₃ h2₃ hs₃ => wpAny_pure (wpAny_pure (wpAny_pure ?_)))
  refine wpAny_bind (wpAny_newTuple (wpAny_pure ⟨_, rfl, ?_⟩) (by show 2 ≤ sizeLine; decide))
  have hsz : h₃.objs.size = s.heap.objs.size := by rw [hs₃.1, hs₂.1, hs₁.1]
  have hk₃ : ∀ c o, c ≠ z → c ≠ i1 → c ≠ i2 → s.heap.get? c = some o → h₃.get? c = some o := fun c o c1 c3 c4 e => hs₃.extBut _ _ c4 (hs₂.extBut _ _ c3 (hs₁.extBut _ _ c1 e))
  have h1₃ : h₃.IsListIter i1 l (i + 1) := h1₂.extBut hs₃.extBut D.i12
  have hz₃ := hs₃.extBut _ _ D.i2z.symm (hs₂.extBut _ _ D.i1z.symm hz₁)
  show Q (.ref h₃.objs.size) _
  rw [hsz]
  refine hQ _ s.toks _ (Heap.get?_push_of_some _ hz₃) (h1₃.at fun o e => Heap.get?_push_of_some _ e) ?_ ?_ ?_ fun c o c1 c3 c4 e => Heap.get?_push_of_some _ (hk₃ c o c1 c3 c4 e)
  · obtain ⟨o, ho, r⟩ := h2₃
    exact ⟨o, Heap.get?_push_of_some _ ho, r⟩
  · show _ = _
    rw [← hsz]
    exact Heap.get?_push_size _ rfl
  · show (h₃.push _).objs.size = _
    rw [Heap.size_push, hsz]
theorem zs_end {f : Bool} {p : Addr} {op : Obj} {Q : Fin → Shared → Prop} (hh : A.handled = none) (D : ZApart z TI TO i1 i2 l)
    (hz : s.heap.get? z = some (zipO (rawInt p) f TI TO)) (hp : s.heap.get? p = some op) (hTI : IsPair s.heap TI (.ref i1) (.ref i2))
    (h1 : s.heap.IsListIter i1 l i) (hl1 : s.heap.IsList l xs) (hx : xs[i]? = none)
    (hE : ∀ h' e, (∀ c o, c ≠ z → c ≠ i1 → s.heap.get? c = some o → h'.get? c = some o) → (∃ o, h'.get? e = some o ∧ o.cls = .type "StopIteration") → E (.ref e) { s with heap := h' }) :
    wpAny (model prog w) A (Builtin.«zip.__next__» ⟨[.ref z], []⟩) Q E s := by
  show wpAny _ _ (field (.ref z) 2 >>= _) _ _ _
  refine wpAny_bind (wpAny_field hz rfl (x := .bool false) rfl ?_)
  show wpAny _ _ (field (.ref z) 3 >>= _) _ _ _
  refine wpAny_bind (wpAny_field hz rfl (x := .ref TI) rfl ?_)
  refine wpAny_bind (wpAny_seqItems hTI rfl ?_)
  show wpAny _ _ (Builtin.SmallTypes.ownedTupleIsFree (.ref z) >>= _) _ _ _
  refine wpAny_bind (own_busy hz hp fun h₁ hz₁ hs₁ => ?_)
  simp only [Bool.false_eq_true, if_false]
  refine wpAny_bind ?_
  simp only [List.forIn_toArray, List.forIn_cons, List.forIn_nil]
  refine wpAny_bind (wpAny_bind (wpAny_holding ?_))
  show wpAny _ _ (Builtin.SmallTypes.nextOf (.ref i1) >>= _) _ _ _
  exact wpAny_bind (wpAny_nextOf_list_end hh (h1.extBut hs₁.extBut D.i1z) (hl1.extBut hs₁.extBut D.lz) hx fun h₂ e hs₂ he => hE h₂ e (fun c o c1 c3 x => hs₂ _ _ c3 (hs₁.extBut _ _ c1 x)) he)
/-- the next pair -/
theorem zs_item {v : Value} {c : Nat} {Q : Option Value → Shared → Prop} (D : ZApart z TI TO i1 i2 l) (hS : S < s.heap.objs.size) (Z : ZSt s.heap z TI TO i1 i2 l S xs x t i) (hx : xs[i]? = some v) (hy : x.cps[i]? = some c)
    (hQ : ∀ h' u tk, ZSt h' z TI TO i1 i2 l S xs x t (i + 1) → IsPair h' s.heap.objs.size v (.str ⟨#[c]⟩ u) → h'.objs.size = s.heap.objs.size + 1 →
      (∀ c o, c ≠ z → c ≠ TO → c ≠ i1 → c ≠ i2 → s.heap.get? c = some o → h'.get? c = some o) → Q (some (.ref s.heap.objs.size)) { s with heap := h', toks := tk }) :
    wpAny (model prog w) A (pyNext (.ref z)) Q E s := by
  obtain ⟨hown, hTI, ⟨a, b, hTO⟩, h1, h2, hl⟩ := Z
  have hT : s.TypeIs (.ref z) "zip" := by
    rcases hown with ⟨_, e⟩ | ⟨_, _, _, e, _⟩
    · exact ⟨_, e, rfl⟩
    · exact ⟨_, e, rfl⟩
  have ne : ∀ {d : Addr} {o : Obj}, s.heap.get? d = some o → s.heap.objs.size ≠ d := fun e => Nat.ne_of_gt (Heap.lt_size e)
  have hz0 : ∃ o, s.heap.get? z = some o := let ⟨o, e, _⟩ := hT; ⟨o, e⟩
  unfold pyNext
  refine wpAny_bind (wpAny_attempt (wpAny_callSpecial?_slot (name := Str.ofString "__next__") hT F.slot_zip_next
    (wpAny_call_entry F.slot_zip_next hT F.entry_zip_next ?_ (F.args_zip_next_1 _))))
  rcases hown with ⟨_, hz⟩ | ⟨p, f, op, hz, hp, p1, p2, p3, p4, p5⟩
  · refine zs_first D hz hTI hTO h1 h2 hl hx hy fun h' u tk a1 a2 a3 a4 a5 a6 a7 => wpAny_pure (hQ h' u tk ⟨.inr ⟨_, false, _, a1, a5, ne hz, ne hTO, ?_, ?_, Nat.ne_of_gt hS⟩, a7 _ _ D.TIz D.TITO D.TIi1 D.TIi2 hTI, ⟨_, _, a2⟩, a3, a4, hl.at fun o e => a7 _ o D.lz D.lTO D.li1 D.li2 e⟩ a5 a6 a7)
    · obtain ⟨_, e, _⟩ := h1; exact ne e
    · obtain ⟨_, e, _⟩ := h2; exact ne e
  · exact zs_later D hz hp hTI h1 h2 hl hx hy fun h' u tk a1 a3 a4 a5 a6 a7 => wpAny_pure (hQ h' u tk ⟨.inr ⟨p, true, op, a1, a7 _ _ p1 p3 p4 hp, p1, p2, p3, p4, p5⟩, a7 _ _ D.TIz D.TIi1 D.TIi2 hTI, ⟨_, _, a7 _ _ D.TOz D.TOi1 D.TOi2 hTO⟩, a3, a4, hl.at fun o e => a7 _ o D.lz D.li1 D.li2 e⟩ a5 a6 fun c o c1 _ c3 c4 e => a7 c o c1 c3 c4 e)
theorem zs_done {Q : Option Value → Shared → Prop} (hh : A.handled = none) (D : ZApart z TI TO i1 i2 l) (Z : ZSt s.heap z TI TO i1 i2 l S xs x t i) (hi : 0 < i) (hx : xs[i]? = none)
    (hQ : ∀ h', (∀ c o, c ≠ z → c ≠ TO → c ≠ i1 → c ≠ i2 → s.heap.get? c = some o → h'.get? c = some o) → Q none { s with heap := h' }) : wpAny (model prog w) A (pyNext (.ref z)) Q E s := by
  obtain ⟨hown, hTI, ⟨a, b, hTO⟩, h1, h2, hl⟩ := Z
  obtain ⟨p, f, op, hz, hp, p1, p2, p3, p4, p5⟩ := hown.resolve_left fun q => by k_extra "w my om"
  have hT : s.TypeIs (.ref z) "zip" := ⟨_, hz, rfl⟩
  unfold pyNext
  refine wpAny_bind (wpAny_attempt (wpAny_callSpecial?_slot (name := Str.ofString "__next__") hT F.slot_zip_next
    (wpAny_call_entry F.slot_zip_next hT F.entry_zip_next (zs_end hh D hz hp hTI h1 hl hx fun h' e hk he => ?_) (F.args_zip_next_1 _))))
  obtain ⟨o, ho, hc⟩ := he
  refine wpAny_bind (wpAny_isInstance (T := "StopIteration") (b := true) ⟨o, ho, hc⟩ isSubtype_stop ?_)
  exact wpAny_pure (hQ _ fun c o c1 _ c3 _ e => hk c o c1 c3 e)
end
end
section
theorem resetZip2 : (0 : Nat) = 0 := by
  w_top off
  k_with_none
  (k_with "w my pick" => (with_reducible first | assumption | exact lo1 | exact lo2 | exact lo3 | exact lo4 | exact ls1 (by assumption) | exact ls2 (by assumption) | exact ls3 (by assumption) | exact pk0 (by assumption) | exact pk1 (by assumption) | exact pk2 (by assumption) | exact pk3 (by assumption) | exact pk4 (by assumption) | exact pk5 (by assumption) | exact pk6 (by assumption) | exact pk7 (by assumption) | exact pk8 (by assumption) | exact pk9 (by assumption) | exact pk10 (by assumption) | exact pk11 (by assumption) | exact pk12 (by assumption) | exact pk13 (by assumption) | exact pk14 (by assumption) | exact pk15 (by assumption) | exact pk16 (by assumption) | exact pk17 (by assumption) | exact qk1 (by assumption) | exact qk2 (by assumption) | exact qk3 (by assumption) | exact qk4 (by assumption) | exact qk5 (by assumption) | exact qk6 (by assumption) | exact qk7 (by assumption) | exact qk8 (by assumption) | exact qk9 (by assumption) | exact qk10 (by assumption) | exact qk11 (by assumption) | exact qk12 (by assumption) | exact qk13 (by assumption) | exact qk14 (by assumption) | exact qk15 (by assumption) | exact qk16 (by assumption) | exact qk17 (by assumption)))
  (k_with "w my sml" => (with_reducible first | (refine Nat.ne_of_lt ?_; k_extra "w my pick") | (refine Nat.ne_of_gt ?_; k_extra "w my pick") | (refine Ne.symm ?_; k_extra "w my pick") | (refine id ?_; k_extra "w my pick") | (refine Nat.le_of_lt ?_; k_extra "w my pick") | exact lrefl | exact lzero | exact one_le | exact room0 (by assumption) | exact room (by assumption) (by decide) | exact room1 (by assumption) (by decide) | exact room2 (by assumption) (by decide) | exact room3 (by assumption) (by decide) | exact le_le (by assumption) (by decide) | exact le_sc (by assumption) | (refine above1' ?_ (by assumption); k_extra "w my pick") | (refine above2' ?_ (by assumption); k_extra "w my pick")))
  (k_with "w my om" => (first | k_extra "w my sml" | lia | omega))
  rfl
/-- the pairs made so far -/
noncomputable def ZG (lo : Addr) (h : Heap) (xs : Array Value) (x : Str) (as : List Addr) : Prop := ∀ (j : Nat) (a : Addr), as[j]? = some a → lo < a ∧ ∃ v c u, xs[j]? = some v ∧ x.cps[j]? = some c ∧ IsPair h a v (.str ⟨#[c]⟩ u)
theorem ZG.keep {lo : Addr} {h h' : Heap} {xs : Array Value} {x : Str} {as : List Addr} (g : ZG lo h xs x as) (hk : ∀ b o, lo < b → h.get? b = some o → h'.get? b = some o) : ZG lo h' xs x as := fun j a e => by
  obtain ⟨l, v, c, u, e1, e2, e3⟩ := g j a e
  exact ⟨l, v, c, u, e1, e2, hk a _ l e3⟩
theorem ZSt.keep {h h' : Heap} {z TI TO i1 i2 l S : Addr} {xs : Array Value} {x : Str} {t : Tok} {i : Nat} (Z : ZSt h z TI TO i1 i2 l S xs x t i) (hk : ∀ b o, b ≠ S → h.get? b = some o → h'.get? b = some o) (n1 : z ≠ S) (n2 : TI ≠ S) (n3 : TO ≠ S) (n4 : i1 ≠ S) (n5 : i2 ≠ S) (n6 : l ≠ S) : ZSt h' z TI TO i1 i2 l S xs x t i := by
  obtain ⟨hown, hTI, ⟨a, b, hTO⟩, h1, h2, hl⟩ := Z
  refine ⟨?_, hk _ _ n2 hTI, ⟨a, b, hk _ _ n3 hTO⟩, h1.at fun o e => hk _ o n4 e, ?_, hl.at fun o e => hk _ o n6 e⟩
  · rcases hown with ⟨e0, e⟩ | ⟨p, f, op, hz, hp, p1, p2, p3, p4, p5⟩
    · exact .inl ⟨e0, hk _ _ n1 e⟩
    · exact .inr ⟨p, f, op, hk _ _ n1 hz, hk _ _ p5 hp, p1, p2, p3, p4, p5⟩
  · obtain ⟨o, ho, r⟩ := h2
    exact ⟨o, hk _ _ n5 ho, r⟩
section
variable {prog : Program} {w : World} {A : Around} {s : Shared} {R : Result → Shared → Prop} {z TI TO i1 i2 l S : Addr} {xs : Array Value} {x : Str} {t : Tok}
theorem zs_loop (hh : A.handled = none) (D : ZApart z TI TO i1 i2 l) (n1 : z < S) (n2 : TI < S) (n3 : TO < S) (n4 : i1 < S) (n5 : i2 < S) (n6 : l < S) (hx : x.cps.size = xs.size) (h0 : 0 < xs.size) (hn : xs.size ≤ 1000) (res : Value) {h₁ : Heap}
    (hR : ∀ h' tk acc c as, (∀ b o, b ≠ S → b ≠ z → b ≠ TO → b ≠ i1 → b ≠ i2 → h₁.get? b = some o → h'.get? b = some o) → h'.get? S = some { cls := .type "list", dict := none, data := .seq acc c, slots := #[] } → as.length = xs.size → ZG S h' xs x as →
      acc.toList = as.map Value.ref → R (.ok (.ret res)) { s with heap := h', toks := tk }) :
    ∀ (k i : Nat) (h : Heap) (tk c : Nat) (acc : Array Value) (as : List Addr), xs.size - i = k → i ≤ xs.size → ZSt h z TI TO i1 i2 l S xs x t i → (∀ b o, b ≠ S → b ≠ z → b ≠ TO → b ≠ i1 → b ≠ i2 → h₁.get? b = some o → h.get? b = some o) →
      h.get? S = some { cls := .type "list", dict := none, data := .seq acc c, slots := #[] } → acc.toList = as.map Value.ref → as.length = i → ZG S h xs x as →
      codeAny (model prog w) A (.builtin "list.extend.loop" ⟨[.ref S, .ref z, res], []⟩) R { s with heap := h, toks := tk } := by
  intro k
  have big : ∀ {b : Addr}, S < b → b ≠ z ∧ b ≠ TO ∧ b ≠ i1 ∧ b ≠ i2 := fun hb => ⟨Nat.ne_of_gt (Nat.lt_trans n1 hb), Nat.ne_of_gt (Nat.lt_trans n3 hb), Nat.ne_of_gt (Nat.lt_trans n4 hb), Nat.ne_of_gt (Nat.lt_trans n5 hb)⟩
  induction k with
  | zero =>
    intro i h tk c acc as hk hi hst hkeep hS hacc hal hG
    have hin : i = xs.size := Nat.le_antisymm hi (Nat.sub_eq_zero_iff_le.mp hk)
    refine codeAny_builtin PySem.F.entry_extend_loop ?_
    rw [Around.under_plainId PySem.F.plain_extend_loop _]
    show wpAny _ A.in1 (pyNext (.ref z) >>= _) _ _ _
    refine wpAny_bind (zs_done (s := { s with heap := h, toks := tk }) (A := A.in1) hh D hst (by k_extra "w my om") (by rw [hin]; exact Array.getElem?_eq_none (Nat.le_refl _)) fun h' he => ?_)
    exact wpAny_pure (hR h' tk acc c as (fun b o h1 h2 h3 h4 h5 e => he b o h2 h3 h4 h5 (hkeep b o h1 h2 h3 h4 h5 e)) (he S _ (Nat.ne_of_gt n1) (Nat.ne_of_gt n3) (Nat.ne_of_gt n4) (Nat.ne_of_gt n5) hS) (by k_extra "w my om") (hG.keep fun b o hb e => he b o (big hb).1 (big hb).2.1 (big hb).2.2.1 (big hb).2.2.2 e) hacc)
  | succ k ih =>
    intro i h tk c acc as hk hi hst hkeep hS hacc hal hG
    have hlt : i < xs.size := Nat.lt_of_sub_pos (hk ▸ Nat.succ_pos _)
    have hsz : acc.size = i := by rw [← Array.length_toList, hacc, List.length_map, hal]
    refine codeAny_builtin PySem.F.entry_extend_loop ?_
    rw [Around.under_plainId PySem.F.plain_extend_loop _]
    show wpAny _ A.in1 (pyNext (.ref z) >>= _) _ _ _
    have hSl : S < h.objs.size := Heap.lt_size hS
    refine wpAny_bind (zs_item (s := { s with heap := h, toks := tk }) D hSl hst (Array.getElem?_eq_getElem hlt) (Array.getElem?_eq_getElem (by k_extra "w my om")) fun h' u tk' hst' ht hz hkp => ?_)
    dsimp only at ht hz hkp ⊢
    have hS' := hkp S _ (Nat.ne_of_gt n1) (Nat.ne_of_gt n3) (Nat.ne_of_gt n4) (Nat.ne_of_gt n5) hS
    have up : ∀ b o, b ≠ S → h'.get? b = some o → (h'.update S (Obj.mapSeq (·.push (Value.ref h.objs.size)))).get? b = some o := fun b o hb e => (Heap.get?_update_other _ _ (Ne.symm hb)).trans e
    show wpAny _ A.in1 (updateSeq S (·.push (Value.ref h.objs.size)) >>= _) _ _ _
    refine wpAny_bind ?_
    refine wpAny_updateSeq hS' rfl (wpAny_pure ⟨plainId_quiet PySem.F.plain_extend_loop _, ih (i + 1) _ tk' _ (acc.push (Value.ref h.objs.size)) (as ++ [h.objs.size]) (by k_extra "w my om") hlt (hst'.keep up (Nat.ne_of_lt n1) (Nat.ne_of_lt n2) (Nat.ne_of_lt n3) (Nat.ne_of_lt n4) (Nat.ne_of_lt n5) (Nat.ne_of_lt n6))
      (fun b o h1 h2 h3 h4 h5 e => up b o h1 (hkp b o h2 h3 h4 h5 (hkeep b o h1 h2 h3 h4 h5 e))) (Heap.get?_update_self _ hS' rfl) (by rw [Array.toList_push, hacc, List.map_append]; rfl) (by rw [List.length_append, hal]; rfl) ?_⟩) (by rw [hsz, sizeLine_eq]; k_extra "w my om") (by show (acc.push (Value.ref h.objs.size)).size ≤ sizeLine + 1; rw [Array.size_push, hsz, sizeLine_eq]; k_extra "w my om")
    intro j b hj
    rcases Nat.lt_trichotomy j as.length with h1 | h1 | h1
    · rw [List.getElem?_append_left h1] at hj
      obtain ⟨hb, v, c', u', e1, e2, e3⟩ := hG j b hj
      exact ⟨hb, v, c', u', e1, e2, up b _ (Nat.ne_of_gt hb) (hkp b _ (big hb).1 (big hb).2.1 (big hb).2.2.1 (big hb).2.2.2 e3)⟩
    · subst h1
      have hb : h.objs.size = b := by simpa using hj
      subst hb
      exact ⟨hSl, _, _, u, by rw [hal]; exact Array.getElem?_eq_getElem hlt, by rw [hal]; exact Array.getElem?_eq_getElem (by k_extra "w my om"), up _ _ (Nat.ne_of_gt hSl) ht⟩
    · have hnone : (as ++ [h.objs.size])[j]? = none := List.getElem?_eq_none (by rw [List.length_append, List.length_singleton]; k_extra "w my om")
      rw [hnone] at hj; cases hj
end
end
section
theorem zip_no_len : typeLookup (.type "zip") "__len__" = pure none := by rw [typeLookup_type, builtinLookup_eq_fast]; kernel_rfl
theorem zip_no_hint : typeLookup (.type "zip") "__length_hint__" = pure none := by rw [typeLookup_type, builtinLookup_eq_fast]; kernel_rfl
noncomputable abbrev zsH1 (h : Heap) (l : Addr) : Heap := h.push { cls := .type "list_iterator", data := .fields #[.ref l, .int 0 0] }
noncomputable abbrev zsH2 (h : Heap) (l : Addr) (x : Str) (t : Tok) : Heap := (zsH1 h l).push { cls := .type "str_ascii_iterator", data := .fields #[.str x t, .int 0 0] }
noncomputable abbrev zsH3 (h : Heap) (l : Addr) (x : Str) (t : Tok) : Heap := (zsH2 h l x t).push { cls := .type "tuple", data := .seq #[.ref h.objs.size, .ref (zsH1 h l).objs.size] }
noncomputable abbrev zsH4 (h : Heap) (l : Addr) (x : Str) (t : Tok) : Heap := (zsH3 h l x t).push { cls := .type "tuple", data := .seq #[.none, .none] }
noncomputable abbrev zsH5 (h : Heap) (l : Addr) (x : Str) (t : Tok) : Heap := (zsH4 h l x t).push { cls := .type "zip", data := .fields #[.none, .bool false, .bool false, .ref (zsH2 h l x t).objs.size, .ref (zsH3 h l x t).objs.size] }
set_option maxHeartbeats 4000000 in
theorem meets_zs (l : Addr) (x : Str) (t : Tok) (hx : x.cps.all (· < 128) = true) (xs : Array Value) :
    Meets (Builtin.«zip.__new__» ⟨[.type "zip", .ref l, .str x t], []⟩) (fun _ R s => s.heap.IsList l xs ∧
      R (.ok (.ret (.ref (zsH4 s.heap l x t).objs.size))) { s with heap := zsH5 s.heap l x t }) :=
  .of_wp fun prog w A R s h => by
    obtain ⟨hp, g, d, tk, os⟩ := s; obtain ⟨hl1, h⟩ := h
    have hsub := sub_zip
    have hL1 : Heap.IsList (Shared.heap ⟨hp, g, d, tk, os⟩) l xs := hl1
    wp_walk using wpAny_pyIter_list hL1, wpAny_pyIter_ascii hx
    exact ⟨_, rfl, h⟩
section
variable {prog : Program} {w : World} {A : Around} {E : Value → Shared → Prop} {s : Shared}
theorem call_zs {l : Addr} {x : Str} {t : Tok} (hx : x.cps.all (· < 128) = true) {xs : Array Value} {Q : Value → Shared → Prop} (hl1 : s.heap.IsList l xs)
    (h : ∀ h', IsZip h' (s.heap.objs.size + 4) (s.heap.objs.size + 2) (s.heap.objs.size + 3) .none → IsPair h' (s.heap.objs.size + 2) (.ref s.heap.objs.size) (.ref (s.heap.objs.size + 1)) →
      IsPair h' (s.heap.objs.size + 3) .none .none → h'.IsListIter s.heap.objs.size l 0 → h'.IsStrIter (s.heap.objs.size + 1) "str_ascii_iterator" x t 0 → h'.objs.size = s.heap.objs.size + 5 →
      (∀ c o, s.heap.get? c = some o → h'.get? c = some o) → Q (.ref (s.heap.objs.size + 4)) { s with heap := h' }) :
    wpAny (model prog w) A (call (.type "zip") [.ref l, .str x t]) Q E s := by
  refine callType_new F.called_zip (by decide) (F.typeCall_zip_2 _ _) (F.newCall_zip_2 _ _) (fun obj => F.args_object_init_3 obj _ _) F.entry_zip_new
    (meets_zs l x t hx xs) ⟨hl1, ?_⟩
  have z1 : (zsH1 s.heap l).objs.size = s.heap.objs.size + 1 := Heap.size_push ..
  have z2 : (zsH2 s.heap l x t).objs.size = s.heap.objs.size + 2 := by rw [Heap.size_push, z1]
  have z3 : (zsH3 s.heap l x t).objs.size = s.heap.objs.size + 3 := by rw [Heap.size_push, z2]
  have z4 : (zsH4 s.heap l x t).objs.size = s.heap.objs.size + 4 := by rw [Heap.size_push, z3]
  have z5 : (zsH5 s.heap l x t).objs.size = s.heap.objs.size + 5 := by rw [Heap.size_push, z4]
  have g5 : (zsH5 s.heap l x t).get? (zsH4 s.heap l x t).objs.size = some _ := Heap.get?_push_size _ rfl
  have g4 : (zsH5 s.heap l x t).get? (zsH3 s.heap l x t).objs.size = some _ := Heap.get?_push_of_some _ (Heap.get?_push_size _ rfl)
  have g3 : (zsH5 s.heap l x t).get? (zsH2 s.heap l x t).objs.size = some _ := Heap.get?_push_of_some _ (Heap.get?_push_of_some _ (Heap.get?_push_size _ rfl))
  have g2 : (zsH5 s.heap l x t).get? (zsH1 s.heap l).objs.size = some _ := Heap.get?_push_of_some _ (Heap.get?_push_of_some _ (Heap.get?_push_of_some _ (Heap.get?_push_size _ rfl)))
  have g1 : (zsH5 s.heap l x t).get? s.heap.objs.size = some _ := Heap.get?_push_of_some _ (Heap.get?_push_of_some _ (Heap.get?_push_of_some _ (Heap.get?_push_of_some _ (Heap.get?_push_size _ rfl))))
  show _ ∧ _
  rw [z2, z3, z4] at g5
  rw [z1, z2] at g3
  rw [z3] at g4
  rw [z1] at g2
  rw [z4]
  exact ⟨⟨_, g5, rfl⟩, h _ g5 g3 g4 ⟨_, g1, rfl, rfl⟩ ⟨_, g2, rfl, rfl⟩ z5 fun c o x =>
    Heap.get?_push_of_some _ (Heap.get?_push_of_some _ (Heap.get?_push_of_some _ (Heap.get?_push_of_some _ (Heap.get?_push_of_some _ x))))⟩
theorem collect_zs {z TI TO i1 i2 l : Addr} {xs : Array Value} {x : Str} {t : Tok} {Q : List Value → Shared → Prop} (hh : A.handled = none) (D : ZApart z TI TO i1 i2 l) (hx : x.cps.size = xs.size) (h0 : 0 < xs.size) (hn : xs.size ≤ 1000)
    (hz : s.heap.get? z = some (zipO .none false TI TO)) (hTI : IsPair s.heap TI (.ref i1) (.ref i2)) {a b : Value} (hTO : IsPair s.heap TO a b) (h1 : s.heap.IsListIter i1 l 0) (h2 : s.heap.IsStrIter i2 "str_ascii_iterator" x t 0) (hl : s.heap.IsList l xs)
    (hQ : ∀ h' tk as, (∀ b o, b ≠ z → b ≠ TO → b ≠ i1 → b ≠ i2 → s.heap.get? b = some o → h'.get? b = some o) → as.length = xs.size → ZG s.heap.objs.size h' xs x as → Q (as.map Value.ref) { s with heap := h', toks := tk }) :
    wpAny (model prog w) A (collect (.ref z)) Q E s := by
  have Z0 : ZSt s.heap z TI TO i1 i2 l s.heap.objs.size xs x t 0 := ⟨.inl ⟨rfl, hz⟩, hTI, ⟨_, _, hTO⟩, h1, h2, hl⟩
  have lz : z < s.heap.objs.size := Heap.lt_size hz
  have lTI : TI < s.heap.objs.size := Heap.lt_size Z0.ti
  have lTO : TO < s.heap.objs.size := let ⟨_, _, e⟩ := Z0.to; Heap.lt_size e
  have li1 : i1 < s.heap.objs.size := let ⟨_, e, _⟩ := Z0.it1; Heap.lt_size e
  have li2 : i2 < s.heap.objs.size := let ⟨_, e, _⟩ := Z0.it2; Heap.lt_size e
  have ll : l < s.heap.objs.size := let ⟨_, e, _⟩ := Z0.li; Heap.lt_size e
  unfold collect
  refine wpAny_bind (wpAny_runValue (codeAny_builtin F.entry_proto_collect ?_))
  rw [Around.under_plainId F.plain_proto_collect _]
  show wpAny _ A.in1 (newList [] >>= fun l => again (.builtin "list.__iadd__" ⟨[l, .ref z], []⟩)) _ _ s
  refine wpAny_bind (wpAny_newObj_type ?_)
  refine wpAny_pure ⟨plainId_quiet F.plain_list_iadd _, codeAny_builtin F.entry_list_iadd ?_⟩
  rw [Around.under_plainId F.plain_list_iadd _]
  show wpAny _ A.in1 (Builtin.List.listExtendWith (.ref s.heap.objs.size) (.ref z) (.ref s.heap.objs.size)) _ _ _
  unfold Builtin.List.listExtendWith
  have hz₁ : (s.heap.push { cls := .type "list", data := .seq ([] : List Value).toArray }).get? z = some (zipO .none false TI TO) := Heap.get?_push_of_some _ hz
  have hT : Shared.TypeIs { s with heap := s.heap.push { cls := .type "list", data := .seq ([] : List Value).toArray } } (.ref z) "zip" := ⟨_, hz₁, rfl⟩
  refine wpAny_bind (wpAny_typeOf hT ?_)
  have h1 : Builtin.List.listSameRef (.ref s.heap.objs.size) (.ref z) = false := by simp [Builtin.List.listSameRef, Nat.ne_of_gt lz]
  have h2 : (Value.type "zip" == Value.type "list") = false := by decide
  have h3 : (Value.type "zip" == Value.type "tuple") = false := by decide
  simp only [h1, h2, h3, Bool.or_false, Bool.false_eq_true, if_false]
  refine wpAny_bind (wpAny_pyIter_zip hz₁ ?_)
  refine wpAny_bind (wpAny_holding ?_)
  unfold Builtin.List.listLengthHint
  refine wpAny_bind (wpAny_specialOf hT zip_no_len ?_)
  show wpAny _ A.in1 (specialOf (Value.ref z) (Str.ofString "__length_hint__") >>= _) _ _ _
  refine wpAny_bind (wpAny_specialOf hT zip_no_hint ?_)
  refine wpAny_pure ?_
  show wpAny _ A.in1 (rule "list.extend.makes-room" >>= fun _ => Builtin.List.listTouch (.ref s.heap.objs.size) >>= fun _ =>
    again (.builtin "list.extend.loop" ⟨[.ref s.heap.objs.size, .ref z, .ref s.heap.objs.size], []⟩)) _ _ _
  refine wpAny_bind (wpAny_rule ?_)
  have hS₁ : (s.heap.push { cls := .type "list", data := .seq ([] : List Value).toArray }).get? s.heap.objs.size = some { cls := .type "list", data := .seq ([] : List Value).toArray } := Heap.get?_push_size _ rfl
  refine wpAny_bind ?_
  show wpAny _ A.in1 (updateSeq s.heap.objs.size (·.push .none) >>= fun _ => updateSeq s.heap.objs.size (·.pop)) _ _ _
  refine wpAny_bind (wpAny_updateSeq hS₁ rfl ?_)
  have hS₂ := Heap.get?_update_self (Obj.mapSeq (·.push Value.none)) hS₁ rfl
  refine wpAny_updateSeq hS₂ rfl ?_
  have hS₃ := Heap.get?_update_self (Obj.mapSeq (·.pop)) hS₂ rfl
  have oth : ∀ b o, b ≠ s.heap.objs.size → (s.heap.push { cls := .type "list", data := .seq ([] : List Value).toArray }).get? b = some o →
      (((s.heap.push { cls := .type "list", data := .seq ([] : List Value).toArray }).update s.heap.objs.size (Obj.mapSeq (·.push Value.none))).update s.heap.objs.size (Obj.mapSeq (·.pop))).get? b = some o :=
    fun b o hb e => (Heap.get?_update_other _ _ (Ne.symm hb)).trans ((Heap.get?_update_other _ _ (Ne.symm hb)).trans e)
  have all : ∀ b o, s.heap.get? b = some o → (((s.heap.push { cls := .type "list", data := .seq ([] : List Value).toArray }).update s.heap.objs.size (Obj.mapSeq (·.push Value.none))).update s.heap.objs.size (Obj.mapSeq (·.pop))).get? b = some o :=
    fun b o e => oth b o (Nat.ne_of_lt (Heap.lt_size e)) (Heap.get?_push_of_some _ e)
  refine wpAny_pure ⟨plainId_quiet F.plain_extend_loop _, zs_loop (s := s) (S := s.heap.objs.size) (h₁ := s.heap) hh D lz lTI lTO li1 li2 ll hx h0 hn _ (fun h' tk acc c as hk hS' hl hG hacc => ?_) xs.size 0 _ _ _ #[] [] (Nat.sub_zero _) (Nat.zero_le _) (Z0.keep (fun b o _ e => all b o e) (Nat.ne_of_lt lz) (Nat.ne_of_lt lTI) (Nat.ne_of_lt lTO) (Nat.ne_of_lt li1) (Nat.ne_of_lt li2) (Nat.ne_of_lt ll))
    (fun b o _ _ _ _ _ e => all b o e) hS₃ rfl rfl (fun j a e => by simp at e)⟩
  show wpAny _ A (load s.heap.objs.size >>= _) _ _ _
  refine wpAny_bind (wpAny_load hS' ?_)
  refine wpAny_pure ?_
  show Q acc.toList _
  rw [hacc]
  exact hQ h' tk as (fun b o h2 h3 h4 h5 e => hk b o (Nat.ne_of_lt (Heap.lt_size e)) h2 h3 h4 h5 e) hl hG
end
end
section
theorem resetSrt : (0 : Nat) = 0 := by
  w_top off
  k_with_none
  (k_with "w my pick" => (with_reducible first | assumption | exact lo1 | exact lo2 | exact lo3 | exact lo4 | exact ls1 (by assumption) | exact ls2 (by assumption) | exact ls3 (by assumption) | exact pk0 (by assumption) | exact pk1 (by assumption) | exact pk2 (by assumption) | exact pk3 (by assumption) | exact pk4 (by assumption) | exact pk5 (by assumption) | exact pk6 (by assumption) | exact pk7 (by assumption) | exact pk8 (by assumption) | exact pk9 (by assumption) | exact pk10 (by assumption) | exact pk11 (by assumption) | exact pk12 (by assumption) | exact pk13 (by assumption) | exact pk14 (by assumption) | exact pk15 (by assumption) | exact pk16 (by assumption) | exact pk17 (by assumption) | exact qk1 (by assumption) | exact qk2 (by assumption) | exact qk3 (by assumption) | exact qk4 (by assumption) | exact qk5 (by assumption) | exact qk6 (by assumption) | exact qk7 (by assumption) | exact qk8 (by assumption) | exact qk9 (by assumption) | exact qk10 (by assumption) | exact qk11 (by assumption) | exact qk12 (by assumption) | exact qk13 (by assumption) | exact qk14 (by assumption) | exact qk15 (by assumption) | exact qk16 (by assumption) | exact qk17 (by assumption)))
  (k_with "w my sml" => (with_reducible first | (refine Nat.ne_of_lt ?_; k_extra "w my pick") | (refine Nat.ne_of_gt ?_; k_extra "w my pick") | (refine Ne.symm ?_; k_extra "w my pick") | (refine id ?_; k_extra "w my pick") | (refine Nat.le_of_lt ?_; k_extra "w my pick") | exact lrefl | exact lzero | exact one_le | exact room0 (by assumption) | exact room (by assumption) (by decide) | exact room1 (by assumption) (by decide) | exact room2 (by assumption) (by decide) | exact room3 (by assumption) (by decide) | exact le_le (by assumption) (by decide) | exact le_sc (by assumption) | (refine above1' ?_ (by assumption); k_extra "w my pick") | (refine above2' ?_ (by assumption); k_extra "w my pick")))
  (k_with "w my om" => (first | k_extra "w my sml" | lia | omega))
  rfl
/-- the sort's answers: a strict total order of the first n -/
structure Ord (n : Nat) (lt : Nat → Nat → Bool) : Prop where
  tr : ∀ {i j k}, lt i j = true → lt j k = true → lt i k = true
  as : ∀ {i j}, lt i j = true → lt j i = false
  tot : ∀ {i j}, i < n → j < n → i ≠ j → lt i j = false → lt j i = true
/-- the sort's questions, answered in an unchanged state -/
noncomputable def Answers (n : Nat) (lt : Nat → Nat → Bool) (cmp : Nat → Nat → (Bool → Shared → Prop) → Shared → Prop) (s : Shared) : Prop :=
  ∀ i j C, i < n → j < n → i ≠ j → C (lt i j) s → cmp i j C s
noncomputable def Prm (n : Nat) (p : Array Nat) : Prop := p.toList.Perm (List.range n)
theorem Prm.size {n : Nat} {p : Array Nat} (h : Prm n p) : p.size = n := by simpa using h.length_eq
theorem get_of {p : Array Nat} {i : Nat} (hi : i < p.size) : p.getD i 0 = p[i] := by simp [Array.getD, hi]
theorem Prm.lt {n : Nat} {p : Array Nat} (h : Prm n p) {i : Nat} (hi : i < n) : p.getD i 0 < n := by
  have hs := h.size
  rw [get_of (by k_extra "w my om")]
  have : p[i]'(by k_extra "w my om") ∈ List.range n := h.mem_iff.mp (by simp)
  simpa using this
theorem Prm.ne {n : Nat} {p : Array Nat} (h : Prm n p) {i j : Nat} (hi : i < n) (hj : j < n) (hij : i ≠ j) : p.getD i 0 ≠ p.getD j 0 := by
  have hs := h.size
  rw [get_of (by k_extra "w my om"), get_of (by k_extra "w my om")]
  have nd : p.toList.Pairwise (· ≠ ·) := (h.symm.nodup List.nodup_range)
  rw [List.pairwise_iff_getElem] at nd
  rcases Nat.lt_or_gt_of_ne hij with c | c
  · exact nd i j (by simp; k_extra "w my om") (by simp; k_extra "w my om") c
  · exact (nd j i (by simp; k_extra "w my om") (by simp; k_extra "w my om") c).symm
theorem Prm.of_perm {n : Nat} {p q : Array Nat} (h : Prm n p) (e : q.Perm p) : Prm n q := e.toList.trans h
noncomputable def Up (lt : Nat → Nat → Bool) (p : Array Nat) (k : Nat) : Prop := ∀ i j, i < j → j < k → lt (p.getD i 0) (p.getD j 0) = true
noncomputable def Down (lt : Nat → Nat → Bool) (p : Array Nat) (k : Nat) : Prop := ∀ i j, i < j → j < k → lt (p.getD j 0) (p.getD i 0) = true
section
variable {n : Nat} {lt : Nat → Nat → Bool} {cmp : Nat → Nat → (Bool → Shared → Prop) → Shared → Prop} {s : Shared}
theorem up_one (p : Array Nat) : Up lt p 1 := fun i j a b => by k_extra "w my om"
theorem Up.more (O : Ord n lt) {p : Array Nat} {k : Nat} (h : Up lt p k) (hk : 1 ≤ k) (e : lt (p.getD (k - 1) 0) (p.getD k 0) = true) : Up lt p (k + 1) := fun i j a b => by
  by_cases c : j < k
  · exact h i j a c
  · have : j = k := Nat.le_antisymm (Nat.le_of_lt_succ b) (Nat.not_lt.mp c)
    subst this
    by_cases d : i = j - 1
    · rw [d]; exact e
    · exact O.tr (h i (j - 1) (Nat.lt_of_le_of_ne (Nat.le_sub_one_of_lt a) d) (Nat.sub_lt hk (by decide))) e
theorem Down.more (O : Ord n lt) {p : Array Nat} {k : Nat} (h : Down lt p k) (hk : 1 ≤ k) (e : lt (p.getD k 0) (p.getD (k - 1) 0) = true) : Down lt p (k + 1) := fun i j a b => by
  by_cases c : j < k
  · exact h i j a c
  · have : j = k := Nat.le_antisymm (Nat.le_of_lt_succ b) (Nat.not_lt.mp c)
    subst this
    by_cases d : i = j - 1
    · rw [d]; exact e
    · exact O.tr e (h i (j - 1) (Nat.lt_of_le_of_ne (Nat.le_sub_one_of_lt a) d) (Nat.sub_lt hk (by decide)))
theorem nxt {k f n : Nat} (hf : k + (f + 1) = n) (h1 : 1 ≤ k) : k < n ∧ k + 1 + f = n ∧ k - 1 < k ∧ k - 1 < n := by
  have a : k < n := by rw [← hf]; exact Nat.lt_add_of_pos_right (Nat.succ_pos f)
  have b : k - 1 < k := Nat.sub_lt h1 (by decide)
  exact ⟨a, by rw [← hf]; exact Nat.add_right_comm k 1 f, b, Nat.lt_trans b a⟩
theorem mid {l r : Nat} (h : ¬ l ≥ r) : l ≤ (l + r) / 2 ∧ (l + r) / 2 < r := by k_extra "w my om"
theorem srt_asc (O : Ord n lt) (hc : Answers n lt cmp s) {p : Array Nat} (hp : Prm n p) {Q : Nat → Shared → Prop} : ∀ f k, k + f = n → 1 ≤ k → Up lt p k →
    (∀ m, k ≤ m → m ≤ n → Up lt p m → (m = n ∨ lt (p.getD m 0) (p.getD (m - 1) 0) = true) → Q m s) → (kas_asc p f k).kasWp cmp Q s := by
  intro FF
  induction FF with
  | zero =>
    intro k hf h1 hu hq
    exact hq k (Nat.le_refl _) (by k_extra "w my om") hu (.inl (by k_extra "w my om"))
  | succ f ih =>
    intro k hf h1 hu hq
    obtain ⟨hkn, hkf, hk1, hk1n⟩ := nxt hf h1
    have hkn' := Nat.le_of_lt hkn
    refine hc _ _ _ (hp.lt (by k_extra "w my om")) (hp.lt (by k_extra "w my om")) (hp.ne (by k_extra "w my om") (by k_extra "w my om") (by k_extra "w my om")) ?_
    cases e : lt (p.getD k 0) (p.getD (k - 1) 0) with
    | true =>
      simp only [if_true]
      exact hq k (Nat.le_refl _) (by k_extra "w my om") hu (.inr e)
    | false =>
      simp only [Bool.false_eq_true, if_false]
      exact ih (k + 1) hkf (Nat.succ_le_succ (Nat.zero_le _)) (hu.more O h1 (O.tot (hp.lt (by k_extra "w my om")) (hp.lt (by k_extra "w my om")) (hp.ne (by k_extra "w my om") (by k_extra "w my om") (by k_extra "w my om")) e)) fun m a b => hq m (Nat.le_of_succ_le a) b
theorem srt_desc (O : Ord n lt) (hc : Answers n lt cmp s) {p : Array Nat} (hp : Prm n p) {Q : Array Nat × Nat × Nat → Shared → Prop} : ∀ f k, k + f = n → 1 ≤ k → Down lt p k →
    (∀ m, k ≤ m → m ≤ n → Down lt p m → Q (p, m, 0) s) → (kas_desc f p k 0).kasWp cmp Q s := by
  intro FF
  induction FF with
  | zero =>
    intro k hf h1 hu hq
    exact hq k (Nat.le_refl _) (by k_extra "w my om") hu
  | succ f ih =>
    intro k hf h1 hu hq
    obtain ⟨hkn, hkf, hk1, hk1n⟩ := nxt hf h1
    have hkn' := Nat.le_of_lt hkn
    refine hc _ _ _ (hp.lt (by k_extra "w my om")) (hp.lt (by k_extra "w my om")) (hp.ne (by k_extra "w my om") (by k_extra "w my om") (by k_extra "w my om")) ?_
    cases e : lt (p.getD k 0) (p.getD (k - 1) 0) with
    | true =>
      simp only [if_true, gt_iff_lt, Nat.lt_irrefl, if_false]
      exact ih (k + 1) hkf (Nat.succ_le_succ (Nat.zero_le _)) (hu.more O h1 e) fun m a b => hq m (Nat.le_of_succ_le a) b
    | false =>
      simp only [Bool.false_eq_true, if_false]
      refine hc _ _ _ (hp.lt (by k_extra "w my om")) (hp.lt (by k_extra "w my om")) (hp.ne (by k_extra "w my om") (by k_extra "w my om") (by k_extra "w my om")) ?_
      rw [O.tot (hp.lt (by k_extra "w my om")) (hp.lt (by k_extra "w my om")) (hp.ne (by k_extra "w my om") (by k_extra "w my om") (by k_extra "w my om")) e]
      simp only [if_true]
      exact hq k (Nat.le_refl _) (by k_extra "w my om") hu
theorem rev_get {p : Array Nat} {m i : Nat} (hm : m ≤ p.size) (hi : i < m) : (kas_rev p 0 m).getD i 0 = p.getD (m - 1 - i) 0 := by
  have e := getElem?_mirror_all (xs := p) (i := 0) (j := m) hm i
  rw [if_pos (by k_extra "w my om")] at e
  rw [Array.getD_eq_getD_getElem?, Array.getD_eq_getD_getElem?]
  unfold kas_rev
  rw [e, Nat.zero_add]
theorem srt_tail (O : Ord n lt) (hc : Answers n lt cmp s) {p : Array Nat} (hp : Prm n p) {m : Nat} (h1 : 1 ≤ m) (hm : m ≤ n) (hd : Down lt p m) {Q : Nat × Array Nat → Shared → Prop}
    (hq : ∀ k q, 1 ≤ k → k ≤ n → Prm n q → Up lt q k → Q (k, q) s) : (kas_tail3 m n p).kasWp cmp Q s := by
  unfold kas_tail3
  rw [KasT.kasWp_bind]
  have hp' : Prm n (kas_rev p 0 m) := hp.of_perm (mirror_perm _ _ _ _)
  have hs := hp.size
  have hm' : m ≤ p.size := hs ▸ hm
  refine srt_asc O hc hp' (n - m) m (Nat.add_sub_cancel' hm) h1 (fun i j a b => ?_) fun k a b u _ => hq k _ (Nat.le_trans h1 a) b hp' u
  have c := Nat.lt_trans a b
  rw [rev_get hm' c, rev_get hm' b]
  have hm1 : m - 1 < m := Nat.sub_lt h1 (by decide)
  exact hd _ _ (Nat.sub_lt_sub_left (Nat.lt_of_lt_of_le a (Nat.le_sub_one_of_lt b)) a) (Nat.lt_of_le_of_lt (Nat.sub_le _ _) hm1)
theorem srt_count (O : Ord n lt) (hc : Answers n lt cmp s) (hn : 1 ≤ n) {p : Array Nat} (hp : Prm n p) {Q : Nat × Array Nat → Shared → Prop}
    (hq : ∀ k q, 1 ≤ k → k ≤ n → Prm n q → Up lt q k → Q (k, q) s) : (kas_count n p).kasWp cmp Q s := by
  unfold kas_count
  rw [KasT.kasWp_bind]
  refine srt_asc O hc hp (n - 1) 1 (Nat.add_sub_cancel' hn) (Nat.le_refl _) (up_one p) fun k a b u e => ?_
  by_cases hk : k = n
  · rw [if_pos (by simp [hk])]
    exact hq k p a b hp u
  rw [if_neg (by simp [hk])]
  have e := e.resolve_left hk
  by_cases h1 : k > 1
  · rw [if_pos h1]
    have k0 : 0 < k - 1 := Nat.sub_pos_of_lt h1
    have k1 : k - 1 < k := Nat.sub_lt a (by decide)
    have k2 := Nat.lt_of_lt_of_le k1 b
    have k3 := Nat.lt_trans k0 k2
    refine hc _ _ _ (hp.lt (by k_extra "w my om")) (hp.lt (by k_extra "w my om")) (hp.ne (by k_extra "w my om") (by k_extra "w my om") (by k_extra "w my om")) ?_
    rw [u 0 (k - 1) (by k_extra "w my om") (by k_extra "w my om")]
    simp only [if_true]
    exact hq k p a b hp u
  rw [if_neg h1]
  have : k = 1 := Nat.le_antisymm (Nat.not_lt.mp h1) a
  subst this
  unfold kas_descPart
  rw [KasT.kasWp_bind]
  refine srt_desc O hc hp (n - (1 + 1)) (1 + 1) (Nat.add_sub_cancel' (Nat.lt_of_le_of_ne hn hk)) (by decide) (fun i j a b => ?_) fun m a b d => ?_
  · match i, j, a, b with
    | 0, 1, _, _ => exact e
    | 0, 0, a, _ => exact absurd a (Nat.lt_irrefl _)
    | i + 1, 1, a, _ => exact absurd a (Nat.not_lt.mpr (Nat.succ_le_succ (Nat.zero_le _)))
    | i + 1, 0, a, _ => exact absurd a (Nat.not_lt_zero _)
    | _, j + 2, _, b => exact absurd b (Nat.not_lt.mpr (Nat.le_add_left 2 j))
  · rw [if_neg (Nat.lt_irrefl 0)]
    exact srt_tail O hc hp (Nat.le_trans (by decide) a) b d hq
theorem srt_place (O : Ord n lt) (hc : Answers n lt cmp s) {p : Array Nat} (hp : Prm n p) {k : Nat} (hk : k < n) (hu : Up lt p k) {Q : Nat → Shared → Prop} : ∀ f l r, r ≤ k → l ≤ r → r - l ≤ f →
    (∀ i, i < l → lt (p.getD i 0) (p.getD k 0) = true) → (∀ i, r ≤ i → i < k → lt (p.getD k 0) (p.getD i 0) = true) →
    (∀ m, m ≤ k → (∀ i, i < m → lt (p.getD i 0) (p.getD k 0) = true) → (∀ i, m ≤ i → i < k → lt (p.getD k 0) (p.getD i 0) = true) → Q m s) → (kas_place p k f l r).kasWp cmp Q s := by
  intro FF
  induction FF with
  | zero =>
    intro l r hr hl hf h1 h2 hq
    have : l = r := Nat.le_antisymm hl (Nat.sub_eq_zero_iff_le.mp (Nat.le_zero.mp hf))
    subst this
    exact hq l hr h1 h2
  | succ f ih =>
    intro l r hr hl hf h1 h2 hq
    unfold kas_place
    by_cases hlr : l ≥ r
    · rw [if_pos hlr]
      have : l = r := Nat.le_antisymm hl hlr
      subst this
      exact hq l hr h1 h2
    rw [if_neg hlr]
    obtain ⟨m1, m2⟩ := mid hlr
    have m3 := Nat.lt_of_lt_of_le m2 hr
    have m4 := Nat.lt_trans m3 hk
    have m5 := Nat.le_of_lt m3
    have m6 : (l + r) / 2 - l ≤ f := Nat.le_of_lt_succ (Nat.lt_of_lt_of_le (Nat.sub_lt_sub_right m1 m2) hf)
    have m7 : r - ((l + r) / 2 + 1) ≤ f := Nat.le_of_lt_succ (Nat.lt_of_lt_of_le (Nat.sub_lt_sub_left (Nat.lt_of_le_of_lt m1 m2) (Nat.lt_succ_of_le m1)) hf)
    refine hc _ _ _ (hp.lt (by k_extra "w my om")) (hp.lt (by k_extra "w my om")) (hp.ne (by k_extra "w my om") (by k_extra "w my om") (by k_extra "w my om")) ?_
    cases e : lt (p.getD k 0) (p.getD ((l + r) / 2) 0) with
    | true =>
      simp only [if_true]
      refine ih l ((l + r) / 2) (by k_extra "w my om") (by k_extra "w my om") (by k_extra "w my om") h1 (fun i a b => ?_) hq
      by_cases c : i = (l + r) / 2
      · rw [c]; exact e
      · exact O.tr e (hu _ _ (Nat.lt_of_le_of_ne a (Ne.symm c)) b)
    | false =>
      simp only [Bool.false_eq_true, if_false]
      have e' := O.tot (hp.lt (by k_extra "w my om")) (hp.lt (by k_extra "w my om")) (hp.ne (by k_extra "w my om") (by k_extra "w my om") (by k_extra "w my om")) e
      refine ih ((l + r) / 2 + 1) r hr (by k_extra "w my om") (by k_extra "w my om") (fun i a => ?_) h2 hq
      by_cases c : i = (l + r) / 2
      · rw [c]; exact e'
      · exact O.tr (hu i ((l + r) / 2) (Nat.lt_of_le_of_ne (Nat.le_of_lt_succ a) c) m3) e'
theorem bub_get {p : Array Nat} {k l i : Nat} (hk : k < p.size) (hl : l ≤ k) : (bubble p k (k - l)).getD i 0 = if i = l then p.getD k 0 else if l < i ∧ i ≤ k then p.getD (i - 1) 0 else p.getD i 0 := by
  have e := getElem?_bubble hk (k - l) (Nat.sub_le _ _) i
  rw [Nat.sub_sub_self hl] at e
  simp only [Array.getD_eq_getD_getElem?]
  rw [e]
  split
  · rfl
  · split <;> rfl
theorem srt_bin (O : Ord n lt) (hc : Answers n lt cmp s) {Q : Array Nat → Shared → Prop} : ∀ f k (p : Array Nat), k + f = n → Prm n p → Up lt p k →
    (∀ q, Prm n q → Up lt q n → Q q s) → (kas_bin f p k).kasWp cmp Q s := by
  intro FF
  induction FF with
  | zero =>
    intro k p hf hp hu hq
    have : k = n := hf
    subst this
    exact hq p hp hu
  | succ f ih =>
    intro k p hf hp hu hq
    have hkn : k < n := by rw [← hf]; exact Nat.lt_add_of_pos_right (Nat.succ_pos f)
    have hkf : k + 1 + f = n := by rw [← hf]; exact Nat.add_right_comm k 1 f
    unfold kas_bin
    rw [KasT.kasWp_bind]
    refine srt_place O hc hp hkn hu k 0 k (Nat.le_refl _) (Nat.zero_le _) (Nat.sub_le _ _) (fun i h => absurd h (Nat.not_lt_zero _)) (fun i a b => absurd b (Nat.not_lt.mpr a)) fun m hm h1 h2 => ?_
    have hs : k < p.size := hp.size.symm ▸ hkn
    refine ih (k + 1) _ hkf (hp.of_perm (bubble_perm _ _ _)) (fun i j a b => ?_) hq
    rw [bub_get hs hm, bub_get hs hm]
    have b' := Nat.le_of_lt_succ b
    by_cases i1 : i = m
    · have mj : m < j := i1 ▸ a
      rw [if_pos i1, if_neg (Nat.ne_of_gt mj), if_pos ⟨mj, b'⟩]
      exact h2 _ (Nat.le_sub_one_of_lt mj) (Nat.lt_of_lt_of_le (Nat.sub_lt (Nat.lt_of_le_of_lt (Nat.zero_le _) mj) (by decide)) b')
    rw [if_neg i1]
    by_cases j1 : j = m
    · rw [if_pos j1, if_neg fun q => absurd (j1 ▸ a) (Nat.not_lt.mpr (Nat.le_of_lt q.1))]
      exact h1 _ (j1 ▸ a)
    rw [if_neg j1]
    have jk : 0 < j → j - 1 < k := fun h => Nat.lt_of_lt_of_le (Nat.sub_lt h (by decide)) b'
    have j0 := Nat.lt_of_le_of_lt (Nat.zero_le _) a
    by_cases i2 : m < i ∧ i ≤ k
    · have mj := Nat.lt_trans i2.1 a
      rw [if_pos i2, if_pos ⟨mj, b'⟩]
      exact hu _ _ (Nat.sub_lt_sub_right (Nat.lt_of_le_of_lt (Nat.zero_le _) i2.1) a) (jk j0)
    rw [if_neg i2]
    have im : i < m := Nat.lt_of_le_of_ne (Nat.not_lt.mp fun q => i2 ⟨q, Nat.le_trans (Nat.le_of_lt a) b'⟩) i1
    by_cases j2 : m < j ∧ j ≤ k
    · rw [if_pos j2]
      exact hu _ _ (Nat.lt_of_lt_of_le im (Nat.le_sub_one_of_lt j2.1)) (jk j0)
    · rw [if_neg j2]
      have jm : j < m := Nat.lt_of_le_of_ne (Nat.not_lt.mp fun q => j2 ⟨q, b'⟩) j1
      exact hu _ _ a (Nat.lt_of_lt_of_le jm hm)
theorem srt_sort (O : Ord n lt) (hc : Answers n lt cmp s) (hn : 1 ≤ n) {Q : Array Nat → Shared → Prop} (hq : ∀ q, Prm n q → Up lt q n → Q q s) : (kas_sort n).kasWp cmp Q s := by
  unfold kas_sort
  rw [KasT.kasWp_bind]
  refine srt_count O hc hn (p := List.toArray (List.range n)) (.refl _) fun k q h1 h2 hp hu => ?_
  by_cases hk : k < n
  · dsimp only
    rw [if_pos hk, Nat.max_eq_left h1]
    exact srt_bin O hc _ _ _ (Nat.add_sub_cancel' h2) hp hu hq
  · dsimp only
    rw [if_neg hk]
    have : k = n := Nat.le_antisymm h2 (Nat.not_lt.mp hk)
    subst this
    exact hq q hp hu
end
theorem up_pairwise {n : Nat} {lt : Nat → Nat → Bool} {p : Array Nat} (hp : Prm n p) (h : Up lt p n) : p.toList.Pairwise fun a b => lt a b = true := by
  rw [List.pairwise_iff_getElem]
  intro i j hi hj hij
  have hs := hp.size
  have := h i j hij (by simpa [hs] using hj)
  rw [get_of (by simpa using hi), get_of (by simpa using hj)] at this
  simpa using this
theorem sorted_eq {n : Nat} {lt : Nat → Nat → Bool} (O : Ord n lt) {p : Array Nat} (hp : Prm n p) (h : Up lt p n) {js : List Nat} (hj : js.Perm (List.range n)) (hs : js.Pairwise fun a b => lt a b = true) : p.toList = js :=
  List.Perm.eq_of_pairwise (fun a b _ _ h1 h2 => by rw [O.as h1] at h2; cases h2) (up_pairwise hp h) hs (hp.trans hj.symm)
end
section
theorem resetEqP : (0 : Nat) = 0 := by
  w_top off
  k_with_none
  (k_with "w my pick" => (with_reducible first | assumption | exact lo1 | exact lo2 | exact lo3 | exact lo4 | exact ls1 (by assumption) | exact ls2 (by assumption) | exact ls3 (by assumption) | exact pk0 (by assumption) | exact pk1 (by assumption) | exact pk2 (by assumption) | exact pk3 (by assumption) | exact pk4 (by assumption) | exact pk5 (by assumption) | exact pk6 (by assumption) | exact pk7 (by assumption) | exact pk8 (by assumption) | exact pk9 (by assumption) | exact pk10 (by assumption) | exact pk11 (by assumption) | exact pk12 (by assumption) | exact pk13 (by assumption) | exact pk14 (by assumption) | exact pk15 (by assumption) | exact pk16 (by assumption) | exact pk17 (by assumption) | exact qk1 (by assumption) | exact qk2 (by assumption) | exact qk3 (by assumption) | exact qk4 (by assumption) | exact qk5 (by assumption) | exact qk6 (by assumption) | exact qk7 (by assumption) | exact qk8 (by assumption) | exact qk9 (by assumption) | exact qk10 (by assumption) | exact qk11 (by assumption) | exact qk12 (by assumption) | exact qk13 (by assumption) | exact qk14 (by assumption) | exact qk15 (by assumption) | exact qk16 (by assumption) | exact qk17 (by assumption)))
  (k_with "w my sml" => (with_reducible first | (refine Nat.ne_of_lt ?_; k_extra "w my pick") | (refine Nat.ne_of_gt ?_; k_extra "w my pick") | (refine Ne.symm ?_; k_extra "w my pick") | (refine id ?_; k_extra "w my pick") | (refine Nat.le_of_lt ?_; k_extra "w my pick") | exact lrefl | exact lzero | exact one_le | exact room0 (by assumption) | exact room (by assumption) (by decide) | exact room1 (by assumption) (by decide) | exact room2 (by assumption) (by decide) | exact room3 (by assumption) (by decide) | exact le_le (by assumption) (by decide) | exact le_sc (by assumption) | (refine above1' ?_ (by assumption); k_extra "w my pick") | (refine above2' ?_ (by assumption); k_extra "w my pick")))
  (k_with "w my om" => (first | k_extra "w my sml" | lia | omega))
  rfl
open PySem.SeqAt
/-- data that a list's == goes through -/
structure Flat2 (d : PyData) : Prop where
  lay : d.canLay0 = true
  dep : d.depth ≤ 2
  mix : noMix d d = true
  same : PySem.Spec.same d d = true
theorem canLayAll0_of {ds : List PyData} (h : ∀ d ∈ ds, Flat2 d) : PyData.canLayAll0 ds = true := by
  induction ds with
  | nil => simp [PyData.canLayAll0]
  | cons d ds ih => simp [PyData.canLayAll0, (h d (.head _)).lay, ih fun e he => h e (.tail _ he)]
theorem depthAll_of {ds : List PyData} (h : ∀ d ∈ ds, Flat2 d) : PyData.depthAll ds ≤ 2 := by
  induction ds with
  | nil => simp [PyData.depthAll]
  | cons d ds ih =>
    have h1 := (h d (.head _)).dep
    have h2 := ih fun e he => h e (.tail _ he)
    simp only [PyData.depthAll]
    k_extra "w my om"
theorem noMixAll_of {ds : List PyData} (h : ∀ d ∈ ds, Flat2 d) : noMixAll ds ds = true := by
  induction ds with
  | nil => simp [noMixAll]
  | cons d ds ih => simp [noMixAll, (h d (.head _)).mix, ih fun e he => h e (.tail _ he)]
theorem sameAll_of {ds : List PyData} (h : ∀ d ∈ ds, Flat2 d) : PySem.Spec.sameAll ds ds = true := by
  induction ds with
  | nil => simp [PySem.Spec.sameAll]
  | cons d ds ih => simp [PySem.Spec.sameAll, (h d (.head _)).same, ih fun e he => h e (.tail _ he)]
theorem shaped_of {ds : List PyData} (h : ∀ d ∈ ds, Flat2 d) : shaped (.list ds) = true := by
  have h1 := depthAll_of h
  have h2 : PyData.depth (.list ds) ≤ 64 := by simp only [PyData.depth]; k_extra "w my om"
  show (PyData.canLay0 (.list ds) && decide (PyData.depth (.list ds) ≤ 64)) = true
  rw [Bool.and_eq_true]
  exact ⟨by simp only [PyData.canLay0]; exact canLayAll0_of h, decide_eq_true h2⟩
noncomputable def pSI (p : Str × Int) : PyData := .tuple [.str p.1, .int p.2]
noncomputable def pII (p : Int × Int) : PyData := .tuple [.int p.1, .int p.2]
theorem pSI_flat (p : Str × Int) (h : PyData.strOk p.1 = true) : Flat2 (pSI p) := by
  refine ⟨?_, ?_, ?_, ?_⟩ <;> unfold pSI
  · simp [PyData.canLay0, PyData.canLayAll0, h]
  · simp [PyData.depth, PyData.depthAll]
  · simp [noMix, noMixAll]
  · simp [PySem.Spec.same, PySem.Spec.sameAll]
theorem pII_flat (p : Int × Int) : Flat2 (pII p) := by
  refine ⟨?_, ?_, ?_, ?_⟩ <;> unfold pII
  · simp [PyData.canLay0, PyData.canLayAll0]
  · simp [PyData.depth, PyData.depthAll]
  · simp [noMix, noMixAll]
  · simp [PySem.Spec.same, PySem.Spec.sameAll]
/-- two lists of the same flat data: != tells no -/
theorem ne_flat_no {prog : Program} {w : World} {A : Around} {E : Value → Shared → Prop} {s : Shared} {a b : Addr} {ds : List PyData} {as bs : List Addr} {Q : Value → Shared → Prop} (ha : Reads s.heap (.ref a) (.list ds) as) (hb : Reads s.heap (.ref b) (.list ds) bs) (hf : ∀ d ∈ ds, Flat2 d) (hu : A.units + 64 < cLine)
    (h : Q (.bool false) s) : wpAny (model prog w) A (compareOp .NotEq (.ref a) (.ref b)) Q E s :=
  ne_data_no ha hb (shaped_of hf) hu (by simp only [noMix]; exact noMixAll_of hf) (by simp only [PySem.Spec.same]; exact sameAll_of hf) h
theorem reads_pairs {h : Heap} {nw : List (Addr × Obj)} (N : ∀ q ∈ nw, h.get? q.1 = some q.2) : ∀ {ys : List Value} {ps : List (Str × Int)}, All2 (PairIn nw) ys ps → ∃ as, ReadsAll h ys (ps.map pSI) as := fun H => by
  induction H with
  | nil => exact ⟨_, .nil⟩
  | cons H _ ih =>
    obtain ⟨a, t, u, e, hm⟩ := H
    obtain ⟨as, hr⟩ := ih
    subst e
    exact ⟨_, .cons (.tuple (N _ hm) rfl rfl (.cons (.str _ _) (.cons (.int _ _) .nil))) hr⟩
theorem ppl_pairs {a : PplA} {nw : List (Addr × Obj)} (h : ∀ q ∈ pplLed a, q ∈ nw) : All2 (PairIn nw) [.ref a.p0, .ref a.p1, .ref a.p2, .ref a.p3] [(a.y0, a.k0), (a.y1, a.k1), (a.y2, a.k2), (a.y3, a.k3)] :=
  .cons ⟨_, a.t0, a.u0, rfl, h _ (.tail _ (.head _))⟩ (.cons ⟨_, a.t1, a.u1, rfl, h _ (.tail _ (.tail _ (.head _)))⟩ (.cons ⟨_, a.t2, a.u2, rfl, h _ (.tail _ (.tail _ (.tail _ (.head _))))⟩ (.cons ⟨_, a.t3, a.u3, rfl, h _ (.tail _ (.tail _ (.tail _ (.tail _ (.head _)))))⟩ .nil)))
/-- two rows of people, told by the same pairs -/
theorem ne_ppl_no {prog : Program} {w : World} {A : Around} {E : Value → Shared → Prop} {s : Shared} {g : Heap} {L D : Addr} {a : PplA} {nw : List (Addr × Obj)} {ys : List Value} {n : Nat} {ps : List (Str × Int)} {Q : Value → Shared → Prop} (N : News g L s.heap nw) (ha : ∀ q ∈ pplLed a, q ∈ nw) (hD : (D, listOf ys.toArray n) ∈ nw) (hy : All2 (PairIn nw) ys ps) (e : [(a.y0, a.k0), (a.y1, a.k1), (a.y2, a.k2), (a.y3, a.k3)] = ps) (hs : ∀ p ∈ ps, PyData.strOk p.1 = true) (hu : A.units + 64 < cLine)
    (h : Q (.bool false) s) : wpAny (model prog w) A (compareOp .NotEq (.ref a.l) (.ref D)) Q E s := by
  subst e
  obtain ⟨as, r1⟩ := reads_pairs (fun q hq => N.get hq) (ppl_pairs ha)
  obtain ⟨bs, r2⟩ := reads_pairs (fun q hq => N.get hq) hy
  exact ne_flat_no (Reads.list (N.get (ha _ (.head _))) rfl rfl r1) (Reads.list (N.get hD) rfl rfl r2) (fun d hd => by obtain ⟨p, hp, rfl⟩ := List.mem_map.mp hd; exact pSI_flat p (hs p hp)) hu h
end
section
theorem resetSrtT : (0 : Nat) = 0 := by
  w_top off
  k_with_none
  (k_with "w my pick" => (with_reducible first | assumption | exact lo1 | exact lo2 | exact lo3 | exact lo4 | exact ls1 (by assumption) | exact ls2 (by assumption) | exact ls3 (by assumption) | exact pk0 (by assumption) | exact pk1 (by assumption) | exact pk2 (by assumption) | exact pk3 (by assumption) | exact pk4 (by assumption) | exact pk5 (by assumption) | exact pk6 (by assumption) | exact pk7 (by assumption) | exact pk8 (by assumption) | exact pk9 (by assumption) | exact pk10 (by assumption) | exact pk11 (by assumption) | exact pk12 (by assumption) | exact pk13 (by assumption) | exact pk14 (by assumption) | exact pk15 (by assumption) | exact pk16 (by assumption) | exact pk17 (by assumption) | exact qk1 (by assumption) | exact qk2 (by assumption) | exact qk3 (by assumption) | exact qk4 (by assumption) | exact qk5 (by assumption) | exact qk6 (by assumption) | exact qk7 (by assumption) | exact qk8 (by assumption) | exact qk9 (by assumption) | exact qk10 (by assumption) | exact qk11 (by assumption) | exact qk12 (by assumption) | exact qk13 (by assumption) | exact qk14 (by assumption) | exact qk15 (by assumption) | exact qk16 (by assumption) | exact qk17 (by assumption)))
  (k_with "w my sml" => (with_reducible first | (refine Nat.ne_of_lt ?_; k_extra "w my pick") | (refine Nat.ne_of_gt ?_; k_extra "w my pick") | (refine Ne.symm ?_; k_extra "w my pick") | (refine id ?_; k_extra "w my pick") | (refine Nat.le_of_lt ?_; k_extra "w my pick") | exact lrefl | exact lzero | exact one_le | exact room0 (by assumption) | exact room (by assumption) (by decide) | exact room1 (by assumption) (by decide) | exact room2 (by assumption) (by decide) | exact room3 (by assumption) (by decide) | exact le_le (by assumption) (by decide) | exact le_sc (by assumption) | (refine above1' ?_ (by assumption); k_extra "w my pick") | (refine above2' ?_ (by assumption); k_extra "w my pick")))
  (k_with "w my om" => (first | k_extra "w my sml" | lia | omega))
  rfl
/-- the values are tuples, the i-th one of x i and b i -/
noncomputable def Tups (h : Heap) (n : Nat) (vs : List Value) (x : Nat → Int) (b : Nat → Tok → Value) : Prop := ∀ i, i < n → ∃ P t u, vs[i]? = some (.ref P) ∧ h.get? P = some (tup2 (.int (x i) t) (b i u))
theorem Tups.getD {h : Heap} {n : Nat} {vs : List Value} {x : Nat → Int} {b : Nat → Tok → Value} (H : Tups h n vs x b) {i : Nat} (hi : i < n) : ∃ P t u, vs.getD i Value.none = .ref P ∧ h.get? P = some (tup2 (.int (x i) t) (b i u)) := by
  obtain ⟨P, t, u, e, g⟩ := H i hi
  exact ⟨P, t, u, by simp [e], g⟩
noncomputable abbrev lex2 (x : Nat → Int) (l2 : Nat → Nat → Bool) (i j : Nat) : Bool := decide (x i < x j) || (decide (x i = x j) && l2 i j)
theorem lex2_ord {n : Nat} {x : Nat → Int} {l2 : Nat → Nat → Bool} (O : Ord n l2) : Ord n (lex2 x l2) where
  tr := fun {i j k} h1 h2 => by
    simp only [Bool.or_eq_true, Bool.and_eq_true, decide_eq_true_eq] at h1 h2 ⊢
    rcases h1 with h1 | ⟨e1, h1⟩ <;> rcases h2 with h2 | ⟨e2, h2⟩
    · exact .inl (by k_extra "w my om")
    · exact .inl (by k_extra "w my om")
    · exact .inl (by k_extra "w my om")
    · exact .inr ⟨by k_extra "w my om", O.tr h1 h2⟩
  as := fun {i j} h1 => by
    simp only [Bool.or_eq_true, Bool.and_eq_true, decide_eq_true_eq] at h1
    simp only [Bool.or_eq_false_iff, Bool.and_eq_false_iff, decide_eq_false_iff_not]
    rcases h1 with h1 | ⟨e1, h1⟩
    · exact ⟨by k_extra "w my om", .inl (by k_extra "w my om")⟩
    · exact ⟨by k_extra "w my om", .inr (O.as h1)⟩
  tot := fun {i j} hi hj hij h1 => by
    simp only [Bool.or_eq_false_iff, Bool.and_eq_false_iff, decide_eq_false_iff_not] at h1
    simp only [Bool.or_eq_true, Bool.and_eq_true, decide_eq_true_eq]
    obtain ⟨h1, h2⟩ := h1
    by_cases e : x i = x j
    · exact .inr ⟨e.symm, O.tot hi hj hij (h2.resolve_left fun q => q e)⟩
    · exact .inl (by k_extra "w my om")
theorem ans_tups {prog : Program} {w : World} {A : Around} {s : Shared} {n : Nat} {vs : List Value} {x : Nat → Int} {b : Nat → Tok → Value} {l2 : Nat → Nat → Bool} (H : Tups s.heap n vs x b)
    (heq : ∀ i j t u, i < n → j < n → i ≠ j → ∀ {Q : Bool → Shared → Prop}, Q false s → wpAny (model prog w) A (eqBool (b i t) (b j u)) Q (fun _ _ => False) s)
    (hlt : ∀ i j t u, i < n → j < n → i ≠ j → ∀ {Q : Value → Shared → Prop}, Q (.bool (l2 i j)) s → wpAny (model prog w) A (compareOp .Lt (b i t) (b j u)) Q (fun _ _ => False) s) :
    Answers n (lex2 x l2) (kas_ask prog w A (tuples' true) vs) s := by
  intro i j C hi hj hij hC
  obtain ⟨P, t, u, e1, g1⟩ := H.getD hi
  obtain ⟨P', t', u', e2, g2⟩ := H.getD hj
  unfold kas_ask
  rw [e1, e2]
  refine kat_lt g1 rfl g2 rfl ?_
  refine kat_cons (wpAny_eqBool_int ?_)
  by_cases e : x i = x j
  · rw [beq_iff_eq.mpr e]
    refine kat_yes (kat_cons (heq i j u u' hi hj hij ?_))
    refine kat_no ?_
    refine kat_one _ _ (hlt i j u u' hi hj hij ?_)
    show C (l2 i j) s
    have : lex2 x l2 i j = l2 i j := by simp [lex2, e]
    rw [← this]; exact hC
  · rw [beq_eq_false_iff_ne.mpr e]
    refine kat_no ?_
    refine oneLt_int ?_
    have : lex2 x l2 i j = decide (x i < x j) := by simp [lex2, e]
    rw [← this]; exact hC
theorem ord_int {n : Nat} {y : Nat → Int} (hy : ∀ i j, i < n → j < n → i ≠ j → y i ≠ y j) : Ord n (fun i j => decide (y i < y j)) where
  tr := fun {i j k} h1 h2 => by simp only [decide_eq_true_eq] at *; k_extra "w my om"
  as := fun {i j} h1 => by simp only [decide_eq_true_eq, decide_eq_false_iff_not] at *; k_extra "w my om"
  tot := fun {i j} hi hj hij h1 => by
    have := hy i j hi hj hij
    simp only [decide_eq_true_eq, decide_eq_false_iff_not] at *; k_extra "w my om"
theorem ans_ii {prog : Program} {w : World} {A : Around} {s : Shared} {n : Nat} {vs : List Value} {x y : Nat → Int} (H : Tups s.heap n vs x fun i u => .int (y i) u) (hy : ∀ i j, i < n → j < n → i ≠ j → y i ≠ y j) :
    Answers n (lex2 x fun i j => decide (y i < y j)) (kas_ask prog w A (tuples' true) vs) s :=
  ans_tups H (fun i j t u hi hj hij Q h => wpAny_eqBool_int (by rw [beq_eq_false_iff_ne.mpr (hy i j hi hj hij)]; exact h))
    fun i j t u hi hj hij Q h => wpAny_lt_int h
theorem ans_is {prog : Program} {w : World} {A : Around} {s : Shared} {n : Nat} {vs : List Value} {x : Nat → Int} (H : Tups s.heap n vs x fun i u => .str (nm i) u) :
    Answers n (lex2 x fun i j => decide ((i : Int) < j)) (kas_ask prog w A (tuples' true) vs) s :=
  ans_tups H (fun i j t u hi hj hij Q h => wpAny_eqBool_str (by
      rw [decide_eq_false (fun e => hij ?_)]; exact h
      have e : (97 + i) = (97 + j) := by
        have := congrArg (fun s : Str => s.cps.getD 0 0) e
        exact this
      k_extra "w my om"))
    fun i j t u hi hj hij Q h => PyProof.Rows.lt_str (by
      have e : decide ((nm i).cps.toList < (nm j).cps.toList) = decide ((i : Int) < j) := by
        apply decide_eq_decide.mpr
        show [97 + i] < [97 + j] ↔ _
        rw [List.cons_lt_cons_iff]
        simp
      rw [e]; exact h)
theorem lex_row {x : Nat → Int} {n : Nat} {js : List Nat} (h : LRow x n js) : js.Pairwise fun a b => lex2 x (fun i j => decide (-(i : Int) < -(j : Int))) a b = true :=
  h.2.imp fun {a b} q => by
    simp only [Bool.or_eq_true, Bool.and_eq_true, decide_eq_true_eq]
    k_extra "w my om"
theorem row_row {x : Nat → Int} {n : Nat} {js : List Nat} (h : RowIs x n js) : js.Pairwise fun a b => lex2 x (fun i j => decide ((i : Int) < (j : Int))) a b = true :=
  h.2.imp fun {a b} q => by
    simp only [Bool.or_eq_true, Bool.and_eq_true, decide_eq_true_eq]
    k_extra "w my om"
end
section
theorem resetSrt2 : (0 : Nat) = 0 := by
  w_top off
  k_with_none
  (k_with "w my pick" => (with_reducible first | assumption | exact lo1 | exact lo2 | exact lo3 | exact lo4 | exact ls1 (by assumption) | exact ls2 (by assumption) | exact ls3 (by assumption) | exact pk0 (by assumption) | exact pk1 (by assumption) | exact pk2 (by assumption) | exact pk3 (by assumption) | exact pk4 (by assumption) | exact pk5 (by assumption) | exact pk6 (by assumption) | exact pk7 (by assumption) | exact pk8 (by assumption) | exact pk9 (by assumption) | exact pk10 (by assumption) | exact pk11 (by assumption) | exact pk12 (by assumption) | exact pk13 (by assumption) | exact pk14 (by assumption) | exact pk15 (by assumption) | exact pk16 (by assumption) | exact pk17 (by assumption) | exact qk1 (by assumption) | exact qk2 (by assumption) | exact qk3 (by assumption) | exact qk4 (by assumption) | exact qk5 (by assumption) | exact qk6 (by assumption) | exact qk7 (by assumption) | exact qk8 (by assumption) | exact qk9 (by assumption) | exact qk10 (by assumption) | exact qk11 (by assumption) | exact qk12 (by assumption) | exact qk13 (by assumption) | exact qk14 (by assumption) | exact qk15 (by assumption) | exact qk16 (by assumption) | exact qk17 (by assumption)))
  (k_with "w my sml" => (with_reducible first | (refine Nat.ne_of_lt ?_; k_extra "w my pick") | (refine Nat.ne_of_gt ?_; k_extra "w my pick") | (refine Ne.symm ?_; k_extra "w my pick") | (refine id ?_; k_extra "w my pick") | (refine Nat.le_of_lt ?_; k_extra "w my pick") | exact lrefl | exact lzero | exact one_le | exact room0 (by assumption) | exact room (by assumption) (by decide) | exact room1 (by assumption) (by decide) | exact room2 (by assumption) (by decide) | exact room3 (by assumption) (by decide) | exact le_le (by assumption) (by decide) | exact le_sc (by assumption) | (refine above1' ?_ (by assumption); k_extra "w my pick") | (refine above2' ?_ (by assumption); k_extra "w my pick")))
  (k_with "w my om" => (first | k_extra "w my sml" | lia | omega))
  rfl
theorem tups_kat {h : Heap} {n : Nat} {x : Nat → Int} {b : Nat → Tok → Value} : ∀ {vs : List Value} {k : Nat}, (∀ i, i < vs.length → ∃ P t u, vs[i]? = some (.ref P) ∧ h.get? P = some (tup2 (.int (x (k + i)) t) (b (k + i) u))) → ∃ fs, KatTups h vs fs ∧ fs.length = vs.length ∧ ∀ f ∈ fs, ∃ i t, f = .int i t
  | [], _, _ => ⟨[], .nil, rfl, fun _ h => nomatch h⟩
  | v :: vs, k, H => by
    obtain ⟨P, t, u, e, g⟩ := H 0 (by simp)
    obtain ⟨fs, a, l, c⟩ := tups_kat (n := n) (vs := vs) (k := k + 1) fun i hi => by
      have := H (i + 1) (by simpa using hi)
      simpa [Nat.add_assoc, Nat.add_comm 1 i] using this
    have e' : v = .ref P := by simpa using e
    subst e'
    exact ⟨_ :: fs, KatTups.cons g rfl rfl rfl a, by simp [l], fun f hf => by
      rcases List.mem_cons.mp hf with rfl | hf
      · exact ⟨_, _, rfl⟩
      · exact c f hf⟩
section
variable {prog : Program} {w : World} {A : Around} {E : Value → Shared → Prop} {s : Shared} {h₀ : Heap} {L l : Addr} {m : Str → Option Value} {news : List (Addr × Obj)} {vs : List Value} {n : Nat} {x : Nat → Int} {b : Nat → Tok → Value} {l2 : Nat → Nat → Bool} {js : List Nat}
/-- what the sort asks of tuples, and what comes out -/
theorem sort_body {B : Around} {D : Addr} {e1 : Nat} {h' : Heap} {Q : Shared → Prop} (F' : Fr h₀ L h' m) (N' : News h₀ L h' ((D, seqObj "list" #[] e1) :: news)) (hD : ∀ q ∈ news, q.1 ≠ D)
    (hn : vs.length = n) (h2 : 2 ≤ n) (H : ∀ i, i < n → ∃ P t u, vs[i]? = some (.ref P) ∧ (P, tup2 (.int (x i) t) (b i u)) ∈ news)
    (ans : ∀ s', Tups s'.heap n vs x b → Answers n (lex2 x l2) (kas_ask prog w B (tuples' true) vs) s') (O : Ord n l2) (hj : js.Perm (List.range n)) (hs : js.Pairwise fun a b => lex2 x l2 a b = true)
    (h : ∀ h'' c, Fr h₀ L h'' m → News h₀ L h'' ((D, listOf (js.map fun i => vs.getD i .none).toArray c) :: news) → Q { s with heap := h'' }) :
    wpAny (model prog w) B (keyKind' vs.toArray) (fun κ s' => (kas_sort vs.length).kasWp (kas_ask prog w B κ vs) (fun p s'' => KasFin h₀ L m D e1 (p.toList.map fun i => vs.getD i Value.none) Q s'') s') (fun _ _ => False) { s with heap := h' } := by
  have T : Tups h' n vs x b := fun i hi => by
    obtain ⟨P, t, u, e, hm⟩ := H i hi
    exact ⟨P, t, u, e, (N' _ (.tail _ hm)).1⟩
  obtain ⟨fs, kt, kl, ki⟩ := tups_kat (n := n) (x := x) (b := b) (h := h') (vs := vs) (k := 0) fun i hi => by
    have := T i (by k_extra "w my om")
    simpa using this
  refine kat_kind (T := .type "int") kt (by k_extra "w my om") (fun v hv => ?_) rfl ?_
  · obtain ⟨i, t, rfl⟩ := ki v hv
    exact Looks.of_pure rfl
  · rw [hn]
    refine srt_sort (lex2_ord O) (ans _ T) (by k_extra "w my om") fun p hp hu => ?_
    rw [sorted_eq (lex2_ord O) hp hu hj hs]
    exact KasFin.intro (s := { s with heap := h' }) F' N' (.head hD) fun h'' c F'' N'' => h h'' c F'' N''
theorem sorted_tups {Q : Value → Shared → Prop} (F : Fr h₀ L s.heap m) (N : News h₀ L s.heap news) (hl : s.heap.IsList l vs.toArray)
    (hn : vs.length = n) (h2 : 2 ≤ n) (h64 : n < 64) (H : ∀ i, i < n → ∃ P t u, vs[i]? = some (.ref P) ∧ (P, tup2 (.int (x i) t) (b i u)) ∈ news)
    (ans : ∀ s', Tups s'.heap n vs x b → Answers n (lex2 x l2) (kas_ask prog w A.in1.in1 (tuples' true) vs) s') (O : Ord n l2) (hj : js.Perm (List.range n)) (hs : js.Pairwise fun a b => lex2 x l2 a b = true)
    (h : ∀ D h'' c, Fr h₀ L h'' m → News h₀ L h'' ((D, listOf (js.map fun i => vs.getD i .none).toArray c) :: news) → (∀ q ∈ news, q.1 < D) → Q (.ref D) { s with heap := h'' }) :
    wpAny (model prog w) A (call (.builtin "sorted") [.ref l]) Q E s :=
  kat_sorted F N hl (by k_extra "w my om") (by k_extra "w my om") fun D e1 h' F' N' lt => sort_body F' N' (fun q hq => Nat.ne_of_lt (lt q hq)) hn h2 H ans O hj hs fun h'' c F'' N'' => h D h'' c F'' N'' lt
end
end
section
theorem resetZip4 : (0 : Nat) = 0 := by
  w_top off
  k_with_none
  (k_with "w my pick" => (with_reducible first | assumption | exact lo1 | exact lo2 | exact lo3 | exact lo4 | exact ls1 (by assumption) | exact ls2 (by assumption) | exact ls3 (by assumption) | exact pk0 (by assumption) | exact pk1 (by assumption) | exact pk2 (by assumption) | exact pk3 (by assumption) | exact pk4 (by assumption) | exact pk5 (by assumption) | exact pk6 (by assumption) | exact pk7 (by assumption) | exact pk8 (by assumption) | exact pk9 (by assumption) | exact pk10 (by assumption) | exact pk11 (by assumption) | exact pk12 (by assumption) | exact pk13 (by assumption) | exact pk14 (by assumption) | exact pk15 (by assumption) | exact pk16 (by assumption) | exact pk17 (by assumption) | exact qk1 (by assumption) | exact qk2 (by assumption) | exact qk3 (by assumption) | exact qk4 (by assumption) | exact qk5 (by assumption) | exact qk6 (by assumption) | exact qk7 (by assumption) | exact qk8 (by assumption) | exact qk9 (by assumption) | exact qk10 (by assumption) | exact qk11 (by assumption) | exact qk12 (by assumption) | exact qk13 (by assumption) | exact qk14 (by assumption) | exact qk15 (by assumption) | exact qk16 (by assumption) | exact qk17 (by assumption)))
  (k_with "w my sml" => (with_reducible first | (refine Nat.ne_of_lt ?_; k_extra "w my pick") | (refine Nat.ne_of_gt ?_; k_extra "w my pick") | (refine Ne.symm ?_; k_extra "w my pick") | (refine id ?_; k_extra "w my pick") | (refine Nat.le_of_lt ?_; k_extra "w my pick") | exact lrefl | exact lzero | exact one_le | exact room0 (by assumption) | exact room (by assumption) (by decide) | exact room1 (by assumption) (by decide) | exact room2 (by assumption) (by decide) | exact room3 (by assumption) (by decide) | exact le_le (by assumption) (by decide) | exact le_sc (by assumption) | (refine above1' ?_ (by assumption); k_extra "w my pick") | (refine above2' ?_ (by assumption); k_extra "w my pick")))
  (k_with "w my om" => (first | k_extra "w my sml" | lia | omega))
  rfl
section
variable {prog : Program} {w : World} {A : Around} {E : Value → Shared → Prop} {s : Shared} {h₀ : Heap} {L : Addr} {m : Str → Option Value} {news : List (Addr × Obj)}
/-- the tuples of a zip of ints and signs -/
noncomputable def zipEx (x : Nat → Int) (u : Nat → Tok) (as : List Addr) (tu : Nat → Tok) : List (Addr × Obj) := (List.range as.length).map fun j => (as.getD j 0, tup2 (.int (x j) (u j)) (.str (nm j) (tu j)))
theorem zipEx_mem {x : Nat → Int} {u : Nat → Tok} {as : List Addr} {tu : Nat → Tok} {j : Nat} (h : j < as.length) : (as.getD j 0, tup2 (.int (x j) (u j)) (.str (nm j) (tu j))) ∈ zipEx x u as tu := List.mem_map.mpr ⟨j, List.mem_range.mpr h, rfl⟩
theorem zipEx_of {x : Nat → Int} {u : Nat → Tok} {as : List Addr} {tu : Nat → Tok} {q : Addr × Obj} (h : q ∈ zipEx x u as tu) : ∃ j, j < as.length ∧ q = (as.getD j 0, tup2 (.int (x j) (u j)) (.str (nm j) (tu j))) := by
  obtain ⟨j, hj, rfl⟩ := List.mem_map.mp h
  exact ⟨j, List.mem_range.mp hj, rfl⟩
theorem sorted_zs {z TI TO i1 i2 l : Addr} {n : Nat} {x : Nat → Int} {u : Nat → Tok} {y : Str} {ty : Tok} {js : List Nat} {Q : Value → Shared → Prop} (hh : A.handled = none) (D : ZApart z TI TO i1 i2 l)
    (hz : s.heap.get? z = some (zipO .none false TI TO)) (hTI : IsPair s.heap TI (.ref i1) (.ref i2)) {a b : Value} (hTO : IsPair s.heap TO a b) (h1 : s.heap.IsListIter i1 l 0) (h2 : s.heap.IsStrIter i2 "str_ascii_iterator" y ty 0) (hl : s.heap.IsList l (intv x u n).toArray)
    (hn2 : 2 ≤ n) (hn : n < 64) (hy : y.cps.size = n) (hyn : ∀ j, j < n → y.cps[j]? = some (97 + j))
    (fz : z ≠ L ∧ h₀.get? z = none) (fTO : TO ≠ L ∧ h₀.get? TO = none) (f1 : i1 ≠ L ∧ h₀.get? i1 = none) (f2 : i2 ≠ L ∧ h₀.get? i2 = none)
    (F : Fr h₀ L s.heap m) (N : News h₀ L s.heap news) (off : ∀ q ∈ news, q.1 ≠ z ∧ q.1 ≠ TO ∧ q.1 ≠ i1 ∧ q.1 ≠ i2)
    (hj : js.Perm (List.range n)) (hs : js.Pairwise fun a b => lex2 x (fun i j => decide ((i : Int) < (j : Int))) a b = true)
    (h : ∀ R h'' tk c as tu, Fr h₀ L h'' m → News h₀ L h'' ((R, listOf (js.map fun i => ((as.map Value.ref).getD i .none)).toArray c) :: (zipEx x u as tu ++ news)) → as.length = n → Q (.ref R) { s with heap := h'', toks := tk }) :
    wpAny (model prog w) A (call (.builtin "sorted") [.ref z]) Q E s := by
  have hsz : (intv x u n).toArray.size = n := by rw [List.size_toArray, intv_len]
  refine Calls.call_function_entry kind_sorted plain_sorted entry_sorted (args_sorted1 _) ?_
  unfold Builtin.«sorted»
  refine wpAny_bind (m := checkCount "sorted" 1 1 _) (wpAny_pure ?_)
  refine wpAny_bind (collect_zs (A := A.in1) hh D (by rw [hsz]; exact hy) (by rw [hsz]; k_extra "w my om") (by rw [hsz]; k_extra "w my om") hz hTI hTO h1 h2 hl fun h' tk as hk hal hG => ?_)
  rw [hsz] at hal
  have hlt : L < s.heap.objs.size := F.ns.lt
  have pick : ∀ j, ∃ t, j < n → s.heap.objs.size < as.getD j 0 ∧ h'.get? (as.getD j 0) = some (tup2 (.int (x j) (u j)) (.str (nm j) t)) := fun j => by
    by_cases hjn : j < n
    · have e : as[j]? = some (as.getD j 0) := by simp [List.getD, List.getElem?_eq_getElem (show j < as.length by k_extra "w my om")]
      obtain ⟨lo, v, c, t, e1, e2, e3⟩ := hG j _ e
      have ev : v = .int (x j) (u j) := by
        rw [List.getElem?_toArray, intv_get hjn] at e1
        exact (Option.some.inj e1).symm
      have ec : c = 97 + j := by rw [hyn j hjn] at e2; exact (Option.some.inj e2).symm
      subst ev; subst ec
      exact ⟨t, fun _ => ⟨lo, e3⟩⟩
    · exact ⟨0, fun q => absurd q hjn⟩
  obtain ⟨tu, htu⟩ := Classical.axiomOfChoice pick
  have F1 : Fr h₀ L h' m := ⟨F.ns.at' fun o e => hk L o fz.1.symm fTO.1.symm f1.1.symm f2.1.symm e, fun b o e => hk b o (fun q => by rw [q, fz.2] at e; cases e) (fun q => by rw [q, fTO.2] at e; cases e) (fun q => by rw [q, f1.2] at e; cases e) (fun q => by rw [q, f2.2] at e; cases e) (F.keep b o e), F.above⟩
  have N1 : News h₀ L h' (zipEx x u as tu ++ news) := fun q hq => by
    rcases List.mem_append.mp hq with hq | hq
    · obtain ⟨j, hj, rfl⟩ := zipEx_of hq
      obtain ⟨lo, e⟩ := htu j (by k_extra "w my om")
      exact ⟨e, Nat.ne_of_gt (Nat.lt_trans hlt lo), Heap.get?_none_of_le (Nat.le_trans F.above (Nat.le_of_lt (Nat.lt_trans hlt lo)))⟩
    · have o := off q hq
      exact ⟨hk _ _ o.1 o.2.1 o.2.2.1 o.2.2.2 (N q hq).1, (N q hq).2⟩
  generalize hvs : as.map Value.ref = vs
  have hvl : vs.length = n := by rw [← hvs, List.length_map, hal]
  refine wpAny_bind (wpAny_newList ?_ (by rw [sizeLine_eq]; k_extra "w my om"))
  dsimp only
  have F2 : Fr h₀ L (h'.push (seqObj "list" vs.toArray 0)) m := F1.push _
  have N2 : News h₀ L (h'.push (seqObj "list" vs.toArray 0)) (zipEx x u as tu ++ news) := N1.grown fun b o e => Heap.get?_push_of_some _ e
  have hoL : (h'.push (seqObj "list" vs.toArray 0)).get? h'.objs.size = some (seqObj "list" vs.toArray 0) := Heap.get?_push_size _ rfl
  have hL' : L < h'.objs.size := F1.ns.lt
  refine wpAny_bind (wpAny_holding (wpAny_call_entry slot_list_sort ⟨_, hoL, rfl⟩ entry_list_sort ?body (args_list_sort _)))
  refine kat_list_sort (s := { s with heap := h'.push (seqObj "list" vs.toArray 0), toks := tk }) F2 N2 hoL (Nat.ne_of_gt hL') (Heap.get?_none_of_le (Nat.le_trans F1.above (Nat.le_of_lt hL')))
      (fun p hp => Nat.ne_of_lt (Heap.lt_size (N1 p hp).1)) (by k_extra "w my om") (by k_extra "w my om") fun e1 h3 F' N' => ?_
  have sb := sort_body (prog := prog) (w := w) (s := { s with heap := h'.push (seqObj "list" vs.toArray 0), toks := tk }) (B := A.in1.in1) (x := x) (b := fun i u => .str (nm i) u) (l2 := fun i j => decide ((i : Int) < (j : Int))) (js := js) (Q := fun s3 => Q (.ref h'.objs.size) s3) F' N' (fun q hq => Nat.ne_of_lt (Heap.lt_size (N1 q hq).1)) hvl hn2
    (fun i hi => ?hH) (fun s' T => ans_is T) (ord_int fun i j _ _ hij => by k_extra "w my om") hj hs (fun h'' c F'' N'' => h _ h'' tk c as tu F'' (by rw [hvs]; exact N'') hal)
  · refine wpAny_mono sb (fun κ s' hk' => ?_) fun _ _ x => x
    rw [kat_ask_eq rfl] at hk' ⊢
    exact kas_wp_mono hk' fun p s'' hk'' => hk''.mono fun s3 hq => ⟨_, rfl, wpAny_pure ⟨_, rfl, hq⟩⟩
  case hH =>
    refine ⟨as.getD i 0, u i, tu i, ?_, List.mem_append_left _ (zipEx_mem (by k_extra "w my om"))⟩
    rw [← hvs]
    simp [List.getD, List.getElem?_eq_getElem (show i < as.length by k_extra "w my om")]
end
end
section
noncomputable def isMatched (y : Sre.M) : Bool := y.outcome matches some .matched
noncomputable def isFailed (y : Sre.M) : Bool := y.outcome matches some .failed
noncomputable def plain (x : Str) : Bool := x.cps.toList.all (fun c => c != 10 && c != 9 && c != 13 && c != 32 && c != 34 && c != 92) && Nat.blt 0 x.cps.toList.length && Nat.ble x.cps.toList.length 10
end
section
theorem resetChain : (0 : Nat) = 0 := by
  w_top off
  k_with_none
  (k_with "w my pick" => (with_reducible first | assumption | exact lo1 | exact lo2 | exact lo3 | exact lo4 | exact ls1 (by assumption) | exact ls2 (by assumption) | exact ls3 (by assumption) | exact pk0 (by assumption) | exact pk1 (by assumption) | exact pk2 (by assumption) | exact pk3 (by assumption) | exact pk4 (by assumption) | exact pk5 (by assumption) | exact pk6 (by assumption) | exact pk7 (by assumption) | exact pk8 (by assumption) | exact pk9 (by assumption) | exact pk10 (by assumption) | exact pk11 (by assumption) | exact pk12 (by assumption) | exact pk13 (by assumption) | exact pk14 (by assumption) | exact pk15 (by assumption) | exact pk16 (by assumption) | exact pk17 (by assumption) | exact qk1 (by assumption) | exact qk2 (by assumption) | exact qk3 (by assumption) | exact qk4 (by assumption) | exact qk5 (by assumption) | exact qk6 (by assumption) | exact qk7 (by assumption) | exact qk8 (by assumption) | exact qk9 (by assumption) | exact qk10 (by assumption) | exact qk11 (by assumption) | exact qk12 (by assumption) | exact qk13 (by assumption) | exact qk14 (by assumption) | exact qk15 (by assumption) | exact qk16 (by assumption) | exact qk17 (by assumption)))
  (k_with "w my sml" => (with_reducible first | (refine Nat.ne_of_lt ?_; k_extra "w my pick") | (refine Nat.ne_of_gt ?_; k_extra "w my pick") | (refine Ne.symm ?_; k_extra "w my pick") | (refine id ?_; k_extra "w my pick") | (refine Nat.le_of_lt ?_; k_extra "w my pick") | exact lrefl | exact lzero | exact one_le | exact room0 (by assumption) | exact room (by assumption) (by decide) | exact room1 (by assumption) (by decide) | exact room2 (by assumption) (by decide) | exact room3 (by assumption) (by decide) | exact le_le (by assumption) (by decide) | exact le_sc (by assumption) | (refine above1' ?_ (by assumption); k_extra "w my pick") | (refine above2' ?_ (by assumption); k_extra "w my pick")))
  (k_with "w my om" => (first | k_extra "w my sml" | lia | omega))
  rfl
theorem cps_app (a b : Str) : (a ++ b).cps.toList = a.cps.toList ++ b.cps.toList := by
  show (a.cps ++ b.cps).toList = _
  simp
/-- the signs of a written word -/
noncomputable def wcodes (z : List Nat) (wy : Int) : List Nat := if wy = 0 then z ++ [10] else if wy = 1 then 34 :: (z ++ [34, 32]) else (z.map fun c => [92, c]).flatten ++ [9]
theorem written_codes (x : Str) (wy : Int) : (written x wy).cps.toList = wcodes x.cps.toList wy := by
  unfold written wcodes
  split
  · rw [cps_app]; rfl
  split
  · rw [cps_app, cps_app]
    show [34] ++ x.cps.toList ++ [34, 32] = _
    simp
  · rw [cps_app, join_cps, List.map_map]
    rfl
noncomputable def Plain (z : List Nat) : Prop := z ≠ [] ∧ ∀ c ∈ z, ¬ ws c ∧ c ≠ 34 ∧ c ≠ 92
theorem wtok_plain {r : List Nat} {d : Nat} (hd : ws d) : ∀ {z : List Nat}, (∀ c ∈ z, ¬ ws c ∧ c ≠ 34 ∧ c ≠ 92) → WTok (z ++ d :: r) z r
  | [], _ => .stop hd
  | c :: z, h => .sign (h c (.head _)).1 (h c (.head _)).2.2 (wtok_plain hd fun c hc => h c (.tail _ hc))
theorem wtok_esc {r : List Nat} {d : Nat} (hd : ws d) : ∀ {z : List Nat}, WTok ((z.map fun c => [92, c]).flatten ++ d :: r) z r
  | [] => .stop hd
  | c :: z => .esc (wtok_esc hd)
theorem qtok_plain {r : List Nat} : ∀ {z : List Nat}, (∀ c ∈ z, ¬ ws c ∧ c ≠ 34 ∧ c ≠ 92) → QTok (z ++ 34 :: r) z r
  | [], _ => .stop
  | c :: z, h => .sign (h c (.head _)).2.1 (h c (.head _)).2.2 (qtok_plain fun c hc => h c (.tail _ hc))
noncomputable def pendOf (wy : Int) : List Nat := if wy = 1 then [32] else []
theorem tok_word {z : List Nat} (hz : Plain z) (wy : Int) (r : List Nat) : Tok1 (wcodes z wy ++ r) z (pendOf wy ++ r) := by
  obtain ⟨hne, h⟩ := hz
  unfold wcodes pendOf
  by_cases h0 : wy = 0
  · rw [if_pos h0, if_neg (by k_extra "w my om"), List.append_assoc]
    cases z with
    | nil => exact absurd rfl hne
    | cons c z => exact .word (h c (.head _)).1 (h c (.head _)).2.1 (h c (.head _)).2.2 (wtok_plain (.inl rfl) fun c hc => h c (.tail _ hc))
  rw [if_neg h0]
  by_cases h1 : wy = 1
  · rw [if_pos h1, if_pos h1]
    show Tok1 (34 :: ((z ++ [34, 32]) ++ r)) z _
    rw [List.append_assoc]
    exact .quote (qtok_plain h)
  · rw [if_neg h1, if_neg h1, List.append_assoc]
    cases z with
    | nil => exact absurd rfl hne
    | cons c z => exact .esc (wtok_esc (.inr (.inl rfl)))
theorem tok_pend {t r cs : List Nat} (wy : Int) (h : Tok1 cs t r) : Tok1 (pendOf wy ++ cs) t r := by
  unfold pendOf
  split
  · exact .skip (.inr (.inr (.inr rfl))) h
  · exact h
/-- what is yet to be read, before the i-th word -/
noncomputable def toRead (z : Nat → List Nat) (wy : Nat → Int) (n i : Nat) : List Nat := (match i with | 0 => [] | j + 1 => pendOf (wy j)) ++ ((List.range' i (n - i)).map fun j => wcodes (z j) (wy j)).flatten
theorem toRead_step {z : Nat → List Nat} {wy : Nat → Int} {n i : Nat} (hi : i < n) (hz : Plain (z i)) : Tok1 (toRead z wy n i) (z i) (toRead z wy n (i + 1)) := by
  unfold toRead
  have e : List.range' i (n - i) = i :: List.range' (i + 1) (n - (i + 1)) := by
    rw [gap1 (by assumption)]; rfl
  rw [e, List.map_cons, List.flatten_cons]
  cases i with
  | zero => exact tok_word hz _ _
  | succ j => exact tok_pend _ (tok_word hz _ _)
theorem toRead_end {z : Nat → List Nat} {wy : Nat → Int} {n : Nat} : Tok1 (toRead z wy n n) [] [] := by
  unfold toRead
  rw [Nat.sub_self]
  cases n with
  | zero => exact .stop
  | succ j => exact tok_pend _ .stop
theorem wcodes_len {z : List Nat} {wy : Int} (h : z.length ≤ 10) : (wcodes z wy).length ≤ 30 := by
  unfold wcodes
  split
  · simp; k_extra "w my om"
  split
  · simp; k_extra "w my om"
  · simp only [List.length_append, List.length_cons, List.length_nil]
    have : ((z.map fun c => [92, c]).flatten).length = 2 * z.length := by
      clear h
      induction z with
      | nil => rfl
      | cons c z ih => simp only [List.map_cons, List.flatten_cons, List.length_append, List.length_cons, List.length_nil, ih]; omega
    k_extra "w my om"
theorem toRead_len {z : Nat → List Nat} {wy : Nat → Int} {n i : Nat} (hz : ∀ j, j < n → (z j).length ≤ 10) (hn : n ≤ 50) (hi : i ≤ n) : (toRead z wy n i).length ≤ 3000 := by
  unfold toRead
  rw [List.length_append]
  have h1 : (match i with | 0 => [] | j + 1 => pendOf (wy j)).length ≤ 1 := by
    cases i with
    | zero => simp
    | succ j => show (pendOf (wy j)).length ≤ 1; unfold pendOf; split <;> simp
  have h2 : (((List.range' i (n - i)).map fun j => wcodes (z j) (wy j)).flatten).length ≤ 30 * (List.range' i (n - i)).length := by
    rw [List.length_flatten, List.map_map]
    refine sum_le _ 30 _ fun j hj => wcodes_len (hz j ?_)
    have := List.mem_range'_1.mp hj
    k_extra "w my om"
  rw [List.length_range'] at h2
  k_extra "w my om"
theorem text_codes (z : Nat → Str) (wy : Nat → Int) (n : Nat) : (Txt.join (Str.ofString "") ((List.range n).map fun j => written (z j) (wy j))).cps.toList = toRead (fun j => (z j).cps.toList) wy n 0 := by
  rw [join_cps, List.map_map]
  unfold toRead
  rw [List.nil_append, Nat.sub_zero, List.range_eq_range']
  congr 1
  exact List.map_congr_left fun j _ => written_codes (z j) (wy j)
theorem plain_of {x : Str} (h : plain x = true) : Plain x.cps.toList ∧ x.length ≤ 10 := by
  unfold plain at h
  simp only [Bool.and_eq_true, List.all_eq_true, bne_iff_ne] at h
  obtain ⟨⟨h1, h2⟩, h3⟩ := h
  have h2 := Nat.le_of_ble_eq_true h2
  have h3 := Nat.le_of_ble_eq_true h3
  refine ⟨⟨fun e => by rw [e] at h2; simp at h2, fun c hc => ?_⟩, by simpa [Str.length] using h3⟩
  obtain ⟨⟨⟨⟨⟨a, b⟩, c'⟩, d⟩, e⟩, f⟩ := h1 c hc
  refine ⟨?_, e, f⟩
  rintro (q | q | q | q)
  · exact a q
  · exact b q
  · exact c' q
  · exact d q
end
section
theorem resetLock : (0 : Nat) = 0 := by
  w_top off
  k_with_none
  (k_with "w my pick" => (with_reducible first | assumption | exact lo1 | exact lo2 | exact lo3 | exact lo4 | exact ls1 (by assumption) | exact ls2 (by assumption) | exact ls3 (by assumption) | exact pk0 (by assumption) | exact pk1 (by assumption) | exact pk2 (by assumption) | exact pk3 (by assumption) | exact pk4 (by assumption) | exact pk5 (by assumption) | exact pk6 (by assumption) | exact pk7 (by assumption) | exact pk8 (by assumption) | exact pk9 (by assumption) | exact pk10 (by assumption) | exact pk11 (by assumption) | exact pk12 (by assumption) | exact pk13 (by assumption) | exact pk14 (by assumption) | exact pk15 (by assumption) | exact pk16 (by assumption) | exact pk17 (by assumption) | exact qk1 (by assumption) | exact qk2 (by assumption) | exact qk3 (by assumption) | exact qk4 (by assumption) | exact qk5 (by assumption) | exact qk6 (by assumption) | exact qk7 (by assumption) | exact qk8 (by assumption) | exact qk9 (by assumption) | exact qk10 (by assumption) | exact qk11 (by assumption) | exact qk12 (by assumption) | exact qk13 (by assumption) | exact qk14 (by assumption) | exact qk15 (by assumption) | exact qk16 (by assumption) | exact qk17 (by assumption)))
  (k_with "w my sml" => (with_reducible first | (refine Nat.ne_of_lt ?_; k_extra "w my pick") | (refine Nat.ne_of_gt ?_; k_extra "w my pick") | (refine Ne.symm ?_; k_extra "w my pick") | (refine id ?_; k_extra "w my pick") | (refine Nat.le_of_lt ?_; k_extra "w my pick") | exact lrefl | exact lzero | exact one_le | exact room0 (by assumption) | exact room (by assumption) (by decide) | exact room1 (by assumption) (by decide) | exact room2 (by assumption) (by decide) | exact room3 (by assumption) (by decide) | exact le_le (by assumption) (by decide) | exact le_sc (by assumption) | (refine above1' ?_ (by assumption); k_extra "w my pick") | (refine above2' ?_ (by assumption); k_extra "w my pick")))
  (k_with "w my om" => (first | k_extra "w my sml" | lia | omega))
  rfl
open Sre
/-- the same machine over another text -/
noncomputable def sw (m : Sre.M) (t : Array Nat) : Sre.M := { m with text := t }
theorem sw_iteOf {c : Prop} [Decidable c] {a b x y : Sre.M} {t : Array Nat} (h1 : a = sw x t) (h2 : b = sw y t) : (if c then a else b) = sw (if c then x else y) t :=
  (congr (congrArg _ h1) h2).trans (apply_ite (fun x => sw x t) c x y).symm
section
variable (m : Sre.M) (t : Array Nat)
theorem sw_say (b : Bool) : (sw m t).say b = sw (m.say b) t := rfl
theorem sw_stick (x : String) : (sw m t).stick x = sw (m.stick x) t := rfl
theorem sw_word (k : Nat) : (sw m t).word k = m.word k := rfl
theorem sw_putBack (k : Sre.Kept) : (sw m t).putBack k = sw (m.putBack k) t := rfl
theorem sw_setLoop (i : Nat) (f : Sre.Loop → Sre.Loop) : (sw m t).setLoop i f = sw (m.setLoop i f) t := rfl
theorem sw_mark (i : Nat) : (sw m t).mark i = sw (m.mark i) t := rfl
theorem sw_ite {c : Prop} [Decidable c] (a b : Sre.M) : sw (if c then a else b) t = if c then sw a t else sw b t := apply_ite (fun x => sw x t) c a b
theorem sw_attempt (f : Sre.Frame) (a b : Nat) (c : Bool) : (sw m t).attempt f a b c = sw (m.attempt f a b c) t := by
  unfold Sre.M.attempt
  rw [sw_ite]
  rfl
theorem sw_alternative (a : Nat) (k : Sre.Kept) : (sw m t).alternative a k = sw (m.alternative a k) t := by
  unfold Sre.M.alternative
  rw [sw_ite, ← sw_attempt]
  rfl
theorem sw_afterRun (w : Sre.Wait) (c : Int) (k : Sre.Kept) : (sw m t).afterRun w c k = sw (m.afterRun w c k) t := by
  unfold Sre.M.afterRun
  rw [← sw_attempt]
  rfl
theorem sw_afterLoop (w : Sre.Wait) (i : Nat) (c : Int) (wh : Option Nat → Bool) : (sw m t).afterLoop w i c wh = sw (m.afterLoop w i c wh) t := by
  unfold Sre.M.afterLoop
  dsimp only
  rw [← sw_attempt]
  rfl
theorem sw_round (w : Sre.Wait) (i : Nat) (c : Int) (g : Bool) (k : Sre.Kept) : (sw m t).round w i c g k = sw (m.round w i c g k) t := by
  unfold Sre.M.round
  dsimp only
  rw [← sw_attempt]
  rfl
theorem sw_until (g : Bool) : (sw m t).until_ g = sw (m.until_ g) t := by
  unfold Sre.M.until_
  show (match m.inner with | none => _ | some i => _) = _
  cases m.inner with
  | none => exact rfl
  | some i => exact sw_iteOf (sw_round ..) (sw_iteOf (sw_afterLoop ..) (sw_iteOf (sw_round ..) (sw_afterLoop ..)))
theorem sw_possessive (i : Nat) (c : Int) (b : Option Nat) : (sw m t).possessive i c b = sw (m.possessive i c b) t :=
  sw_iteOf (sw_attempt ..) (sw_iteOf (sw_attempt ..) rfl)
theorem sw_attemptAt (s : Nat) (f : Bool) : (sw m t).attemptAt s f = sw (m.attemptAt s f) t := by
  unfold Sre.M.attemptAt
  rw [← sw_attempt]
  rfl
theorem sw_attemptFrom (h : m.hasFirstSet = false) (s : Nat) (f : Bool) : (sw m t).attemptFrom s f = sw (m.attemptFrom s f) t := by
  have h' : (sw m t).hasFirstSet = false := h
  unfold Sre.M.attemptFrom
  rw [h, h']
  exact sw_attemptAt m t s f
end
/-- signs that the code does not tell apart -/
structure Same (c c' : Nat) : Prop where
  acc : ∀ i seen, accepts tzCode i c seen = accepts tzCode i c' seen
  nl : (c == 10) = (c' == 10)
  w : isWord c = isWord c'
  wu : isWordUni c = isWordUni c'
theorem Same.refl (c : Nat) : Same c c := ⟨fun _ _ => rfl, rfl, rfl, rfl⟩
theorem run_same {t t' : Array Nat} (H : ∀ p, Same (t.getD p 0) (t'.getD p 0)) (i : Nat) : ∀ n p f seen, Sre.run tzCode t i n p f seen = Sre.run tzCode t' i n p f seen
  | 0, _, _, _ => rfl
  | n + 1, p, f, seen => by
    unfold Sre.run
    rw [(H p).acc]
    congr 1
    funext x
    obtain ⟨yes, seen'⟩ := x
    dsimp only
    rw [run_same H i n]
theorem isAt_same {m : Sre.M} {t : Array Nat} (H : ∀ p, Same (t.getD p 0) (m.text.getD p 0)) (k : Nat) : (sw m t).isAt k = m.isAt k := by
  show ({ m with text := t } : Sre.M).isAt k = m.isAt k
  unfold Sre.M.isAt
  dsimp only
  rw [(H (m.pos - 1)).w, (H (m.pos - 1)).wu, (H (m.pos - 1)).nl, (H m.pos).w, (H m.pos).wu, (H m.pos).nl]
noncomputable def okOp : Op → Bool
  | .FAILURE | .SUCCESS | .ANY | .ANY_ALL | .ASSERT | .ASSERT_NOT | .AT | .CATEGORY | .CHARSET | .IN | .INFO | .LITERAL | .MARK | .MAX_UNTIL | .REPEAT | .REPEAT_ONE => true
  | _ => false
theorem okElim {P : Op → Prop} (failure_c : P .FAILURE) (success_c : P .SUCCESS) (any_c : P .ANY) (any_all_c : P .ANY_ALL) (assert_c : P .ASSERT) (assert_not_c : P .ASSERT_NOT) (at_c : P .AT) (category_c : P .CATEGORY) (charset_c : P .CHARSET) (in_c : P .IN) (info_c : P .INFO) (literal_c : P .LITERAL) (mark_c : P .MARK) (max_until_c : P .MAX_UNTIL) (repeat_c : P .REPEAT) (repeat_one_c : P .REPEAT_ONE) : ∀ op, okOp op = true → P op := by
  intro op
  induction op <;> intro h <;> first | assumption | exact absurd h (by decide)
theorem ok_all : ((List.range 100).all fun pc => match ops[tzCode.getD pc 0]? with | some op => okOp op | none => true) = true := by decide +kernel
theorem ok_op {pc : Nat} {op : Op} (h : ops[tzCode.getD pc 0]? = some op) : okOp op = true := by
  by_cases hp : pc < 100
  · have := List.all_eq_true.mp ok_all pc (List.mem_range.mpr hp)
    rw [h] at this
    exact this
  · have e : tzCode.getD pc 0 = 0 := by
      have : tzCode.size ≤ 100 := by decide
      have : ¬ pc < tzCode.size := by k_extra "w my om"
      simp [Array.getD, this]
    rw [e] at h
    cases h
    rfl
noncomputable def oneRes (m : Sre.M) (r : Except String (Bool × Sre.Seen)) : Sre.M :=
    match r with
    | .error why => m.stick why
    | .ok (false, seen) => { m with seen }.say false
    | .ok (true, seen) => { m with seen, pc := m.pc + itemWidth m.code m.pc, pos := m.pos + 1 }
noncomputable def oneChar (m : Sre.M) : Sre.M :=
  if m.pos ≥ m.lim then m.say false else oneRes m (accepts m.code m.pc (m.text.getD m.pos 0) m.seen)
theorem sw_oneRes (m : Sre.M) (t : Array Nat) : ∀ r, oneRes (sw m t) r = sw (oneRes m r) t
  | .error _ => rfl
  | .ok (false, _) => rfl
  | .ok (true, _) => rfl
theorem sw_oneChar {m : Sre.M} {t : Array Nat} (hc : m.code = tzCode) (H : ∀ p, Same (t.getD p 0) (m.text.getD p 0)) : oneChar (sw m t) = sw (oneChar m) t :=
  sw_iteOf rfl ((congrArg (oneRes (sw m t)) (by rw [show (sw m t).code = tzCode from hc, hc]; exact (H m.pos).acc _ _)).trans (sw_oneRes m t _))
noncomputable def atOp (m : Sre.M) : Sre.M :=
    match m.isAt (m.word 1) with
    | .error why => m.stick why
    | .ok yes => let m := { m with seen := m.seen.add (43 + m.word 1) }; if yes then { m with pc := m.pc + 2 } else m.say false
theorem sw_atOp {m : Sre.M} {t : Array Nat} (H : ∀ p, Same (t.getD p 0) (m.text.getD p 0)) : atOp (sw m t) = sw (atOp m) t := by
  unfold atOp
  rw [sw_word, isAt_same H]
  cases m.isAt (m.word 1) with
  | error why => rfl
  | ok yes => cases yes <;> rfl
noncomputable def assertOp (m : Sre.M) (not : Bool) : Sre.M :=
    if m.pos < m.word 2 then (if not then { m with pc := m.pc + 1 + m.word 1 } else m.say false)
    else m.attempt { m.frame (if not then .lookNot else .look) with kept := m.keep (not && m.inner.isSome) } (m.pc + 3) (m.pos - m.word 2) false
theorem sw_assertOp (m : Sre.M) (t : Array Nat) (not : Bool) : assertOp (sw m t) not = sw (assertOp m not) t := by
  unfold assertOp
  rw [sw_ite, sw_ite, ← sw_attempt]
  rfl
noncomputable def repRes (m : Sre.M) (r : Except String (Nat × Sre.Seen)) : Sre.M :=
    match r with
    | .error why => m.stick why
    | .ok (n, seen) =>
      if n < m.word 2 then { m with seen }.say false else
      { m with seen, pos := m.pos + n }.afterRun .giveBack n ({ m with seen, pos := m.pos + n }.keep m.inner.isSome)
noncomputable def repOne (m : Sre.M) : Sre.M :=
    if (m.word 2 : Int) > (m.lim : Int) - m.pos then m.say false else
    repRes m (Sre.run m.code m.text (m.pc + 4) (min (m.word 3) ((m.lim : Int) - m.pos).toNat) m.pos 0 (m.seen.add (m.word 4)))
theorem sw_repRes (m : Sre.M) (t : Array Nat) : ∀ r, repRes (sw m t) r = sw (repRes m r) t
  | .error _ => rfl
  | .ok (n, seen) => sw_iteOf rfl (sw_afterRun { m with seen, pos := m.pos + n } t _ _ _)
theorem sw_repOne {m : Sre.M} {t : Array Nat} (hc : m.code = tzCode) (H : ∀ p, Same (t.getD p 0) (m.text.getD p 0)) : repOne (sw m t) = sw (repOne m) t :=
  sw_iteOf rfl ((congrArg (repRes (sw m t)) (by rw [show (sw m t).code = tzCode from hc, hc]; exact run_same H _ _ _ _ _)).trans (sw_repRes m t _))
theorem sw_exec {m : Sre.M} {t : Array Nat} (hc : m.code = tzCode) (H : ∀ p, Same (t.getD p 0) (m.text.getD p 0)) : (sw m t).exec = sw m.exec t := by
  unfold Sre.M.exec
  rw [show (sw m t).word = m.word from rfl]
  cases hop : ops[m.word 0]? with
  | none => rfl
  | some op =>
    have nr : okOp op = true := ok_op (by rw [← hc]; exact hop)
    clear hop
    revert op
    refine okElim ?_ ?_ ?_ ?_ ?_ ?_ ?_ ?_ ?_ ?_ ?_ ?_ ?_ ?_ ?_ ?_
    · exact rfl
    · exact sw_iteOf rfl rfl
    · exact sw_oneChar (m := { m with seen := m.seen.add (m.word 0) }) hc H
    · exact sw_oneChar (m := { m with seen := m.seen.add (m.word 0) }) hc H
    · exact sw_assertOp { m with seen := m.seen.add (m.word 0) } t false
    · exact sw_assertOp { m with seen := m.seen.add (m.word 0) } t true
    · exact sw_atOp (m := { m with seen := m.seen.add (m.word 0) }) H
    · exact rfl
    · exact rfl
    · exact sw_oneChar (m := { m with seen := m.seen.add (m.word 0) }) hc H
    · exact rfl
    · exact sw_oneChar (m := { m with seen := m.seen.add (m.word 0) }) hc H
    · exact rfl
    · exact sw_until { m with seen := m.seen.add (m.word 0), pc := m.pc + 1 } t true
    · dsimp only; rw [← sw_attempt]; rfl
    · exact sw_repOne (m := { m with seen := m.seen.add (m.word 0) }) hc H
end
section
open Sre
theorem c_ite {c : Prop} [Decidable c] {a b : Sre.M} {k : Array Nat} (h1 : a.code = k) (h2 : b.code = k) : (if c then a else b).code = k :=
  (apply_ite Sre.M.code c a b).trans (by rw [h1, h2]; exact ite_self k)
section
variable (m : Sre.M)
theorem c_attempt (f : Sre.Frame) (a b : Nat) (c : Bool) : (m.attempt f a b c).code = m.code := c_ite rfl rfl
theorem c_alternative (a : Nat) (k : Sre.Kept) : (m.alternative a k).code = m.code := c_ite rfl (c_attempt ..)
theorem c_afterRun (w : Sre.Wait) (c : Int) (k : Sre.Kept) : (m.afterRun w c k).code = m.code := c_attempt ..
theorem c_afterLoop (w : Sre.Wait) (i : Nat) (c : Int) (wh : Option Nat → Bool) : (m.afterLoop w i c wh).code = m.code := c_attempt ..
theorem c_round (w : Sre.Wait) (i : Nat) (c : Int) (g : Bool) (k : Sre.Kept) : (m.round w i c g k).code = m.code := c_attempt ..
theorem c_until (g : Bool) : (m.until_ g).code = m.code := by
  unfold Sre.M.until_
  cases m.inner with
  | none => exact rfl
  | some i => exact c_ite (c_round ..) (c_ite (c_afterLoop ..) (c_ite (c_round ..) (c_afterLoop ..)))
theorem c_possessive (i : Nat) (c : Int) (b : Option Nat) : (m.possessive i c b).code = m.code := c_ite (c_attempt ..) (c_ite (c_attempt ..) rfl)
theorem c_attemptAt (s : Nat) (f : Bool) : (m.attemptAt s f).code = m.code := by unfold Sre.M.attemptAt; exact c_attempt ..
theorem c_attemptFrom (s : Nat) (f : Bool) : (m.attemptFrom s f).code = m.code := by
  unfold Sre.M.attemptFrom
  split
  · exact c_attemptAt ..
  · split
    · exact c_attemptAt ..
    · rfl
    · rfl
theorem c_oneRes : ∀ r, (oneRes m r).code = m.code
  | .error _ => rfl
  | .ok (false, _) => rfl
  | .ok (true, _) => rfl
theorem c_oneChar : (oneChar m).code = m.code := c_ite rfl (c_oneRes ..)
theorem c_atOp : (atOp m).code = m.code := by
  unfold atOp
  cases m.isAt (m.word 1) with
  | error _ => exact rfl
  | ok b => exact c_ite rfl rfl
theorem c_assertOp (b : Bool) : (assertOp m b).code = m.code := c_ite (c_ite rfl rfl) (c_attempt ..)
theorem c_repRes : ∀ r, (repRes m r).code = m.code
  | .error _ => rfl
  | .ok (n, seen) => c_ite rfl (c_afterRun { m with seen, pos := m.pos + n } _ _ _)
theorem c_repOne : (repOne m).code = m.code := c_ite rfl (c_repRes ..)
theorem c_exec (hc : m.code = tzCode) : m.exec.code = m.code := by
  unfold Sre.M.exec
  cases hop : ops[m.word 0]? with
  | none => rfl
  | some op =>
    have nr : okOp op = true := ok_op (by rw [← hc]; exact hop)
    clear hop
    revert op
    refine okElim ?_ ?_ ?_ ?_ ?_ ?_ ?_ ?_ ?_ ?_ ?_ ?_ ?_ ?_ ?_ ?_
    · rfl
    · exact c_ite rfl rfl
    · exact c_oneChar { m with seen := m.seen.add (m.word 0) }
    · exact c_oneChar { m with seen := m.seen.add (m.word 0) }
    · exact c_assertOp { m with seen := m.seen.add (m.word 0) } false
    · exact c_assertOp { m with seen := m.seen.add (m.word 0) } true
    · exact c_atOp { m with seen := m.seen.add (m.word 0) }
    · rfl
    · rfl
    · exact c_oneChar { m with seen := m.seen.add (m.word 0) }
    · rfl
    · exact c_oneChar { m with seen := m.seen.add (m.word 0) }
    · rfl
    · exact c_until { m with seen := m.seen.add (m.word 0), pc := m.pc + 1 } true
    · dsimp only; rw [c_attempt]
    · exact c_repOne { m with seen := m.seen.add (m.word 0) }
end
theorem noFirst {m : Sre.M} (hc : m.code = tzCode) : m.hasFirstSet = false := by
  unfold Sre.M.hasFirstSet
  rw [hc]
  decide +kernel
noncomputable def takeRes (m back : Sre.M) (f : Sre.Frame) (r : Except String (Bool × Sre.Seen)) : Sre.M :=
    match r with
    | .error why => m.stick why
    | .ok (false, seen) => { back with seen }.say false
    | .ok (true, seen) => { back with seen, pos := f.pos + 1 }.afterRun .takeMore (f.count + 1) f.kept
noncomputable def takeMoreOp (m back : Sre.M) (f : Sre.Frame) : Sre.M := takeRes m back f (accepts m.code (m.pc + 4) (m.text.getD f.pos 0) m.seen)
theorem sw_takeRes (m back : Sre.M) (t : Array Nat) (f : Sre.Frame) : ∀ r, takeRes (sw m t) (sw back t) f r = sw (takeRes m back f r) t
  | .error _ => rfl
  | .ok (false, _) => rfl
  | .ok (true, seen) => sw_afterRun { back with seen, pos := f.pos + 1 } t _ _ _
theorem sw_takeMoreOp {m : Sre.M} {t : Array Nat} (back : Sre.M) (f : Sre.Frame) (hc : m.code = tzCode) (H : ∀ p, Same (t.getD p 0) (m.text.getD p 0)) : takeMoreOp (sw m t) (sw back t) f = sw (takeMoreOp m back f) t :=
  (congrArg (takeRes (sw m t) (sw back t) f) (by rw [show (sw m t).code = tzCode from hc, hc]; exact (H f.pos).acc _ _)).trans (sw_takeRes m back t f _)
theorem c_takeRes (m back : Sre.M) (f : Sre.Frame) (h : back.code = m.code) : ∀ r, (takeRes m back f r).code = m.code
  | .error _ => rfl
  | .ok (false, _) => h
  | .ok (true, seen) => (c_afterRun { back with seen, pos := f.pos + 1 } _ _ _).trans h
theorem c_takeMoreOp (m back : Sre.M) (f : Sre.Frame) (h : back.code = m.code) : (takeMoreOp m back f).code = m.code := c_takeRes m back f h _
theorem sw_resume {m : Sre.M} {t : Array Nat} (hc : m.code = tzCode) (H : ∀ p, Same (t.getD p 0) (m.text.getD p 0)) (f : Sre.Frame) (b : Bool) : (sw m t).resume f b = sw (m.resume f b) t := by
  rcases f with ⟨w, pc, pos, om, cnt, kept, loop, began⟩
  cases w
  case nextStart => repeat' first | exact sw_attemptFrom { m with mustAdvance := false } t (noFirst hc) _ _ | refine sw_iteOf ?_ ?_ | exact rfl
  case takeMore => exact sw_iteOf rfl (sw_iteOf rfl (sw_iteOf rfl (sw_takeMoreOp (m := m) (m.putBack kept) ⟨.takeMore, pc, pos, om, cnt, kept, loop, began⟩ hc H)))
  case nextBranch => repeat' first | exact sw_alternative .. | refine sw_iteOf ?_ ?_ | exact rfl
  case giveBack => repeat' first | exact sw_afterRun .. | refine sw_iteOf ?_ ?_ | exact rfl
  case maxMore => repeat' first | exact sw_afterLoop .. | refine sw_iteOf ?_ ?_ | exact rfl
  case minTail => repeat' first | exact sw_round .. | refine sw_iteOf ?_ ?_ | exact rfl
  case possBelow => repeat' first | exact sw_possessive .. | refine sw_iteOf ?_ ?_ | exact rfl
  case possMore => repeat' first | exact sw_possessive .. | refine sw_iteOf ?_ ?_ | exact rfl
  all_goals repeat' first | refine sw_iteOf ?_ ?_ | exact rfl
theorem c_resume (m : Sre.M) (f : Sre.Frame) (b : Bool) : (m.resume f b).code = m.code := by
  rcases f with ⟨w, pc, pos, om, cnt, kept, loop, began⟩
  cases w
  case takeMore => exact c_ite rfl (c_ite rfl (c_ite rfl (c_takeMoreOp m (m.putBack kept) ⟨.takeMore, pc, pos, om, cnt, kept, loop, began⟩ rfl)))
  all_goals repeat' first | exact rfl | exact c_attemptFrom .. | exact c_alternative .. | exact c_afterRun .. | exact c_afterLoop .. | exact c_round .. | exact c_possessive .. | refine c_ite ?_ ?_
theorem sw_step {m : Sre.M} {t : Array Nat} (hc : m.code = tzCode) (H : ∀ p, Same (t.getD p 0) (m.text.getD p 0)) : (sw m t).step = sw m.step t := by
  rcases m with ⟨code, text, lim, start, ls, wt, ma, pc, pos, handed, om, marks, lm, li, loops, inner, frames, weight, answer, seen, outcome⟩
  refine sw_iteOf rfl ?_
  cases answer with
  | none => exact sw_iteOf (sw_exec hc H) rfl
  | some yes =>
    cases frames with
    | nil => exact rfl
    | cons f rest =>
      exact sw_resume (m := ⟨code, text, lim, start, ls, wt, ma, f.pc, f.pos, handed, f.outermost, marks, lm, li, loops, inner, rest, weight - (1 + f.kept.marks.size), none, seen, outcome⟩) hc H f yes
theorem c_step {m : Sre.M} (hc : m.code = tzCode) : m.step.code = tzCode := by
  rcases m with ⟨code, text, lim, start, ls, wt, ma, pc, pos, handed, om, marks, lm, li, loops, inner, frames, weight, answer, seen, outcome⟩
  refine c_ite hc ?_
  cases answer with
  | none => exact c_ite ((c_exec _ hc).trans hc) hc
  | some yes =>
    cases frames with
    | nil => exact hc
    | cons f rest => exact (c_resume _ _ _).trans hc
theorem t_step {m : Sre.M} (hc : m.code = tzCode) : m.step.text = m.text := by
  have e := sw_step (m := m) (t := m.text) hc fun p => Same.refl _
  have e2 : sw m m.text = m := rfl
  rw [e2] at e
  rw [e]; rfl
theorem sw_run {t : Array Nat} : ∀ (n : Nat) {m : Sre.M}, m.code = tzCode → (∀ p, Same (t.getD p 0) (m.text.getD p 0)) → Sre.M.runFor n (sw m t) = sw (Sre.M.runFor n m) t
  | 0, _, _, _ => rfl
  | n + 1, m, hc, H => by
    unfold Sre.M.runFor
    rw [sw_ite]
    show (if m.outcome.isSome = true then _ else _) = _
    congr 1
    rw [sw_step hc H]
    exact sw_run n (c_step hc) fun p => by rw [t_step hc]; exact H p
theorem ct_run {t : Array Nat} : ∀ (n : Nat) {m : Sre.M}, m.code = tzCode → (∀ p, Same (t.getD p 0) (m.text.getD p 0)) → (Sre.M.runFor n m).code = tzCode ∧ ∀ p, Same (t.getD p 0) ((Sre.M.runFor n m).text.getD p 0)
  | 0, _, hc, H => ⟨hc, H⟩
  | n + 1, m, hc, H => by
    unfold Sre.M.runFor
    split
    · exact ⟨hc, H⟩
    · exact ct_run n (c_step hc) fun p => by rw [t_step hc]; exact H p
theorem sw_drive {t : Array Nat} : ∀ (f : Nat) {m : Sre.M}, m.code = tzCode → (∀ p, Same (t.getD p 0) (m.text.getD p 0)) → drive f (sw m t) = (drive f m).map fun y => sw y t
  | 0, _, _, _ => rfl
  | f + 1, m, hc, H => by
    obtain ⟨hc', H'⟩ := ct_run (t := t) PySem.Builtin.Re.reTurnSteps hc H
    have e := sw_run (t := t) PySem.Builtin.Re.reTurnSteps hc H
    unfold drive
    dsimp only
    rw [e]
    show (if (Sre.M.runFor PySem.Builtin.Re.reTurnSteps m).outcome.isSome = true then _ else _) = _
    split
    · rfl
    · exact sw_drive f hc' H'
end
section
theorem resetLock3 : (0 : Nat) = 0 := by
  w_top off
  k_with_none
  (k_with "w my pick" => (with_reducible first | assumption | exact lo1 | exact lo2 | exact lo3 | exact lo4 | exact ls1 (by assumption) | exact ls2 (by assumption) | exact ls3 (by assumption) | exact pk0 (by assumption) | exact pk1 (by assumption) | exact pk2 (by assumption) | exact pk3 (by assumption) | exact pk4 (by assumption) | exact pk5 (by assumption) | exact pk6 (by assumption) | exact pk7 (by assumption) | exact pk8 (by assumption) | exact pk9 (by assumption) | exact pk10 (by assumption) | exact pk11 (by assumption) | exact pk12 (by assumption) | exact pk13 (by assumption) | exact pk14 (by assumption) | exact pk15 (by assumption) | exact pk16 (by assumption) | exact pk17 (by assumption) | exact qk1 (by assumption) | exact qk2 (by assumption) | exact qk3 (by assumption) | exact qk4 (by assumption) | exact qk5 (by assumption) | exact qk6 (by assumption) | exact qk7 (by assumption) | exact qk8 (by assumption) | exact qk9 (by assumption) | exact qk10 (by assumption) | exact qk11 (by assumption) | exact qk12 (by assumption) | exact qk13 (by assumption) | exact qk14 (by assumption) | exact qk15 (by assumption) | exact qk16 (by assumption) | exact qk17 (by assumption)))
  (k_with "w my sml" => (with_reducible first | (refine Nat.ne_of_lt ?_; k_extra "w my pick") | (refine Nat.ne_of_gt ?_; k_extra "w my pick") | (refine Ne.symm ?_; k_extra "w my pick") | (refine id ?_; k_extra "w my pick") | (refine Nat.le_of_lt ?_; k_extra "w my pick") | exact lrefl | exact lzero | exact one_le | exact room0 (by assumption) | exact room (by assumption) (by decide) | exact room1 (by assumption) (by decide) | exact room2 (by assumption) (by decide) | exact room3 (by assumption) (by decide) | exact le_le (by assumption) (by decide) | exact le_sc (by assumption) | (refine above1' ?_ (by assumption); k_extra "w my pick") | (refine above2' ?_ (by assumption); k_extra "w my pick")))
  (k_with "w my om" => (first | k_extra "w my sml" | lia | omega))
  rfl
open Sre
theorem words_all : ((List.range 100).all fun k => decide (tzCode.getD k 0 < 48) || decide (tzCode.getD k 0 = 58)) = true := by decide +kernel
theorem word_small (k : Nat) : tzCode.getD k 0 < 48 ∨ tzCode.getD k 0 = 58 := by
  by_cases hp : k < 100
  · have := List.all_eq_true.mp words_all k (List.mem_range.mpr hp)
    simpa using this
  · have e : tzCode.getD k 0 = 0 := by
      have : tzCode.size ≤ 100 := by decide
      have : ¬ k < tzCode.size := by k_extra "w my om"
      simp [Array.getD, this]
    k_extra "w my om"
theorem cat_all : ((List.range 10).all fun d => isDigit (48 + d) == isDigit 48 && isSpace (48 + d) == isSpace 48 && isWord (48 + d) == isWord 48 && Unicode.isDecimal (48 + d) == Unicode.isDecimal 48 && Unicode.isSpace (48 + d) == Unicode.isSpace 48 && isWordUni (48 + d) == isWordUni 48 && Unicode.isLineBreak (48 + d) == Unicode.isLineBreak 48) = true := by decide +kernel
theorem cat_dig {d : Nat} (h : d < 10) : isDigit (48 + d) = isDigit 48 ∧ isSpace (48 + d) = isSpace 48 ∧ isWord (48 + d) = isWord 48 ∧ Unicode.isDecimal (48 + d) = Unicode.isDecimal 48 ∧ Unicode.isSpace (48 + d) = Unicode.isSpace 48 ∧ isWordUni (48 + d) = isWordUni 48 ∧ Unicode.isLineBreak (48 + d) = Unicode.isLineBreak 48 := by
  have := List.all_eq_true.mp cat_all d (List.mem_range.mpr h)
  simp only [Bool.and_eq_true, beq_iff_eq] at this
  obtain ⟨⟨⟨⟨⟨⟨a, b⟩, c⟩, d⟩, e⟩, f⟩, g⟩ := this
  exact ⟨a, b, c, d, e, f, g⟩
theorem ne10 (d : Nat) : (48 + d == 10) = (48 == 10) := by
  rw [beq_eq_false_iff_ne.mpr (by k_extra "w my om"), beq_eq_false_iff_ne.mpr (by decide)]
theorem category_dig {d : Nat} (h : d < 10) (k : Nat) : category k (48 + d) = category k 48 := by
  obtain ⟨a, b, c, e, f, g, i⟩ := cat_dig h
  unfold category
  rw [a, b, c, e, f, g, i, ne10]
theorem lit_dig {d k : Nat} (h : d < 10) : (48 + d == tzCode.getD k 0) = (48 == tzCode.getD k 0) := by
  have := word_small k
  rw [beq_eq_false_iff_ne.mpr (by k_extra "w my om"), beq_eq_false_iff_ne.mpr (by k_extra "w my om")]
theorem bit_dig {d k : Nat} (h : d < 10) : (tzCode.getD k 0).testBit (16 + d) = false := by
  have := word_small k
  refine Nat.testBit_lt_two_pow (Nat.lt_of_lt_of_le (show tzCode.getD k 0 < 2 ^ 16 by k_extra "w my om") (Nat.pow_le_pow_right (by decide) (by k_extra "w my om")))
theorem bne10 (d : Nat) : (48 + d != 10) = (48 != 10) := congrArg not (ne10 d)
theorem iteb_same {α : Type} {b b' : Bool} {x y y' : α} (h : b = b') (k : y = y') : (if b = true then x else y) = (if b' = true then x else y') := by rw [h, k]
theorem bind_same {α : Type} {x y : Except String Bool} {f g : Bool → Except String α} (h : x = y) (k : ∀ b, f b = g b) : (x >>= f) = (y >>= g) := by rw [h, funext k]
theorem dig32 : ∀ d, d < 10 → (48 + d) / 32 = 1 ∧ (48 + d) % 32 = 16 + d := by decide
theorem set_dig {d : Nat} (h : d < 10) (i : Nat) : ¬ ((decide (48 + d < 256) && (tzCode.getD (i + (1 + (48 + d) / 32)) 0).testBit ((48 + d) % 32)) = true) := by
  have e := dig32 d h
  rw [e.1, e.2, bit_dig h, Bool.and_false]
  exact Bool.false_ne_true
theorem inSet_dig {d : Nat} (h : d < 10) (fuel : Nat) : ∀ i yes seen, inSet tzCode (48 + d) fuel i yes seen = inSet tzCode 48 fuel i yes seen := by
  induction fuel with
  | zero => exact fun _ _ _ => rfl
  | succ f ih =>
    intro i yes seen
    conv => lhs; whnf
    conv => rhs; whnf
    generalize hop : ops[(fun k => tzCode.getD (i + k) 0) 0]? = o
    cases o with
    | none => exact rfl
    | some op =>
      have nr := ok_op hop
      clear hop
      revert op
      exact okElim rfl rfl rfl rfl rfl rfl rfl (bind_same (category_dig h _) fun b => iteb_same rfl (ih _ _ _)) (((if_neg (set_dig h i)).trans (ih _ _ _)).trans (if_neg (set_dig (d := 0) (by decide) i)).symm) rfl rfl (iteb_same (lit_dig h) (ih _ _ _)) rfl rfl rfl rfl
theorem acc_dig {d : Nat} (h : d < 10) (i : Nat) (seen : Sre.Seen) : accepts tzCode i (48 + d) seen = accepts tzCode i 48 seen := by
  unfold accepts
  dsimp only
  cases hop : ops[tzCode.getD i 0]? with
  | none => exact rfl
  | some op =>
    have nr := ok_op hop
    clear hop
    revert op
    exact okElim rfl rfl (congrArg (fun b => Except.ok (b, seen)) (bne10 d)) rfl rfl rfl rfl rfl rfl (inSet_dig h _ _ _ _) rfl (congrArg (fun b => Except.ok (b, seen)) (lit_dig h)) rfl rfl rfl rfl
theorem same_dig {d : Nat} (h : d < 10) : Same (48 + d) 48 := ⟨acc_dig h, ne10 d, (cat_dig h).2.2.1, (cat_dig h).2.2.2.2.2.1⟩
/-- texts told apart by nothing -/
inductive SameL : List Nat → List Nat → Prop
  | nil : SameL [] []
  | cons {a b : Nat} {l k : List Nat} : Same a b → SameL l k → SameL (a :: l) (b :: k)
theorem SameL.getD {l k : List Nat} (h : SameL l k) : ∀ p, Same (l.toArray.getD p 0) (k.toArray.getD p 0) := by
  induction h with
  | nil => intro p; exact Same.refl _
  | cons a _ ih =>
    intro p
    have e : ∀ (x : Nat) (l : List Nat), (x :: l).toArray.getD p 0 = (match p with | 0 => x | q + 1 => l.toArray.getD q 0) := fun x l => by
      cases p with
      | zero => simp [Array.getD]
      | succ q => simp [Array.getD]
    rw [e, e]
    cases p with
    | zero => exact a
    | succ q => exact ih q
theorem SameL.length {l k : List Nat} (h : SameL l k) : l.length = k.length := by induction h with | nil => rfl | cons _ _ ih => simp [ih]
theorem fs_sw (t t' : Array Nat) (n : Nat) : Sre.forSearch tzCode t 3 0 n false = sw (Sre.forSearch tzCode t' 3 0 n false) t := by
  unfold Sre.forSearch
  dsimp only
  rw [sw_ite]
  congr 1
theorem fs_code (t : Array Nat) (n : Nat) : (Sre.forSearch tzCode t 3 0 n false).code = tzCode := by
  unfold Sre.forSearch
  dsimp only
  split
  · rfl
  · rw [c_attemptFrom]; rfl
theorem fs_text (t : Array Nat) (n : Nat) : (Sre.forSearch tzCode t 3 0 n false).text = t := by
  have := congrArg (·.text) (fs_sw t t n)
  exact this
/-- a search over a text told apart by nothing from another -/
theorem drive_same {l k : List Nat} (h : SameL l k) {y : Sre.M} {n : Nat} (hy : drive 100 (Sre.forSearch tzCode k.toArray 3 0 n false) = some y) : drive 100 (Sre.forSearch tzCode l.toArray 3 0 n false) = some (sw y l.toArray) := by
  rw [fs_sw l.toArray k.toArray n, sw_drive 100 (fs_code _ _) (fun p => by rw [fs_text]; exact h.getD p), hy]
  rfl
end
section
theorem resetZones2 : (0 : Nat) = 0 := by
  w_top off
  k_with_none
  (k_with "w my pick" => (with_reducible first | assumption | exact lo1 | exact lo2 | exact lo3 | exact lo4 | exact ls1 (by assumption) | exact ls2 (by assumption) | exact ls3 (by assumption) | exact pk0 (by assumption) | exact pk1 (by assumption) | exact pk2 (by assumption) | exact pk3 (by assumption) | exact pk4 (by assumption) | exact pk5 (by assumption) | exact pk6 (by assumption) | exact pk7 (by assumption) | exact pk8 (by assumption) | exact pk9 (by assumption) | exact pk10 (by assumption) | exact pk11 (by assumption) | exact pk12 (by assumption) | exact pk13 (by assumption) | exact pk14 (by assumption) | exact pk15 (by assumption) | exact pk16 (by assumption) | exact pk17 (by assumption) | exact qk1 (by assumption) | exact qk2 (by assumption) | exact qk3 (by assumption) | exact qk4 (by assumption) | exact qk5 (by assumption) | exact qk6 (by assumption) | exact qk7 (by assumption) | exact qk8 (by assumption) | exact qk9 (by assumption) | exact qk10 (by assumption) | exact qk11 (by assumption) | exact qk12 (by assumption) | exact qk13 (by assumption) | exact qk14 (by assumption) | exact qk15 (by assumption) | exact qk16 (by assumption) | exact qk17 (by assumption)))
  (k_with "w my sml" => (with_reducible first | (refine Nat.ne_of_lt ?_; k_extra "w my pick") | (refine Nat.ne_of_gt ?_; k_extra "w my pick") | (refine Ne.symm ?_; k_extra "w my pick") | (refine id ?_; k_extra "w my pick") | (refine Nat.le_of_lt ?_; k_extra "w my pick") | exact lrefl | exact lzero | exact one_le | exact room0 (by assumption) | exact room (by assumption) (by decide) | exact room1 (by assumption) (by decide) | exact room2 (by assumption) (by decide) | exact room3 (by assumption) (by decide) | exact le_le (by assumption) (by decide) | exact le_sc (by assumption) | (refine above1' ?_ (by assumption); k_extra "w my pick") | (refine above2' ?_ (by assumption); k_extra "w my pick")))
  (k_with "w my om" => (first | k_extra "w my sml" | lia | omega))
  rfl
/-- a run over a sample text matches, with these spans -/
noncomputable def runYes (t : List Nat) (sp : Array Int) : Bool := match drive 100 (Sre.forSearch tzCode t.toArray 3 0 t.length false) with | some y => isMatched y && !wrongSpan y && decide (spanInts y = sp) | none => false
noncomputable def runNo (t : List Nat) : Bool := match drive 100 (Sre.forSearch tzCode t.toArray 3 0 t.length false) with | some y => isFailed y | none => false
theorem found_yes {t l : List Nat} {sp : Array Int} (h : runYes t sp = true) (hl : SameL l t) : ∃ y, Found tzCode ⟨l.toArray⟩ (some y) ∧ spanInts y = sp := by
  unfold runYes at h
  cases hd : drive 100 (Sre.forSearch tzCode t.toArray 3 0 t.length false) with
  | none => rw [hd] at h; cases h
  | some y =>
    rw [hd] at h
    simp only [Bool.and_eq_true, Bool.not_eq_true', decide_eq_true_eq] at h
    obtain ⟨⟨h1, h2⟩, h3⟩ := h
    refine ⟨sw y l.toArray, ⟨100, sw y l.toArray, by decide, ?_, .inl ⟨h1, h2, rfl⟩⟩, h3⟩
    show drive 100 (Sre.forSearch tzCode l.toArray 3 0 l.toArray.size false) = _
    rw [List.size_toArray, hl.length]
    exact drive_same hl hd
theorem found_no {t l : List Nat} (h : runNo t = true) (hl : SameL l t) : Found tzCode ⟨l.toArray⟩ none := by
  unfold runNo at h
  cases hd : drive 100 (Sre.forSearch tzCode t.toArray 3 0 t.length false) with
  | none => rw [hd] at h; cases h
  | some y =>
    rw [hd] at h
    refine ⟨100, sw y l.toArray, by decide, ?_, .inr ⟨h, rfl⟩⟩
    show drive 100 (Sre.forSearch tzCode l.toArray 3 0 l.toArray.size false) = _
    rw [List.size_toArray, hl.length]
    exact drive_same hl hd
theorem int1_all : ((List.range 10).all fun i => decide (PySem.intText? ⟨#[48 + i]⟩ = some (i : Int))) = true := by decide +kernel
theorem int2_all : ((List.range 10).all fun i => (List.range 10).all fun j => decide (PySem.intText? ⟨#[48 + i, 48 + j]⟩ = some (10 * i + j : Int))) = true := by decide +kernel
theorem int1 {i : Nat} (h : i < 10) : PySem.intText? ⟨#[48 + i]⟩ = some (i : Int) := of_decide_eq_true (List.all_eq_true.mp int1_all i (List.mem_range.mpr h))
theorem int2 {i j : Nat} (h : i < 10) (h' : j < 10) : PySem.intText? ⟨#[48 + i, 48 + j]⟩ = some (10 * i + j : Int) := of_decide_eq_true (List.all_eq_true.mp (List.all_eq_true.mp int2_all i (List.mem_range.mpr h)) j (List.mem_range.mpr h'))
noncomputable def sg (s : Nat) (v : Int) : Int := if s = 45 then -v else v
theorem sg_if {s : Nat} {v : Int} : (if some (⟨#[s]⟩ : Str) = some (Str.ofString "-") then -v else v) = sg s v := by
  unfold sg
  have e : (some (⟨#[s]⟩ : Str) = some (Str.ofString "-")) ↔ s = 45 := by
    rw [show Str.ofString "-" = ⟨#[45]⟩ from by decide]
    constructor
    · intro h
      have := congrArg (fun z : Option Str => (z.getD ⟨#[]⟩).cps.getD 0 0) h
      exact this
    · rintro rfl; rfl
  by_cases h : s = 45
  · rw [if_pos (e.mpr h), if_pos h]
  · rw [if_neg (fun q => h (e.mp q)), if_neg h]
theorem grp_at {x : Str} {y : Sre.M} {sp : Array Int} (h : spanInts y = sp) (k : Nat) : grp x y k = if sp.getD (2 * k) (-1) < 0 || sp.getD (2 * k + 1) (-1) < 0 then none else some ⟨x.cps.extract (sp.getD (2 * k) (-1)).toNat (sp.getD (2 * k + 1) (-1)).toNat⟩ := by unfold grp; rw [h]
noncomputable def sgn (s : Nat) : Prop := s = 43 ∨ s = 45
theorem yA : runYes [43, 48, 58, 48, 48] #[0, 5, 0, 1, 1, 2, 3, 5] = true := by decide +kernel
theorem yA' : runYes [45, 48, 58, 48, 48] #[0, 5, 0, 1, 1, 2, 3, 5] = true := by decide +kernel
theorem yB : runYes [43, 48, 48, 48, 48] #[0, 5, 0, 1, 1, 3, 3, 5] = true := by decide +kernel
theorem yB' : runYes [45, 48, 48, 48, 48] #[0, 5, 0, 1, 1, 3, 3, 5] = true := by decide +kernel
theorem yE : runYes [43, 48] #[0, 2, 0, 1, 1, 2, -1, -1] = true := by decide +kernel
theorem yE' : runYes [45, 48] #[0, 2, 0, 1, 1, 2, -1, -1] = true := by decide +kernel
theorem yF : runYes [48, 48, 48] #[0, 3, -1, -1, 0, 1, 1, 3] = true := by decide +kernel
theorem nA : runNo [43, 48, 58, 48, 48, 120] = true := by decide +kernel
theorem nB : runNo [43, 48, 48, 48, 48, 120] = true := by decide +kernel
theorem nE : runNo [43, 48, 120] = true := by decide +kernel
theorem nF : runNo [48, 48, 48, 120] = true := by decide +kernel
theorem nG : runNo [71, 77, 84, 120] = true := by decide +kernel
theorem nZ : runNo [90, 120] = true := by decide +kernel
theorem utc_not {d : Nat} (h : d ≠ 71 ∧ d ≠ 85 ∧ d ≠ 90) (r : List Nat) : tzUtc ⟨(d :: r).toArray⟩ = false := by
  have key : ∀ (c : Nat) (q : List Nat), d ≠ c → decide ((⟨(d :: r).toArray⟩ : Str) = ⟨(c :: q).toArray⟩) = false := fun c q hc => by
    refine decide_eq_false fun e => ?_
    have := congrArg (fun z : Str => z.cps.getD 0 0) e
    simp [Array.getD] at this
    k_extra "w my om"
  unfold tzUtc
  rw [key 71 [77, 84] h.1, key 85 [84, 67] h.2.1, key 85 [84] h.2.1, key 90 [] h.2.2]
  rfl
theorem utc_dig {i : Nat} (hi : i < 10) (r : List Nat) : tzUtc ⟨((48 + i) :: r).toArray⟩ = false := utc_not (by k_extra "w my om") r
theorem utc_sgn {s : Nat} (h : sgn s) (r : List Nat) : tzUtc ⟨(s :: r).toArray⟩ = false := utc_not (by rcases h with rfl | rfl <;> decide) r
theorem td1 {i : Nat} (h : i < 10) : (0 : Int) ≤ (i : Int) ∧ (i : Int) < 100 := by k_extra "w my om"
theorem td2 {i j : Nat} (h : i < 10) (h' : j < 10) : (0 : Int) ≤ 10 * (i : Int) + (j : Int) ∧ 10 * (i : Int) + (j : Int) < 100 := by k_extra "w my om"
theorem shA {s i j k : Nat} (hs : sgn s) (hi : i < 10) (hj : j < 10) (hk : k < 10) : OffOf ⟨#[s, 48 + i, 58, 48 + j, 48 + k]⟩ (some (sg s (3600 * i + 60 * (10 * j + k)))) := by
  have hy : runYes [s, 48, 58, 48, 48] #[0, 5, 0, 1, 1, 2, 3, 5] = true := hs.elim (fun e => e ▸ yA) (fun e => e ▸ yA')
  have hu : tzUtc ⟨#[s, 48 + i, 58, 48 + j, 48 + k]⟩ = false := utc_sgn hs _
  obtain ⟨y, hf, hsp⟩ := found_yes (l := [s, 48 + i, 58, 48 + j, 48 + k]) hy (.cons (.refl _) (.cons (same_dig hi) (.cons (.refl _) (.cons (same_dig hj) (.cons (same_dig hk) .nil)))))
  have h := OffOf.yes (x := ⟨#[s, 48 + i, 58, 48 + j, 48 + k]⟩) (z2 := ⟨#[48 + i]⟩) (n2 := i) (n3 := 10 * j + k) hu hf ((grp_at hsp 2).trans rfl) (int1 hi) (by show 1 ≤ 640; decide) (td1 hi) (.inr ⟨⟨#[48 + j, 48 + k]⟩, (grp_at hsp 3).trans rfl, by show 0 < 2; decide, by show 2 ≤ 640; decide, int2 hj hk, (td2 hj hk).1, (td2 hj hk).2⟩)
  rw [show grp ⟨#[s, 48 + i, 58, 48 + j, 48 + k]⟩ y 1 = some ⟨#[s]⟩ from (grp_at hsp 1).trans rfl, sg_if] at h
  exact h
theorem shB {s i j k l : Nat} (hs : sgn s) (hi : i < 10) (hj : j < 10) (hk : k < 10) (hl : l < 10) : OffOf ⟨#[s, 48 + i, 48 + j, 48 + k, 48 + l]⟩ (some (sg s (3600 * (10 * i + j) + 60 * (10 * k + l)))) := by
  have hy : runYes [s, 48, 48, 48, 48] #[0, 5, 0, 1, 1, 3, 3, 5] = true := hs.elim (fun e => e ▸ yB) (fun e => e ▸ yB')
  have hu : tzUtc ⟨#[s, 48 + i, 48 + j, 48 + k, 48 + l]⟩ = false := utc_sgn hs _
  obtain ⟨y, hf, hsp⟩ := found_yes (l := [s, 48 + i, 48 + j, 48 + k, 48 + l]) hy (.cons (.refl _) (.cons (same_dig hi) (.cons (same_dig hj) (.cons (same_dig hk) (.cons (same_dig hl) .nil)))))
  have h := OffOf.yes (x := ⟨#[s, 48 + i, 48 + j, 48 + k, 48 + l]⟩) (z2 := ⟨#[48 + i, 48 + j]⟩) (n2 := 10 * i + j) (n3 := 10 * k + l) hu hf ((grp_at hsp 2).trans rfl) (int2 hi hj) (by show 2 ≤ 640; decide) (td2 hi hj) (.inr ⟨⟨#[48 + k, 48 + l]⟩, (grp_at hsp 3).trans rfl, by show 0 < 2; decide, by show 2 ≤ 640; decide, int2 hk hl, (td2 hk hl).1, (td2 hk hl).2⟩)
  rw [show grp ⟨#[s, 48 + i, 48 + j, 48 + k, 48 + l]⟩ y 1 = some ⟨#[s]⟩ from (grp_at hsp 1).trans rfl, sg_if] at h
  exact h
theorem shE {s i : Nat} (hs : sgn s) (hi : i < 10) : OffOf ⟨#[s, 48 + i]⟩ (some (sg s (3600 * i + 60 * 0))) := by
  have hy : runYes [s, 48] #[0, 2, 0, 1, 1, 2, -1, -1] = true := hs.elim (fun e => e ▸ yE) (fun e => e ▸ yE')
  have hu : tzUtc ⟨#[s, 48 + i]⟩ = false := utc_sgn hs _
  obtain ⟨y, hf, hsp⟩ := found_yes (l := [s, 48 + i]) hy (.cons (.refl _) (.cons (same_dig hi) .nil))
  have h := OffOf.yes (x := ⟨#[s, 48 + i]⟩) (z2 := ⟨#[48 + i]⟩) (n2 := i) (n3 := 0) hu hf ((grp_at hsp 2).trans rfl) (int1 hi) (by show 1 ≤ 640; decide) (td1 hi) (.inl ⟨(grp_at hsp 3).trans rfl, rfl⟩)
  rw [show grp ⟨#[s, 48 + i]⟩ y 1 = some ⟨#[s]⟩ from (grp_at hsp 1).trans rfl, sg_if] at h
  exact h
theorem shF {i j k : Nat} (hi : i < 10) (hj : j < 10) (hk : k < 10) : OffOf ⟨#[48 + i, 48 + j, 48 + k]⟩ (some (3600 * i + 60 * (10 * j + k))) := by
  obtain ⟨y, hf, hsp⟩ := found_yes (l := [48 + i, 48 + j, 48 + k]) yF (.cons (same_dig hi) (.cons (same_dig hj) (.cons (same_dig hk) .nil)))
  have h := OffOf.yes (x := ⟨#[48 + i, 48 + j, 48 + k]⟩) (z2 := ⟨#[48 + i]⟩) (n2 := i) (n3 := 10 * j + k) (utc_dig hi _) hf ((grp_at hsp 2).trans rfl) (int1 hi) (by show 1 ≤ 640; decide) (td1 hi) (.inr ⟨⟨#[48 + j, 48 + k]⟩, (grp_at hsp 3).trans rfl, by show 0 < 2; decide, by show 2 ≤ 640; decide, int2 hj hk, (td2 hj hk).1, (td2 hj hk).2⟩)
  rw [show grp ⟨#[48 + i, 48 + j, 48 + k]⟩ y 1 = none from (grp_at hsp 1).trans rfl, if_neg (by simp)] at h
  exact h
noncomputable def dg (c : Nat) : Bool := Nat.ble 48 c && Nat.ble c 57
theorem dg_of {c : Nat} (h : dg c = true) : ∃ i, i < 10 ∧ c = 48 + i := by
  unfold dg at h
  rw [Bool.and_eq_true] at h
  have h1 := Nat.le_of_ble_eq_true h.1
  have h2 := Nat.le_of_ble_eq_true h.2
  exact ⟨c - 48, Nat.sub_lt_left_of_lt_add h1 (Nat.lt_succ_of_le h2), (Nat.add_sub_cancel' h1).symm⟩
/-- what a zone text of one of the shapes tells -/
noncomputable def told : List Nat → Option Int
  | [s, a] => if (s == 43 || s == 45) && dg a then some (sg s (3600 * ((a - 48 : Nat) : Int) + 60 * 0)) else none
  | [a, b, c] => if dg a && dg b && dg c then some (3600 * ((a - 48 : Nat) : Int) + 60 * (10 * ((b - 48 : Nat) : Int) + ((c - 48 : Nat) : Int))) else none
  | [s, a, b, c, d] =>
    if (s == 43 || s == 45) && dg a && dg c && dg d then
      if b == 58 then some (sg s (3600 * ((a - 48 : Nat) : Int) + 60 * (10 * ((c - 48 : Nat) : Int) + ((d - 48 : Nat) : Int))))
      else if dg b then some (sg s (3600 * (10 * ((a - 48 : Nat) : Int) + ((b - 48 : Nat) : Int)) + 60 * (10 * ((c - 48 : Nat) : Int) + ((d - 48 : Nat) : Int)))) else none
    else none
  | _ => none
theorem sgn_of {s : Nat} (h : (s == 43 || s == 45) = true) : sgn s := by
  rw [Bool.or_eq_true, beq_iff_eq, beq_iff_eq] at h
  exact h
theorem told_ok {l : List Nat} {k : Int} (h : told l = some k) : OffOf ⟨l.toArray⟩ (some k) := by
  match l, h with
  | [s, a], h =>
    change (if _ then _ else _) = some k at h
    split at h
    · rename_i hc
      rw [Bool.and_eq_true] at hc
      obtain ⟨i, hi, rfl⟩ := dg_of hc.2
      rw [Nat.add_sub_cancel_left] at h
      rw [← h]
      exact shE (sgn_of hc.1) hi
    · cases h
  | [a, b, c], h =>
    change (if _ then _ else _) = some k at h
    split at h
    · rename_i hc
      rw [Bool.and_eq_true, Bool.and_eq_true] at hc
      obtain ⟨i, hi, rfl⟩ := dg_of hc.1.1
      obtain ⟨j, hj, rfl⟩ := dg_of hc.1.2
      obtain ⟨n, hn, rfl⟩ := dg_of hc.2
      rw [Nat.add_sub_cancel_left, Nat.add_sub_cancel_left, Nat.add_sub_cancel_left] at h
      rw [← h]
      exact shF hi hj hn
    · cases h
  | [s, a, b, c, d], h =>
    change (if _ then _ else _) = some k at h
    split at h
    · rename_i hc
      rw [Bool.and_eq_true, Bool.and_eq_true, Bool.and_eq_true] at hc
      obtain ⟨i, hi, rfl⟩ := dg_of hc.1.1.2
      obtain ⟨j, hj, rfl⟩ := dg_of hc.1.2
      obtain ⟨n, hn, rfl⟩ := dg_of hc.2
      rw [Nat.add_sub_cancel_left, Nat.add_sub_cancel_left, Nat.add_sub_cancel_left] at h
      split at h
      · rename_i hb
        rw [beq_iff_eq] at hb
        subst hb
        rw [← h]
        exact shA (sgn_of hc.1.1.1) hi hj hn
      · split at h
        · rename_i hb
          obtain ⟨q, hq, rfl⟩ := dg_of hb
          rw [Nat.add_sub_cancel_left] at h
          rw [← h]
          exact shB (sgn_of hc.1.1.1) hi hq hj hn
        · cases h
    · cases h
/-- a shape with an x behind -/
noncomputable def toldNo : List Nat → Bool
  | [s, a, e] => s == 43 && dg a && e == 120
  | [a, b, c, e] => dg a && dg b && dg c && e == 120
  | [s, a, b, c, d, e] => s == 43 && dg a && (b == 58 || dg b) && dg c && dg d && e == 120
  | _ => false
theorem toldNo_ok {l : List Nat} (h : toldNo l = true) : OffOf ⟨l.toArray⟩ none := by
  match l, h with
  | [s, a, e], h =>
    change (s == 43 && dg a && e == 120) = true at h
    simp only [Bool.and_eq_true, beq_iff_eq] at h
    obtain ⟨⟨rfl, ha⟩, rfl⟩ := h
    obtain ⟨i, hi, rfl⟩ := dg_of ha
    exact .no (utc_sgn (.inl rfl) _) (found_no nE (.cons (.refl _) (.cons (same_dig hi) (.cons (.refl _) .nil))))
  | [a, b, c, e], h =>
    change (dg a && dg b && dg c && e == 120) = true at h
    simp only [Bool.and_eq_true, beq_iff_eq] at h
    obtain ⟨⟨⟨ha, hb⟩, hc⟩, rfl⟩ := h
    obtain ⟨i, hi, rfl⟩ := dg_of ha
    obtain ⟨j, hj, rfl⟩ := dg_of hb
    obtain ⟨n, hn, rfl⟩ := dg_of hc
    exact .no (utc_dig hi _) (found_no nF (.cons (same_dig hi) (.cons (same_dig hj) (.cons (same_dig hn) (.cons (.refl _) .nil)))))
  | [s, a, b, c, d, e], h =>
    change (s == 43 && dg a && (b == 58 || dg b) && dg c && dg d && e == 120) = true at h
    simp only [Bool.and_eq_true, Bool.or_eq_true, beq_iff_eq] at h
    obtain ⟨⟨⟨⟨⟨rfl, ha⟩, hb⟩, hc⟩, hd⟩, rfl⟩ := h
    obtain ⟨i, hi, rfl⟩ := dg_of ha
    obtain ⟨j, hj, rfl⟩ := dg_of hc
    obtain ⟨n, hn, rfl⟩ := dg_of hd
    rcases hb with rfl | hb
    · exact .no (utc_sgn (.inl rfl) _) (found_no nA (.cons (.refl _) (.cons (same_dig hi) (.cons (.refl _) (.cons (same_dig hj) (.cons (same_dig hn) (.cons (.refl _) .nil)))))))
    · obtain ⟨q, hq, rfl⟩ := dg_of hb
      exact .no (utc_sgn (.inl rfl) _) (found_no nB (.cons (.refl _) (.cons (same_dig hi) (.cons (same_dig hq) (.cons (same_dig hj) (.cons (same_dig hn) (.cons (.refl _) .nil)))))))
noncomputable def zoneGood (i d : Nat) : Bool :=
  plain (zone ((i : Int) - 90) d) && ((tzUtc (zone ((i : Int) - 90) d) && ((i : Int) == 90)) || decide (told (zone ((i : Int) - 90) d).cps.toList = some (60 * ((i : Int) - 90))))
noncomputable def zoneNone (i d : Nat) : Bool := decide ((zone (i : Int) d ++ Str.ofString "x").cps.toList = [71, 77, 84, 120]) || decide ((zone (i : Int) d ++ Str.ofString "x").cps.toList = [90, 120]) || toldNo (zone (i : Int) d ++ Str.ofString "x").cps.toList
theorem good_all : ((List.range 4).all fun d => (List.range 181).all fun i => zoneGood i d) = true := by decide +kernel
theorem none_all : ((List.range 4).all fun d => (List.range 61).all fun i => zoneNone i d) = true := by decide +kernel
theorem str_back (x : Str) : (⟨x.cps.toList.toArray⟩ : Str) = x := by cases x; simp
theorem zone_tells {mi dr : Int} (h1 : -90 ≤ mi) (h2 : mi ≤ 90) (h3 : 0 ≤ dr) (h4 : dr < 4) : OffOf (zone mi dr) (some (60 * mi)) ∧ plain (zone mi dr) = true := by
  have n0 : 0 ≤ mi + 90 := by k_extra "w my om"
  have n1 : mi + 90 < (181 : Nat) := Int.lt_of_le_of_lt (Int.add_le_add_right h2 90) (by decide)
  have h := List.all_eq_true.mp (List.all_eq_true.mp good_all dr.toNat (List.mem_range.mpr ((Int.toNat_lt h3).mpr h4))) (mi + 90).toNat (List.mem_range.mpr ((Int.toNat_lt n0).mpr n1))
  unfold zoneGood at h
  rw [Int.toNat_of_nonneg n0, Int.add_sub_cancel, Int.toNat_of_nonneg h3] at h
  simp only [Bool.and_eq_true, Bool.or_eq_true, beq_iff_eq, decide_eq_true_eq] at h
  obtain ⟨hp, h⟩ := h
  refine ⟨?_, hp⟩
  rcases h with ⟨hu, h0⟩ | h
  · have e0 : mi = 0 := by k_extra "w my om"
    rw [e0] at hu ⊢
    exact .utc hu
  · rw [← str_back (zone mi dr)]
    exact told_ok h
theorem zone_none {mi dr : Int} (h1 : 0 ≤ mi) (h2 : mi ≤ 60) (h3 : 0 ≤ dr) (h4 : dr < 4) : OffOf (zone mi dr ++ Str.ofString "x") none := by
  have h := List.all_eq_true.mp (List.all_eq_true.mp none_all dr.toNat (List.mem_range.mpr ((Int.toNat_lt h3).mpr h4))) mi.toNat (List.mem_range.mpr ((Int.toNat_lt h1).mpr (Int.lt_of_le_of_lt h2 (by decide))))
  unfold zoneNone at h
  rw [Int.toNat_of_nonneg h1, Int.toNat_of_nonneg h3] at h
  rw [← str_back (zone mi dr ++ Str.ofString "x")]
  simp only [Bool.or_eq_true, decide_eq_true_eq] at h
  rcases h with (h | h) | h
  · rw [h]; exact .no rfl (found_no nG (.cons (.refl _) (.cons (.refl _) (.cons (.refl _) (.cons (.refl _) .nil)))))
  · rw [h]; exact .no rfl (found_no nZ (.cons (.refl _) (.cons (.refl _) .nil)))
  · exact toldNo_ok h
end
section
theorem resetCnt : (0 : Nat) = 0 := by
  w_top off
  k_with_none
  (k_with "w my pick" => (with_reducible first | assumption | exact lo1 | exact lo2 | exact lo3 | exact lo4 | exact ls1 (by assumption) | exact ls2 (by assumption) | exact ls3 (by assumption) | exact pk0 (by assumption) | exact pk1 (by assumption) | exact pk2 (by assumption) | exact pk3 (by assumption) | exact pk4 (by assumption) | exact pk5 (by assumption) | exact pk6 (by assumption) | exact pk7 (by assumption) | exact pk8 (by assumption) | exact pk9 (by assumption) | exact pk10 (by assumption) | exact pk11 (by assumption) | exact pk12 (by assumption) | exact pk13 (by assumption) | exact pk14 (by assumption) | exact pk15 (by assumption) | exact pk16 (by assumption) | exact pk17 (by assumption) | exact qk1 (by assumption) | exact qk2 (by assumption) | exact qk3 (by assumption) | exact qk4 (by assumption) | exact qk5 (by assumption) | exact qk6 (by assumption) | exact qk7 (by assumption) | exact qk8 (by assumption) | exact qk9 (by assumption) | exact qk10 (by assumption) | exact qk11 (by assumption) | exact qk12 (by assumption) | exact qk13 (by assumption) | exact qk14 (by assumption) | exact qk15 (by assumption) | exact qk16 (by assumption) | exact qk17 (by assumption)))
  (k_with "w my sml" => (with_reducible first | (refine Nat.ne_of_lt ?_; k_extra "w my pick") | (refine Nat.ne_of_gt ?_; k_extra "w my pick") | (refine Ne.symm ?_; k_extra "w my pick") | (refine id ?_; k_extra "w my pick") | (refine Nat.le_of_lt ?_; k_extra "w my pick") | exact lrefl | exact lzero | exact one_le | exact room0 (by assumption) | exact room (by assumption) (by decide) | exact room1 (by assumption) (by decide) | exact room2 (by assumption) (by decide) | exact room3 (by assumption) (by decide) | exact le_le (by assumption) (by decide) | exact le_sc (by assumption) | (refine above1' ?_ (by assumption); k_extra "w my pick") | (refine above2' ?_ (by assumption); k_extra "w my pick")))
  (k_with "w my om" => (first | k_extra "w my sml" | lia | omega))
  rfl
open PySem.StrLaws PySem.Builtin PySem.Builtin.Str
theorem count_run (x : Str) (c limit : Nat) : ∀ (m cur : Nat) (st : Array Nat × Nat), st.snd ≤ cur → st.fst.size + m ≤ limit →
    (forIn (List.range' cur m) st (occBody x ⟨#[c]⟩ x.length limit)).run.fst.size = st.fst.size + ((x.cps.toList.drop cur).take m).count c := by
  intro FF
  induction FF with
  | zero =>
    intro cur st _ _
    simp [Id.run]; rfl
  | succ m ih =>
    intro cur st h1 h2
    rw [List.range'_succ, List.forIn_cons]
    unfold occBody
    have key := subAt_one x c cur
    split
    · rename_i hc
      have e : x.cps.toList[cur]? = some c := key.mp ⟨hc.1.2, hc.2⟩
      have hd : x.cps.toList.drop cur = c :: x.cps.toList.drop (cur + 1) := by
        obtain ⟨hlt, he⟩ := List.getElem?_eq_some_iff.mp e
        rw [List.drop_eq_getElem_cons hlt, he]
      refine (ih (cur + 1) _ ?_ ?_).trans ?_
      · exact Nat.le_refl _
      · show (st.fst.push cur).size + m ≤ limit
        rw [Array.size_push]; k_extra "w my om"
      · show (st.fst.push cur).size + _ = _
        rw [Array.size_push, hd, List.take_succ_cons, List.count_cons_self]; k_extra "w my om"
    · rename_i hc
      have e : x.cps.toList[cur]? ≠ some c := fun e => by
        have := key.mpr e
        exact hc ⟨⟨⟨by k_extra "w my om", h1⟩, this.1⟩, this.2⟩
      refine (ih (cur + 1) _ (by show st.snd ≤ cur + 1; k_extra "w my om") (by show st.fst.size + m ≤ limit; k_extra "w my om")).trans ?_
      show st.fst.size + _ = _
      by_cases hlt : cur < x.cps.toList.length
      · have hd : x.cps.toList.drop cur = x.cps.toList[cur] :: x.cps.toList.drop (cur + 1) := List.drop_eq_getElem_cons hlt
        have hne : x.cps.toList[cur] ≠ c := fun q => e (by rw [List.getElem?_eq_getElem hlt, q])
        rw [hd, List.take_succ_cons, List.count_cons_of_ne hne]
      · rw [List.drop_eq_nil_of_le (by k_extra "w my om"), List.drop_eq_nil_of_le (by k_extra "w my om")]; simp
theorem count_one (x : Str) (c : Nat) : Txt.count x ⟨#[c]⟩ = (x.cps.toList.count c : Int) := by
  show (((occurrences x ⟨#[c]⟩ 0 x.length (x.length + 1)).length : Nat) : Int) = _
  rw [occ_eq, Array.length_toList, count_run x c (x.length + 1) (x.length + 1 - 0) 0 _ (Nat.le_refl _) (by simp)]
  rw [List.drop_zero, List.take_of_length_le (by simp [Str.length])]
  simp
end
section
theorem resetGuests : (0 : Nat) = 0 := by
  w_top off
  k_with_none
  (k_with "w my pick" => (with_reducible first | assumption | exact lo1 | exact lo2 | exact lo3 | exact lo4 | exact ls1 (by assumption) | exact ls2 (by assumption) | exact ls3 (by assumption) | exact pk0 (by assumption) | exact pk1 (by assumption) | exact pk2 (by assumption) | exact pk3 (by assumption) | exact pk4 (by assumption) | exact pk5 (by assumption) | exact pk6 (by assumption) | exact pk7 (by assumption) | exact pk8 (by assumption) | exact pk9 (by assumption) | exact pk10 (by assumption) | exact pk11 (by assumption) | exact pk12 (by assumption) | exact pk13 (by assumption) | exact pk14 (by assumption) | exact pk15 (by assumption) | exact pk16 (by assumption) | exact pk17 (by assumption) | exact qk1 (by assumption) | exact qk2 (by assumption) | exact qk3 (by assumption) | exact qk4 (by assumption) | exact qk5 (by assumption) | exact qk6 (by assumption) | exact qk7 (by assumption) | exact qk8 (by assumption) | exact qk9 (by assumption) | exact qk10 (by assumption) | exact qk11 (by assumption) | exact qk12 (by assumption) | exact qk13 (by assumption) | exact qk14 (by assumption) | exact qk15 (by assumption) | exact qk16 (by assumption) | exact qk17 (by assumption)))
  (k_with "w my sml" => (with_reducible first | (refine Nat.ne_of_lt ?_; k_extra "w my pick") | (refine Nat.ne_of_gt ?_; k_extra "w my pick") | (refine Ne.symm ?_; k_extra "w my pick") | (refine id ?_; k_extra "w my pick") | (refine Nat.le_of_lt ?_; k_extra "w my pick") | exact lrefl | exact lzero | exact one_le | exact room0 (by assumption) | exact room (by assumption) (by decide) | exact room1 (by assumption) (by decide) | exact room2 (by assumption) (by decide) | exact room3 (by assumption) (by decide) | exact le_le (by assumption) (by decide) | exact le_sc (by assumption) | (refine above1' ?_ (by assumption); k_extra "w my pick") | (refine above2' ?_ (by assumption); k_extra "w my pick")))
  (k_with "w my om" => (first | k_extra "w my sml" | lia | omega))
  rfl
theorem rgGuestsx1 : (0 : Nat) = 0 := by
  (k_with "w my k_room" => ((try simp only [depth_under_make, depth_under_kw, depth_in1, depth_deeper]); (show _ < 1000); (try dsimp only); omega))
  (k_with "w my units_room" => ((try simp only [units_in1, units_deeper, Around.mark_units]); (show _ < 9900); (try dsimp only); omega))
  (k_with "w my small" => (first
  | (refine Sm.int ?_; (try simp only [Int.fmod_eq_emod_of_nonneg, Int.fdiv_eq_ediv_of_nonneg, Int.reduceLE]); omega)
  | (apply Sm.slice; k_extra "w my small")
  | (apply Sm.add <;> k_extra "w my small")
  | (apply Sm.ite <;> k_extra "w my small")
  | assumption
  | exact Sm.refl _))
  (k_with "w subscriptTail Name Slice str ref" => ((with_reducible show wpAny _ _ (subscriptTail _ (Expr.Slice (some _) none none _) (Value.str _ _) (Value.ref _)) _ _ _); dsimp only; (with_reducible rename Fr _ _ _ _ => F'); (with_reducible rename News _ _ _ _ => N'); (refine' slice_strN_sn (hsz := by (apply Sm.size <;> first | k_extra "w my small" | decide)) (s := ⟨_, _, _, _, _⟩) F' N' ?_); intro _ _ _ _ _))
  (k_with "w binaryOp Add str str" => ((with_reducible show wpAny _ _ (binaryOp Operator.Add (Value.str _ _) (Value.str _ _)) _ _ _); (refine' PyProof.Rows.add_str ?_ (by (apply Sm.size2 <;> first | k_extra "w my small" | decide))); intro _ _))
  (k_with "w ite" => ((with_reducible refine ite_strs ?_); intro _))
  (k_with "w eval ListComp" => (refine stop_here ?_))
  (k_with "w CompSrc" => (refine stop_here ?_))
  (k_with "w call ref" => ((with_reducible show wpAny _ _ (call (Value.ref 53) _ _) _ _ _); refine stop_here ?_))
  rfl
set_option maxHeartbeats 8000000 in
theorem guests_spec {w : World} {A : Around} {s : Shared} {G base : Heap} {outer : List Env} {p : Program} {loose : List Str} {mean : ExcName → Option Value} {mg mb : Str → Option Value}
    (hS : Setup 20 w A base outer p loose mean mg mb G) (hG : ∀ b o, G.get? b = some o → s.heap.get? b = some o) {l : Addr} {x : Nat → Int} {u : Nat → Tok} (hP : s.heap.get? 150 = some (tabObj #[])) (hPG : G.get? 150 = none) (hl : s.heap.IsList l (intv x u 7).toArray) :
    CallsTo w A (.ref 153) [.ref l] [] s [150] (fun v h' => ∃ (a : PplA) (j0 j1 j2 j3 : Nat), v = .ref a.l ∧ RowIs x 4 [j0, j1, j2, j3] ∧ a.are (nm j0) (nm j1) (nm j2) (nm j3) (x j0) (x j1) (x j2) (x j3) ∧ Holds h' (pplLed a) ∧ (∀ q ∈ pplLed a, s.heap.get? q.1 = none) ∧ ∃ ps, h'.get? 150 = some (tabObj ps)) := by
  intro R hret
  (rename Setup _ _ _ _ _ _ _ _ _ _ _ => hSu)
  apply Setup.open hSu
  clear hSu
  intro dpt grs uni X T B hdp hun
  refine' enterC (news := [(150, tabObj #[])]) ?k1 ?k2 ?kb ?k3 ?kN ?k6 ?k7 ?k8 ?k9 ?kB ?kD ?_ ?c2 ?c3 ?c4
  case kN => exact fun q hq => by rw [List.mem_singleton.mp hq]; exact ⟨hP, hPG⟩
  (case k1 => assumption)
  (case k2 => assumption)
  (case kb => assumption)
  (case k3 => assumption)
  (case k6 => k_dflt k_is)
  (case k7 => k_dflt k_is)
  (case k8 => (show _ < 1000; dsimp only; omega))
  (case k9 => exact BindsTo.of_eq rfl)
  (case kB => (intro _; exact (by simp)))
  (case kD => decide +kernel)
  (case c2 => exact rfl)
  (case c3 => exact rfl)
  (case c4 => exact rfl)
  intro g L' h₁ tk cells hg hg' hL' X' T' B' F' N' Y' hl'
  have hCd : CodeHd g 152 150 := codeHd_of_K X' (by kernel_rfl)
  have hl1 : g.IsList l (intv x u 7).toArray := by
    obtain ⟨o, ho, hc, n, hd⟩ := hl
    refine ⟨o, hg _ _ ho fun q => ?_, hc, n, hd⟩
    have e : l = 150 := by simpa using q
    rw [e, hP] at ho
    cases ho
    cases hc
  k_lt hl'
  k_cells Y'
  (try simp only [List.cons_append, List.nil_append] at N')
  (try dsimp only)
  (try k_fold)
  k_steps
  unfold Stop
  (rename Fr _ _ _ _ => F); (rename News _ _ _ _ => N); (rename Obj.IsDictOf (PySem.strKind _ _) _ _ => hD)
  rw [show Txt.item (Str.ofString "abcd") (0 + ((0 : Nat) : Int)) = nm 0 from by decide +kernel] at hD ⊢
  replace hD := dk_conv (x := x) (u := u) (i := 1) hD rfl
  dsimp only [List.filterMap, backToKw, keywordEach, List.map, List.zip, List.zipWith]
  have hK := came_keys (N.get (.head _)) ⟨_, _, _, _, rfl, N.get (.tail _ (.head _)), by assumption, by assumption⟩ (N.get (.tail _ (.tail _ (.tail _ (.tail _ (.tail _ (.head _))))))) (by assumption) (N.get (.tail _ (.tail _ (.tail _ (.tail _ (.head _)))))) hD
  refine use (insr_key (vs := []) (ns := ([] : List Nat).map x) (Setup.down0 (n := 10) (A := ⟨none, _, some outer, _, _⟩) ⟨X', T', B', rfl, by dsimp only; k_extra "w my om", by dsimp only; k_extra "w my om"⟩ F N rfl rfl) (fun b o e => of_hideAll _ e) (N.get (.tail _ (.tail _ (.tail _ (.head _))))) (hideAll_none _ (List.mem_map_of_mem (.tail _ (.tail _ (.tail _ (.head _)))))) (row_len .nil (RowIs.nil x)).1 (by rw [(row_len .nil (RowIs.nil x)).2]; decide) (RowIs.nil x).sorted
    ⟨_, _, N.get (.head _), rfl⟩ (row_keys hK .nil (RowIs.nil x)) (hK 0 (by decide) _)) F N (by first | exact each_nil | (refine each_cons ?_ each_nil; repeat (first | exact .head _ | refine .tail _ ?_)) | (refine each_cons ?_ (each_cons ?_ each_nil) <;> repeat (first | exact .head _ | refine .tail _ ?_)) | simp) ?_
  rintro _ h2 tk2 F2 _ ht2 ⟨rfl, k0, hc0, he0⟩
  obtain ⟨vs1, js1, he1, n1, r1⟩ := row_ins he0 rfl .nil (RowIs.nil x) hc0
  have N2 := News.upd N (by k_upd) ht2 he1
  replace N2 := Mine.News.drop1 N2
  clear F N hc0 he0 ht2 he1 hK 
  dsimp only at F2 N2 ⊢
  k_steps
  unfold Stop
  (rename Fr _ _ _ _ => F); (rename News _ _ _ _ => N); (rename Obj.IsDictOf (PySem.strKind _ _) _ _ => hD)
  rw [show Txt.item (Str.ofString "abcd") (0 + ((1 : Nat) : Int)) = nm 1 from by decide +kernel] at hD ⊢
  replace hD := dk_conv (x := x) (u := u) (i := 2) hD rfl
  dsimp only [List.filterMap, backToKw, keywordEach, List.map, List.zip, List.zipWith]
  have hK := came_keys (N.get (.head _)) ⟨_, _, _, _, rfl, N.get (.tail _ (.tail _ (.head _))), by assumption, by assumption⟩ (N.get (.tail _ (.tail _ (.tail _ (.tail _ (.tail _ (.head _))))))) (by assumption) (N.get (.tail _ (.tail _ (.tail _ (.tail _ (.head _)))))) hD
  refine use (insr_key (vs := vs1) (ns := js1.map x) (Setup.down0 (n := 10) (A := ⟨none, _, some outer, _, _⟩) ⟨X', T', B', rfl, by dsimp only; k_extra "w my om", by dsimp only; k_extra "w my om"⟩ F N rfl rfl) (fun b o e => of_hideAll _ e) (N.get (.tail _ (.tail _ (.tail _ (.head _))))) (hideAll_none _ (List.mem_map_of_mem (.tail _ (.tail _ (.tail _ (.head _)))))) (row_len n1 r1).1 (by rw [(row_len n1 r1).2]; decide) r1.sorted
    ⟨_, _, N.get (.head _), rfl⟩ (row_keys hK n1 r1) (hK 1 (by decide) _)) F N (by first | exact each_nil | (refine each_cons ?_ each_nil; repeat (first | exact .head _ | refine .tail _ ?_)) | (refine each_cons ?_ (each_cons ?_ each_nil) <;> repeat (first | exact .head _ | refine .tail _ ?_)) | simp) ?_
  rintro _ h2 tk2 F2 _ ht2 ⟨rfl, k0, hc0, he0⟩
  obtain ⟨vs2, js2, he1, n2, r2⟩ := row_ins he0 rfl n1 r1 hc0
  have N2 := News.upd N (by k_upd) ht2 he1
  replace N2 := Mine.News.drop1 N2
  clear F N hc0 he0 ht2 he1 hK n1 r1
  dsimp only at F2 N2 ⊢
  k_steps
  unfold Stop
  (rename Fr _ _ _ _ => F); (rename News _ _ _ _ => N); (rename Obj.IsDictOf (PySem.strKind _ _) _ _ => hD)
  rw [show Txt.item (Str.ofString "abcd") (0 + ((2 : Nat) : Int)) = nm 2 from by decide +kernel] at hD ⊢
  replace hD := dk_conv (x := x) (u := u) (i := 3) hD rfl
  dsimp only [List.filterMap, backToKw, keywordEach, List.map, List.zip, List.zipWith]
  have hK := came_keys (N.get (.head _)) ⟨_, _, _, _, rfl, N.get (.tail _ (.tail _ (.head _))), by assumption, by assumption⟩ (N.get (.tail _ (.tail _ (.tail _ (.tail _ (.tail _ (.head _))))))) (by assumption) (N.get (.tail _ (.tail _ (.tail _ (.tail _ (.head _)))))) hD
  refine use (insr_key (vs := vs2) (ns := js2.map x) (Setup.down0 (n := 10) (A := ⟨none, _, some outer, _, _⟩) ⟨X', T', B', rfl, by dsimp only; k_extra "w my om", by dsimp only; k_extra "w my om"⟩ F N rfl rfl) (fun b o e => of_hideAll _ e) (N.get (.tail _ (.tail _ (.tail _ (.head _))))) (hideAll_none _ (List.mem_map_of_mem (.tail _ (.tail _ (.tail _ (.head _)))))) (row_len n2 r2).1 (by rw [(row_len n2 r2).2]; decide) r2.sorted
    ⟨_, _, N.get (.head _), rfl⟩ (row_keys hK n2 r2) (hK 2 (by decide) _)) F N (by first | exact each_nil | (refine each_cons ?_ each_nil; repeat (first | exact .head _ | refine .tail _ ?_)) | (refine each_cons ?_ (each_cons ?_ each_nil) <;> repeat (first | exact .head _ | refine .tail _ ?_)) | simp) ?_
  rintro _ h2 tk2 F2 _ ht2 ⟨rfl, k0, hc0, he0⟩
  obtain ⟨vs3, js3, he1, n3, r3⟩ := row_ins he0 rfl n2 r2 hc0
  have N2 := News.upd N (by k_upd) ht2 he1
  replace N2 := Mine.News.drop1 N2
  clear F N hc0 he0 ht2 he1 hK n2 r2
  dsimp only at F2 N2 ⊢
  k_steps
  unfold Stop
  (rename Fr _ _ _ _ => F); (rename News _ _ _ _ => N); (rename Obj.IsDictOf (PySem.strKind _ _) _ _ => hD)
  rw [show Txt.item (Str.ofString "abcd") (0 + ((3 : Nat) : Int)) = nm 3 from by decide +kernel] at hD ⊢
  replace hD := dk_conv (x := x) (u := u) (i := 4) hD rfl
  dsimp only [List.filterMap, backToKw, keywordEach, List.map, List.zip, List.zipWith]
  have hK := came_keys (N.get (.head _)) ⟨_, _, _, _, rfl, N.get (.tail _ (.tail _ (.head _))), by assumption, by assumption⟩ (N.get (.tail _ (.tail _ (.tail _ (.tail _ (.tail _ (.head _))))))) (by assumption) (N.get (.tail _ (.tail _ (.tail _ (.tail _ (.head _)))))) hD
  refine use (insr_key (vs := vs3) (ns := js3.map x) (Setup.down0 (n := 10) (A := ⟨none, _, some outer, _, _⟩) ⟨X', T', B', rfl, by dsimp only; k_extra "w my om", by dsimp only; k_extra "w my om"⟩ F N rfl rfl) (fun b o e => of_hideAll _ e) (N.get (.tail _ (.tail _ (.tail _ (.head _))))) (hideAll_none _ (List.mem_map_of_mem (.tail _ (.tail _ (.tail _ (.head _)))))) (row_len n3 r3).1 (by rw [(row_len n3 r3).2]; decide) r3.sorted
    ⟨_, _, N.get (.head _), rfl⟩ (row_keys hK n3 r3) (hK 3 (by decide) _)) F N (by first | exact each_nil | (refine each_cons ?_ each_nil; repeat (first | exact .head _ | refine .tail _ ?_)) | (refine each_cons ?_ (each_cons ?_ each_nil) <;> repeat (first | exact .head _ | refine .tail _ ?_)) | simp) ?_
  rintro _ h2 tk2 F2 _ ht2 ⟨rfl, k0, hc0, he0⟩
  obtain ⟨vs4, js4, he1, n4, r4⟩ := row_ins he0 rfl n3 r3 hc0
  have N2 := News.upd N (by k_upd) ht2 he1
  replace N2 := Mine.News.drop1 N2
  clear F N hc0 he0 ht2 he1 hK n3 r3
  dsimp only at F2 N2 ⊢
  k_steps
  unfold Stop
  (rename Fr _ _ _ _ => F)
  refine LCg.ListComp_U (F₀ := F) (by with_unfolding_all rfl) (by decide) (by rfl) (by decide) (by rfl) ?_
  k_steps
  unfold Stop
  (rename Fr _ _ _ _ => F); (rename News _ _ _ _ => N); (rename Obj.IsDictOf (PySem.strKind _ _) _ _ => hD)
  refine comp_came (x := x) (u := u) (i := 4) rfl F N (.tail _ (.head _)) (.tail _ (.tail _ (.tail _ (.head _)))) (by assumption) (.tail _ (.tail _ (.head _))) hD n4 (fun j hj => r4.lt hj) (by rw [(row_len n4 r4).1, (row_len n4 r4).2]; decide) (fun C => rfl) ?_
  intro ys nw D h tk F3 N3 o1 hsub hAll
  obtain ⟨j0, j1, j2, j3, rfl⟩ := four r4.length
  obtain ⟨a, rfl, are, hm⟩ := ppl_of (D := D) hAll
  have h150 : (150, tabObj (#[] ++ #[_, _, _])) ∈ nw := hsub _ (.tail _ (.tail _ (.tail _ (.tail _ (.head _)))))
  dsimp only
  refine hret _ _ _ (touch_led (S := [150]) hg hL' F3 (fun q hq => by rw [List.mem_singleton.mp hq]; exact hP) N3 (fun q hq => .inl (by rw [List.mem_singleton.mp hq]; exact .head _)))
    ⟨a, j0, j1, j2, j3, rfl, r4, are, fun q hq => (N3 q (hm q hq)).1, fun q hq => ?_, _, (N3 _ (.tail _ h150)).1⟩
  cases e : s.heap.get? q.1 with
  | none => rfl
  | some o =>
    exfalso
    by_cases q5 : q.1 = 150
    · have e1 := (N3 q (hm q hq)).1
      have e2 := (N3 _ (.tail _ h150)).1
      rw [q5] at e1
      have e3 := congrArg osz (Option.some.inj (e1.symm.trans e2))
      simp only [List.mem_cons, List.not_mem_nil, or_false] at hq
      rcases hq with rfl | rfl | rfl | rfl | rfl
      · exact absurd q5.symm (off1_mem o1 _ h150)
      all_goals first | exact absurd (show (2 : Nat) = 0 from e3) (by decide) | (simp [osz, tabObj] at e3; done)
    · have := hg _ _ e (by simpa using q5)
      rw [(N3 q (hm q hq)).2.2] at this
      cases this
end
section
theorem resetCompC : (0 : Nat) = 0 := by
  w_top off
  k_with_none
  (k_with "w my pick" => (with_reducible first | assumption | exact lo1 | exact lo2 | exact lo3 | exact lo4 | exact ls1 (by assumption) | exact ls2 (by assumption) | exact ls3 (by assumption) | exact pk0 (by assumption) | exact pk1 (by assumption) | exact pk2 (by assumption) | exact pk3 (by assumption) | exact pk4 (by assumption) | exact pk5 (by assumption) | exact pk6 (by assumption) | exact pk7 (by assumption) | exact pk8 (by assumption) | exact pk9 (by assumption) | exact pk10 (by assumption) | exact pk11 (by assumption) | exact pk12 (by assumption) | exact pk13 (by assumption) | exact pk14 (by assumption) | exact pk15 (by assumption) | exact pk16 (by assumption) | exact pk17 (by assumption) | exact qk1 (by assumption) | exact qk2 (by assumption) | exact qk3 (by assumption) | exact qk4 (by assumption) | exact qk5 (by assumption) | exact qk6 (by assumption) | exact qk7 (by assumption) | exact qk8 (by assumption) | exact qk9 (by assumption) | exact qk10 (by assumption) | exact qk11 (by assumption) | exact qk12 (by assumption) | exact qk13 (by assumption) | exact qk14 (by assumption) | exact qk15 (by assumption) | exact qk16 (by assumption) | exact qk17 (by assumption)))
  (k_with "w my sml" => (with_reducible first | (refine Nat.ne_of_lt ?_; k_extra "w my pick") | (refine Nat.ne_of_gt ?_; k_extra "w my pick") | (refine Ne.symm ?_; k_extra "w my pick") | (refine id ?_; k_extra "w my pick") | (refine Nat.le_of_lt ?_; k_extra "w my pick") | exact lrefl | exact lzero | exact one_le | exact room0 (by assumption) | exact room (by assumption) (by decide) | exact room1 (by assumption) (by decide) | exact room2 (by assumption) (by decide) | exact room3 (by assumption) (by decide) | exact le_le (by assumption) (by decide) | exact le_sc (by assumption) | (refine above1' ?_ (by assumption); k_extra "w my pick") | (refine above2' ?_ (by assumption); k_extra "w my pick")))
  (k_with "w my om" => (first | k_extra "w my sml" | lia | omega))
  rfl
noncomputable abbrev oNs : Obj := { cls := .type "dict", data := .dict #[] }
theorem oNs_ns {h : Heap} {C : Addr} (e : h.get? C = some oNs) : h.Ns C (fun _ => none) :=
  ⟨oNs, #[], _, e, rfl, fun x hx => by simp at hx, fun _ => rfl⟩
/-- the loop's state ahead of the i-th item -/
inductive CellI (s : Shared) (n : Nat) (I : Addr) (a : Int) (h₀ : Heap) (L : Addr) (m : Str → Option Value) (led : List (Addr × Obj)) (R : Nat → Value → Prop) (k : Nat) : Shared → Prop
  | mk {h' : Heap} {tk i : Nat} {ys : List Value} {v0 : Option Value} {oK : Obj} : k = n + 1 - i → i ≤ n → ys.length = i → (∀ j, j < i → ∃ v, ys[j]? = some v ∧ R j v) → IsRangeIter h' I (a + (i : Nat) * 1) ((n : Int) - (i : Nat)) 1 → oK.data = .cell v0 → Fr h₀ L h' m →
      News h₀ L h' ((I + 1 + 1, oNs) :: (I + 1, LCg.lst ys) :: (I + 1 + 1 + 1, oK) :: led) → CellI s n I a h₀ L m led R k { s with heap := h', toks := tk }
theorem CellI.elim {s s' : Shared} {n : Nat} {I : Addr} {a : Int} {h₀ : Heap} {L : Addr} {m : Str → Option Value} {led : List (Addr × Obj)} {R : Nat → Value → Prop} {k : Nat} {P : Shared → Prop} (st : CellI s n I a h₀ L m led R k s')
    (f : ∀ (h' : Heap) (tk i : Nat) (ys : List Value) (v0 : Option Value) (oK : Obj), k = n + 1 - i → i ≤ n → ys.length = i → (∀ j, j < i → ∃ v, ys[j]? = some v ∧ R j v) → IsRangeIter h' I (a + (i : Nat) * 1) ((n : Int) - (i : Nat)) 1 → oK.data = .cell v0 → Fr h₀ L h' m →
      News h₀ L h' ((I + 1 + 1, oNs) :: (I + 1, LCg.lst ys) :: (I + 1 + 1 + 1, oK) :: led) → P { s with heap := h', toks := tk }) : P s' := by
  cases st with
  | mk a0 a1 a2 a3 a4 a5 a6 a7 => exact f _ _ _ _ _ _ a0 a1 a2 a3 a4 a5 a6 a7
/-- one more told -/
theorem told_more {R : Nat → Value → Prop} {ys : List Value} {y : Value} {i : Nat} (hyl : ys.length = i) (hys : ∀ j, j < i → ∃ v, ys[j]? = some v ∧ R j v) (hr : R i y) : ∀ j, j < i + 1 → ∃ v, (ys ++ [y])[j]? = some v ∧ R j v := by
  intro j hj
  by_cases e : j < i
  · obtain ⟨v', e1, e2⟩ := hys j e
    exact ⟨v', by rw [List.getElem?_append_left (hyl.symm ▸ e)]; exact e1, e2⟩
  · have : j = ys.length := (Nat.le_antisymm (Nat.le_of_lt_succ hj) (Nat.not_lt.mp e)).trans hyl.symm
    refine ⟨y, by rw [this]; simp, ?_⟩
    rw [this, hyl]; exact hr
section
variable {prog : Program} {w : World} {A : Around} {E : Value → Shared → Prop} {h₀ : Heap} {L : Addr} {m : Str → Option Value} {env : Env} {s : Shared} {elt iter : Expr} {x : Str} {px pos : Pos} {scope : Scope} {cl : List (Str × Addr)} {led : List (Addr × Obj)} {Q : Value → Shared → Prop}
/-- a comprehension over a range whose variable is a cell, each element leaving the ledger as it is -/
theorem comp_cell {r : Addr} {a b : Int} {t u v : Tok} {n : Nat} (hh : A.handled = none) (F : Fr h₀ L s.heap m) (N : News h₀ L s.heap led) (hr : IsRange s.heap r a b 1 t u v) (hsm : Builtin.Range.small a b 1 = true) (hn : Builtin.Range.rangeSize a b 1 = ((n : Nat) : Int)) (hsz : n ≤ 100)
    (hcells : ∀ k, cellsFrom k scope.names cl = (x, k) :: cl) (hpush : ∀ h, pushCells h scope.names = h.push { cls := .type "cell", data := .cell none }) (hkind : scope.kind = .function) (hkx : ∀ C K, (compEnvC scope ((x, K) :: cl) C env).kindOf x = some .cell)
    (R : Nat → Value → Prop)
    (step : ∀ i ys I oI C D K oK h tk (t : Tok) (E' : Value → Shared → Prop), i < n → ys.length = i → oK.data = .cell (some (.int (a + (i : Int)) t)) → Fr h₀ L h m → News h₀ L h ((I, oI) :: (C, oNs) :: (D, LCg.lst ys) :: (K, oK) :: led) → LCg.Off3 I C D ((K, oK) :: led) → ((@Ne Nat I C) ∧ (@Ne Nat I D) ∧ (@Ne Nat C D)) →
      wpAny (model prog w) A (eval elt (compEnvC scope ((x, K) :: cl) C env)) (ElEnd h₀ L m s ((I, oI) :: (C, oNs) :: (D, LCg.lst ys) :: (K, oK) :: led) (R i)) E' { s with heap := h, toks := tk })
    (fin : ∀ ys D h tk, ys.length = n → (∀ j, j < n → ∃ v, ys[j]? = some v ∧ R j v) → Fr h₀ L h m → News h₀ L h ((D, LCg.lst ys) :: led) → LCg.Off1 D led → Q (.ref D) { s with heap := h, toks := tk }) :
    wpAny (model prog w) A (pyIter (.ref r)) (fun it s₂ => wpAny (model prog w) A (newList []) (fun acc s₃ => wpAny (model prog w) A (newFunctionEnv scope env.globals cl [] env.qual none .none (some env)) (fun cenv s₄ =>
      codeAny (model prog w) A (.compStart (.ListComp elt [⟨.Name x px, iter, [], 0⟩] scope pos) 0 it acc { cenv with scope := relabel scope env }) (compPost (model prog w) A E none Q acc cenv.locals) s₄) E s₃) E s₂) E s := by
  refine wpAny_pyIter_range hr hsm ?_
  generalize hI : s.heap.objs.size = I
  generalize hg1 : s.heap.push _ = g1
  have hIt : IsRangeIter g1 I (a + ((0 : Nat) : Int) * 1) ((n : Int) - ((0 : Nat) : Int)) 1 := by
    rw [← hg1, ← hI]; rw [hn]; simpa using Heap.get?_push_size _ rfl
  have z1 : g1.objs.size = I + 1 := by rw [← hg1, Heap.size_push, hI]
  have k1 : ∀ b o, s.heap.get? b = some o → g1.get? b = some o := fun b o e => by rw [← hg1]; exact Heap.get?_push_of_some _ e
  have hLI : @LT.lt Nat _ L I := hI ▸ F.ns.lt
  refine wpAny_newObj_type (s := { s with heap := g1 }) ?_
  simp only [newFunctionEnv, Option.isSome_some, if_true]
  refine wpAny_bind (wpAny_alloc ?_)
  refine wpAny_bind (wpAny_layCells _ (fun name kind cells => by cases kind == NameKind.cell <;> simp) _ _ _ _ ?_)
  rw [hcells, hpush, List.forIn_nil]
  refine wpAny_bind (wpAny_pure (wpAny_pure ?_))
  dsimp only
  have eD : g1.objs.size = I + 1 := z1
  have eC : (g1.push (LCg.lst [])).objs.size = I + 1 + 1 := by rw [Heap.size_push, z1]
  have eK : ((g1.push (LCg.lst [])).push oNs).objs.size = I + 1 + 1 + 1 := by rw [Heap.size_push, eC]
  generalize hg2 : ((g1.push (LCg.lst [])).push oNs).push { cls := .type "cell", data := .cell none } = g2
  have gK : g2.get? (I + 1 + 1 + 1) = some { cls := .type "cell", data := .cell none } := by rw [← hg2, ← eK]; exact Heap.get?_push_size _ rfl
  have gC : g2.get? (I + 1 + 1) = some oNs := by rw [← hg2, ← eC]; exact Heap.get?_push_of_some _ (Heap.get?_push_size _ rfl)
  have gD : g2.get? (I + 1) = some (LCg.lst []) := by rw [← hg2, ← eD]; exact Heap.get?_push_of_some _ (Heap.get?_push_of_some _ (Heap.get?_push_size _ rfl))
  have k2 : ∀ b o, g1.get? b = some o → g2.get? b = some o := fun b o e => by rw [← hg2]; exact Heap.get?_push_of_some _ (Heap.get?_push_of_some _ (Heap.get?_push_of_some _ e))
  show codeAny (model prog w) A (Code.compStart (elt.ListComp [{ target := Expr.Name x px, iter := iter, ifs := [], is_async := 0 }] scope pos) 0 (Value.ref I) (Value.ref g1.objs.size)
      (compEnvC scope ((x, ((g1.push (LCg.lst [])).push oNs).objs.size) :: cl) (g1.push (LCg.lst [])).objs.size env)) (compPost (model prog w) A E none Q (Value.ref g1.objs.size) (g1.push (LCg.lst [])).objs.size) { s with heap := g2 }
  rw [eD, eC, eK]
  have new : ∀ d, I ≤ d → d ≠ L ∧ h₀.get? d = none := fun d hd => ⟨Nat.ne_of_gt (Nat.lt_of_lt_of_le hLI hd), Heap.get?_none_of_le (Nat.le_trans F.above (Nat.le_of_lt (Nat.lt_of_lt_of_le hLI hd)))⟩
  have lt0 : ∀ q ∈ led, @LT.lt Nat _ q.1 I := fun q hq => hI ▸ Heap.lt_size (N q hq).1
  have offK : LCg.Off3 I (I + 1 + 1) (I + 1) ((I + 1 + 1 + 1, { cls := .type "cell", data := .cell none }) :: led) := LCg.Off3.of fun q hq => by
    rcases List.mem_cons.mp hq with rfl | hq
    · exact ⟨(show @Ne Nat _ _ from by k_extra "w my om"), (show @Ne Nat _ _ from by k_extra "w my om"), (show @Ne Nat _ _ from by k_extra "w my om")⟩
    · have := lt0 q hq
      exact ⟨(show @Ne Nat _ _ from by k_extra "w my om"), (show @Ne Nat _ _ from by k_extra "w my om"), (show @Ne Nat _ _ from by k_extra "w my om")⟩
  have W := LCg.range_walks (prog := prog) (w := w) (I := I) hh a n
  have loop : codeAny (model prog w) A (.compLoop (.ListComp elt [⟨.Name x px, iter, [], 0⟩] scope pos) 0 (.ref I) (.ref (I + 1)) (compEnvC scope ((x, I + 1 + 1 + 1) :: cl) (I + 1 + 1) env)) (compPost (model prog w) A E none Q (.ref (I + 1)) (I + 1 + 1)) { s with heap := g2 } := by
    refine codeAny_compLoop_tests
      (CellI s n I a h₀ L m led R) ?_ (n + 1)
      (.mk (i := 0) (ys := []) (v0 := none) (oK := { cls := .type "cell", data := .cell none }) rfl (Nat.zero_le _) rfl (fun j h => absurd h (Nat.not_lt_zero _)) (k2 _ _ hIt) rfl (F.keeps fun b o e => k2 b o (k1 b o e)) fun q hq => ?_)
    · intro k s' st
      refine st.elim fun h' tk i ys v0 oK hk hi hyl hys hst hoK F' N' => ?_
      by_cases hlt : i < n
      · refine W.item i _ _ _ hlt hst fun v h₂ tk₂ hPv hst₂ hk₂ => ?_
        obtain ⟨t, rfl⟩ := hPv
        have up : ∀ c o, @Ne Nat c I → h'.get? c = some o → h₂.get? c = some o := fun c o hc e => hk₂ c o (by simpa using hc) e
        have N₂ : News h₀ L h₂ ((I + 1 + 1, oNs) :: (I + 1, LCg.lst ys) :: (I + 1 + 1 + 1, oK) :: led) := fun q hq => ⟨up _ _ (by
          revert q hq
          refine each_cons ?_ (each_cons ?_ (each_cons ?_ (fun q hq => ?_)))
          · exact Nat.ne_of_gt (by k_extra "w my om")
          · exact Nat.ne_of_gt (by k_extra "w my om")
          · exact Nat.ne_of_gt (by k_extra "w my om")
          · exact Nat.ne_of_lt (lt0 q hq)) (N' q hq).1, (N' q hq).2⟩
        have F₂ : Fr h₀ L h₂ m := LCg.fr_but F' hk₂ (Nat.ne_of_lt hLI) (new I (Nat.le_refl _)).2
        refine wpAny_assign_Name (wpAny_storeName_cell (by exact hkind) (hkx _ _) (by simp [compEnvC]) ⟨oK, (N₂ _ (.tail _ (.tail _ (.head _)))).1, hoK⟩ fun h₃ hc₃ hs₃ => ?_)
        obtain ⟨oK₃, eK₃, dK₃⟩ := hc₃
        refine wpAny_tests_nil ?_
        simp only [if_true]
        have F₃ : Fr h₀ L h₃ m := F₂.change hs₃ (new _ (by k_extra "w my om")).1 (new _ (by k_extra "w my om")).2
        have hst₃ : IsRangeIter h₃ I (a + ((i + 1 : Nat) : Int) * 1) ((n : Int) - ((i + 1 : Nat) : Int)) 1 := hs₃.extBut _ _ (Nat.ne_of_lt (by k_extra "w my om")) hst₂
        have N₃ : News h₀ L h₃ ((I, _) :: (I + 1 + 1, oNs) :: (I + 1, LCg.lst ys) :: (I + 1 + 1 + 1, oK₃) :: led) := fun q hq => by
          revert q hq
          refine each_cons ?_ (each_cons ?_ (each_cons ?_ (each_cons ?_ (fun q hq => ?_))))
          · exact ⟨hst₃, new _ (Nat.le_refl _)⟩
          · exact ⟨hs₃.extBut _ _ (Nat.ne_of_lt (by k_extra "w my om")) (N₂ _ (.head _)).1, new _ (by k_extra "w my om")⟩
          · exact ⟨hs₃.extBut _ _ (Nat.ne_of_lt (by k_extra "w my om")) (N₂ _ (.tail _ (.head _))).1, new _ (by k_extra "w my om")⟩
          · exact ⟨eK₃, new _ (by k_extra "w my om")⟩
          · have := lt0 q hq
            exact ⟨hs₃.extBut _ _ (Nat.ne_of_lt (by k_extra "w my om")) (N₂ _ (.tail _ (.tail _ (.tail _ hq)))).1, (N q hq).2⟩
        refine wpAny_mono (step i ys I _ (I + 1 + 1) (I + 1) (I + 1 + 1 + 1) oK₃ h₃ _ t _ hlt hyl dK₃ F₃ N₃ (off3_addr offK rfl) ⟨(show @Ne Nat _ _ from by k_extra "w my om"), (show @Ne Nat _ _ from by k_extra "w my om"), (show @Ne Nat _ _ from by k_extra "w my om")⟩) (fun y s₄ h₄ => ?_) fun _ _ e => e
        obtain ⟨h₄, tk₄, rfl, F₄, N₄, hR₄⟩ := h₄
        refine append_at (hsz := by show ys.toArray.size ≤ sizeLine; rw [List.size_toArray, hyl]; exact Nat.le_trans hi (Nat.le_trans hsz (by decide))) (N₄ _ (.tail _ (.tail _ (.head _)))).1 fun h₅ hs₅ hD₅ => ?_
        refine ⟨n + 1 - (i + 1), hk ▸ sub_next hlt, .mk (i := i + 1) (ys := ys ++ [y]) (oK := oK₃) rfl hlt (by rw [List.length_append, List.length_singleton, hyl]) (told_more hyl hys hR₄) (hs₅.extBut _ _ (Nat.ne_of_lt (by k_extra "w my om")) ((N₄ _ (.head _)).1.trans ?_)) dK₃ (F₄.change hs₅ (new _ (by k_extra "w my om")).1 (new _ (by k_extra "w my om")).2) fun q hq => ?_⟩
        · rfl
        · revert q hq
          refine each_cons ?_ (each_cons ?_ (each_cons ?_ (fun q hq => ?_)))
          · exact ⟨hs₅.extBut _ _ (Nat.ne_of_gt (by k_extra "w my om")) (N₄ _ (.tail _ (.head _))).1, new _ (by k_extra "w my om")⟩
          · exact ⟨hD₅.trans (congrArg some (LCg.lst_snoc ys y)), new _ (by k_extra "w my om")⟩
          · exact ⟨hs₅.extBut _ _ (Nat.ne_of_gt (by k_extra "w my om")) (N₄ _ (.tail _ (.tail _ (.tail _ (.head _))))).1, new _ (by k_extra "w my om")⟩
          · have := lt0 q hq
            exact ⟨hs₅.extBut _ _ (Nat.ne_of_lt (by k_extra "w my om")) (N₄ _ (.tail _ (.tail _ (.tail _ (.tail _ hq))))).1, (N q hq).2⟩
      · obtain rfl : i = n := Nat.le_antisymm hi (Nat.not_lt.mp hlt)
        refine W.done _ _ _ hst fun h₂ tk₂ hk₂ => ?_
        have up : ∀ c o, @Ne Nat c I → h'.get? c = some o → h₂.get? c = some o := fun c o hc e => hk₂ c o (by simpa using hc) e
        have F₂ : Fr h₀ L h₂ m := LCg.fr_but F' hk₂ (Nat.ne_of_lt hLI) (new I (Nat.le_refl _)).2
        refine ⟨_, oNs_ns (up _ _ (Nat.ne_of_gt (by k_extra "w my om")) (N' _ (.head _)).1), fun h'' hs'' => fin ys (I + 1) h'' tk₂ hyl hys (F₂.change hs'' (new _ (by k_extra "w my om")).1 (new _ (by k_extra "w my om")).2) (fun q hq => ?_) ?_⟩
        · rcases List.mem_cons.mp hq with rfl | hq
          · exact ⟨hs''.extBut _ _ (Nat.ne_of_lt (by k_extra "w my om")) (up _ _ (Nat.ne_of_gt (by k_extra "w my om")) (N' _ (.tail _ (.head _))).1), new _ (by k_extra "w my om")⟩
          · have := lt0 q hq
            exact ⟨hs''.extBut _ _ (Nat.ne_of_lt (by k_extra "w my om")) (up _ _ (Nat.ne_of_lt (by k_extra "w my om")) (N' _ (.tail _ (.tail _ (.tail _ hq)))).1), (N q hq).2⟩
        · exact (LCg.Off3.one offK).2
    · revert q hq
      refine each_cons ?_ (each_cons ?_ (each_cons ?_ (fun q hq => ?_)))
      · exact ⟨gC, new _ (by k_extra "w my om")⟩
      · exact ⟨gD, new _ (by k_extra "w my om")⟩
      · exact ⟨gK, new _ (by k_extra "w my om")⟩
      · exact ⟨k2 _ _ (k1 _ _ (N q hq).1), (N q hq).2⟩
  exact codeAny_compStart_list loop (W.self 0 _ _ _ (k2 _ _ hIt) loop)
theorem ListComp_cell (hclos : closureFor scope env = pure cl) (hkind : scope.kind = .function) (hnames : ∀ x ∈ scope.names, x.2 = .local → scope.names.lookup x.1 = some .local)
    (h : wpAny (model prog w) A (eval iter env) (fun v s₁ => wpAny (model prog w) A (pyIter v) (fun it s₂ => wpAny (model prog w) A (newList []) (fun acc s₃ => wpAny (model prog w) A (newFunctionEnv scope env.globals cl [] env.qual none .none (some env)) (fun cenv s₄ =>
      codeAny (model prog w) A (.compStart (.ListComp elt [⟨.Name x px, iter, [], 0⟩] scope pos) 0 it acc { cenv with scope := relabel scope env }) (compPost (model prog w) A E none Q acc cenv.locals) s₄) E s₃) E s₂) E s₁) E s)
    (hs : ∀ x, foldedSetIterable iter env x = pure x := by intro _; rfl) :
    wpAny (model prog w) A (eval (.ListComp elt [⟨.Name x px, iter, [], 0⟩] scope pos) env) Q E s := by
  rw [eval_ListComp]
  exact wpAny_comprehension_free (use := none) rfl hs hclos hkind hnames h
end
end
section
/-- the loop's state ahead of the i-th pair -/
inductive EnumI (s : Shared) (items : List Value) (e it l D : Addr) (h₀ : Heap) (L : Addr) (m : Str → Option Value) (led : List (Addr × Obj)) (Inv : Nat → List Value → List (Addr × Obj) → Prop) (k : Nat) : Shared → Prop
  | mk {h' : Heap} {tk i : Nat} {ys : List Value} {ex : List (Addr × Obj)} {m' : Str → Option Value} : k = items.length + 1 - i → i ≤ items.length → ys.length = i → ((∃ o, IsEnum h' e it (i : Nat) o) ∧ h'.IsListIter it l i ∧ h'.IsList l items.toArray) → Inv i ys ex → (∀ q ∈ ex, @LT.lt Nat _ (D + 1) q.1) →
      Fr h₀ L h' m → h'.Ns (D + 1) m' → News h₀ L h' ((D, LCg.lst ys) :: (ex ++ led)) → EnumI s items e it l D h₀ L m led Inv k { s with heap := h', toks := tk }
theorem EnumI.elim {s s' : Shared} {items : List Value} {e it l D : Addr} {h₀ : Heap} {L : Addr} {m : Str → Option Value} {led : List (Addr × Obj)} {Inv : Nat → List Value → List (Addr × Obj) → Prop} {k : Nat} {P : Shared → Prop} (st : EnumI s items e it l D h₀ L m led Inv k s')
    (f : ∀ (h' : Heap) (tk i : Nat) (ys : List Value) (ex : List (Addr × Obj)) (m' : Str → Option Value), k = items.length + 1 - i → i ≤ items.length → ys.length = i → ((∃ o, IsEnum h' e it (i : Nat) o) ∧ h'.IsListIter it l i ∧ h'.IsList l items.toArray) → Inv i ys ex → (∀ q ∈ ex, @LT.lt Nat _ (D + 1) q.1) →
      Fr h₀ L h' m → h'.Ns (D + 1) m' → News h₀ L h' ((D, LCg.lst ys) :: (ex ++ led)) → P { s with heap := h', toks := tk }) : P s' := by
  cases st with
  | mk a0 a1 a2 a3 a4 a5 a6 a7 a8 => exact f _ _ _ _ _ _ a0 a1 a2 a3 a4 a5 a6 a7 a8
theorem gt_ne {D q e : Nat} (h : D + 1 < q) (he : e < D) : q ≠ e := Nat.ne_of_gt (Nat.lt_trans he (Nat.lt_of_succ_lt h))
section
variable {prog : Program} {w : World} {A : Around} {E : Value → Shared → Prop} {h₀ : Heap} {L : Addr} {m : Str → Option Value} {env : Env} {s : Shared} {elt iter : Expr} {xa xb : Str} {pa pb tp pos : Pos} {kk : Nat} {scope : Scope} {cl : List (Str × Addr)} {led : List (Addr × Obj)}
set_option maxHeartbeats 2000000 in
/-- [elt for xa, xb in enumerate(l)], the iterators made -/
theorem comp_enum {e it l : Addr} {items : List Value} {nl : Nat} {RR : Value → Addr → Result → Shared → Prop} (hh : A.handled = none) (F : Fr h₀ L s.heap m) (N : News h₀ L s.heap led) (hl : (l, listOf items.toArray nl) ∈ led) (hsz : items.length ≤ 100)
    (hE : IsEnum s.heap e it 0 .none) (hI : s.heap.IsListIter it l 0) (hei : e ≠ it) (he : e ≠ L ∧ h₀.get? e = none) (hit : it ≠ L ∧ h₀.get? it = none) (off : ∀ q ∈ led, q.1 ≠ e ∧ q.1 ≠ it)
    (hcell : ∀ y ∈ scope.names, y.2 ≠ .cell) (hkind : scope.kind = .function) (hxa : scope.names.lookup xa = some .local) (hxb : scope.names.lookup xb = some .local)
    (Inv : Nat → List Value → List (Addr × Obj) → Prop) (h0 : Inv 0 [] [])
    (step : ∀ i ys ex C D oe oi oC x h tk (t : Tok) m₂ (E' : Value → Shared → Prop), i < items.length → ys.length = i → Inv i ys ex → items[i]? = some x → LCg.NsObj oC m₂ → m₂ xb = some x → (xa ≠ xb → m₂ xa = some (.int (i : Nat) t)) → Fr h₀ L h m → News h₀ L h ((e, oe) :: (it, oi) :: (C, oC) :: (D, LCg.lst ys) :: (ex ++ led)) →
      wpAny (model prog w) A (eval elt (compEnvC scope cl C env)) (fun y s₂ => ∃ h' tk' ex', s₂ = { s with heap := h', toks := tk' } ∧ Fr h₀ L h' m ∧ News h₀ L h' ((e, oe) :: (it, oi) :: (C, oC) :: (D, LCg.lst ys) :: (ex' ++ led)) ∧ (∀ q ∈ ex', q ∈ ex ∨ h.objs.size ≤ q.1) ∧ Inv (i + 1) (ys ++ [y]) ex') E' { s with heap := h, toks := tk })
    (hRR : ∀ D C h tk m' ys ex, ys.length = items.length → Inv items.length ys ex → Fr h₀ L h m → News h₀ L h ((D, LCg.lst ys) :: (ex ++ led)) → h.Ns C m' → C ≠ L → h₀.get? C = none → (∀ q ∈ (D, LCg.lst ys) :: (ex ++ led), q.1 ≠ C) → RR (.ref D) C (.ok .next) { s with heap := h, toks := tk }) :
    wpAny (model prog w) A (pyIter (.ref e)) (fun it s₂ => wpAny (model prog w) A (newList []) (fun acc s₃ => wpAny (model prog w) A (newFunctionEnv scope env.globals cl [] env.qual none .none (some env)) (fun cenv s₄ =>
      codeAny (model prog w) A (.compStart (.ListComp elt [⟨.Tuple [.Name xa pa, .Name xb pb] kk tp, iter, [], 0⟩] scope pos) 0 it acc { cenv with scope := relabel scope env }) (RR acc cenv.locals) s₄) E s₃) E s₂) E s := by
  have oL := off _ hl
  have W := WalksT.enumerate (prog := prog) (w := w) hh e it l hei oL.1 oL.2 items.toArray
  have st0 : (∃ old, IsEnum s.heap e it ((0 : Nat) : Int) old) ∧ s.heap.IsListIter it l 0 ∧ s.heap.IsList l items.toArray := ⟨⟨_, hE⟩, hI, N.isList hl⟩
  refine W.self 0 _ _ _ st0 ?_
  refine wpAny_newObj_type (wpAny_newFunctionEnv hcell (by intro y hy; simp at hy) (fun h₁ hns₁ hsb₁ => ?_) hkind)
  dsimp only at hns₁ hsb₁ ⊢
  have eC : (s.heap.push (LCg.lst [])).objs.size = s.heap.objs.size + 1 := Heap.size_push ..
  have hns : h₁.Ns (s.heap.objs.size + 1) (fun _ => none) := eC ▸ hns₁
  have hsb : Heap.SameBut (s.heap.objs.size + 1) ((s.heap.push (LCg.lst [])).push oNs) h₁ := eC ▸ hsb₁
  clear hns₁ hsb₁
  show codeAny (model prog w) A (Code.compStart (elt.ListComp [{ target := Expr.Tuple [Expr.Name xa pa, Expr.Name xb pb] kk tp, iter := iter, ifs := [], is_async := 0 }] scope pos) 0 (Value.ref e) (Value.ref s.heap.objs.size)
      (compEnvC scope cl (s.heap.push (LCg.lst [])).objs.size env)) (RR (Value.ref s.heap.objs.size) (s.heap.push (LCg.lst [])).objs.size) { s with heap := h₁, toks := s.toks }
  rw [eC]
  generalize hD : s.heap.objs.size = D at *
  have hLD : @LT.lt Nat _ L D := hD ▸ F.ns.lt
  have new : ∀ d, D ≤ d → d ≠ L ∧ h₀.get? d = none := fun d hd => ⟨Nat.ne_of_gt (Nat.lt_of_lt_of_le hLD hd), Heap.get?_none_of_le (Nat.le_trans F.above (Nat.le_of_lt (Nat.lt_of_lt_of_le hLD hd)))⟩
  have lt0 : ∀ b o, s.heap.get? b = some o → @LT.lt Nat _ b D := fun b o q => hD ▸ Heap.lt_size q
  have ltL : ∀ q ∈ led, @LT.lt Nat _ q.1 D := fun q hq => lt0 _ _ (N q hq).1
  have lte : @LT.lt Nat _ e D := lt0 _ _ hE
  have ltit : @LT.lt Nat _ it D := by obtain ⟨o, q, _⟩ := hI; exact lt0 _ _ q
  have old : ∀ b o, s.heap.get? b = some o → h₁.get? b = some o := fun b o q => hsb.extBut b o (Nat.ne_of_lt (Nat.lt_succ_of_lt (lt0 b o q))) (Heap.get?_push_of_some _ (Heap.get?_push_of_some _ q))
  have hacc : h₁.get? D = some (LCg.lst []) := hsb.extBut _ _ (Nat.ne_of_lt (Nat.lt_succ_self _)) (Heap.get?_push_of_some _ (hD ▸ Heap.get?_push_size _ rfl))
  have noe : ∀ q ∈ led, q.1 ≠ e ∧ q.1 ≠ it := off
  have loop : codeAny (model prog w) A (.compLoop (.ListComp elt [⟨.Tuple [.Name xa pa, .Name xb pb] kk tp, iter, [], 0⟩] scope pos) 0 (.ref e) (.ref D) (compEnvC scope cl (D + 1) env)) (RR (.ref D) (D + 1)) { s with heap := h₁, toks := s.toks } := by
    refine kcp_loop
      (EnumI s items e it l D h₀ L m led Inv) ?_ (items.length + 1)
      (.mk (i := 0) (ys := []) (ex := []) rfl (Nat.zero_le _) rfl ⟨⟨_, old _ _ hE⟩, hI.at fun o q => old _ o q, (N.isList hl).at fun o q => old _ o q⟩ h0 (fun _ h => nomatch h) (F.keeps old) hns fun q hq => ?_)
    · intro k s' st
      refine st.elim fun h' tk i ys ex m' hk hi hyl hst hInv hex F' hn' N' => ?_
      by_cases hlt : i < items.length
      · refine W.item i _ _ _ (by rw [List.size_toArray]; exact hlt) hst fun T vals h₂ tk₂ hP hge hT hMid hk₂ => ?_
        obtain ⟨t, x, hx, rfl⟩ := hP
        have hTw := W.apart i T h₂ hMid
        refine W.go _ _ _ i T _ _ _ hMid fun h₃ hst₃ hk₃ => ?_
        have hT₃ : h₃.IsTuple T #[.int (i : Nat) t, x] := hT.at fun o q => hk₃ T o hTw q
        have hx' : items[i]? = some x := by simpa using hx
        have up₃ : ∀ b o, @Ne Nat b e → @Ne Nat b it → h'.get? b = some o → h₃.get? b = some o := fun b o b1 b2 q => by
          have hb : b ∉ [e, it] := notin2 b1 b2
          exact hk₃ b o hb (hk₂ b o hb q)
        refine kcp_assign (env := compEnvC scope cl (D + 1) env) hh hT₃ (lookup_relabel_local hxa) (lookup_relabel_local hxb) (by simp [compEnvC, relabel, hkind]) (hn'.at' fun o q => up₃ _ o (Nat.ne_of_gt (Nat.lt_succ_of_lt lte)) (Nat.ne_of_gt (Nat.lt_succ_of_lt ltit)) q) fun h₄ tk₄ hn₄ hs₄ => ?_
        have up : ∀ b o, @Ne Nat b e → @Ne Nat b it → @Ne Nat b (D + 1) → h'.get? b = some o → h₄.get? b = some o := fun b o b1 b2 b3 q => hs₄ b o b3 (up₃ b o b1 b2 q)
        obtain ⟨⟨o₃, hE₃⟩, hI₃, hl₃⟩ := hst₃
        have hE₄ : IsEnum h₄ e it ((i + 1 : Nat) : Int) o₃ := hs₄ _ _ (Nat.ne_of_lt (Nat.lt_succ_of_lt lte)) hE₃
        obtain ⟨oi, hoi, ci, di⟩ := hI₃
        have hoi₄ : h₄.get? it = some oi := hs₄ _ _ (Nat.ne_of_lt (Nat.lt_succ_of_lt ltit)) hoi
        obtain ⟨oC, heC, hoC⟩ := LCg.ns_obj hn₄
        have F₄ : Fr h₀ L h₄ m := ⟨F'.ns.at' fun o q => up _ o he.1.symm hit.1.symm (Nat.ne_of_lt (Nat.lt_succ_of_lt hLD)) q, fun b o q => up b o (fun z => by rw [z, he.2] at q; cases q) (fun z => by rw [z, hit.2] at q; cases q) (fun z => by rw [z, (new (D + 1) (Nat.le_succ _)).2] at q; cases q) (F'.keep b o q), F'.above⟩
        have N₄ : News h₀ L h₄ ((e, _) :: (it, oi) :: (D + 1, oC) :: (D, LCg.lst ys) :: (ex ++ led)) :=
          each_cons ⟨hE₄, he⟩ (each_cons ⟨hoi₄, hit⟩ (each_cons ⟨heC, new _ (Nat.le_succ _)⟩
            (each_cons ⟨up _ _ (Nat.ne_of_gt lte) (Nat.ne_of_gt ltit) (Nat.ne_of_lt (Nat.lt_succ_self _)) (N' _ (.head _)).1, (N' _ (.head _)).2⟩
              (each_app (fun q hq => ⟨up _ _ (gt_ne (hex q hq) lte) (gt_ne (hex q hq) ltit) (Nat.ne_of_gt (hex q hq)) (N' _ (.tail _ (List.mem_append_left _ hq))).1, (N' q (.tail _ (List.mem_append_left _ hq))).2⟩)
                fun q hq => ⟨up _ _ (noe q hq).1 (noe q hq).2 (Nat.ne_of_lt (Nat.lt_succ_of_lt (ltL q hq))) (N' _ (.tail _ (List.mem_append_right _ hq))).1, (N' q (.tail _ (List.mem_append_right _ hq))).2⟩))))
        have szC : @LT.lt Nat _ (D + 1) h₄.objs.size := Heap.lt_size heC
        refine wpAny_mono (step i ys ex (D + 1) D _ oi oC x h₄ tk₄ t _ _ hlt hyl hInv hx' hoC (by simp) (fun z => by simp [z]) F₄ N₄) (fun y s₄ h₄' => ?_) fun _ _ q => q
        obtain ⟨h₅, tk₅, ex', rfl, F₅, N₅, hex', hInv'⟩ := h₄'
        have hex2 : ∀ q ∈ ex', @LT.lt Nat _ (D + 1) q.1 := fun q hq => (hex' q hq).elim (hex q) fun z => Nat.lt_of_lt_of_le szC z
        refine append_at (hsz := by show ys.toArray.size ≤ sizeLine; rw [List.size_toArray, hyl]; exact Nat.le_trans hi (Nat.le_trans hsz (by decide))) (N₅ _ (.tail _ (.tail _ (.tail _ (.head _))))).1 fun h₆ hs₆ hD₆ => ?_
        have up₆ : ∀ b o, @Ne Nat b D → h₅.get? b = some o → h₆.get? b = some o := fun b o b1 q => hs₆.extBut b o b1 q
        refine ⟨items.length + 1 - (i + 1), hk ▸ sub_next hlt, .mk (i := i + 1) (ys := ys ++ [y]) (ex := ex') rfl hlt (by rw [List.length_append, List.length_singleton, hyl]) ⟨⟨_, up₆ _ _ (Nat.ne_of_lt lte) (N₅ _ (.head _)).1⟩, ⟨oi, up₆ _ _ (Nat.ne_of_lt ltit) (N₅ _ (.tail _ (.head _))).1, ci, di⟩, ?_⟩ hInv' hex2 (F₅.change hs₆ (new _ (Nat.le_refl _)).1 (new _ (Nat.le_refl _)).2) (hoC.ns (up₆ _ _ (Nat.ne_of_gt (Nat.lt_succ_self _)) (N₅ _ (.tail _ (.tail _ (.head _)))).1)) fun q hq => ?_⟩
        · have hm := N₅ (l, listOf items.toArray nl) (.tail _ (.tail _ (.tail _ (.tail _ (List.mem_append_right _ hl)))))
          exact ⟨_, up₆ _ _ (Nat.ne_of_lt (ltL _ hl)) hm.1, rfl, _, rfl⟩
        · revert q hq
          exact each_cons ⟨hD₆.trans (congrArg some (LCg.lst_snoc ys y)), new _ (Nat.le_refl _)⟩
            (each_app (fun q hq => have z := N₅ q (.tail _ (.tail _ (.tail _ (.tail _ (List.mem_append_left _ hq))))); ⟨up₆ _ _ (Nat.ne_of_gt (Nat.lt_of_succ_lt (hex2 q hq))) z.1, z.2⟩)
              fun q hq => have z := N₅ q (.tail _ (.tail _ (.tail _ (.tail _ (List.mem_append_right _ hq))))); ⟨up₆ _ _ (Nat.ne_of_lt (ltL q hq)) z.1, z.2⟩)
      · obtain rfl : i = items.length := Nat.le_antisymm hi (Nat.not_lt.mp hlt)
        refine W.done _ _ _ (by rw [List.size_toArray]; exact hst) fun h₂ tk₂ hk₂ => ?_
        have up : ∀ b o, @Ne Nat b e → @Ne Nat b it → h'.get? b = some o → h₂.get? b = some o := fun b o b1 b2 q => hk₂ b o (notin2 b1 b2) q
        refine hRR D (D + 1) h₂ tk₂ m' ys ex hyl hInv ⟨F'.ns.at' fun o q => up _ o he.1.symm hit.1.symm q, fun b o q => up b o (fun z => by rw [z, he.2] at q; cases q) (fun z => by rw [z, hit.2] at q; cases q) (F'.keep b o q), F'.above⟩ (fun q hq => ⟨up _ _ ?_ ?_ (N' q hq).1, (N' q hq).2⟩) (hn'.at' fun o q => up _ o (Nat.ne_of_gt (Nat.lt_succ_of_lt lte)) (Nat.ne_of_gt (Nat.lt_succ_of_lt ltit)) q) (new _ (Nat.le_succ _)).1 (new _ (Nat.le_succ _)).2 fun q hq => ?_
        · revert q hq; exact each_cons (Nat.ne_of_gt lte) (each_app (fun q hq => gt_ne (hex q hq) lte) fun q hq => (noe q hq).1)
        · revert q hq; exact each_cons (Nat.ne_of_gt ltit) (each_app (fun q hq => gt_ne (hex q hq) ltit) fun q hq => (noe q hq).2)
        · revert q hq; exact each_cons (Nat.ne_of_lt (Nat.lt_succ_self _)) (each_app (fun q hq => Nat.ne_of_gt (hex q hq)) fun q hq => Nat.ne_of_lt (Nat.lt_succ_of_lt (ltL q hq)))
    · revert q hq; exact each_cons ⟨hacc, new _ (Nat.le_refl _)⟩ fun q hq => ⟨old _ _ (N q hq).1, (N q hq).2⟩
  exact codeAny_compStart_list loop (W.self 0 _ _ _ ⟨⟨_, old _ _ hE⟩, hI.at fun o q => old _ o q, (N.isList hl).at fun o q => old _ o q⟩ loop)
/-- a comprehension laid straight into a local name -/
theorem Assign_comp {tgt : Expr} {y : Str} {py spos : Pos} {Q : Flow → Shared → Prop}
    (hsw : swapsWith (.ListComp elt [⟨tgt, iter, [], 0⟩] scope pos) (some (.Name y py)) spos.line env = pure true)
    (hclos : closureFor scope env = pure cl) (hkind : scope.kind = .function) (hnames : ∀ z ∈ scope.names, z.2 = .local → scope.names.lookup z.1 = some .local)
    (h : wpAny (model prog w) A (eval iter env) (fun v s₁ => wpAny (model prog w) A (pyIter v) (fun it s₂ => wpAny (model prog w) A (newList []) (fun acc s₃ => wpAny (model prog w) A (newFunctionEnv scope env.globals cl [] env.qual none .none (some env)) (fun cenv s₄ =>
      codeAny (model prog w) A (.compStart (.ListComp elt [⟨tgt, iter, [], 0⟩] scope pos) 0 it acc { cenv with scope := relabel scope env }) (compPost (model prog w) A E (some (assign (.Name y py) env)) (fun _ s' => Q .next s') acc cenv.locals) s₄) E s₃) E s₂) E s₁) E s)
    (hs : ∀ x, foldedSetIterable iter env x = pure x := by intro _; rfl) :
    wpAny (model prog w) A (exec (.Assign [.Name y py] (.ListComp elt [⟨tgt, iter, [], 0⟩] scope pos) spos) env) Q E s := by
  rw [exec_Assign_Name_used _ _ _ _ hsw]
  refine wpAny_bind (wpAny_standAt (wpAny_bind ?_))
  show wpAny _ A (do let _ ← comprehension (.ListComp elt [⟨tgt, iter, [], 0⟩] scope pos) scope env _ (newList []) false (eval iter env) (some (assign (.Name y py) env))) _ _ s
  exact wpAny_bind (wpAny_mono (wpAny_comprehension_free (use := some (assign (.Name y py) env)) (Q := fun _ s' => Q .next s') rfl hs hclos hkind hnames h) (fun _ s' hq => wpAny_pure (wpAny_pure hq)) fun _ _ q => q)
/-- its end: the list into the name -/
theorem assign_post {y : Str} {py : Pos} {D C : Addr} {m' : Str → Option Value} {l : List (Addr × Obj)} {Q : Shared → Prop} (hLe : env.locals = L) (hy : env.kindOf y = some .local) (hp : (env.scope.kind == .class || (env.scope.kind == .module && env.locals != env.globals)) = false)
    (F : Fr h₀ L s.heap m) (N : News h₀ L s.heap l) (hn : s.heap.Ns C m') (hCL : C ≠ L) (hC₀ : h₀.get? C = none) (off : ∀ q ∈ l, q.1 ≠ C)
    (k : ∀ h tk, Fr h₀ L h (fun z => if z = y then some (.ref D) else m z) → News h₀ L h l → Q { s with heap := h, toks := tk }) :
    compPost (model prog w) A E (some (assign (.Name y py) env)) (fun _ s' => Q s') (.ref D) C (.ok .next) s := by
  subst hLe
  show wpAny _ A (assign (.Name y py) env (.ref D)) _ _ _
  refine wpAny_assign_Name (wpAny_storeName_local hy F.ns (fun h₂ hn₂ hs₂ => ?_) hp)
  have F₂ := F.set hn₂ hs₂
  refine ⟨m', hn.sameBut hs₂ hCL, fun h'' hs'' => k h'' _ (F₂.change hs'' hCL hC₀) fun q hq => ?_⟩
  exact ⟨hs''.extBut _ _ (off q hq) (hs₂.extBut _ _ (N q hq).2.1 (N q hq).1), (N q hq).2⟩
end
end
section
theorem resetLittle : (0 : Nat) = 0 := by
  w_top off
  k_with_none
  (k_with "w my pick" => (with_reducible first | assumption | exact lo1 | exact lo2 | exact lo3 | exact lo4 | exact ls1 (by assumption) | exact ls2 (by assumption) | exact ls3 (by assumption) | exact pk0 (by assumption) | exact pk1 (by assumption) | exact pk2 (by assumption) | exact pk3 (by assumption) | exact pk4 (by assumption) | exact pk5 (by assumption) | exact pk6 (by assumption) | exact pk7 (by assumption) | exact pk8 (by assumption) | exact pk9 (by assumption) | exact pk10 (by assumption) | exact pk11 (by assumption) | exact pk12 (by assumption) | exact pk13 (by assumption) | exact pk14 (by assumption) | exact pk15 (by assumption) | exact pk16 (by assumption) | exact pk17 (by assumption) | exact qk1 (by assumption) | exact qk2 (by assumption) | exact qk3 (by assumption) | exact qk4 (by assumption) | exact qk5 (by assumption) | exact qk6 (by assumption) | exact qk7 (by assumption) | exact qk8 (by assumption) | exact qk9 (by assumption) | exact qk10 (by assumption) | exact qk11 (by assumption) | exact qk12 (by assumption) | exact qk13 (by assumption) | exact qk14 (by assumption) | exact qk15 (by assumption) | exact qk16 (by assumption) | exact qk17 (by assumption)))
  (k_with "w my sml" => (with_reducible first | (refine Nat.ne_of_lt ?_; k_extra "w my pick") | (refine Nat.ne_of_gt ?_; k_extra "w my pick") | (refine Ne.symm ?_; k_extra "w my pick") | (refine id ?_; k_extra "w my pick") | (refine Nat.le_of_lt ?_; k_extra "w my pick") | exact lrefl | exact lzero | exact one_le | exact room0 (by assumption) | exact room (by assumption) (by decide) | exact room1 (by assumption) (by decide) | exact room2 (by assumption) (by decide) | exact room3 (by assumption) (by decide) | exact le_le (by assumption) (by decide) | exact le_sc (by assumption) | (refine above1' ?_ (by assumption); k_extra "w my pick") | (refine above2' ?_ (by assumption); k_extra "w my pick")))
  (k_with "w my om" => (first | k_extra "w my sml" | lia | omega))
  rfl
/-- t has happened at v -/
noncomputable def hap (t v : Int) : Int := if t ≤ v then 1 else 0
theorem hap_yes {t v : Int} (h : t ≤ v) : hap t v = 1 := if_pos h
theorem hap_no {t v : Int} (h : ¬ t ≤ v) : hap t v = 0 := if_neg h
theorem cut4 {t0 t1 t2 t3 v : Int} {k : Nat} (h : Cut (fun i => [t0, t1, t2, t3].getD i 0 ≤ v) 4 k) : (k : Int) = hap t0 v + hap t1 v + hap t2 v + hap t3 v := by
  obtain ⟨h4, h1, h2⟩ := h
  rcases (Nat.lt_succ_iff_lt_or_eq.mp (Nat.lt_succ_of_le h4)).imp lt4 id with (rfl | rfl | rfl | rfl) | rfl
  · rw [hap_no (t := t0) (h2 0 (by decide) (by decide)), hap_no (t := t1) (h2 1 (by decide) (by decide)), hap_no (t := t2) (h2 2 (by decide) (by decide)), hap_no (t := t3) (h2 3 (by decide) (by decide))]; rfl
  · rw [hap_yes (t := t0) (h1 0 (by decide)), hap_no (t := t1) (h2 1 (by decide) (by decide)), hap_no (t := t2) (h2 2 (by decide) (by decide)), hap_no (t := t3) (h2 3 (by decide) (by decide))]; rfl
  · rw [hap_yes (t := t0) (h1 0 (by decide)), hap_yes (t := t1) (h1 1 (by decide)), hap_no (t := t2) (h2 2 (by decide) (by decide)), hap_no (t := t3) (h2 3 (by decide) (by decide))]; rfl
  · rw [hap_yes (t := t0) (h1 0 (by decide)), hap_yes (t := t1) (h1 1 (by decide)), hap_yes (t := t2) (h1 2 (by decide)), hap_no (t := t3) (h2 3 (by decide) (by decide))]; rfl
  · rw [hap_yes (t := t0) (h1 0 (by decide)), hap_yes (t := t1) (h1 1 (by decide)), hap_yes (t := t2) (h1 2 (by decide)), hap_yes (t := t3) (h1 3 (by decide))]; rfl
/-- who is in at v -/
noncomputable def inAt (x : Nat → Int) (v : Int) : Int := (hap (x 0) v + hap (x 1) v + hap (x 2) v + hap (x 3) v) - (hap (x 4) v + hap (x 5) v + hap (x 6) v + hap (x 7) v)
noncomputable def stayTo (x y : Nat → Int) : Nat → Int
  | 0 => 0
  | k + 1 => stayTo x y k + (y (k + 1) - y k) * inAt x (y k)
noncomputable def part (y : Nat → Int) (t : Int) : Nat → Int
  | 0 => 0
  | k + 1 => part y t k + (y (k + 1) - y k) * hap t (y k)
theorem stay_parts (x y : Nat → Int) : ∀ k, stayTo x y k = (part y (x 0) k + part y (x 1) k + part y (x 2) k + part y (x 3) k) - (part y (x 4) k + part y (x 5) k + part y (x 6) k + part y (x 7) k)
  | 0 => by simp [stayTo, part]
  | k + 1 => by
    have := stay_parts x y k
    simp only [stayTo, part, inAt, Int.mul_add, Int.mul_sub, this]
    grind
theorem y_mono {n : Nat} {y : Nat → Int} (hy : ∀ k, k < n → y k ≤ y (k + 1)) : ∀ {i j : Nat}, i ≤ j → j ≤ n → y i ≤ y j := by
  intro i j hij
  induction hij with
  | refl => intro _; exact Int.le_refl _
  | step h ih => intro hn; exact Int.le_trans (ih (by omega)) (hy _ (by omega))
theorem part_eq {n : Nat} {y : Nat → Int} (hy : ∀ k, k < n → y k ≤ y (k + 1)) {j : Nat} (hj : j ≤ n) : ∀ k, k ≤ n → part y (y j) k = max (y k) (y j) - max (y 0) (y j)
  | 0, _ => (Int.sub_self _).symm
  | k + 1, hk => by
    have ih := part_eq hy hj k (Nat.le_of_lt hk)
    show part y (y j) k + _ = _
    rw [ih]
    have h1 := hy k hk
    by_cases c : y j ≤ y k
    · rw [hap_yes c, Int.mul_one, Int.max_eq_left c, Int.max_eq_left (Int.le_trans c h1)]; grind
    · rw [hap_no c, Int.mul_zero, Int.add_zero]
      have : k + 1 ≤ j := Nat.lt_of_not_le fun q => c (y_mono hy q (Nat.le_of_lt hk))
      rw [Int.max_eq_right (Int.le_of_lt (Int.not_le.mp c)), Int.max_eq_right (y_mono hy this hj)]
theorem part_end {n : Nat} {y : Nat → Int} (hy : ∀ k, k < n → y k ≤ y (k + 1)) {t : Int} (ht : ∃ j, j ≤ n ∧ t = y j) : part y t n = y n - t := by
  obtain ⟨j, hj, rfl⟩ := ht
  rw [part_eq hy hj n (Nat.le_refl _)]
  rw [Int.max_eq_right (y_mono hy (Nat.zero_le j) hj), Int.max_eq_left (y_mono hy hj (Nat.le_refl n))]
theorem little {x y : Nat → Int} (hy : ∀ k, k < 7 → y k ≤ y (k + 1)) (hx : ∀ i, i < 8 → ∃ j, j ≤ 7 ∧ x i = y j) : stayTo x y 7 = (x 4 + x 5 + x 6 + x 7) - (x 0 + x 1 + x 2 + x 3) := by
  rw [stay_parts]
  rw [part_end hy (hx 0 (by decide)), part_end hy (hx 1 (by decide)), part_end hy (hx 2 (by decide)), part_end hy (hx 3 (by decide)), part_end hy (hx 4 (by decide)), part_end hy (hx 5 (by decide)), part_end hy (hx 6 (by decide)), part_end hy (hx 7 (by decide))]
  grind
theorem getD_of {js : List Nat} {k : Nat} (h : k < js.length) : js.getD k 0 = js[k] := by simp [List.getD, h]
/-- the row's moments -/
noncomputable def rowY (x : Nat → Int) (js : List Nat) (k : Nat) : Int := x (js.getD k 0)
theorem little_row {x : Nat → Int} {js : List Nat} (h : LRow x 8 js) : stayTo x (rowY x js) 7 = (x 4 + x 5 + x 6 + x 7) - (x 0 + x 1 + x 2 + x 3) := by
  have hl := h.length
  refine little (fun k hk => ?_) fun i hi => ?_
  · have hs := h.sorted
    rw [List.pairwise_iff_getElem] at hs
    have k1 : k + 1 < js.length := hl ▸ Nat.succ_lt_succ hk
    have k0 : k < js.length := Nat.lt_of_succ_lt k1
    have := hs k (k + 1) (by rw [List.length_map]; exact k0) (by rw [List.length_map]; exact k1) (Nat.lt_succ_self k)
    simp only [List.getElem_map] at this
    unfold rowY
    rw [getD_of k0, getD_of k1]
    exact this
  · have : i ∈ js := h.1.mem_iff.mpr (by simpa using hi)
    obtain ⟨j, hj, e⟩ := List.getElem_of_mem this
    refine ⟨j, Nat.le_of_lt_succ (hl ▸ hj : j < 8), ?_⟩
    unfold rowY
    rw [getD_of hj, e]
end
section
theorem resetForR : (0 : Nat) = 0 := by
  w_top off
  k_with_none
  (k_with "w my pick" => (with_reducible first | assumption | exact lo1 | exact lo2 | exact lo3 | exact lo4 | exact ls1 (by assumption) | exact ls2 (by assumption) | exact ls3 (by assumption) | exact pk0 (by assumption) | exact pk1 (by assumption) | exact pk2 (by assumption) | exact pk3 (by assumption) | exact pk4 (by assumption) | exact pk5 (by assumption) | exact pk6 (by assumption) | exact pk7 (by assumption) | exact pk8 (by assumption) | exact pk9 (by assumption) | exact pk10 (by assumption) | exact pk11 (by assumption) | exact pk12 (by assumption) | exact pk13 (by assumption) | exact pk14 (by assumption) | exact pk15 (by assumption) | exact pk16 (by assumption) | exact pk17 (by assumption) | exact qk1 (by assumption) | exact qk2 (by assumption) | exact qk3 (by assumption) | exact qk4 (by assumption) | exact qk5 (by assumption) | exact qk6 (by assumption) | exact qk7 (by assumption) | exact qk8 (by assumption) | exact qk9 (by assumption) | exact qk10 (by assumption) | exact qk11 (by assumption) | exact qk12 (by assumption) | exact qk13 (by assumption) | exact qk14 (by assumption) | exact qk15 (by assumption) | exact qk16 (by assumption) | exact qk17 (by assumption)))
  (k_with "w my sml" => (with_reducible first | (refine Nat.ne_of_lt ?_; k_extra "w my pick") | (refine Nat.ne_of_gt ?_; k_extra "w my pick") | (refine Ne.symm ?_; k_extra "w my pick") | (refine id ?_; k_extra "w my pick") | (refine Nat.le_of_lt ?_; k_extra "w my pick") | exact lrefl | exact lzero | exact one_le | exact room0 (by assumption) | exact room (by assumption) (by decide) | exact room1 (by assumption) (by decide) | exact room2 (by assumption) (by decide) | exact room3 (by assumption) (by decide) | exact le_le (by assumption) (by decide) | exact le_sc (by assumption) | (refine above1' ?_ (by assumption); k_extra "w my pick") | (refine above2' ?_ (by assumption); k_extra "w my pick")))
  (k_with "w my om" => (first | k_extra "w my sml" | lia | omega))
  rfl
section
variable {prog : Program} {w : World} {A : Around} {s : Shared} {h₀ : Heap} {env : Env} {m : Str → Option Value} {news : List (Addr × Obj)} {E : Value → Shared → Prop}
/-- a loop over a range -/
theorem for_range {x : Str} {px : Pos} {body : List Stmt} {r : Addr} {a b : Int} {t u v : Tok} {n : Nat} {R : Result → Shared → Prop} (Inv : Nat → (Str → Option Value) → List (Addr × Obj) → Prop)
    (hr : IsRange s.heap r a b 1 t u v) (hsm : Builtin.Range.small a b 1 = true) (hn : Builtin.Range.rangeSize a b 1 = ((n : Nat) : Int))
    (hx : env.kindOf x = some .local) (hp : (env.scope.kind == .class || (env.scope.kind == .module && env.locals != env.globals)) = false) (hh : A.handled = none)
    (F : Fr h₀ env.locals s.heap m) (N : News h₀ env.locals s.heap news) (h0 : Inv 0 m news)
    (turn : ∀ i t m₁ news₁ h tk I oI, i < n → Inv i m₁ news₁ → (∀ q ∈ news₁, @Ne Nat q.1 I) → Fr h₀ env.locals h (fun y => if y = x then some (.int (a + (i : Int)) t) else m₁ y) → News h₀ env.locals h ((I, oI) :: news₁) →
      wpAny (model prog w) A (execs body env) (TurnEnd h₀ env.locals s I oI (Inv (i + 1)) R) (fun _ _ => False) { s with heap := h, toks := tk })
    (done : ∀ m₁ news₁ h tk, Inv n m₁ news₁ → Fr h₀ env.locals h m₁ → News h₀ env.locals h news₁ → R (.ok .next) { s with heap := h, toks := tk }) :
    wpAny (model prog w) A (pyIter (.ref r)) (fun it s₂ => codeAny (model prog w) A (.forLoop (.Name x px) it body [] env) R s₂) E s := by
  refine wpAny_pyIter_range hr hsm ?_
  have hLs : env.locals < s.heap.objs.size := F.ns.lt
  refine codeAny_forLoop (fun k s' => ∃ i h tk m₁ news₁, s' = { s with heap := h, toks := tk } ∧ k = n - i ∧ i ≤ n ∧ IsRangeIter h s.heap.objs.size (a + (i : Int)) ((n : Int) - (i : Int)) 1 ∧ Fr h₀ env.locals h m₁ ∧ News h₀ env.locals h news₁ ∧ (∀ q ∈ news₁, q.1 ≠ s.heap.objs.size) ∧ Inv i m₁ news₁) ?_ n
    ⟨0, _, _, m, news, rfl, rfl, Nat.zero_le _, by rw [hn]; simpa using Heap.get?_push_size _ rfl, F.push _, N.grown (fun b o e => Heap.get?_push_of_some _ e), fun q hq => Nat.ne_of_lt (Heap.lt_size (N q hq).1), h0⟩
  have zI : s.heap.objs.size ≠ env.locals ∧ h₀.get? s.heap.objs.size = none := ⟨Nat.ne_of_gt hLs, Heap.get?_none_of_le (Nat.le_trans F.above (Nat.le_of_lt hLs))⟩
  rintro k s' ⟨i, h, tk, m₁, news₁, rfl, rfl, hi, hit, F₁, N₁, off, hI⟩
  by_cases hlt : i < n
  · refine wpAny_pyNext_range_item hit (by k_extra "w my om") fun h₂ hit₂ hs₂ => ?_
    have F₂ := F₁.change hs₂ zI.1 zI.2
    refine wpAny_assign_Name (wpAny_storeName_local hx F₂.ns (fun h₃ hn₃ hs₃ => ?_) hp)
    have F₃ := F₂.set hn₃ hs₃
    have N₂ : News h₀ env.locals h₂ ((s.heap.objs.size, _) :: news₁) := fun q hq => by
      rcases List.mem_cons.mp hq with rfl | hq
      · exact ⟨hit₂, zI⟩
      · exact ⟨hs₂.extBut _ _ (off q hq) (N₁ q hq).1, (N₁ q hq).2⟩
    have N₃ : News h₀ env.locals h₃ ((s.heap.objs.size, _) :: news₁) := fun q hq => ⟨hs₃.extBut _ _ (N₂ q hq).2.1 (N₂ q hq).1, (N₂ q hq).2⟩
    have e1 : a + (i : Int) + 1 = a + ((i + 1 : Nat) : Int) := by k_extra "w my om"
    have e2 : (n : Int) - (i : Int) - 1 = (n : Int) - ((i + 1 : Nat) : Int) := by k_extra "w my om"
    refine wpAny_mono (turn i _ m₁ news₁ h₃ _ _ _ hlt hI off F₃ N₃) (fun f s₃ p => ?_) fun _ _ x => x.elim
    have use : ∀ {h' m₂ news₂}, Fr h₀ env.locals h' m₂ → News h₀ env.locals h' ((s.heap.objs.size, { cls := .type "range_iterator", dict := none, data := .fields #[rawInt (a + (i : Int) + 1), rawInt ((n : Int) - (i : Int) - 1), rawInt 1], slots := #[] }) :: news₂) → IsRangeIter h' s.heap.objs.size (a + ((i + 1 : Nat) : Int)) ((n : Int) - ((i + 1 : Nat) : Int)) 1 ∧ News h₀ env.locals h' news₂ := fun F' N' => by
      refine ⟨?_, fun q hq => N' q (.tail _ hq)⟩
      rw [← e1, ← e2]
      exact (N' _ (.head _)).1
    cases f with
    | next => obtain ⟨h', tk', m₂, news₂, rfl, a1, a2, a3, a4⟩ := p; exact ⟨n - (i + 1), by omega, i + 1, h', tk', m₂, news₂, rfl, rfl, hlt, (use a1 a2).1, a1, (use a1 a2).2, a3, a4⟩
    | cont => obtain ⟨h', tk', m₂, news₂, rfl, a1, a2, a3, a4⟩ := p; exact ⟨n - (i + 1), by omega, i + 1, h', tk', m₂, news₂, rfl, rfl, hlt, (use a1 a2).1, a1, (use a1 a2).2, a3, a4⟩
    | brk => exact p
    | ret v => exact p
  · obtain rfl : i = n := by k_extra "w my om"
    refine wpAny_pyNext_range_end hh hit (by k_extra "w my om") fun h₂ hx₂ => ?_
    refine wpAny_execs_nil (done m₁ news₁ h₂ _ hI ⟨F₁.ns.extBut hx₂ zI.1.symm, fun b o e => hx₂ b o (fun q => by rw [q, zI.2] at e; cases e) (F₁.keep b o e), F₁.above⟩ fun q hq => ⟨hx₂ _ _ (off q hq) (N₁ q hq).1, (N₁ q hq).2⟩)
end
end
section
theorem resetL11 : (0 : Nat) = 0 := by
  w_top off
  k_with_none
  (k_with "w my pick" => (with_reducible first | assumption | exact lo1 | exact lo2 | exact lo3 | exact lo4 | exact ls1 (by assumption) | exact ls2 (by assumption) | exact ls3 (by assumption) | exact pk0 (by assumption) | exact pk1 (by assumption) | exact pk2 (by assumption) | exact pk3 (by assumption) | exact pk4 (by assumption) | exact pk5 (by assumption) | exact pk6 (by assumption) | exact pk7 (by assumption) | exact pk8 (by assumption) | exact pk9 (by assumption) | exact pk10 (by assumption) | exact pk11 (by assumption) | exact pk12 (by assumption) | exact pk13 (by assumption) | exact pk14 (by assumption) | exact pk15 (by assumption) | exact pk16 (by assumption) | exact pk17 (by assumption) | exact qk1 (by assumption) | exact qk2 (by assumption) | exact qk3 (by assumption) | exact qk4 (by assumption) | exact qk5 (by assumption) | exact qk6 (by assumption) | exact qk7 (by assumption) | exact qk8 (by assumption) | exact qk9 (by assumption) | exact qk10 (by assumption) | exact qk11 (by assumption) | exact qk12 (by assumption) | exact qk13 (by assumption) | exact qk14 (by assumption) | exact qk15 (by assumption) | exact qk16 (by assumption) | exact qk17 (by assumption)))
  (k_with "w my sml" => (with_reducible first | (refine Nat.ne_of_lt ?_; k_extra "w my pick") | (refine Nat.ne_of_gt ?_; k_extra "w my pick") | (refine Ne.symm ?_; k_extra "w my pick") | (refine id ?_; k_extra "w my pick") | (refine Nat.le_of_lt ?_; k_extra "w my pick") | exact lrefl | exact lzero | exact one_le | exact room0 (by assumption) | exact room (by assumption) (by decide) | exact room1 (by assumption) (by decide) | exact room2 (by assumption) (by decide) | exact room3 (by assumption) (by decide) | exact le_le (by assumption) (by decide) | exact le_sc (by assumption) | (refine above1' ?_ (by assumption); k_extra "w my pick") | (refine above2' ?_ (by assumption); k_extra "w my pick")))
  (k_with "w my om" => (first | k_extra "w my sml" | lia | omega))
  rfl
theorem rgL11x1 : (0 : Nat) = 0 := by
  (k_with "w my k_room" => ((try simp only [depth_under_make, depth_under_kw, depth_in1, depth_deeper]); (show _ < 1000); (try dsimp only); omega))
  (k_with "w my units_room" => ((try simp only [units_in1, units_deeper, Around.mark_units]); (show _ < 9900); (try dsimp only); omega))
  (k_with "w my small" => (first
  | (refine Sm.int ?_; (try simp only [Int.fmod_eq_emod_of_nonneg, Int.fdiv_eq_ediv_of_nonneg, Int.reduceLE]); omega)
  | (apply Sm.slice; k_extra "w my small")
  | (apply Sm.add <;> k_extra "w my small")
  | (apply Sm.ite <;> k_extra "w my small")
  | assumption
  | exact Sm.refl _))
  (k_with "w subscriptTail Name Slice str ref" => ((with_reducible show wpAny _ _ (subscriptTail _ (Expr.Slice (some _) none none _) (Value.str _ _) (Value.ref _)) _ _ _); dsimp only; (with_reducible rename Fr _ _ _ _ => F'); (with_reducible rename News _ _ _ _ => N'); (refine' slice_strN_sn (hsz := by (apply Sm.size <;> first | k_extra "w my small" | decide)) (s := ⟨_, _, _, _, _⟩) F' N' ?_); intro _ _ _ _ _))
  (k_with "w binaryOp Add str str" => ((with_reducible show wpAny _ _ (binaryOp Operator.Add (Value.str _ _) (Value.str _ _)) _ _ _); (refine' PyProof.Rows.add_str ?_ (by (apply Sm.size2 <;> first | k_extra "w my small" | decide))); intro _ _))
  (k_with "w ite" => ((with_reducible refine ite_strs ?_); intro _))
  (k_with "w my k_ne" => (first | exact Mine.CellOff.c1 (by with_reducible assumption) | exact Mine.CellOff.c2 (by with_reducible assumption) | exact Mine.CellOff.c3 (by with_reducible assumption) | exact Mine.CellOff.c4 (by with_reducible assumption) | exact Mine.CellOff.c5 (by with_reducible assumption) | exact Mine.CellOff.c6 (by with_reducible assumption) | exact Mine.CellOff.c7 (by with_reducible assumption) | exact Mine.CellOff.c8 (by with_reducible assumption) | exact Mine.CellOff.t1 (by with_reducible assumption) | exact Mine.CellOff.t2 (by with_reducible assumption) | exact Mine.CellOff.t3 (by with_reducible assumption)))
  (k_with "w my sub" => (with_reducible first
  | exact sub_id
  | (refine sub_keep ?_; k_extra "w my sub")
  | (refine sub_skip ?_; k_extra "w my sub")
  | exact sub_nil))
  (k_with "w ElEnd" => (refine stop_here ?_))
  (k_with "w subscriptTail" => (k_here; (with_reducible show wpAny _ _ (subscriptTail _ _ (Value.ref _) (Value.int (0 + ((_ : Nat) : Int)) _)) _ _ _); (first | (refine' Mine.item_intv (by k_asm) (by k_mem) (by assumption) (by decide) ?_ (by with_unfolding_all rfl)) | (refine' Mine.item_textv (by k_asm) (by k_mem) (by assumption) (by decide) ?_ (by with_unfolding_all rfl)))))
  (k_with "w subscriptTail Name Name ref int" => (k_here; (with_reducible show wpAny _ _ (subscriptTail _ _ (Value.ref _) (Value.int (0 + ((_ : Nat) : Int)) _)) _ _ _); (first | (refine' Mine.item_intv (by k_asm) (by k_mem) (by assumption) (by decide) ?_ (by with_unfolding_all rfl)) | (refine' Mine.item_textv (by k_asm) (by k_mem) (by assumption) (by decide) ?_ (by with_unfolding_all rfl)))))
  (k_with "w execs cons" => (refine stop_here ?_))
  (k_with "w eval ListComp" => (refine stop_here ?_))
  (k_with "w SrcLP" => (refine stop_here ?_))
  (k_with "w compareOp NotEq ref ref" => (refine stop_here ?_))
  (k_with "w call type:zip" => (refine stop_here ?_))
  (k_with "w call builtin:sorted" => (refine stop_here ?_))
  rfl
theorem zapart {k l : Addr} (h : @LT.lt Nat _ l k) : ZApart (k + 4) (k + 2) (k + 3) k (k + 1) l := by constructor <;> (refine neN ?_; k_extra "w my om")
theorem zfree {g : Heap} {L k z : Addr} (h1 : @LT.lt Nat _ L k) (h2 : @LE.le Nat _ g.objs.size L) (h3 : @LE.le Nat _ k z) : z ≠ L ∧ g.get? z = none := ⟨Nat.ne_of_gt (Nat.lt_of_lt_of_le h1 h3), Heap.get?_none_of_le (Nat.le_trans h2 (Nat.le_of_lt (Nat.lt_of_lt_of_le h1 h3)))⟩
theorem zoff {k : Addr} {news : List (Addr × Obj)} (h : ∀ q ∈ news, @LT.lt Nat _ q.1 k) : ∀ q ∈ news, q.1 ≠ k + 4 ∧ q.1 ≠ k + 3 ∧ q.1 ≠ k ∧ q.1 ≠ k + 1 := fun q hq => by
  have := h q hq
  exact ⟨neN (by k_extra "w my om"), neN (by k_extra "w my om"), neN (by k_extra "w my om"), neN (by k_extra "w my om")⟩
theorem nm_ok {j : Nat} (h : j < 4) : PyData.strOk (nm j) = true := by
  have : j = 0 ∨ j = 1 ∨ j = 2 ∨ j = 3 := lt4 (by assumption)
  rcases this with rfl | rfl | rfl | rfl <;> decide +kernel
theorem all2_via {α β : Type} {R : Value → α → Prop} {S : Value → β → Prop} {f : α → β} {vs : List Value} {as : List α} (h : All2 R vs as) (g : ∀ v a, R v a → S v (f a)) : All2 S vs (as.map f) := by
  induction h with
  | nil => exact .nil
  | cons a _ ih => exact .cons (g _ _ a) ih
section
variable {w : World} {A : Around} {base : Heap} {outer : List Env} {p : Program} {loose : List Str} {mean : ExcName → Option Value} {mg mb : Str → Option Value} {g : Heap} {L fa : Addr} {cd : Value} {Q : Flow → Shared → Prop} {s : Shared} {o1 o2 o3 o4 o5 o6 o7 o8 : Obj} {sc : Addr}
set_option maxHeartbeats 8000000 in
theorem st11 (C : LawC w A base outer p loose mean mg mb g L Q s) {D cc : Addr} {oc : Obj} {x : Nat → Int} {ud : Nat → Tok} {tx : Str} {tt : Tok} {a : PplA} {j0 j1 j2 j3 : Nat} {ps : Array Value} (c5 : CellV o5 (.ref a.l)) (hr : RowIs x 4 [j0, j1, j2, j3]) (ha : a.are (nm j0) (nm j1) (nm j2) (nm j3) (x j0) (x j1) (x j2) (x j3))
    (next : Go w A g L fa cd Q s 12 (m3 sc D tx tt) (pplLed a ++ (D, listOf (intv x ud 7).toArray 7) :: (cc, oc) :: lawCells L o1 o2 o3 o4 o5 o6 o7 o8 (lawTabs #[] ps (lexPs cc)))) :
    Go w A g L fa cd Q s 11 (m3 sc D tx tt) (pplLed a ++ (D, listOf (intv x ud 7).toArray 7) :: (cc, oc) :: lawCells L o1 o2 o3 o4 o5 o6 o7 o8 (lawTabs #[] ps (lexPs cc))) := by
  (try unfold CellN at *)
  (try unfold CellV at *)
  refine ⟨fun h tk F N => ?_⟩
  have big := C.big
  have hdone := C.done
  have hSu := C.S
  revert next
  apply Setup.open hSu
  clear hSu C
  intro dpt grs uni hX hTp hBl hdp hun
  intro next
  dsimp only [lawD, dOf, LE, List.drop]
  refine wpAny_execs_cons ?_
  dsimp only [pplLed, List.cons_append, List.nil_append] at N
  k_steps
  unfold Stop
  refine LCp.ListComp_P (F₀ := F) (by with_unfolding_all rfl) (by decide) (by rfl) (by decide) (by rfl) (by rfl) (by decide) ?_
  k_steps
  unfold Stop
  (rename Fr _ _ _ _ => F); (rename News _ _ _ _ => N)
  refine call_zs (x := Str.ofString "abcd") (by decide +kernel) (xs := (intv x ud 4).toArray) (N.isList (items := (intv x ud 4).toArray) (.head _)) (fun h2 hz hTI hTO h1 h2' hsz hk => ?_)
  have lt0 := fun q hq => Heap.lt_size (N q hq).1
  have hLk := F.ns.lt
  have hab := F.above
  have F1 := F.keeps hk
  have N1 := N.grown hk
  clear F N
  dsimp only at lt0 hLk hz hTI hTO h1 h2' ⊢
  k_steps
  unfold Stop
  have hjl : [j0, j1, j2, j3].Perm (List.range 4) := hr.1
  refine sorted_zs (n := 4) (x := x) (u := ud) (js := [j0, j1, j2, j3]) rfl (zapart (lt0 _ (.head _))) hz hTI hTO h1 h2' ((N1.isList (items := (intv x ud 4).toArray) (.head _))) (by decide) (by decide) (by decide +kernel) ?abcd (zfree hLk hab (Nat.le_add_right _ _)) (zfree hLk hab (Nat.le_add_right _ _)) (zfree hLk hab (Nat.le_refl _)) (zfree hLk hab (Nat.le_add_right _ _)) F1 N1 (zoff lt0) hr.1 (row_row hr) ?_
  case abcd =>
    intro j hj
    have : j = 0 ∨ j = 1 ∨ j = 2 ∨ j = 3 := lt4 (by assumption)
    rcases this with rfl | rfl | rfl | rfl <;> decide +kernel
  clear hz hTI hTO h1 h2' hk lt0 hLk hab F1 N1 hsz
  intro R h3 tk3 c as tu F N hal
  dsimp only
  k_steps
  unfold Stop
  refine comp_swap (items := [j0, j1, j2, j3].map fun i => (as.map Value.ref).getD i .none) (fun i v₁ v₂ => ∃ j t u, [j0, j1, j2, j3][i]? = some j ∧ v₁ = .int (x j) t ∧ v₂ = .str (nm j) u) rfl F N (.head _) ?hi (by simp) rfl rfl rfl (by decide) (by decide) ?_
  case hi =>
    intro i v e
    rw [List.getElem?_map] at e
    obtain ⟨j, e1, e2⟩ := Option.map_eq_some_iff.mp e
    have hj : j < as.length := by rw [hal]; exact hr.lt (List.mem_of_getElem? e1)
    refine ⟨as.getD j 0, _, _, ?_, .tail _ (List.mem_append_left _ (zipEx_mem hj)), j, _, _, e1, rfl, rfl⟩
    rw [← e2]
    simp [List.getD, List.getElem?_eq_getElem hj]
  intro h4 ys nw hsub hys
  unfold LCg.FinE
  clear F N
  intro D2 h5 tk5 F N r1
  dsimp only [LCg.lst] at N
  k_steps
  unfold Stop
  have hy : All2 (PairIn ((D2, listOf ys.toArray ys.length) :: nw)) ys [(nm j0, x j0), (nm j1, x j1), (nm j2, x j2), (nm j3, x j3)] := by
    refine all2_via (f := fun i => (nm ([j0, j1, j2, j3].getD i 0), x ([j0, j1, j2, j3].getD i 0))) (as := List.range 4) hys ?_
    rintro y i ⟨T, v₁, v₂, e, hm, j, t, u, e1, rfl, rfl⟩
    have : [j0, j1, j2, j3].getD i 0 = j := by simp [List.getD, e1]
    rw [this]
    exact ⟨T, u, t, e, .tail _ hm⟩
  have ep : [(a.y0, a.k0), (a.y1, a.k1), (a.y2, a.k2), (a.y3, a.k3)] = [(nm j0, x j0), (nm j1, x j1), (nm j2, x j2), (nm j3, x j3)] := by
    obtain ⟨a0, a1, a2, a3, b0, b1, b2, b3⟩ := ha
    rw [a0, a1, a2, a3, b0, b1, b2, b3]
  have lift : ∀ q ∈ pplLed a ++ (D, listOf (intv x ud 7).toArray 7) :: (cc, oc) :: lawCells L o1 o2 o3 o4 o5 o6 o7 o8 (lawTabs #[] ps (lexPs cc)), q ∈ nw := fun q hq => hsub q (.tail _ (List.mem_append_right _ (.tail _ hq)))
  refine ne_ppl_no (a := a) N (fun q hq => .tail _ (lift q (List.mem_append_left _ hq))) (.head _) hy ep ?hst (by units_room) ?_
  case hst =>
    intro p hp
    revert p hp
    refine each_cons ?_ (each_cons ?_ (each_cons ?_ (each_cons ?_ each_nil)))
    · exact nm_ok (hr.lt (.head _))
    · exact nm_ok (hr.lt (.tail _ (.head _)))
    · exact nm_ok (hr.lt (.tail _ (.tail _ (.head _))))
    · exact nm_ok (hr.lt (.tail _ (.tail _ (.tail _ (.head _)))))
  k_steps
  unfold Stop
  (rename Fr _ _ _ _ => F); (rename News _ _ _ _ => N)
  refine Wp.run ?_
  exact next.cutW F N fun q hq => .tail _ (lift q hq)
end
end
section
theorem resetL0 : (0 : Nat) = 0 := by
  w_top off
  k_with_none
  (k_with "w my pick" => (with_reducible first | assumption | exact lo1 | exact lo2 | exact lo3 | exact lo4 | exact ls1 (by assumption) | exact ls2 (by assumption) | exact ls3 (by assumption) | exact pk0 (by assumption) | exact pk1 (by assumption) | exact pk2 (by assumption) | exact pk3 (by assumption) | exact pk4 (by assumption) | exact pk5 (by assumption) | exact pk6 (by assumption) | exact pk7 (by assumption) | exact pk8 (by assumption) | exact pk9 (by assumption) | exact pk10 (by assumption) | exact pk11 (by assumption) | exact pk12 (by assumption) | exact pk13 (by assumption) | exact pk14 (by assumption) | exact pk15 (by assumption) | exact pk16 (by assumption) | exact pk17 (by assumption) | exact qk1 (by assumption) | exact qk2 (by assumption) | exact qk3 (by assumption) | exact qk4 (by assumption) | exact qk5 (by assumption) | exact qk6 (by assumption) | exact qk7 (by assumption) | exact qk8 (by assumption) | exact qk9 (by assumption) | exact qk10 (by assumption) | exact qk11 (by assumption) | exact qk12 (by assumption) | exact qk13 (by assumption) | exact qk14 (by assumption) | exact qk15 (by assumption) | exact qk16 (by assumption) | exact qk17 (by assumption)))
  (k_with "w my sml" => (with_reducible first | (refine Nat.ne_of_lt ?_; k_extra "w my pick") | (refine Nat.ne_of_gt ?_; k_extra "w my pick") | (refine Ne.symm ?_; k_extra "w my pick") | (refine id ?_; k_extra "w my pick") | (refine Nat.le_of_lt ?_; k_extra "w my pick") | exact lrefl | exact lzero | exact one_le | exact room0 (by assumption) | exact room (by assumption) (by decide) | exact room1 (by assumption) (by decide) | exact room2 (by assumption) (by decide) | exact room3 (by assumption) (by decide) | exact le_le (by assumption) (by decide) | exact le_sc (by assumption) | (refine above1' ?_ (by assumption); k_extra "w my pick") | (refine above2' ?_ (by assumption); k_extra "w my pick")))
  (k_with "w my om" => (first | k_extra "w my sml" | lia | omega))
  rfl
theorem rgL0x1 : (0 : Nat) = 0 := by
  (k_with "w my k_room" => ((try simp only [depth_under_make, depth_under_kw, depth_in1, depth_deeper]); (show _ < 1000); (try dsimp only); omega))
  (k_with "w my units_room" => ((try simp only [units_in1, units_deeper, Around.mark_units]); (show _ < 9900); (try dsimp only); omega))
  (k_with "w my small" => (first
  | (refine Sm.int ?_; (try simp only [Int.fmod_eq_emod_of_nonneg, Int.fdiv_eq_ediv_of_nonneg, Int.reduceLE]); omega)
  | (apply Sm.slice; k_extra "w my small")
  | (apply Sm.add <;> k_extra "w my small")
  | (apply Sm.ite <;> k_extra "w my small")
  | assumption
  | exact Sm.refl _))
  (k_with "w subscriptTail Name Slice str ref" => ((with_reducible show wpAny _ _ (subscriptTail _ (Expr.Slice (some _) none none _) (Value.str _ _) (Value.ref _)) _ _ _); dsimp only; (with_reducible rename Fr _ _ _ _ => F'); (with_reducible rename News _ _ _ _ => N'); (refine' slice_strN_sn (hsz := by (apply Sm.size <;> first | k_extra "w my small" | decide)) (s := ⟨_, _, _, _, _⟩) F' N' ?_); intro _ _ _ _ _))
  (k_with "w binaryOp Add str str" => ((with_reducible show wpAny _ _ (binaryOp Operator.Add (Value.str _ _) (Value.str _ _)) _ _ _); (refine' PyProof.Rows.add_str ?_ (by (apply Sm.size2 <;> first | k_extra "w my small" | decide))); intro _ _))
  (k_with "w ite" => ((with_reducible refine ite_strs ?_); intro _))
  (k_with "w my k_ne" => (first | exact Mine.CellOff.c1 (by with_reducible assumption) | exact Mine.CellOff.c2 (by with_reducible assumption) | exact Mine.CellOff.c3 (by with_reducible assumption) | exact Mine.CellOff.c4 (by with_reducible assumption) | exact Mine.CellOff.c5 (by with_reducible assumption) | exact Mine.CellOff.c6 (by with_reducible assumption) | exact Mine.CellOff.c7 (by with_reducible assumption) | exact Mine.CellOff.c8 (by with_reducible assumption) | exact Mine.CellOff.t1 (by with_reducible assumption) | exact Mine.CellOff.t2 (by with_reducible assumption) | exact Mine.CellOff.t3 (by with_reducible assumption)))
  (k_with "w my sub" => (with_reducible first
  | exact sub_id
  | (refine sub_keep ?_; k_extra "w my sub")
  | (refine sub_skip ?_; k_extra "w my sub")
  | exact sub_nil))
  (k_with "w ElEnd" => (refine stop_here ?_))
  (k_with "w subscriptTail" => (k_here; (with_reducible show wpAny _ _ (subscriptTail _ _ (Value.ref _) (Value.int (0 + ((_ : Nat) : Int)) _)) _ _ _); (first | (refine' Mine.item_intv (by k_asm) (by k_mem) (by assumption) (by decide) ?_ (by with_unfolding_all rfl)) | (refine' Mine.item_textv (by k_asm) (by k_mem) (by assumption) (by decide) ?_ (by with_unfolding_all rfl)))))
  (k_with "w subscriptTail Name Name ref int" => (k_here; (with_reducible show wpAny _ _ (subscriptTail _ _ (Value.ref _) (Value.int (0 + ((_ : Nat) : Int)) _)) _ _ _); (first | (refine' Mine.item_intv (by k_asm) (by k_mem) (by assumption) (by decide) ?_ (by with_unfolding_all rfl)) | (refine' Mine.item_textv (by k_asm) (by k_mem) (by assumption) (by decide) ?_ (by with_unfolding_all rfl)))))
  (k_with "w call ref" => ((with_reducible show wpAny _ _ (call (Value.ref 129) _ _) _ _ _); refine stop_here ?_))
  (k_with "w eval ListComp" => (refine stop_here ?_))
  (k_with "w execs cons" => (refine stop_here ?_))
  (k_with "w CompSrc" => (refine stop_here ?_))
  rfl
section
variable {w : World} {A : Around} {base : Heap} {outer : List Env} {p : Program} {loose : List Str} {mean : ExcName → Option Value} {mg mb : Str → Option Value} {g : Heap} {L fa : Addr} {cd : Value} {Q : Flow → Shared → Prop} {s : Shared} {o1 o2 o3 o4 o5 o6 o7 o8 : Obj} {sc : Addr}
set_option maxHeartbeats 8000000 in
theorem st0
    (C : LawC w A base outer p loose mean mg mb g L Q s) {vs : List Value} {ns : List Int} (hl : g.IsList sc vs.toArray) (hi : IntsAre vs ns) (hz : ns.length ≤ 63)
    (c1 : CellN o1)
    (next : ∀ (T : Addr) (x : Nat → Int) (u : Nat → Tok) (n : Nat) (o1 : Obj), (∀ j, (x j).natAbs ≤ 10 ^ 8) → CellOff L T → CellV o1 (.ref T) →
      Go w A g L fa cd Q s 1 (fun y => if y = Str.ofString "script" then some (.ref sc) else none) ((T, listOf (intv x u 7).toArray n) :: lawCells L o1 o2 o3 o4 o5 o6 o7 o8 (lawTabs #[] #[] #[]))) :
      Go w A g L fa cd Q s 0 (fun y => if y = Str.ofString "script" then some (.ref sc) else none) (lawCells L o1 o2 o3 o4 o5 o6 o7 o8 (lawTabs #[] #[] #[])) := by
  unfold CellN at *
  refine ⟨fun h tk F N => ?_⟩
  have big := C.big
  have hdone := C.done
  have hSu := C.S
  revert next
  apply Setup.open hSu
  clear hSu C
  intro dpt grs uni hX hTp hBl hdp hun
  intro next
  dsimp only [lawD, dOf, LE, List.drop]
  refine wpAny_execs_cons ?_
  k_steps
  unfold Stop
  refine use0 (totals_spec (Setup.down0 (n := 5) (A := ⟨none, _, some outer, _, _⟩) ⟨hX, hTp, hBl, rfl, by dsimp only; k_extra "w my om", by dsimp only; k_extra "w my om"⟩ F N rfl rfl) (fun b o e => of_hideAll _ e) (keeps_list hl F.keep) hi hz) F N (by first | exact each_nil | (refine each_cons ?_ each_nil; repeat (first | exact .head _ | refine .tail _ ?_)) | (refine each_cons ?_ (each_cons ?_ each_nil) <;> repeat (first | exact .head _ | refine .tail _ ?_)) | simp) ?_
  rintro _ h1 tk1 F1 N1 t1 ⟨T, n, x, u, rfl, hfr, hT, hx⟩
  have off := CellOff.of (news_off N hfr)
  have N2 := news_fresh F N1 hfr hT
  clear F N N1
  dsimp only at F1 N2 ⊢
  (try dsimp only [lawCells, lawTabs] at N2)
  k_steps
  unfold Stop
  (rename Fr _ _ _ _ => F); (rename News _ _ _ _ => N)
  refine (next T x u n _ hx off ?e).cut F N fun _ h => h
  case e => assumption
end
end
section
theorem resetL1 : (0 : Nat) = 0 := by
  w_top off
  k_with_none
  (k_with "w my pick" => (with_reducible first | assumption | exact lo1 | exact lo2 | exact lo3 | exact lo4 | exact ls1 (by assumption) | exact ls2 (by assumption) | exact ls3 (by assumption) | exact pk0 (by assumption) | exact pk1 (by assumption) | exact pk2 (by assumption) | exact pk3 (by assumption) | exact pk4 (by assumption) | exact pk5 (by assumption) | exact pk6 (by assumption) | exact pk7 (by assumption) | exact pk8 (by assumption) | exact pk9 (by assumption) | exact pk10 (by assumption) | exact pk11 (by assumption) | exact pk12 (by assumption) | exact pk13 (by assumption) | exact pk14 (by assumption) | exact pk15 (by assumption) | exact pk16 (by assumption) | exact pk17 (by assumption) | exact qk1 (by assumption) | exact qk2 (by assumption) | exact qk3 (by assumption) | exact qk4 (by assumption) | exact qk5 (by assumption) | exact qk6 (by assumption) | exact qk7 (by assumption) | exact qk8 (by assumption) | exact qk9 (by assumption) | exact qk10 (by assumption) | exact qk11 (by assumption) | exact qk12 (by assumption) | exact qk13 (by assumption) | exact qk14 (by assumption) | exact qk15 (by assumption) | exact qk16 (by assumption) | exact qk17 (by assumption)))
  (k_with "w my sml" => (with_reducible first | (refine Nat.ne_of_lt ?_; k_extra "w my pick") | (refine Nat.ne_of_gt ?_; k_extra "w my pick") | (refine Ne.symm ?_; k_extra "w my pick") | (refine id ?_; k_extra "w my pick") | (refine Nat.le_of_lt ?_; k_extra "w my pick") | exact lrefl | exact lzero | exact one_le | exact room0 (by assumption) | exact room (by assumption) (by decide) | exact room1 (by assumption) (by decide) | exact room2 (by assumption) (by decide) | exact room3 (by assumption) (by decide) | exact le_le (by assumption) (by decide) | exact le_sc (by assumption) | (refine above1' ?_ (by assumption); k_extra "w my pick") | (refine above2' ?_ (by assumption); k_extra "w my pick")))
  (k_with "w my om" => (first | k_extra "w my sml" | lia | omega))
  rfl
theorem rgL1x1 : (0 : Nat) = 0 := by
  (k_with "w my k_room" => ((try simp only [depth_under_make, depth_under_kw, depth_in1, depth_deeper]); (show _ < 1000); (try dsimp only); omega))
  (k_with "w my units_room" => ((try simp only [units_in1, units_deeper, Around.mark_units]); (show _ < 9900); (try dsimp only); omega))
  (k_with "w my small" => (first
  | (refine Sm.int ?_; (try simp only [Int.fmod_eq_emod_of_nonneg, Int.fdiv_eq_ediv_of_nonneg, Int.reduceLE]); omega)
  | (apply Sm.slice; k_extra "w my small")
  | (apply Sm.add <;> k_extra "w my small")
  | (apply Sm.ite <;> k_extra "w my small")
  | assumption
  | exact Sm.refl _))
  (k_with "w subscriptTail Name Slice str ref" => ((with_reducible show wpAny _ _ (subscriptTail _ (Expr.Slice (some _) none none _) (Value.str _ _) (Value.ref _)) _ _ _); dsimp only; (with_reducible rename Fr _ _ _ _ => F'); (with_reducible rename News _ _ _ _ => N'); (refine' slice_strN_sn (hsz := by (apply Sm.size <;> first | k_extra "w my small" | decide)) (s := ⟨_, _, _, _, _⟩) F' N' ?_); intro _ _ _ _ _))
  (k_with "w binaryOp Add str str" => ((with_reducible show wpAny _ _ (binaryOp Operator.Add (Value.str _ _) (Value.str _ _)) _ _ _); (refine' PyProof.Rows.add_str ?_ (by (apply Sm.size2 <;> first | k_extra "w my small" | decide))); intro _ _))
  (k_with "w ite" => ((with_reducible refine ite_strs ?_); intro _))
  (k_with "w my k_ne" => (first | exact Mine.CellOff.c1 (by with_reducible assumption) | exact Mine.CellOff.c2 (by with_reducible assumption) | exact Mine.CellOff.c3 (by with_reducible assumption) | exact Mine.CellOff.c4 (by with_reducible assumption) | exact Mine.CellOff.c5 (by with_reducible assumption) | exact Mine.CellOff.c6 (by with_reducible assumption) | exact Mine.CellOff.c7 (by with_reducible assumption) | exact Mine.CellOff.c8 (by with_reducible assumption) | exact Mine.CellOff.t1 (by with_reducible assumption) | exact Mine.CellOff.t2 (by with_reducible assumption) | exact Mine.CellOff.t3 (by with_reducible assumption)))
  (k_with "w my sub" => (with_reducible first
  | exact sub_id
  | (refine sub_keep ?_; k_extra "w my sub")
  | (refine sub_skip ?_; k_extra "w my sub")
  | exact sub_nil))
  (k_with "w ElEnd" => (refine stop_here ?_))
  (k_with "w subscriptTail" => (k_here; (with_reducible show wpAny _ _ (subscriptTail _ _ (Value.ref _) (Value.int (0 + ((_ : Nat) : Int)) _)) _ _ _); (first | (refine' Mine.item_intv (by k_asm) (by k_mem) (by assumption) (by decide) ?_ (by with_unfolding_all rfl)) | (refine' Mine.item_textv (by k_asm) (by k_mem) (by assumption) (by decide) ?_ (by with_unfolding_all rfl)))))
  (k_with "w subscriptTail Name Name ref int" => (k_here; (with_reducible show wpAny _ _ (subscriptTail _ _ (Value.ref _) (Value.int (0 + ((_ : Nat) : Int)) _)) _ _ _); (first | (refine' Mine.item_intv (by k_asm) (by k_mem) (by assumption) (by decide) ?_ (by with_unfolding_all rfl)) | (refine' Mine.item_textv (by k_asm) (by k_mem) (by assumption) (by decide) ?_ (by with_unfolding_all rfl)))))
  (k_with "w execs cons" => (refine stop_here ?_))
  rfl
section
variable {w : World} {A : Around} {base : Heap} {outer : List Env} {p : Program} {loose : List Str} {mean : ExcName → Option Value} {mg mb : Str → Option Value} {g : Heap} {L fa : Addr} {cd : Value} {Q : Flow → Shared → Prop} {s : Shared} {o1 o2 o3 o4 o5 o6 o7 o8 : Obj} {sc : Addr}
set_option maxHeartbeats 8000000 in
theorem st1 (C : LawC w A base outer p loose mean mg mb g L Q s) {Tt : Addr} {x : Nat → Int} {u : Nat → Tok} {n : Nat} {m : Str → Option Value} (hx : ∀ j, (x j).natAbs ≤ 10 ^ 8) (oT : CellOff L Tt) (c1 : CellV o1 (.ref Tt)) (c2 : CellN o2)
    (next : ∀ (M : Addr) (mi : Nat → Int) (um : Nat → Tok) (nM : Nat) (o2 : Obj), (∀ j, j < 4 → mi j = x j % 181 - 90) → (∀ j, 4 ≤ j → j < 7 → mi j = x j % 61) → CellOff L M → CellV o2 (.ref M) →
      Go w A g L fa cd Q s 2 m ((M, listOf (intv mi um 7).toArray nM) :: (Tt, listOf (intv x u 7).toArray n) :: lawCells L o1 o2 o3 o4 o5 o6 o7 o8 (lawTabs #[] #[] #[]))) :
    Go w A g L fa cd Q s 1 m ((Tt, listOf (intv x u 7).toArray n) :: lawCells L o1 o2 o3 o4 o5 o6 o7 o8 (lawTabs #[] #[] #[])) := by
  unfold CellN CellV at *
  refine ⟨fun h tk F N => ?_⟩
  have big := C.big
  have hdone := C.done
  have hSu := C.S
  revert next
  apply Setup.open hSu
  clear hSu C
  intro dpt grs uni hX hTp hBl hdp hun
  intro next
  dsimp only [lawD, dOf, LE, List.drop]
  (try dsimp only [lawCells, lawTabs] at N)
  refine wpAny_execs_cons ?_
  k_steps
  unfold Stop
  (rename Fr _ _ _ _ => F); (rename News _ _ _ _ => N); (rename IntsAre _ (_ ++ _) => hI)
  obtain ⟨um, rfl⟩ := are_intv (n := 7) hI rfl
  refine' (next ?M ?mi um ?nM ?oM ?h1 ?h2 ?off ?e).cut F N ?hs
  case hs => k_extra "w my sub"
  any_goals ((with_reducible show CellOff _ _); refine CellOff.gt big ?_ (Nat.le_refl _); k_extra "w my om")
  any_goals assumption
  · intro j hj
    have := lt4 hj
    rcases this with rfl | rfl | rfl | rfl <;> simp [Int.fmod_eq_emod_of_nonneg]
  · intro j hj hj'
    have := lt47 hj hj'
    rcases this with rfl | rfl | rfl <;> simp [Int.fmod_eq_emod_of_nonneg]
end
end
section
theorem resetL2 : (0 : Nat) = 0 := by
  w_top off
  k_with_none
  (k_with "w my pick" => (with_reducible first | assumption | exact lo1 | exact lo2 | exact lo3 | exact lo4 | exact ls1 (by assumption) | exact ls2 (by assumption) | exact ls3 (by assumption) | exact pk0 (by assumption) | exact pk1 (by assumption) | exact pk2 (by assumption) | exact pk3 (by assumption) | exact pk4 (by assumption) | exact pk5 (by assumption) | exact pk6 (by assumption) | exact pk7 (by assumption) | exact pk8 (by assumption) | exact pk9 (by assumption) | exact pk10 (by assumption) | exact pk11 (by assumption) | exact pk12 (by assumption) | exact pk13 (by assumption) | exact pk14 (by assumption) | exact pk15 (by assumption) | exact pk16 (by assumption) | exact pk17 (by assumption) | exact qk1 (by assumption) | exact qk2 (by assumption) | exact qk3 (by assumption) | exact qk4 (by assumption) | exact qk5 (by assumption) | exact qk6 (by assumption) | exact qk7 (by assumption) | exact qk8 (by assumption) | exact qk9 (by assumption) | exact qk10 (by assumption) | exact qk11 (by assumption) | exact qk12 (by assumption) | exact qk13 (by assumption) | exact qk14 (by assumption) | exact qk15 (by assumption) | exact qk16 (by assumption) | exact qk17 (by assumption)))
  (k_with "w my sml" => (with_reducible first | (refine Nat.ne_of_lt ?_; k_extra "w my pick") | (refine Nat.ne_of_gt ?_; k_extra "w my pick") | (refine Ne.symm ?_; k_extra "w my pick") | (refine id ?_; k_extra "w my pick") | (refine Nat.le_of_lt ?_; k_extra "w my pick") | exact lrefl | exact lzero | exact one_le | exact room0 (by assumption) | exact room (by assumption) (by decide) | exact room1 (by assumption) (by decide) | exact room2 (by assumption) (by decide) | exact room3 (by assumption) (by decide) | exact le_le (by assumption) (by decide) | exact le_sc (by assumption) | (refine above1' ?_ (by assumption); k_extra "w my pick") | (refine above2' ?_ (by assumption); k_extra "w my pick")))
  (k_with "w my om" => (first | k_extra "w my sml" | lia | omega))
  rfl
theorem rgL2x1 : (0 : Nat) = 0 := by
  (k_with "w my k_room" => ((try simp only [depth_under_make, depth_under_kw, depth_in1, depth_deeper]); (show _ < 1000); (try dsimp only); omega))
  (k_with "w my units_room" => ((try simp only [units_in1, units_deeper, Around.mark_units]); (show _ < 9900); (try dsimp only); omega))
  (k_with "w my small" => (first
  | (refine Sm.int ?_; (try simp only [Int.fmod_eq_emod_of_nonneg, Int.fdiv_eq_ediv_of_nonneg, Int.reduceLE]); omega)
  | (apply Sm.slice; k_extra "w my small")
  | (apply Sm.add <;> k_extra "w my small")
  | (apply Sm.ite <;> k_extra "w my small")
  | assumption
  | exact Sm.refl _))
  (k_with "w subscriptTail Name Slice str ref" => ((with_reducible show wpAny _ _ (subscriptTail _ (Expr.Slice (some _) none none _) (Value.str _ _) (Value.ref _)) _ _ _); dsimp only; (with_reducible rename Fr _ _ _ _ => F'); (with_reducible rename News _ _ _ _ => N'); (refine' slice_strN_sn (hsz := by (apply Sm.size <;> first | k_extra "w my small" | decide)) (s := ⟨_, _, _, _, _⟩) F' N' ?_); intro _ _ _ _ _))
  (k_with "w binaryOp Add str str" => ((with_reducible show wpAny _ _ (binaryOp Operator.Add (Value.str _ _) (Value.str _ _)) _ _ _); (refine' PyProof.Rows.add_str ?_ (by (apply Sm.size2 <;> first | k_extra "w my small" | decide))); intro _ _))
  (k_with "w ite" => ((with_reducible refine ite_strs ?_); intro _))
  (k_with "w my k_ne" => (first | exact Mine.CellOff.c1 (by with_reducible assumption) | exact Mine.CellOff.c2 (by with_reducible assumption) | exact Mine.CellOff.c3 (by with_reducible assumption) | exact Mine.CellOff.c4 (by with_reducible assumption) | exact Mine.CellOff.c5 (by with_reducible assumption) | exact Mine.CellOff.c6 (by with_reducible assumption) | exact Mine.CellOff.c7 (by with_reducible assumption) | exact Mine.CellOff.c8 (by with_reducible assumption) | exact Mine.CellOff.t1 (by with_reducible assumption) | exact Mine.CellOff.t2 (by with_reducible assumption) | exact Mine.CellOff.t3 (by with_reducible assumption)))
  (k_with "w my sub" => (with_reducible first
  | exact sub_id
  | (refine sub_keep ?_; k_extra "w my sub")
  | (refine sub_skip ?_; k_extra "w my sub")
  | exact sub_nil))
  (k_with "w ElEnd" => (refine stop_here ?_))
  (k_with "w subscriptTail" => (k_here; (with_reducible show wpAny _ _ (subscriptTail _ _ (Value.ref _) (Value.int (0 + ((_ : Nat) : Int)) _)) _ _ _); (first | (refine' Mine.item_intv (by k_asm) (by k_mem) (by assumption) (by decide) ?_ (by with_unfolding_all rfl)) | (refine' Mine.item_textv (by k_asm) (by k_mem) (by assumption) (by decide) ?_ (by with_unfolding_all rfl)))))
  (k_with "w subscriptTail Name Name ref int" => (k_here; (with_reducible show wpAny _ _ (subscriptTail _ _ (Value.ref _) (Value.int (0 + ((_ : Nat) : Int)) _)) _ _ _); (first | (refine' Mine.item_intv (by k_asm) (by k_mem) (by assumption) (by decide) ?_ (by with_unfolding_all rfl)) | (refine' Mine.item_textv (by k_asm) (by k_mem) (by assumption) (by decide) ?_ (by with_unfolding_all rfl)))))
  (k_with "w execs cons" => (refine stop_here ?_))
  (k_with "w eval ListComp" => (refine stop_here ?_))
  (k_with "w CompSrc" => (refine stop_here ?_))
  (k_with "w call ref" => ((with_reducible show wpAny _ _ (call (Value.ref 136) _ _) _ _ _); refine stop_here ?_))
  rfl
section
variable {w : World} {A : Around} {base : Heap} {outer : List Env} {p : Program} {loose : List Str} {mean : ExcName → Option Value} {mg mb : Str → Option Value} {g : Heap} {L fa : Addr} {cd : Value} {Q : Flow → Shared → Prop} {s : Shared} {o1 o2 o3 o4 o5 o6 o7 o8 : Obj} {sc : Addr}
set_option maxHeartbeats 8000000 in
theorem st2 (C : LawC w A base outer p loose mean mg mb g L Q s) {Tt M : Addr} {x mi : Nat → Int} {u um : Nat → Tok} {n nM : Nat} {m : Str → Option Value} (hx : ∀ j, (x j).natAbs ≤ 10 ^ 8) (hm : ∀ j, j < 7 → -90 ≤ mi j ∧ mi j ≤ 90) (oT : CellOff L Tt) (oM : CellOff L M) (c1 : CellV o1 (.ref Tt)) (c2 : CellV o2 (.ref M)) (c3 : CellN o3)
    (next : ∀ (Z : Addr) (uz : Nat → Tok) (nZ : Nat) (o3 : Obj), CellOff L Z → CellV o3 (.ref Z) →
      Go w A g L fa cd Q s 3 m ((Z, listOf (textv (fun j => zone (mi j) (((x j).fdiv 7).fmod 4)) uz 7).toArray nZ) :: (M, listOf (intv mi um 7).toArray nM) :: (Tt, listOf (intv x u 7).toArray n) :: lawCells L o1 o2 o3 o4 o5 o6 o7 o8 (lawTabs #[] #[] #[]))) :
    Go w A g L fa cd Q s 2 m ((M, listOf (intv mi um 7).toArray nM) :: (Tt, listOf (intv x u 7).toArray n) :: lawCells L o1 o2 o3 o4 o5 o6 o7 o8 (lawTabs #[] #[] #[])) := by
  (try unfold CellN at *)
  (try unfold CellV at *)
  refine ⟨fun h tk F N => ?_⟩
  have big := C.big
  have hdone := C.done
  have hSu := C.S
  revert next
  apply Setup.open hSu
  clear hSu C
  intro dpt grs uni hX hTp hBl hdp hun
  intro next
  dsimp only [lawD, dOf, LE, List.drop]
  (try dsimp only [lawCells, lawTabs] at N)
  refine wpAny_execs_cons ?_
  k_steps
  unfold Stop
  refine LCg.ListComp_U (F₀ := F) (by with_unfolding_all rfl) (by decide) (by rfl) (by decide) (by rfl) ?_
  k_steps
  unfold Stop
  (rename Fr _ _ _ _ => F); (rename News _ _ _ _ => N); (rename IsRange _ _ _ _ _ _ _ _ => hR)
  refine LCg.CompSrc.range (n := 7) rfl F N hR (by decide) (by decide) (by decide) ?_
  intro g2
  refine rest_same (fun j v => ∃ t, v = .str (zone (mi j) (((x j).fdiv 7).fmod 4)) t) trivial ?step ?fin
  case step =>
    clear F N
    rintro i ys v I oI C oC D m₂ h tk E' hi hyl hys ⟨tv, rfl⟩ hn hv F N o1 o2
    k_steps
    unfold Stop
    refine use0 (zone_spec (Setup.down0 (n := 5) (A := ⟨none, _, some outer, _, _⟩) ⟨hX, hTp, hBl, rfl, by dsimp only; k_extra "w my om", by dsimp only; k_extra "w my om"⟩ F N rfl rfl) (fun b o e => of_hideAll _ e) _ _ _ _ (hm i hi).1 (hm i hi).2 (Int.fmod_nonneg_of_pos _ (by decide)) (Int.fmod_lt_of_pos _ (by decide))) F N (by first | exact each_nil | (refine each_cons ?_ each_nil; repeat (first | exact .head _ | refine .tail _ ?_)) | (refine each_cons ?_ (each_cons ?_ each_nil) <;> repeat (first | exact .head _ | refine .tail _ ?_)) | simp) ?_
    clear F N
    rintro _ h1 tk1 F1 N1 t1 ⟨t, rfl⟩
    dsimp only at F1 N1 ⊢
    k_steps
    unfold Stop
    refine ElEnd.intro F1 N1 sub_id ⟨t, rfl⟩
  case fin =>
    intro ys hyl hys
    obtain ⟨uz, rfl⟩ := textv_of hyl fun j hj => (by obtain ⟨v, e, t, rfl⟩ := hys j hj; exact ⟨t, e⟩)
    unfold LCg.FinE
    intro D h' tk' F N o1
    dsimp only [LCg.lst] at N
    rw [textv_len] at N
    have oD : CellOff L D := CellOff.of fun q hq => off1_mem o1 q (.tail _ (.tail _ hq))
    dsimp only [LCg.Off1] at o1
    k_steps
    unfold Stop
    (rename Fr _ _ _ _ => F); (rename News _ _ _ _ => N)
    refine' (next ?Z uz ?nZ ?oZ ?off ?e).cut F N ?hs
    case hs => k_extra "w my sub"
    any_goals assumption
end
end
section
theorem resetL3 : (0 : Nat) = 0 := by
  w_top off
  k_with_none
  (k_with "w my pick" => (with_reducible first | assumption | exact lo1 | exact lo2 | exact lo3 | exact lo4 | exact ls1 (by assumption) | exact ls2 (by assumption) | exact ls3 (by assumption) | exact pk0 (by assumption) | exact pk1 (by assumption) | exact pk2 (by assumption) | exact pk3 (by assumption) | exact pk4 (by assumption) | exact pk5 (by assumption) | exact pk6 (by assumption) | exact pk7 (by assumption) | exact pk8 (by assumption) | exact pk9 (by assumption) | exact pk10 (by assumption) | exact pk11 (by assumption) | exact pk12 (by assumption) | exact pk13 (by assumption) | exact pk14 (by assumption) | exact pk15 (by assumption) | exact pk16 (by assumption) | exact pk17 (by assumption) | exact qk1 (by assumption) | exact qk2 (by assumption) | exact qk3 (by assumption) | exact qk4 (by assumption) | exact qk5 (by assumption) | exact qk6 (by assumption) | exact qk7 (by assumption) | exact qk8 (by assumption) | exact qk9 (by assumption) | exact qk10 (by assumption) | exact qk11 (by assumption) | exact qk12 (by assumption) | exact qk13 (by assumption) | exact qk14 (by assumption) | exact qk15 (by assumption) | exact qk16 (by assumption) | exact qk17 (by assumption)))
  (k_with "w my sml" => (with_reducible first | (refine Nat.ne_of_lt ?_; k_extra "w my pick") | (refine Nat.ne_of_gt ?_; k_extra "w my pick") | (refine Ne.symm ?_; k_extra "w my pick") | (refine id ?_; k_extra "w my pick") | (refine Nat.le_of_lt ?_; k_extra "w my pick") | exact lrefl | exact lzero | exact one_le | exact room0 (by assumption) | exact room (by assumption) (by decide) | exact room1 (by assumption) (by decide) | exact room2 (by assumption) (by decide) | exact room3 (by assumption) (by decide) | exact le_le (by assumption) (by decide) | exact le_sc (by assumption) | (refine above1' ?_ (by assumption); k_extra "w my pick") | (refine above2' ?_ (by assumption); k_extra "w my pick")))
  (k_with "w my om" => (first | k_extra "w my sml" | lia | omega))
  rfl
theorem rgL3x1 : (0 : Nat) = 0 := by
  (k_with "w my k_room" => ((try simp only [depth_under_make, depth_under_kw, depth_in1, depth_deeper]); (show _ < 1000); (try dsimp only); omega))
  (k_with "w my units_room" => ((try simp only [units_in1, units_deeper, Around.mark_units]); (show _ < 9900); (try dsimp only); omega))
  (k_with "w my small" => (first
  | (refine Sm.int ?_; (try simp only [Int.fmod_eq_emod_of_nonneg, Int.fdiv_eq_ediv_of_nonneg, Int.reduceLE]); omega)
  | (apply Sm.slice; k_extra "w my small")
  | (apply Sm.add <;> k_extra "w my small")
  | (apply Sm.ite <;> k_extra "w my small")
  | assumption
  | exact Sm.refl _))
  (k_with "w subscriptTail Name Slice str ref" => ((with_reducible show wpAny _ _ (subscriptTail _ (Expr.Slice (some _) none none _) (Value.str _ _) (Value.ref _)) _ _ _); dsimp only; (with_reducible rename Fr _ _ _ _ => F'); (with_reducible rename News _ _ _ _ => N'); (refine' slice_strN_sn (hsz := by (apply Sm.size <;> first | k_extra "w my small" | decide)) (s := ⟨_, _, _, _, _⟩) F' N' ?_); intro _ _ _ _ _))
  (k_with "w binaryOp Add str str" => ((with_reducible show wpAny _ _ (binaryOp Operator.Add (Value.str _ _) (Value.str _ _)) _ _ _); (refine' PyProof.Rows.add_str ?_ (by (apply Sm.size2 <;> first | k_extra "w my small" | decide))); intro _ _))
  (k_with "w ite" => ((with_reducible refine ite_strs ?_); intro _))
  (k_with "w my k_ne" => (first | exact Mine.CellOff.c1 (by with_reducible assumption) | exact Mine.CellOff.c2 (by with_reducible assumption) | exact Mine.CellOff.c3 (by with_reducible assumption) | exact Mine.CellOff.c4 (by with_reducible assumption) | exact Mine.CellOff.c5 (by with_reducible assumption) | exact Mine.CellOff.c6 (by with_reducible assumption) | exact Mine.CellOff.c7 (by with_reducible assumption) | exact Mine.CellOff.c8 (by with_reducible assumption) | exact Mine.CellOff.t1 (by with_reducible assumption) | exact Mine.CellOff.t2 (by with_reducible assumption) | exact Mine.CellOff.t3 (by with_reducible assumption)))
  (k_with "w my sub" => (with_reducible first
  | exact sub_id
  | (refine sub_keep ?_; k_extra "w my sub")
  | (refine sub_skip ?_; k_extra "w my sub")
  | exact sub_nil))
  (k_with "w ElEnd" => (refine stop_here ?_))
  (k_with "w subscriptTail" => (k_here; (with_reducible show wpAny _ _ (subscriptTail _ _ (Value.ref _) (Value.int (0 + ((_ : Nat) : Int)) _)) _ _ _); (first | (refine' Mine.item_intv (by k_asm) (by k_mem) (by assumption) (by decide) ?_ (by with_unfolding_all rfl)) | (refine' Mine.item_textv (by k_asm) (by k_mem) (by assumption) (by decide) ?_ (by with_unfolding_all rfl)))))
  (k_with "w subscriptTail Name Name ref int" => (k_here; (with_reducible show wpAny _ _ (subscriptTail _ _ (Value.ref _) (Value.int (0 + ((_ : Nat) : Int)) _)) _ _ _); (first | (refine' Mine.item_intv (by k_asm) (by k_mem) (by assumption) (by decide) ?_ (by with_unfolding_all rfl)) | (refine' Mine.item_textv (by k_asm) (by k_mem) (by assumption) (by decide) ?_ (by with_unfolding_all rfl)))))
  (k_with "w execs cons" => (refine stop_here ?_))
  (k_with "w eval ListComp" => (refine stop_here ?_))
  (k_with "w CompSrc" => (refine stop_here ?_))
  (k_with "w call ref" => ((with_reducible show wpAny _ _ (call (Value.ref 141) _ _) _ _ _); refine stop_here ?_))
  rfl
section
variable {w : World} {A : Around} {base : Heap} {outer : List Env} {p : Program} {loose : List Str} {mean : ExcName → Option Value} {mg mb : Str → Option Value} {g : Heap} {L fa : Addr} {cd : Value} {Q : Flow → Shared → Prop} {s : Shared} {o1 o2 o3 o4 o5 o6 o7 o8 : Obj} {sc : Addr}
set_option maxHeartbeats 8000000 in
theorem st3 (C : LawC w A base outer p loose mean mg mb g L Q s) {Tt M Z : Addr} {x mi : Nat → Int} {z : Nat → Str} {u um uz : Nat → Tok} {n nM nZ : Nat} (hx : ∀ j, (x j).natAbs ≤ 10 ^ 8) (hz : ∀ j, j < 7 → (z j).length ≤ 10) (oT : CellOff L Tt) (oM : CellOff L M) (oZ : CellOff L Z) (c1 : CellV o1 (.ref Tt)) (c2 : CellV o2 (.ref M)) (c3 : CellV o3 (.ref Z))
    (next : ∀ (tt : Tok), 
      Go w A g L fa cd Q s 4 (fun y => if y = Str.ofString "text" then some (.str (Txt.join (Str.ofString "") ((List.range 7).map fun j => written (z j) (((x j).fdiv 28).fmod 3))) tt) else if y = Str.ofString "script" then some (.ref sc) else none)
        ((Z, listOf (textv z uz 7).toArray nZ) :: (M, listOf (intv mi um 7).toArray nM) :: lawCells L o1 o2 o3 o4 o5 o6 o7 o8 (lawTabs #[] #[] #[]))) :
    Go w A g L fa cd Q s 3 (fun y => if y = Str.ofString "script" then some (.ref sc) else none) ((Z, listOf (textv z uz 7).toArray nZ) :: (M, listOf (intv mi um 7).toArray nM) :: (Tt, listOf (intv x u 7).toArray n) :: lawCells L o1 o2 o3 o4 o5 o6 o7 o8 (lawTabs #[] #[] #[])) := by
  (try unfold CellN at *)
  (try unfold CellV at *)
  refine ⟨fun h tk F N => ?_⟩
  have big := C.big
  have hdone := C.done
  have hSu := C.S
  revert next
  apply Setup.open hSu
  clear hSu C
  intro dpt grs uni hX hTp hBl hdp hun
  intro next
  dsimp only [lawD, dOf, LE, List.drop]
  (try dsimp only [lawCells, lawTabs] at N)
  refine wpAny_execs_cons ?_
  k_steps
  unfold Stop
  refine LCg.ListComp_U (F₀ := F) (by with_unfolding_all rfl) (by decide) (by rfl) (by decide) (by rfl) ?_
  k_steps
  unfold Stop
  (rename Fr _ _ _ _ => F); (rename News _ _ _ _ => N); (rename IsRange _ _ _ _ _ _ _ _ => hR)
  refine LCg.CompSrc.range (n := 7) rfl F N hR (by decide) (by decide) (by decide) ?_
  intro g2
  refine rest_same (fun j v => ∃ t, v = .str (written (z j) (((x j).fdiv 28).fmod 3)) t) trivial ?step ?fin
  case step =>
    clear F N
    rintro i ys v I oI C oC D m₂ h tk E' hi hyl hys ⟨tv, rfl⟩ hn hv F N o1 o2
    k_steps
    unfold Stop
    refine use0 (written_spec (Setup.down0 (n := 5) (A := ⟨none, _, some outer, _, _⟩) ⟨hX, hTp, hBl, rfl, by dsimp only; k_extra "w my om", by dsimp only; k_extra "w my om"⟩ F N rfl rfl) (fun b o e => of_hideAll _ e) _ _ _ _ (Nat.le_trans (hz i hi) (by decide))) F N (by first | exact each_nil | (refine each_cons ?_ each_nil; repeat (first | exact .head _ | refine .tail _ ?_)) | (refine each_cons ?_ (each_cons ?_ each_nil) <;> repeat (first | exact .head _ | refine .tail _ ?_)) | simp) ?_
    clear F N
    rintro _ h1 tk1 F1 N1 t1 ⟨t, rfl⟩
    dsimp only at F1 N1 ⊢
    k_steps
    unfold Stop
    refine ElEnd.intro F1 N1 sub_id ⟨t, rfl⟩
  case fin =>
    intro ys hyl hys
    obtain ⟨uw, rfl⟩ := textv_of hyl fun j hj => (by obtain ⟨v, e, t, rfl⟩ := hys j hj; exact ⟨t, e⟩)
    unfold LCg.FinE
    intro D h' tk' F N o1
    dsimp only [LCg.lst] at N
    rw [textv_len] at N
    dsimp only [LCg.Off1] at o1
    k_steps
    have hD : Heap.IsList h' D (strValues ((List.range 7).map fun j => (written (z j) (((x j).fdiv 28).fmod 3), uw j))).toArray := by
      rw [← textv_vals]; exact N.isList (.head _)
    refine PySem.SC.join hD (texts := (List.range 7).map fun j => written (z j) (((x j).fdiv 28).fmod 3)) (by rw [List.map_map]; rfl) (joinOk_of_weight ?wt (by decide)) fun t' k => ?_
    case wt =>
      rw [List.map_map]
      have := sum_le (fun j => (written (z j) (((x j).fdiv 28).fmod 3)).length) 30 (List.range 7) fun a ha => written_len (hz a (List.mem_range.mp ha))
      rw [List.length_range] at this
      rw [List.length_map, List.length_range]
      exact Nat.le_trans (Nat.add_le_add_right this 7) (by decide)
    k_steps
    unfold Stop
    (rename Fr _ _ _ _ => F); (rename News _ _ _ _ => N)
    refine' (next ?tt).cut F N ?hs
    case hs => k_extra "w my sub"
end
end
section
theorem resetL4 : (0 : Nat) = 0 := by
  w_top off
  k_with_none
  (k_with "w my pick" => (with_reducible first | assumption | exact lo1 | exact lo2 | exact lo3 | exact lo4 | exact ls1 (by assumption) | exact ls2 (by assumption) | exact ls3 (by assumption) | exact pk0 (by assumption) | exact pk1 (by assumption) | exact pk2 (by assumption) | exact pk3 (by assumption) | exact pk4 (by assumption) | exact pk5 (by assumption) | exact pk6 (by assumption) | exact pk7 (by assumption) | exact pk8 (by assumption) | exact pk9 (by assumption) | exact pk10 (by assumption) | exact pk11 (by assumption) | exact pk12 (by assumption) | exact pk13 (by assumption) | exact pk14 (by assumption) | exact pk15 (by assumption) | exact pk16 (by assumption) | exact pk17 (by assumption) | exact qk1 (by assumption) | exact qk2 (by assumption) | exact qk3 (by assumption) | exact qk4 (by assumption) | exact qk5 (by assumption) | exact qk6 (by assumption) | exact qk7 (by assumption) | exact qk8 (by assumption) | exact qk9 (by assumption) | exact qk10 (by assumption) | exact qk11 (by assumption) | exact qk12 (by assumption) | exact qk13 (by assumption) | exact qk14 (by assumption) | exact qk15 (by assumption) | exact qk16 (by assumption) | exact qk17 (by assumption)))
  (k_with "w my sml" => (with_reducible first | (refine Nat.ne_of_lt ?_; k_extra "w my pick") | (refine Nat.ne_of_gt ?_; k_extra "w my pick") | (refine Ne.symm ?_; k_extra "w my pick") | (refine id ?_; k_extra "w my pick") | (refine Nat.le_of_lt ?_; k_extra "w my pick") | exact lrefl | exact lzero | exact one_le | exact room0 (by assumption) | exact room (by assumption) (by decide) | exact room1 (by assumption) (by decide) | exact room2 (by assumption) (by decide) | exact room3 (by assumption) (by decide) | exact le_le (by assumption) (by decide) | exact le_sc (by assumption) | (refine above1' ?_ (by assumption); k_extra "w my pick") | (refine above2' ?_ (by assumption); k_extra "w my pick")))
  (k_with "w my om" => (first | k_extra "w my sml" | lia | omega))
  rfl
theorem rgL4x1 : (0 : Nat) = 0 := by
  (k_with "w my k_room" => ((try simp only [depth_under_make, depth_under_kw, depth_in1, depth_deeper]); (show _ < 1000); (try dsimp only); omega))
  (k_with "w my units_room" => ((try simp only [units_in1, units_deeper, Around.mark_units]); (show _ < 9900); (try dsimp only); omega))
  (k_with "w my small" => (first
  | (refine Sm.int ?_; (try simp only [Int.fmod_eq_emod_of_nonneg, Int.fdiv_eq_ediv_of_nonneg, Int.reduceLE]); omega)
  | (apply Sm.slice; k_extra "w my small")
  | (apply Sm.add <;> k_extra "w my small")
  | (apply Sm.ite <;> k_extra "w my small")
  | assumption
  | exact Sm.refl _))
  (k_with "w subscriptTail Name Slice str ref" => ((with_reducible show wpAny _ _ (subscriptTail _ (Expr.Slice (some _) none none _) (Value.str _ _) (Value.ref _)) _ _ _); dsimp only; (with_reducible rename Fr _ _ _ _ => F'); (with_reducible rename News _ _ _ _ => N'); (refine' slice_strN_sn (hsz := by (apply Sm.size <;> first | k_extra "w my small" | decide)) (s := ⟨_, _, _, _, _⟩) F' N' ?_); intro _ _ _ _ _))
  (k_with "w binaryOp Add str str" => ((with_reducible show wpAny _ _ (binaryOp Operator.Add (Value.str _ _) (Value.str _ _)) _ _ _); (refine' PyProof.Rows.add_str ?_ (by (apply Sm.size2 <;> first | k_extra "w my small" | decide))); intro _ _))
  (k_with "w ite" => ((with_reducible refine ite_strs ?_); intro _))
  (k_with "w my k_ne" => (first | exact Mine.CellOff.c1 (by with_reducible assumption) | exact Mine.CellOff.c2 (by with_reducible assumption) | exact Mine.CellOff.c3 (by with_reducible assumption) | exact Mine.CellOff.c4 (by with_reducible assumption) | exact Mine.CellOff.c5 (by with_reducible assumption) | exact Mine.CellOff.c6 (by with_reducible assumption) | exact Mine.CellOff.c7 (by with_reducible assumption) | exact Mine.CellOff.c8 (by with_reducible assumption) | exact Mine.CellOff.t1 (by with_reducible assumption) | exact Mine.CellOff.t2 (by with_reducible assumption) | exact Mine.CellOff.t3 (by with_reducible assumption)))
  (k_with "w my sub" => (with_reducible first
  | exact sub_id
  | (refine sub_keep ?_; k_extra "w my sub")
  | (refine sub_skip ?_; k_extra "w my sub")
  | exact sub_nil))
  (k_with "w ElEnd" => (refine stop_here ?_))
  (k_with "w subscriptTail" => (k_here; (with_reducible show wpAny _ _ (subscriptTail _ _ (Value.ref _) (Value.int (0 + ((_ : Nat) : Int)) _)) _ _ _); (first | (refine' Mine.item_intv (by k_asm) (by k_mem) (by assumption) (by decide) ?_ (by with_unfolding_all rfl)) | (refine' Mine.item_textv (by k_asm) (by k_mem) (by assumption) (by decide) ?_ (by with_unfolding_all rfl)))))
  (k_with "w subscriptTail Name Name ref int" => (k_here; (with_reducible show wpAny _ _ (subscriptTail _ _ (Value.ref _) (Value.int (0 + ((_ : Nat) : Int)) _)) _ _ _); (first | (refine' Mine.item_intv (by k_asm) (by k_mem) (by assumption) (by decide) ?_ (by with_unfolding_all rfl)) | (refine' Mine.item_textv (by k_asm) (by k_mem) (by assumption) (by decide) ?_ (by with_unfolding_all rfl)))))
  (k_with "w execs cons" => (refine stop_here ?_))
  (k_with "w call ref" => ((with_reducible show wpAny _ _ (call (Value.ref 148) _ _) _ _ _); refine stop_here ?_))
  rfl
section
variable {w : World} {A : Around} {base : Heap} {outer : List Env} {p : Program} {loose : List Str} {mean : ExcName → Option Value} {mg mb : Str → Option Value} {g : Heap} {L fa : Addr} {cd : Value} {Q : Flow → Shared → Prop} {s : Shared} {o1 o2 o3 o4 o5 o6 o7 o8 : Obj} {sc : Addr}
set_option maxHeartbeats 8000000 in
theorem st4 (C : LawC w A base outer p loose mean mg mb g L Q s) {M Z : Addr} {mi : Nat → Int} {z : Nat → Str} {um uz : Nat → Tok} {nM nZ : Nat} {tx : Str} {tt : Tok} (hx : tx.length ≤ 3000) (oM : CellOff L M) (oZ : CellOff L Z) (c4 : CellN o4)
    (next : ∀ (lx : LexA) (vs : List Value) (nl : Nat) (tn : Tok) (o4 : Obj), LexOk lx → Signs vs tx.cps.toList.reverse → LexFar L lx → CellV o4 (.ref lx.x) → 
      OffL lx ((Z, listOf (textv z uz 7).toArray nZ) :: (M, listOf (intv mi um 7).toArray nM) :: lawCells L o1 o2 o3 o4 o5 o6 o7 o8 (lawTabs #[] #[] (lexPs lx.c))) →
      Go w A g L fa cd Q s 5 (fun y => if y = Str.ofString "text" then some (.str tx tt) else if y = Str.ofString "script" then some (.ref sc) else none)
        (lexLed w.params lx 1 tn vs nl [] 0 ++ (Z, listOf (textv z uz 7).toArray nZ) :: (M, listOf (intv mi um 7).toArray nM) :: lawCells L o1 o2 o3 o4 o5 o6 o7 o8 (lawTabs #[] #[] (lexPs lx.c)))) :
    Go w A g L fa cd Q s 4 (fun y => if y = Str.ofString "text" then some (.str tx tt) else if y = Str.ofString "script" then some (.ref sc) else none)
        ((Z, listOf (textv z uz 7).toArray nZ) :: (M, listOf (intv mi um 7).toArray nM) :: lawCells L o1 o2 o3 o4 o5 o6 o7 o8 (lawTabs #[] #[] #[])) := by
  (try unfold CellN at *)
  (try unfold CellV at *)
  refine ⟨fun h tk F N => ?_⟩
  have big := C.big
  have hdone := C.done
  have hSu := C.S
  revert next
  apply Setup.open hSu
  clear hSu C
  intro dpt grs uni hX hTp hBl hdp hun
  intro next
  dsimp only [lawD, dOf, LE, List.drop]
  (try dsimp only [lawCells, lawTabs] at N)
  refine wpAny_execs_cons ?_
  k_steps
  unfold Stop
  have N0 := N
  have hz : @LT.lt Nat _ (L + 1 + 1 + 1 + 1 + 1 + 1 + 1 + 1) h.objs.size := Heap.lt_size (N _ (.tail _ (.tail _ (.head _)))).1
  refine use (lexer_first (Setup.down0 (n := 20) (A := ⟨none, _, some outer, _, _⟩) ⟨hX, hTp, hBl, rfl, by dsimp only; k_extra "w my om", by dsimp only; k_extra "w my om"⟩ F N rfl rfl) (fun b o e => of_hideAll _ e) (N.get (by k_mem)) (hideAll_none _ (List.mem_map_of_mem (a := (143, tabObj #[])) (by k_mem))) _ _ hx) F N (by first | exact each_nil | (refine each_cons ?_ each_nil; repeat (first | exact .head _ | refine .tail _ ?_)) | (refine each_cons ?_ (each_cons ?_ each_nil) <;> repeat (first | exact .head _ | refine .tail _ ?_)) | simp) ?_
  rintro _ h1 tk1 F1 N1 t1 ⟨lx, ⟨vs, nl, tn, rfl, okl, hsg, hlx, hfr⟩, hc, he⟩
  dsimp only at hfr hc F1 hlx t1
  replace hfr : ∀ q ∈ lexLed w.params lx 1 tn vs nl [] 0, h.objs.size ≤ q.1 := fun q hq => (hfr q hq).elim (fun e => e ▸ hc) id
  have far := LexFar.of big hz hfr
  have off : OffL lx _ := lex_off (oth := _) N rfl (fun q hq => .inr (hfr q hq)) okl fun _ h => h
  have N2 := lex_news F1 (News.upd N (by k_upd) t1 he) F.ns.lt hlx hfr
  clear N N1 F N0
  have ⟨f1, f2, f3, f4, f5, f6, f7, f8, f9⟩ := far
  dsimp only [lexLed, List.cons_append, List.nil_append] at N2
  dsimp only at N2 ⊢
  k_steps
  unfold Stop
  (rename Fr _ _ _ _ => F); (rename News _ _ _ _ => N)
  refine' (next lx vs nl tn ?o okl hsg far ?e ?off).cut F N ?hs
  case hs =>
    dsimp only [lexLed, List.cons_append, List.nil_append]
    k_extra "w my sub"
  case e => assumption
  case off => exact off.addr rfl
end
end
section
theorem resetL5 : (0 : Nat) = 0 := by
  w_top off
  k_with_none
  (k_with "w my pick" => (with_reducible first | assumption | exact lo1 | exact lo2 | exact lo3 | exact lo4 | exact ls1 (by assumption) | exact ls2 (by assumption) | exact ls3 (by assumption) | exact pk0 (by assumption) | exact pk1 (by assumption) | exact pk2 (by assumption) | exact pk3 (by assumption) | exact pk4 (by assumption) | exact pk5 (by assumption) | exact pk6 (by assumption) | exact pk7 (by assumption) | exact pk8 (by assumption) | exact pk9 (by assumption) | exact pk10 (by assumption) | exact pk11 (by assumption) | exact pk12 (by assumption) | exact pk13 (by assumption) | exact pk14 (by assumption) | exact pk15 (by assumption) | exact pk16 (by assumption) | exact pk17 (by assumption) | exact qk1 (by assumption) | exact qk2 (by assumption) | exact qk3 (by assumption) | exact qk4 (by assumption) | exact qk5 (by assumption) | exact qk6 (by assumption) | exact qk7 (by assumption) | exact qk8 (by assumption) | exact qk9 (by assumption) | exact qk10 (by assumption) | exact qk11 (by assumption) | exact qk12 (by assumption) | exact qk13 (by assumption) | exact qk14 (by assumption) | exact qk15 (by assumption) | exact qk16 (by assumption) | exact qk17 (by assumption)))
  (k_with "w my sml" => (with_reducible first | (refine Nat.ne_of_lt ?_; k_extra "w my pick") | (refine Nat.ne_of_gt ?_; k_extra "w my pick") | (refine Ne.symm ?_; k_extra "w my pick") | (refine id ?_; k_extra "w my pick") | (refine Nat.le_of_lt ?_; k_extra "w my pick") | exact lrefl | exact lzero | exact one_le | exact room0 (by assumption) | exact room (by assumption) (by decide) | exact room1 (by assumption) (by decide) | exact room2 (by assumption) (by decide) | exact room3 (by assumption) (by decide) | exact le_le (by assumption) (by decide) | exact le_sc (by assumption) | (refine above1' ?_ (by assumption); k_extra "w my pick") | (refine above2' ?_ (by assumption); k_extra "w my pick")))
  (k_with "w my om" => (first | k_extra "w my sml" | lia | omega))
  rfl
theorem rgL5x1 : (0 : Nat) = 0 := by
  (k_with "w my k_room" => ((try simp only [depth_under_make, depth_under_kw, depth_in1, depth_deeper]); (show _ < 1000); (try dsimp only); omega))
  (k_with "w my units_room" => ((try simp only [units_in1, units_deeper, Around.mark_units]); (show _ < 9900); (try dsimp only); omega))
  (k_with "w my small" => (first
  | (refine Sm.int ?_; (try simp only [Int.fmod_eq_emod_of_nonneg, Int.fdiv_eq_ediv_of_nonneg, Int.reduceLE]); omega)
  | (apply Sm.slice; k_extra "w my small")
  | (apply Sm.add <;> k_extra "w my small")
  | (apply Sm.ite <;> k_extra "w my small")
  | assumption
  | exact Sm.refl _))
  (k_with "w subscriptTail Name Slice str ref" => ((with_reducible show wpAny _ _ (subscriptTail _ (Expr.Slice (some _) none none _) (Value.str _ _) (Value.ref _)) _ _ _); dsimp only; (with_reducible rename Fr _ _ _ _ => F'); (with_reducible rename News _ _ _ _ => N'); (refine' slice_strN_sn (hsz := by (apply Sm.size <;> first | k_extra "w my small" | decide)) (s := ⟨_, _, _, _, _⟩) F' N' ?_); intro _ _ _ _ _))
  (k_with "w binaryOp Add str str" => ((with_reducible show wpAny _ _ (binaryOp Operator.Add (Value.str _ _) (Value.str _ _)) _ _ _); (refine' PyProof.Rows.add_str ?_ (by (apply Sm.size2 <;> first | k_extra "w my small" | decide))); intro _ _))
  (k_with "w ite" => ((with_reducible refine ite_strs ?_); intro _))
  (k_with "w my k_ne" => (first | exact Mine.CellOff.c1 (by with_reducible assumption) | exact Mine.CellOff.c2 (by with_reducible assumption) | exact Mine.CellOff.c3 (by with_reducible assumption) | exact Mine.CellOff.c4 (by with_reducible assumption) | exact Mine.CellOff.c5 (by with_reducible assumption) | exact Mine.CellOff.c6 (by with_reducible assumption) | exact Mine.CellOff.c7 (by with_reducible assumption) | exact Mine.CellOff.c8 (by with_reducible assumption) | exact Mine.CellOff.t1 (by with_reducible assumption) | exact Mine.CellOff.t2 (by with_reducible assumption) | exact Mine.CellOff.t3 (by with_reducible assumption)))
  (k_with "w my sub" => (with_reducible first
  | exact sub_id
  | (refine sub_keep ?_; k_extra "w my sub")
  | (refine sub_skip ?_; k_extra "w my sub")
  | exact sub_nil))
  (k_with "w ElEnd" => (refine stop_here ?_))
  (k_with "w subscriptTail" => (k_here; (with_reducible show wpAny _ _ (subscriptTail _ _ (Value.ref _) (Value.int (0 + ((_ : Nat) : Int)) _)) _ _ _); (first | (refine' Mine.item_intv (by k_asm) (by k_mem) (by assumption) (by decide) ?_ (by with_unfolding_all rfl)) | (refine' Mine.item_textv (by k_asm) (by k_mem) (by assumption) (by decide) ?_ (by with_unfolding_all rfl)))))
  (k_with "w subscriptTail Name Name ref int" => (k_here; (with_reducible show wpAny _ _ (subscriptTail _ _ (Value.ref _) (Value.int (0 + ((_ : Nat) : Int)) _)) _ _ _); (first | (refine' Mine.item_intv (by k_asm) (by k_mem) (by assumption) (by decide) ?_ (by with_unfolding_all rfl)) | (refine' Mine.item_textv (by k_asm) (by k_mem) (by assumption) (by decide) ?_ (by with_unfolding_all rfl)))))
  (k_with "w execs cons" => (refine stop_here ?_))
  (k_with "w eval ListComp" => (refine stop_here ?_))
  (k_with "w exec Assign cons ListComp" => (refine stop_here ?_))
  (k_with "w CompSrc" => (refine stop_here ?_))
  (k_with "w CompEnd" => (refine stop_here ?_))
  (k_with "w call ref" => ((with_reducible show wpAny _ _ (call (Value.ref 108) _ _) _ _ _); refine stop_here ?_))
  (k_with "w call ref" => ((with_reducible show wpAny _ _ (call (Value.ref 44) _ _) _ _ _); refine stop_here ?_))
  rfl
section
variable {w : World} {A : Around} {base : Heap} {outer : List Env} {p : Program} {loose : List Str} {mean : ExcName → Option Value} {mg mb : Str → Option Value} {g : Heap} {L fa : Addr} {cd : Value} {Q : Flow → Shared → Prop} {s : Shared} {o1 o2 o3 o4 o5 o6 o7 o8 : Obj} {sc : Addr}
set_option maxHeartbeats 8000000 in
theorem st5 (C : LawC w A base outer p loose mean mg mb g L Q s) {M Z : Addr} {mi : Nat → Int} {z : Nat → Str} {um uz : Nat → Tok} {nM nZ : Nat} {tx : Str} {tt : Tok} {lx : LexA} {vs : List Value} {nl : Nat} {tn : Tok} (okl : LexOk lx) (far : LexFar L lx) (oM : CellOff L M) (oZ : CellOff L Z) (c4 : CellV o4 (.ref lx.x)) 
    (c : Nat → List Nat) (hc : ∀ i, i < 7 → Tok1 (c i) (z i).cps.toList (c (i + 1))) (hlen : ∀ i, i ≤ 7 → (c i).length ≤ 3000) (hoff : ∀ i, i < 7 → OffOf (z i) (some (60 * mi i))) (hzl : ∀ i, i < 7 → (z i).length ≤ 10) (K : Int) (hK : K - nls (c 0) = 1) (hs : Signs vs (c 0).reverse)
    (off : OffL lx (lawR Z M L z mi uz um nZ nM o1 o2 o3 o4 o5 o6 o7 o8 lx.c)) (hmi : ∀ j, j < 7 → -90 ≤ mi j ∧ mi j ≤ 90)
    (next : ∀ (D : Addr) (ud : Nat → Tok) (vs' : List Value) (n' : Nat) (tn' : Tok), Signs vs' (c 7).reverse → CellOff L D → (D ≠ lx.l ∧ D ≠ lx.d ∧ D ≠ lx.D) →
      Go w A g L fa cd Q s 6 (fun y => if y = Str.ofString "told" then some (.ref D) else if y = Str.ofString "text" then some (.str tx tt) else if y = Str.ofString "script" then some (.ref sc) else none)
        ((D, listOf (intv (fun j => 60 * mi j) ud 7).toArray 7) :: (lexLed w.params lx (K - nls (c 7)) tn' vs' n' [] 0 ++ lawR Z M L z mi uz um nZ nM o1 o2 o3 o4 o5 o6 o7 o8 lx.c))) :
    Go w A g L fa cd Q s 5 (fun y => if y = Str.ofString "text" then some (.str tx tt) else if y = Str.ofString "script" then some (.ref sc) else none)
        (lexLed w.params lx 1 tn vs nl [] 0 ++ lawR Z M L z mi uz um nZ nM o1 o2 o3 o4 o5 o6 o7 o8 lx.c) := by
  (try unfold CellN at *)
  (try unfold CellV at *)
  refine ⟨fun h tk F N => ?_⟩
  have big := C.big
  have hdone := C.done
  have hSu := C.S
  revert next
  apply Setup.open hSu
  clear hSu C
  intro dpt grs uni hX hTp hBl hdp hun
  intro next
  dsimp only [lawD, dOf, LE, List.drop]
  have N0 := N
  dsimp only [lexLed, List.cons_append, List.nil_append] at N
  refine wpAny_execs_cons ?_
  k_steps
  unfold Stop
  refine LCg.Assign_ListComp_U (F₀ := F) (by rfl) (by with_unfolding_all rfl) (by with_unfolding_all rfl) (by decide) (by rfl) (by decide) (by rfl) (by rfl) (by rfl) ?_
  k_steps
  unfold Stop
  (rename Fr _ _ _ _ => F); (rename News _ _ _ _ => N); (rename IsRange _ _ _ _ _ _ _ _ => hR)
  refine LCg.CompSrc.range (n := 7) (news := lexLed w.params lx 1 tn vs nl [] 0 ++ lawR Z M L z mi uz um nZ nM o1 o2 o3 o4 o5 o6 o7 o8 lx.c) rfl F N hR (by decide) (by decide) (by decide) ?_
  clear F N
  intro g2
  refine rest_ind (n := 7) (fun i ys nw => (∃ vs n tn, nw = lexLed w.params lx (K - nls (c i)) tn vs n [] 0 ++ lawR Z M L z mi uz um nZ nM o1 o2 o3 o4 o5 o6 o7 o8 lx.c ∧ Signs vs (c i).reverse) ∧ ∀ j, j < i → ∃ t, ys[j]? = some (.int (60 * mi j) t)) ?step ?fin 7 0 [] _ rfl rfl ⟨⟨vs, nl, tn, by rw [hK], hs⟩, fun j h => absurd h (Nat.not_lt_zero _)⟩
  case step =>
    rintro i ys nw hi hyl ⟨⟨vs, n, tn, rfl, hs⟩, hys⟩ v I oI B oB D m₂ h tk E' ⟨tv, rfl⟩ hn hv F N r1 r2
    have ol := LCg.Off3.mem r1 (lx.l, _) (.head _)
    have od := LCg.Off3.mem r1 (lx.d, _) (.tail _ (.tail _ (.head _)))
    have oD := LCg.Off3.mem r1 (lx.D, _) (.tail _ (.tail _ (.tail _ (.tail _ (.tail _ (.tail _ (.tail _ (.head _))))))))
    have offL : OffL lx ((I, oI) :: (B, oB) :: (D, LCg.lst ys) :: lawR Z M L z mi uz um nZ nM o1 o2 o3 o4 o5 o6 o7 o8 lx.c) := fun q hq => by
      rcases List.mem_cons.mp hq with rfl | hq
      · exact ⟨ol.1.symm, od.1.symm, oD.1.symm⟩
      rcases List.mem_cons.mp hq with rfl | hq
      · exact ⟨ol.2.1.symm, od.2.1.symm, oD.2.1.symm⟩
      rcases List.mem_cons.mp hq with rfl | hq
      · exact ⟨ol.2.2.symm, od.2.2.symm, oD.2.2.symm⟩
      exact off q hq
    have N1 : News g L h (lexLed w.params lx (K - nls (c i)) tn vs n [] 0 ++ ((I, oI) :: (B, oB) :: (D, LCg.lst ys) :: lawR Z M L z mi uz um nZ nM o1 o2 o3 o4 o5 o6 o7 o8 lx.c)) := fun q hq => N q (by
      rcases List.mem_append.mp hq with hq | hq
      · exact .tail _ (.tail _ (.tail _ (List.mem_append_left _ hq)))
      rcases List.mem_cons.mp hq with rfl | hq
      · exact .head _
      rcases List.mem_cons.mp hq with rfl | hq
      · exact .tail _ (.head _)
      rcases List.mem_cons.mp hq with rfl | hq
      · exact .tail _ (.tail _ (.head _))
      exact .tail _ (.tail _ (.tail _ (List.mem_append_right _ hq))))
    dsimp only [lexLed, List.cons_append, List.nil_append] at N
    k_steps
    unfold Stop
    dsimp only [List.append_nil]
    refine use (token_spec (Setup.down0 (n := 21) (A := ⟨none, _, some outer, _, _⟩) ⟨hX, hTp, hBl, rfl, by dsimp only; k_extra "w my om", by dsimp only; k_extra "w my om"⟩ F N1 rfl rfl) (fun b o e => of_hideAll _ e) lx K tn vs n 0 (c i) _ (c (i + 1)) hs (hc i hi) okl (hlen i (Nat.le_of_lt hi))
      (fun q hq => ⟨N1.get (List.mem_append_left _ hq), hideAll_none _ (List.mem_map_of_mem (List.mem_append_left _ hq))⟩)) F N1 (by first | exact each_nil | (refine each_cons ?_ each_nil; repeat (first | exact .head _ | refine .tail _ ?_)) | (refine each_cons ?_ (each_cons ?_ each_nil) <;> repeat (first | exact .head _ | refine .tail _ ?_)) | simp) ?_
    clear F N
    rintro _ h1 tk1 F _ t1 ⟨u, tn', vs', n', rfl, hs', H⟩
    have N2 := lex_step N1 t1 (fun x hx => by
      rcases List.mem_cons.mp hx with rfl | hx
      · exact .inr (.inl rfl)
      · exact .inr (.inr (List.mem_singleton.mp hx))) H offL
    clear N1
    have N3 := N2
    rw [str_toks]
    dsimp only [lexLed, List.cons_append, List.nil_append] at N3
    dsimp only at F N2 N3 ⊢
    k_steps
    unfold Stop
    refine use0 (off_spec (Setup.down0 (n := 10) (A := ⟨none, _, some outer, _, _⟩) ⟨hX, hTp, hBl, rfl, by dsimp only; k_extra "w my om", by dsimp only; k_extra "w my om"⟩ F N2 rfl rfl) (fun b o e => of_hideAll _ e) (z i) _ _ (hoff i hi) (Nat.le_trans (hzl i hi) (by decide))) F N2 (by first | exact each_nil | (refine each_cons ?_ each_nil; repeat (first | exact .head _ | refine .tail _ ?_)) | (refine each_cons ?_ (each_cons ?_ each_nil) <;> repeat (first | exact .head _ | refine .tail _ ?_)) | simp) ?_
    clear F N2 N3
    rintro _ h2 tk2 F N t2 ⟨t, rfl⟩
    dsimp only at F N ⊢
    k_steps
    unfold Stop
    refine LCg.CompEnd.intro F N (lexLed w.params lx (K - nls (c (i + 1))) tn' vs' n' [] 0 ++ lawR Z M L z mi uz um nZ nM o1 o2 o3 o4 o5 o6 o7 o8 lx.c) (fun q hq => ?_) (off3_addr r1 rfl) trivial ⟨⟨vs', n', tn', rfl, hs'⟩, fun j hj => ?_⟩
    · rcases List.mem_cons.mp hq with rfl | hq
      · exact List.mem_append_right _ (.head _)
      rcases List.mem_cons.mp hq with rfl | hq
      · exact List.mem_append_right _ (.tail _ (.head _))
      rcases List.mem_cons.mp hq with rfl | hq
      · exact List.mem_append_right _ (.tail _ (.tail _ (.head _)))
      rcases List.mem_append.mp hq with hq | hq
      · exact List.mem_append_left _ hq
      · exact List.mem_append_right _ (.tail _ (.tail _ (.tail _ hq)))
    · by_cases e : j < i
      · obtain ⟨t', e1⟩ := hys j e
        exact ⟨t', by rw [List.getElem?_append_left (by k_extra "w my om")]; exact e1⟩
      · have : j = ys.length := by k_extra "w my om"
        refine ⟨t, ?_⟩
        rw [this]; simp [hyl]
  case fin =>
    rintro ys nw hyl ⟨⟨vs, n, tn, rfl, hs⟩, hys⟩
    obtain ⟨ud, rfl⟩ := intv_of hyl hys
    unfold LCg.FinA
    intro D h' tk' F N r1
    dsimp only [LCg.lst] at N
    rw [intv_len] at N
    have hD := off1_mem r1
    have oC := CellOff.of (L := L) (a := D) fun q hq => hD q (List.mem_append_right _ (.tail _ (.tail _ hq)))
    k_steps
    unfold Stop
    exact (next D ud vs n tn hs oC ⟨(hD _ (List.mem_append_left _ (.head _))).symm, (hD _ (List.mem_append_left _ (.tail _ (.tail _ (.head _))))).symm, (hD _ (List.mem_append_left _ (.tail _ (.tail _ (.tail _ (.tail _ (.tail _ (.tail _ (.tail _ (.head _)))))))))).symm⟩).run _ _ F N
end
end
section
theorem resetL6 : (0 : Nat) = 0 := by
  w_top off
  k_with_none
  (k_with "w my pick" => (with_reducible first | assumption | exact lo1 | exact lo2 | exact lo3 | exact lo4 | exact ls1 (by assumption) | exact ls2 (by assumption) | exact ls3 (by assumption) | exact pk0 (by assumption) | exact pk1 (by assumption) | exact pk2 (by assumption) | exact pk3 (by assumption) | exact pk4 (by assumption) | exact pk5 (by assumption) | exact pk6 (by assumption) | exact pk7 (by assumption) | exact pk8 (by assumption) | exact pk9 (by assumption) | exact pk10 (by assumption) | exact pk11 (by assumption) | exact pk12 (by assumption) | exact pk13 (by assumption) | exact pk14 (by assumption) | exact pk15 (by assumption) | exact pk16 (by assumption) | exact pk17 (by assumption) | exact qk1 (by assumption) | exact qk2 (by assumption) | exact qk3 (by assumption) | exact qk4 (by assumption) | exact qk5 (by assumption) | exact qk6 (by assumption) | exact qk7 (by assumption) | exact qk8 (by assumption) | exact qk9 (by assumption) | exact qk10 (by assumption) | exact qk11 (by assumption) | exact qk12 (by assumption) | exact qk13 (by assumption) | exact qk14 (by assumption) | exact qk15 (by assumption) | exact qk16 (by assumption) | exact qk17 (by assumption)))
  (k_with "w my sml" => (with_reducible first | (refine Nat.ne_of_lt ?_; k_extra "w my pick") | (refine Nat.ne_of_gt ?_; k_extra "w my pick") | (refine Ne.symm ?_; k_extra "w my pick") | (refine id ?_; k_extra "w my pick") | (refine Nat.le_of_lt ?_; k_extra "w my pick") | exact lrefl | exact lzero | exact one_le | exact room0 (by assumption) | exact room (by assumption) (by decide) | exact room1 (by assumption) (by decide) | exact room2 (by assumption) (by decide) | exact room3 (by assumption) (by decide) | exact le_le (by assumption) (by decide) | exact le_sc (by assumption) | (refine above1' ?_ (by assumption); k_extra "w my pick") | (refine above2' ?_ (by assumption); k_extra "w my pick")))
  (k_with "w my om" => (first | k_extra "w my sml" | lia | omega))
  rfl
theorem rgL6x1 : (0 : Nat) = 0 := by
  (k_with "w my k_room" => ((try simp only [depth_under_make, depth_under_kw, depth_in1, depth_deeper]); (show _ < 1000); (try dsimp only); omega))
  (k_with "w my units_room" => ((try simp only [units_in1, units_deeper, Around.mark_units]); (show _ < 9900); (try dsimp only); omega))
  (k_with "w my small" => (first
  | (refine Sm.int ?_; (try simp only [Int.fmod_eq_emod_of_nonneg, Int.fdiv_eq_ediv_of_nonneg, Int.reduceLE]); omega)
  | (apply Sm.slice; k_extra "w my small")
  | (apply Sm.add <;> k_extra "w my small")
  | (apply Sm.ite <;> k_extra "w my small")
  | assumption
  | exact Sm.refl _))
  (k_with "w subscriptTail Name Slice str ref" => ((with_reducible show wpAny _ _ (subscriptTail _ (Expr.Slice (some _) none none _) (Value.str _ _) (Value.ref _)) _ _ _); dsimp only; (with_reducible rename Fr _ _ _ _ => F'); (with_reducible rename News _ _ _ _ => N'); (refine' slice_strN_sn (hsz := by (apply Sm.size <;> first | k_extra "w my small" | decide)) (s := ⟨_, _, _, _, _⟩) F' N' ?_); intro _ _ _ _ _))
  (k_with "w binaryOp Add str str" => ((with_reducible show wpAny _ _ (binaryOp Operator.Add (Value.str _ _) (Value.str _ _)) _ _ _); (refine' PyProof.Rows.add_str ?_ (by (apply Sm.size2 <;> first | k_extra "w my small" | decide))); intro _ _))
  (k_with "w ite" => ((with_reducible refine ite_strs ?_); intro _))
  (k_with "w my k_ne" => (first | exact Mine.CellOff.c1 (by with_reducible assumption) | exact Mine.CellOff.c2 (by with_reducible assumption) | exact Mine.CellOff.c3 (by with_reducible assumption) | exact Mine.CellOff.c4 (by with_reducible assumption) | exact Mine.CellOff.c5 (by with_reducible assumption) | exact Mine.CellOff.c6 (by with_reducible assumption) | exact Mine.CellOff.c7 (by with_reducible assumption) | exact Mine.CellOff.c8 (by with_reducible assumption) | exact Mine.CellOff.t1 (by with_reducible assumption) | exact Mine.CellOff.t2 (by with_reducible assumption) | exact Mine.CellOff.t3 (by with_reducible assumption)))
  (k_with "w my sub" => (with_reducible first
  | exact sub_id
  | (refine sub_keep ?_; k_extra "w my sub")
  | (refine sub_skip ?_; k_extra "w my sub")
  | exact sub_nil))
  (k_with "w ElEnd" => (refine stop_here ?_))
  (k_with "w subscriptTail" => (k_here; (with_reducible show wpAny _ _ (subscriptTail _ _ (Value.ref _) (Value.int (0 + ((_ : Nat) : Int)) _)) _ _ _); (first | (refine' Mine.item_intv (by k_asm) (by k_mem) (by assumption) (by decide) ?_ (by with_unfolding_all rfl)) | (refine' Mine.item_textv (by k_asm) (by k_mem) (by assumption) (by decide) ?_ (by with_unfolding_all rfl)))))
  (k_with "w subscriptTail Name Name ref int" => (k_here; (with_reducible show wpAny _ _ (subscriptTail _ _ (Value.ref _) (Value.int (0 + ((_ : Nat) : Int)) _)) _ _ _); (first | (refine' Mine.item_intv (by k_asm) (by k_mem) (by assumption) (by decide) ?_ (by with_unfolding_all rfl)) | (refine' Mine.item_textv (by k_asm) (by k_mem) (by assumption) (by decide) ?_ (by with_unfolding_all rfl)))))
  (k_with "w execs cons" => (refine stop_here ?_))
  (k_with "w eval ListComp" => (refine stop_here ?_))
  (k_with "w exec Assign cons ListComp" => (refine stop_here ?_))
  (k_with "w CompSrc" => (refine stop_here ?_))
  (k_with "w CompEnd" => (refine stop_here ?_))
  (k_with "w compareOp NotEq ref ref" => (refine stop_here ?_))
  rfl
section
variable {w : World} {A : Around} {base : Heap} {outer : List Env} {p : Program} {loose : List Str} {mean : ExcName → Option Value} {mg mb : Str → Option Value} {g : Heap} {L fa : Addr} {cd : Value} {Q : Flow → Shared → Prop} {s : Shared} {o1 o2 o3 o4 o5 o6 o7 o8 : Obj} {sc : Addr}
set_option maxHeartbeats 8000000 in
theorem st6 (C : LawC w A base outer p loose mean mg mb g L Q s) {D M Z : Addr} {mi : Nat → Int} {z : Nat → Str} {ud um uz : Nat → Tok} {nM nZ : Nat} {tx : Str} {tt : Tok} {lx : LexA} {vs : List Value} {n : Nat} {K : Int} {tn : Tok} (c2 : CellV o2 (.ref M)) (hmi : ∀ j, j < 7 → -90 ≤ mi j ∧ mi j ≤ 90)
    (next : Go w A g L fa cd Q s 7 (m3 sc D tx tt) ((D, listOf (intv (fun j => 60 * mi j) ud 7).toArray 7) :: (lexLed w.params lx K tn vs n [] 0 ++ lawR Z M L z mi uz um nZ nM o1 o2 o3 o4 o5 o6 o7 o8 lx.c))) :
    Go w A g L fa cd Q s 6 (m3 sc D tx tt) ((D, listOf (intv (fun j => 60 * mi j) ud 7).toArray 7) :: (lexLed w.params lx K tn vs n [] 0 ++ lawR Z M L z mi uz um nZ nM o1 o2 o3 o4 o5 o6 o7 o8 lx.c)) := by
  (try unfold CellN at *)
  (try unfold CellV at *)
  refine ⟨fun h tk F N => ?_⟩
  have big := C.big
  have hdone := C.done
  have hSu := C.S
  revert next
  apply Setup.open hSu
  clear hSu C
  intro dpt grs uni hX hTp hBl hdp hun
  intro next
  dsimp only [lawD, dOf, LE, List.drop]
  have N0 := N
  dsimp only [lexLed, List.cons_append, List.nil_append] at N
  refine wpAny_execs_cons ?_
  k_steps
  unfold Stop
  refine LCg.ListComp_U (F₀ := F) (by with_unfolding_all rfl) (by decide) (by rfl) (by decide) (by rfl) ?_
  k_steps
  unfold Stop
  refine LCg.CompSrc.ledger (its := (intv mi um 7).toArray) (k := nM) rfl F N (by k_mem) (by rw [intv_size]; decide) ?_
  intro g2
  rw [intv_size]
  refine rest_same (fun j v => ∃ t, v = .int (60 * mi j) t) (.inr ⟨listOf (intv mi um 7).toArray nM, by k_mem, rfl, nM, rfl⟩) ?step ?fin
  case step =>
    clear F N N0
    rintro i ys v I oI B oB D2 m₂ h tk E' hi hyl hys hP hn hv F N r1 r2
    obtain rfl := intv_at hi hP
    have hb := hmi i hi
    k_steps
    unfold Stop
    refine ElEnd.intro F N sub_id ⟨_, rfl⟩
  case fin =>
    intro ys hyl hys
    obtain ⟨u2, rfl⟩ := intv_of (x := fun j => 60 * mi j) hyl fun j hj => (by obtain ⟨v, e, t, rfl⟩ := hys j hj; exact ⟨t, e⟩)
    clear F N N0
    unfold LCg.FinE
    intro D2 h' tk' F N r1
    k_steps
    unfold Stop
    refine ne_ints_no (vs := intv (fun j => 60 * mi j) ud 7) (us := intv (fun j => 60 * mi j) u2 7) (N.isList (by k_mem)) (intv_are _ _ _) (N.isList (.head _)) (intv_are _ _ _) (by units_room) ?_
    k_steps
    unfold Stop
    refine next.cut F N ?hs
    dsimp only [lexLed, List.cons_append, List.nil_append]
    k_extra "w my sub"
end
end
section
theorem resetL7 : (0 : Nat) = 0 := by
  w_top off
  k_with_none
  (k_with "w my pick" => (with_reducible first | assumption | exact lo1 | exact lo2 | exact lo3 | exact lo4 | exact ls1 (by assumption) | exact ls2 (by assumption) | exact ls3 (by assumption) | exact pk0 (by assumption) | exact pk1 (by assumption) | exact pk2 (by assumption) | exact pk3 (by assumption) | exact pk4 (by assumption) | exact pk5 (by assumption) | exact pk6 (by assumption) | exact pk7 (by assumption) | exact pk8 (by assumption) | exact pk9 (by assumption) | exact pk10 (by assumption) | exact pk11 (by assumption) | exact pk12 (by assumption) | exact pk13 (by assumption) | exact pk14 (by assumption) | exact pk15 (by assumption) | exact pk16 (by assumption) | exact pk17 (by assumption) | exact qk1 (by assumption) | exact qk2 (by assumption) | exact qk3 (by assumption) | exact qk4 (by assumption) | exact qk5 (by assumption) | exact qk6 (by assumption) | exact qk7 (by assumption) | exact qk8 (by assumption) | exact qk9 (by assumption) | exact qk10 (by assumption) | exact qk11 (by assumption) | exact qk12 (by assumption) | exact qk13 (by assumption) | exact qk14 (by assumption) | exact qk15 (by assumption) | exact qk16 (by assumption) | exact qk17 (by assumption)))
  (k_with "w my sml" => (with_reducible first | (refine Nat.ne_of_lt ?_; k_extra "w my pick") | (refine Nat.ne_of_gt ?_; k_extra "w my pick") | (refine Ne.symm ?_; k_extra "w my pick") | (refine id ?_; k_extra "w my pick") | (refine Nat.le_of_lt ?_; k_extra "w my pick") | exact lrefl | exact lzero | exact one_le | exact room0 (by assumption) | exact room (by assumption) (by decide) | exact room1 (by assumption) (by decide) | exact room2 (by assumption) (by decide) | exact room3 (by assumption) (by decide) | exact le_le (by assumption) (by decide) | exact le_sc (by assumption) | (refine above1' ?_ (by assumption); k_extra "w my pick") | (refine above2' ?_ (by assumption); k_extra "w my pick")))
  (k_with "w my om" => (first | k_extra "w my sml" | lia | omega))
  rfl
theorem rgL7x1 : (0 : Nat) = 0 := by
  (k_with "w my k_room" => ((try simp only [depth_under_make, depth_under_kw, depth_in1, depth_deeper]); (show _ < 1000); (try dsimp only); omega))
  (k_with "w my units_room" => ((try simp only [units_in1, units_deeper, Around.mark_units]); (show _ < 9900); (try dsimp only); omega))
  (k_with "w my small" => (first
  | (refine Sm.int ?_; (try simp only [Int.fmod_eq_emod_of_nonneg, Int.fdiv_eq_ediv_of_nonneg, Int.reduceLE]); omega)
  | (apply Sm.slice; k_extra "w my small")
  | (apply Sm.add <;> k_extra "w my small")
  | (apply Sm.ite <;> k_extra "w my small")
  | assumption
  | exact Sm.refl _))
  (k_with "w subscriptTail Name Slice str ref" => ((with_reducible show wpAny _ _ (subscriptTail _ (Expr.Slice (some _) none none _) (Value.str _ _) (Value.ref _)) _ _ _); dsimp only; (with_reducible rename Fr _ _ _ _ => F'); (with_reducible rename News _ _ _ _ => N'); (refine' slice_strN_sn (hsz := by (apply Sm.size <;> first | k_extra "w my small" | decide)) (s := ⟨_, _, _, _, _⟩) F' N' ?_); intro _ _ _ _ _))
  (k_with "w binaryOp Add str str" => ((with_reducible show wpAny _ _ (binaryOp Operator.Add (Value.str _ _) (Value.str _ _)) _ _ _); (refine' PyProof.Rows.add_str ?_ (by (apply Sm.size2 <;> first | k_extra "w my small" | decide))); intro _ _))
  (k_with "w ite" => ((with_reducible refine ite_strs ?_); intro _))
  (k_with "w my k_ne" => (first | exact Mine.CellOff.c1 (by with_reducible assumption) | exact Mine.CellOff.c2 (by with_reducible assumption) | exact Mine.CellOff.c3 (by with_reducible assumption) | exact Mine.CellOff.c4 (by with_reducible assumption) | exact Mine.CellOff.c5 (by with_reducible assumption) | exact Mine.CellOff.c6 (by with_reducible assumption) | exact Mine.CellOff.c7 (by with_reducible assumption) | exact Mine.CellOff.c8 (by with_reducible assumption) | exact Mine.CellOff.t1 (by with_reducible assumption) | exact Mine.CellOff.t2 (by with_reducible assumption) | exact Mine.CellOff.t3 (by with_reducible assumption)))
  (k_with "w my sub" => (with_reducible first
  | exact sub_id
  | (refine sub_keep ?_; k_extra "w my sub")
  | (refine sub_skip ?_; k_extra "w my sub")
  | exact sub_nil))
  (k_with "w ElEnd" => (refine stop_here ?_))
  (k_with "w subscriptTail" => (k_here; (with_reducible show wpAny _ _ (subscriptTail _ _ (Value.ref _) (Value.int (0 + ((_ : Nat) : Int)) _)) _ _ _); (first | (refine' Mine.item_intv (by k_asm) (by k_mem) (by assumption) (by decide) ?_ (by with_unfolding_all rfl)) | (refine' Mine.item_textv (by k_asm) (by k_mem) (by assumption) (by decide) ?_ (by with_unfolding_all rfl)))))
  (k_with "w subscriptTail Name Name ref int" => (k_here; (with_reducible show wpAny _ _ (subscriptTail _ _ (Value.ref _) (Value.int (0 + ((_ : Nat) : Int)) _)) _ _ _); (first | (refine' Mine.item_intv (by k_asm) (by k_mem) (by assumption) (by decide) ?_ (by with_unfolding_all rfl)) | (refine' Mine.item_textv (by k_asm) (by k_mem) (by assumption) (by decide) ?_ (by with_unfolding_all rfl)))))
  (k_with "w execs cons" => (refine stop_here ?_))
  (k_with "w eval ListComp" => (refine stop_here ?_))
  (k_with "w exec Assign cons ListComp" => (refine stop_here ?_))
  (k_with "w CompSrc" => (refine stop_here ?_))
  (k_with "w CompEnd" => (refine stop_here ?_))
  (k_with "w compareOp NotEq ref ref" => (refine stop_here ?_))
  rfl
section
variable {w : World} {A : Around} {base : Heap} {outer : List Env} {p : Program} {loose : List Str} {mean : ExcName → Option Value} {mg mb : Str → Option Value} {g : Heap} {L fa : Addr} {cd : Value} {Q : Flow → Shared → Prop} {s : Shared} {o1 o2 o3 o4 o5 o6 o7 o8 : Obj} {sc : Addr}
set_option maxHeartbeats 8000000 in
theorem st7 (C : LawC w A base outer p loose mean mg mb g L Q s) {D M Z : Addr} {mi : Nat → Int} {z : Nat → Str} {ud um uz : Nat → Tok} {nM nZ : Nat} {tx : Str} {tt : Tok} {lx : LexA} {vs : List Value} {n : Nat} {K : Int} {tn : Tok}
    (next : Go w A g L fa cd Q s 8 (m3 sc D tx tt) ((D, listOf (intv (fun j => 60 * mi j) ud 7).toArray 7) :: (lexLed w.params lx K tn vs n [] 0 ++ lawR Z M L z mi uz um nZ nM o1 o2 o3 o4 o5 o6 o7 o8 lx.c))) :
    Go w A g L fa cd Q s 7 (m3 sc D tx tt) ((D, listOf (intv (fun j => 60 * mi j) ud 7).toArray 7) :: (lexLed w.params lx K tn vs n [] 0 ++ lawR Z M L z mi uz um nZ nM o1 o2 o3 o4 o5 o6 o7 o8 lx.c)) := by
  (try unfold CellN at *)
  (try unfold CellV at *)
  refine ⟨fun h tk F N => ?_⟩
  have big := C.big
  have hdone := C.done
  have hSu := C.S
  revert next
  apply Setup.open hSu
  clear hSu C
  intro dpt grs uni hX hTp hBl hdp hun
  intro next
  dsimp only [lawD, dOf, LE, List.drop]
  have N0 := N
  dsimp only [lexLed, List.cons_append, List.nil_append] at N
  refine wpAny_execs_cons ?_
  k_steps
  unfold Stop
  refine LCg.ListComp_U (F₀ := F) (by with_unfolding_all rfl) (by decide) (by rfl) (by decide) (by rfl) ?_
  k_steps
  unfold Stop
  refine LCg.CompSrc.ledger (its := (intv (fun j => 60 * mi j) ud 7).toArray) (k := 7) rfl F N (by k_mem) (by rw [intv_size]; decide) ?_
  intro g2
  rw [intv_size]
  refine rest_same (fun j v => v = .bool true) (.inr ⟨listOf (intv (fun j => 60 * mi j) ud 7).toArray 7, by k_mem, rfl, 7, rfl⟩) ?step ?fin
  case step =>
    clear F N N0
    rintro i ys v I oI B oB D2 m₂ h tk E' hi hyl hys hP hn hv F N r1 r2
    obtain rfl := intv_at hi hP
    k_steps
    unfold Stop
    exact ElEnd.intro F N sub_id rfl
  case fin =>
    intro ys hyl hys
    obtain rfl : ys = List.replicate 7 (.bool true) := List.ext_getElem? fun j => by
      by_cases hj : j < 7
      · obtain ⟨v, e, rfl⟩ := hys j hj
        rw [e, List.getElem?_replicate, if_pos hj]
      · rw [List.getElem?_eq_none (by k_extra "w my om"), List.getElem?_eq_none (by rw [List.length_replicate]; k_extra "w my om")]
    clear F N N0
    unfold LCg.FinE
    intro D2 h' tk' F N r1
    k_steps
    unfold Stop
    (rename Fr _ _ _ _ => F); (rename News _ _ _ _ => N)
    have RA : ∀ h : Heap, ReadsAll h (List.replicate 7 (Value.bool true)) (List.replicate 7 (PyData.bool true)) [] := fun h => by
      have e : ∀ n, ReadsAll h (List.replicate n (Value.bool true)) (List.replicate n (PyData.bool true)) [] := fun n => by
        induction n with
        | zero => exact .nil
        | succ n ih => exact .cons (.bool true) ih
      exact e 7
    refine ne_data_no (d := .list (List.replicate 7 (PyData.bool true))) (Reads.list (N.get (.tail _ (.tail _ (.head _)))) rfl rfl (RA _)) (Reads.list (N.get (.head _)) rfl rfl (RA _)) (by decide +kernel) (by units_room) (by decide +kernel) (by decide +kernel) ?_
    k_steps
    unfold Stop
    refine next.cut F N ?hs
    dsimp only [lexLed, List.cons_append, List.nil_append]
    k_extra "w my sub"
end
end
section
theorem resetL8 : (0 : Nat) = 0 := by
  w_top off
  k_with_none
  (k_with "w my pick" => (with_reducible first | assumption | exact lo1 | exact lo2 | exact lo3 | exact lo4 | exact ls1 (by assumption) | exact ls2 (by assumption) | exact ls3 (by assumption) | exact pk0 (by assumption) | exact pk1 (by assumption) | exact pk2 (by assumption) | exact pk3 (by assumption) | exact pk4 (by assumption) | exact pk5 (by assumption) | exact pk6 (by assumption) | exact pk7 (by assumption) | exact pk8 (by assumption) | exact pk9 (by assumption) | exact pk10 (by assumption) | exact pk11 (by assumption) | exact pk12 (by assumption) | exact pk13 (by assumption) | exact pk14 (by assumption) | exact pk15 (by assumption) | exact pk16 (by assumption) | exact pk17 (by assumption) | exact qk1 (by assumption) | exact qk2 (by assumption) | exact qk3 (by assumption) | exact qk4 (by assumption) | exact qk5 (by assumption) | exact qk6 (by assumption) | exact qk7 (by assumption) | exact qk8 (by assumption) | exact qk9 (by assumption) | exact qk10 (by assumption) | exact qk11 (by assumption) | exact qk12 (by assumption) | exact qk13 (by assumption) | exact qk14 (by assumption) | exact qk15 (by assumption) | exact qk16 (by assumption) | exact qk17 (by assumption)))
  (k_with "w my sml" => (with_reducible first | (refine Nat.ne_of_lt ?_; k_extra "w my pick") | (refine Nat.ne_of_gt ?_; k_extra "w my pick") | (refine Ne.symm ?_; k_extra "w my pick") | (refine id ?_; k_extra "w my pick") | (refine Nat.le_of_lt ?_; k_extra "w my pick") | exact lrefl | exact lzero | exact one_le | exact room0 (by assumption) | exact room (by assumption) (by decide) | exact room1 (by assumption) (by decide) | exact room2 (by assumption) (by decide) | exact room3 (by assumption) (by decide) | exact le_le (by assumption) (by decide) | exact le_sc (by assumption) | (refine above1' ?_ (by assumption); k_extra "w my pick") | (refine above2' ?_ (by assumption); k_extra "w my pick")))
  (k_with "w my om" => (first | k_extra "w my sml" | lia | omega))
  rfl
theorem rgL8x1 : (0 : Nat) = 0 := by
  (k_with "w my k_room" => ((try simp only [depth_under_make, depth_under_kw, depth_in1, depth_deeper]); (show _ < 1000); (try dsimp only); omega))
  (k_with "w my units_room" => ((try simp only [units_in1, units_deeper, Around.mark_units]); (show _ < 9900); (try dsimp only); omega))
  (k_with "w my small" => (first
  | (refine Sm.int ?_; (try simp only [Int.fmod_eq_emod_of_nonneg, Int.fdiv_eq_ediv_of_nonneg, Int.reduceLE]); omega)
  | (apply Sm.slice; k_extra "w my small")
  | (apply Sm.add <;> k_extra "w my small")
  | (apply Sm.ite <;> k_extra "w my small")
  | assumption
  | exact Sm.refl _))
  (k_with "w subscriptTail Name Slice str ref" => ((with_reducible show wpAny _ _ (subscriptTail _ (Expr.Slice (some _) none none _) (Value.str _ _) (Value.ref _)) _ _ _); dsimp only; (with_reducible rename Fr _ _ _ _ => F'); (with_reducible rename News _ _ _ _ => N'); (refine' slice_strN_sn (hsz := by (apply Sm.size <;> first | k_extra "w my small" | decide)) (s := ⟨_, _, _, _, _⟩) F' N' ?_); intro _ _ _ _ _))
  (k_with "w binaryOp Add str str" => ((with_reducible show wpAny _ _ (binaryOp Operator.Add (Value.str _ _) (Value.str _ _)) _ _ _); (refine' PyProof.Rows.add_str ?_ (by (apply Sm.size2 <;> first | k_extra "w my small" | decide))); intro _ _))
  (k_with "w ite" => ((with_reducible refine ite_strs ?_); intro _))
  (k_with "w my k_ne" => (first | exact Mine.CellOff.c1 (by with_reducible assumption) | exact Mine.CellOff.c2 (by with_reducible assumption) | exact Mine.CellOff.c3 (by with_reducible assumption) | exact Mine.CellOff.c4 (by with_reducible assumption) | exact Mine.CellOff.c5 (by with_reducible assumption) | exact Mine.CellOff.c6 (by with_reducible assumption) | exact Mine.CellOff.c7 (by with_reducible assumption) | exact Mine.CellOff.c8 (by with_reducible assumption) | exact Mine.CellOff.t1 (by with_reducible assumption) | exact Mine.CellOff.t2 (by with_reducible assumption) | exact Mine.CellOff.t3 (by with_reducible assumption)))
  (k_with "w my sub" => (with_reducible first
  | exact sub_id
  | (refine sub_keep ?_; k_extra "w my sub")
  | (refine sub_skip ?_; k_extra "w my sub")
  | exact sub_nil))
  (k_with "w ElEnd" => (refine stop_here ?_))
  (k_with "w subscriptTail" => (k_here; (with_reducible show wpAny _ _ (subscriptTail _ _ (Value.ref _) (Value.int (0 + ((_ : Nat) : Int)) _)) _ _ _); (first | (refine' Mine.item_intv (by k_asm) (by k_mem) (by assumption) (by decide) ?_ (by with_unfolding_all rfl)) | (refine' Mine.item_textv (by k_asm) (by k_mem) (by assumption) (by decide) ?_ (by with_unfolding_all rfl)))))
  (k_with "w subscriptTail Name Name ref int" => (k_here; (with_reducible show wpAny _ _ (subscriptTail _ _ (Value.ref _) (Value.int (0 + ((_ : Nat) : Int)) _)) _ _ _); (first | (refine' Mine.item_intv (by k_asm) (by k_mem) (by assumption) (by decide) ?_ (by with_unfolding_all rfl)) | (refine' Mine.item_textv (by k_asm) (by k_mem) (by assumption) (by decide) ?_ (by with_unfolding_all rfl)))))
  (k_with "w execs cons" => (refine stop_here ?_))
  (k_with "w eval ListComp" => (refine stop_here ?_))
  (k_with "w exec Assign cons ListComp" => (refine stop_here ?_))
  (k_with "w CompSrc" => (refine stop_here ?_))
  (k_with "w CompEnd" => (refine stop_here ?_))
  (k_with "w compareOp NotEq ref ref" => (refine stop_here ?_))
  (k_with "w call ref" => ((with_reducible show wpAny _ _ (call (Value.ref 108) _ _) _ _ _); refine stop_here ?_))
  rfl
section
variable {w : World} {A : Around} {base : Heap} {outer : List Env} {p : Program} {loose : List Str} {mean : ExcName → Option Value} {mg mb : Str → Option Value} {g : Heap} {L fa : Addr} {cd : Value} {Q : Flow → Shared → Prop} {s : Shared} {o1 o2 o3 o4 o5 o6 o7 o8 : Obj} {sc : Addr}
set_option maxHeartbeats 8000000 in
theorem st8 (C : LawC w A base outer p loose mean mg mb g L Q s) {D M Z : Addr} {mi : Nat → Int} {z : Nat → Str} {ud um uz : Nat → Tok} {nM nZ : Nat} {tx : Str} {tt : Tok} {lx : LexA} {vs : List Value} {n : Nat} {K : Int} {tn : Tok} {cs : List Nat} (c4 : CellV o4 (.ref lx.x))
    (okl : LexOk lx) (off : OffL lx (lawR Z M L z mi uz um nZ nM o1 o2 o3 o4 o5 o6 o7 o8 lx.c)) (offD : D ≠ lx.l ∧ D ≠ lx.d ∧ D ≠ lx.D) (ht : Tok1 cs [] []) (hs : Signs vs cs.reverse) (hz : cs.length ≤ 3000) (hK : K = 1 + nls tx.cps.toList) (hx : tx.length ≤ 3000)
    (next : Go w A g L fa cd Q s 9 (m3 sc D tx tt) ((D, listOf (intv (fun j => 60 * mi j) ud 7).toArray 7) :: (lx.c, lx.oc) :: lawR Z M L z mi uz um nZ nM o1 o2 o3 o4 o5 o6 o7 o8 lx.c)) :
    Go w A g L fa cd Q s 8 (m3 sc D tx tt) ((D, listOf (intv (fun j => 60 * mi j) ud 7).toArray 7) :: (lexLed w.params lx (K - nls cs) tn vs n [] 0 ++ lawR Z M L z mi uz um nZ nM o1 o2 o3 o4 o5 o6 o7 o8 lx.c)) := by
  (try unfold CellN at *)
  (try unfold CellV at *)
  refine ⟨fun h tk F N => ?_⟩
  have big := C.big
  have hdone := C.done
  have hSu := C.S
  revert next
  apply Setup.open hSu
  clear hSu C
  intro dpt grs uni hX hTp hBl hdp hun
  intro next
  dsimp only [lawD, dOf, LE, List.drop]
  have N0 := N
  dsimp only [lexLed, List.cons_append, List.nil_append] at N
  refine wpAny_execs_cons ?_
  k_steps
  unfold Stop
  dsimp only [List.append_nil]
  have offA : OffL lx ((D, listOf (intv (fun j => 60 * mi j) ud 7).toArray 7) :: lawR Z M L z mi uz um nZ nM o1 o2 o3 o4 o5 o6 o7 o8 lx.c) := fun q hq => by
    rcases List.mem_cons.mp hq with rfl | hq
    · exact offD
    · exact off q hq
  have N1 : News g L h (lexLed w.params lx (K - nls cs) tn vs n [] 0 ++ ((D, listOf (intv (fun j => 60 * mi j) ud 7).toArray 7) :: lawR Z M L z mi uz um nZ nM o1 o2 o3 o4 o5 o6 o7 o8 lx.c)) := fun q hq => N0 q (by
    rcases List.mem_append.mp hq with hq | hq
    · exact .tail _ (List.mem_append_left _ hq)
    rcases List.mem_cons.mp hq with rfl | hq
    · exact .head _
    exact .tail _ (List.mem_append_right _ hq))
  refine use (token_spec (Setup.down0 (n := 21) (A := ⟨none, _, some outer, _, _⟩) ⟨hX, hTp, hBl, rfl, by dsimp only; k_extra "w my om", by dsimp only; k_extra "w my om"⟩ F N1 rfl rfl) (fun b o e => of_hideAll _ e) lx K tn vs n 0 cs [] [] hs ht okl hz
    (fun q hq => ⟨N1.get (List.mem_append_left _ hq), hideAll_none _ (List.mem_map_of_mem (List.mem_append_left _ hq))⟩)) F N1 (by first | exact each_nil | (refine each_cons ?_ each_nil; repeat (first | exact .head _ | refine .tail _ ?_)) | (refine each_cons ?_ (each_cons ?_ each_nil) <;> repeat (first | exact .head _ | refine .tail _ ?_)) | simp) ?_
  clear F N N0
  rintro _ h1 tk1 F _ t1 ⟨u, tn', vs', n', rfl, hs', H⟩
  have N := lex_step N1 t1 (fun x hx => by
    rcases List.mem_cons.mp hx with rfl | hx
    · exact .inr (.inl rfl)
    · exact .inr (.inr (List.mem_singleton.mp hx))) H offA
  clear N1
  dsimp only [lexLed, List.cons_append, List.nil_append] at N
  dsimp only at F ⊢
  k_steps
  unfold Stop
  have hcnt : Txt.count tx (Str.ofString "\n") = nls tx.cps.toList := by
    rw [show Str.ofString "\n" = ⟨#[10]⟩ from by decide, count_one]; rfl
  have h0 : nls [] = 0 := rfl
  · exfalso
    have hne : K - nls [] ≠ 1 + Txt.count tx (Str.ofString "\n") := by assumption
    rw [hcnt, h0] at hne
    exact hne (by rw [hK, Int.sub_zero])
  · refine next.cut F N fun q hq => ?_
    rcases List.mem_cons.mp hq with rfl | hq
    · exact .tail _ (.tail _ (.tail _ (.tail _ (.tail _ (.tail _ (.tail _ (.tail _ (.tail _ (.head _)))))))))
    rcases List.mem_cons.mp hq with rfl | hq
    · exact .tail _ (.tail _ (.tail _ (.tail _ (.head _))))
    · exact .tail _ (.tail _ (.tail _ (.tail _ (.tail _ (.tail _ (.tail _ (.tail _ (.tail _ (.tail _ (hq))))))))))
end
end
section
theorem resetL9 : (0 : Nat) = 0 := by
  w_top off
  k_with_none
  (k_with "w my pick" => (with_reducible first | assumption | exact lo1 | exact lo2 | exact lo3 | exact lo4 | exact ls1 (by assumption) | exact ls2 (by assumption) | exact ls3 (by assumption) | exact pk0 (by assumption) | exact pk1 (by assumption) | exact pk2 (by assumption) | exact pk3 (by assumption) | exact pk4 (by assumption) | exact pk5 (by assumption) | exact pk6 (by assumption) | exact pk7 (by assumption) | exact pk8 (by assumption) | exact pk9 (by assumption) | exact pk10 (by assumption) | exact pk11 (by assumption) | exact pk12 (by assumption) | exact pk13 (by assumption) | exact pk14 (by assumption) | exact pk15 (by assumption) | exact pk16 (by assumption) | exact pk17 (by assumption) | exact qk1 (by assumption) | exact qk2 (by assumption) | exact qk3 (by assumption) | exact qk4 (by assumption) | exact qk5 (by assumption) | exact qk6 (by assumption) | exact qk7 (by assumption) | exact qk8 (by assumption) | exact qk9 (by assumption) | exact qk10 (by assumption) | exact qk11 (by assumption) | exact qk12 (by assumption) | exact qk13 (by assumption) | exact qk14 (by assumption) | exact qk15 (by assumption) | exact qk16 (by assumption) | exact qk17 (by assumption)))
  (k_with "w my sml" => (with_reducible first | (refine Nat.ne_of_lt ?_; k_extra "w my pick") | (refine Nat.ne_of_gt ?_; k_extra "w my pick") | (refine Ne.symm ?_; k_extra "w my pick") | (refine id ?_; k_extra "w my pick") | (refine Nat.le_of_lt ?_; k_extra "w my pick") | exact lrefl | exact lzero | exact one_le | exact room0 (by assumption) | exact room (by assumption) (by decide) | exact room1 (by assumption) (by decide) | exact room2 (by assumption) (by decide) | exact room3 (by assumption) (by decide) | exact le_le (by assumption) (by decide) | exact le_sc (by assumption) | (refine above1' ?_ (by assumption); k_extra "w my pick") | (refine above2' ?_ (by assumption); k_extra "w my pick")))
  (k_with "w my om" => (first | k_extra "w my sml" | lia | omega))
  rfl
theorem rgL9x1 : (0 : Nat) = 0 := by
  (k_with "w my k_room" => ((try simp only [depth_under_make, depth_under_kw, depth_in1, depth_deeper]); (show _ < 1000); (try dsimp only); omega))
  (k_with "w my units_room" => ((try simp only [units_in1, units_deeper, Around.mark_units]); (show _ < 9900); (try dsimp only); omega))
  (k_with "w my small" => (first
  | (refine Sm.int ?_; (try simp only [Int.fmod_eq_emod_of_nonneg, Int.fdiv_eq_ediv_of_nonneg, Int.reduceLE]); omega)
  | (apply Sm.slice; k_extra "w my small")
  | (apply Sm.add <;> k_extra "w my small")
  | (apply Sm.ite <;> k_extra "w my small")
  | assumption
  | exact Sm.refl _))
  (k_with "w subscriptTail Name Slice str ref" => ((with_reducible show wpAny _ _ (subscriptTail _ (Expr.Slice (some _) none none _) (Value.str _ _) (Value.ref _)) _ _ _); dsimp only; (with_reducible rename Fr _ _ _ _ => F'); (with_reducible rename News _ _ _ _ => N'); (refine' slice_strN_sn (hsz := by (apply Sm.size <;> first | k_extra "w my small" | decide)) (s := ⟨_, _, _, _, _⟩) F' N' ?_); intro _ _ _ _ _))
  (k_with "w binaryOp Add str str" => ((with_reducible show wpAny _ _ (binaryOp Operator.Add (Value.str _ _) (Value.str _ _)) _ _ _); (refine' PyProof.Rows.add_str ?_ (by (apply Sm.size2 <;> first | k_extra "w my small" | decide))); intro _ _))
  (k_with "w ite" => ((with_reducible refine ite_strs ?_); intro _))
  (k_with "w my k_ne" => (first | exact Mine.CellOff.c1 (by with_reducible assumption) | exact Mine.CellOff.c2 (by with_reducible assumption) | exact Mine.CellOff.c3 (by with_reducible assumption) | exact Mine.CellOff.c4 (by with_reducible assumption) | exact Mine.CellOff.c5 (by with_reducible assumption) | exact Mine.CellOff.c6 (by with_reducible assumption) | exact Mine.CellOff.c7 (by with_reducible assumption) | exact Mine.CellOff.c8 (by with_reducible assumption) | exact Mine.CellOff.t1 (by with_reducible assumption) | exact Mine.CellOff.t2 (by with_reducible assumption) | exact Mine.CellOff.t3 (by with_reducible assumption)))
  (k_with "w my sub" => (with_reducible first
  | exact sub_id
  | (refine sub_keep ?_; k_extra "w my sub")
  | (refine sub_skip ?_; k_extra "w my sub")
  | exact sub_nil))
  (k_with "w ElEnd" => (refine stop_here ?_))
  (k_with "w subscriptTail" => (k_here; (with_reducible show wpAny _ _ (subscriptTail _ _ (Value.ref _) (Value.int (0 + ((_ : Nat) : Int)) _)) _ _ _); (first | (refine' Mine.item_intv (by k_asm) (by k_mem) (by assumption) (by decide) ?_ (by with_unfolding_all rfl)) | (refine' Mine.item_textv (by k_asm) (by k_mem) (by assumption) (by decide) ?_ (by with_unfolding_all rfl)))))
  (k_with "w subscriptTail Name Name ref int" => (k_here; (with_reducible show wpAny _ _ (subscriptTail _ _ (Value.ref _) (Value.int (0 + ((_ : Nat) : Int)) _)) _ _ _); (first | (refine' Mine.item_intv (by k_asm) (by k_mem) (by assumption) (by decide) ?_ (by with_unfolding_all rfl)) | (refine' Mine.item_textv (by k_asm) (by k_mem) (by assumption) (by decide) ?_ (by with_unfolding_all rfl)))))
  (k_with "w execs cons" => (refine stop_here ?_))
  (k_with "w eval ListComp" => (refine stop_here ?_))
  (k_with "w exec Assign cons ListComp" => (refine stop_here ?_))
  (k_with "w CompSrc" => (refine stop_here ?_))
  (k_with "w CompEnd" => (refine stop_here ?_))
  (k_with "w compareOp NotEq ref ref" => (refine stop_here ?_))
  (k_with "w call ref" => ((with_reducible show wpAny _ _ (call (Value.ref 44) _ _) _ _ _); refine stop_here ?_))
  rfl
section
variable {w : World} {A : Around} {base : Heap} {outer : List Env} {p : Program} {loose : List Str} {mean : ExcName → Option Value} {mg mb : Str → Option Value} {g : Heap} {L fa : Addr} {cd : Value} {Q : Flow → Shared → Prop} {s : Shared} {o1 o2 o3 o4 o5 o6 o7 o8 : Obj} {sc : Addr}
set_option maxHeartbeats 8000000 in
theorem st9 (C : LawC w A base outer p loose mean mg mb g L Q s) {D M Z cc : Addr} {oc : Obj} {mi : Nat → Int} {z : Nat → Str} {ud um uz : Nat → Tok} {nM nZ : Nat} {tx : Str} {tt : Tok} (c3 : CellV o3 (.ref Z)) (hoff : ∀ i, 4 ≤ i → i < 7 → OffOf (z i ++ Str.ofString "x") none) (hzl : ∀ i, i < 7 → (z i).length ≤ 10)
    (next : Go w A g L fa cd Q s 10 (m3 sc D tx tt) ((D, listOf (intv (fun j => 60 * mi j) ud 7).toArray 7) :: (cc, oc) :: lawCells L o1 o2 o3 o4 o5 o6 o7 o8 (lawTabs #[] #[] (lexPs cc)))) :
    Go w A g L fa cd Q s 9 (m3 sc D tx tt) ((D, listOf (intv (fun j => 60 * mi j) ud 7).toArray 7) :: (cc, oc) :: lawR Z M L z mi uz um nZ nM o1 o2 o3 o4 o5 o6 o7 o8 cc) := by
  (try unfold CellN at *)
  (try unfold CellV at *)
  refine ⟨fun h tk F N => ?_⟩
  have big := C.big
  have hdone := C.done
  have hSu := C.S
  revert next
  apply Setup.open hSu
  clear hSu C
  intro dpt grs uni hX hTp hBl hdp hun
  intro next
  dsimp only [lawD, dOf, LE, List.drop]
  refine wpAny_execs_cons ?_
  k_steps
  unfold Stop
  refine LCg.ListComp_U (F₀ := F) (by with_unfolding_all rfl) (by decide) (by rfl) (by decide) (by rfl) ?_
  k_steps
  unfold Stop
  (rename Fr _ _ _ _ => F); (rename News _ _ _ _ => N)
  rename_i D0 h0 l0
  refine LCg.CompSrc.ledger (its := #[.str (z 4) (uz 4), .str (z 5) (uz 5), .str (z 6) (uz 6)]) (k := 0) rfl F N (.head _) (by show 3 ≤ sizeLine; decide) ?_
  intro g2
  refine rest_same (n := 3) (fun j v => v = .none) (.inr ⟨listOf #[.str (z 4) (uz 4), .str (z 5) (uz 5), .str (z 6) (uz 6)] 0, .head _, rfl, 0, rfl⟩) ?step ?fin
  case step =>
    clear F N
    rintro i ys v I oI B oB D2 m₂ h tk E' hi hyl hys hP hn hv F N r1 r2
    obtain rfl : v = .str (z (4 + i)) (uz (4 + i)) := by
      have : i = 0 ∨ i = 1 ∨ i = 2 := lt3 (by assumption)
      rcases this with rfl | rfl | rfl <;> exact (Option.some.inj hP).symm
    have hsm : Sm 10 (z (4 + i)) := hzl (4 + i) (by k_extra "w my om")
    k_steps
    unfold Stop
    refine use0 (off_spec (Setup.down0 (n := 10) (A := ⟨none, _, some outer, _, _⟩) ⟨hX, hTp, hBl, rfl, by dsimp only; k_extra "w my om", by dsimp only; k_extra "w my om"⟩ F N rfl rfl) (fun b o e => of_hideAll _ e) (z (4 + i) ++ Str.ofString "x") _ _ (hoff (4 + i) (by k_extra "w my om") (by k_extra "w my om")) ?sz) F N (by first | exact each_nil | (refine each_cons ?_ each_nil; repeat (first | exact .head _ | refine .tail _ ?_)) | (refine each_cons ?_ (each_cons ?_ each_nil) <;> repeat (first | exact .head _ | refine .tail _ ?_)) | simp) ?_
    case sz =>
      have : (z (4 + i) ++ Str.ofString "x").length ≤ 11 := by rw [Str.length_append, show (Str.ofString "x").length = 1 from by decide]; have : (z (4 + i)).length ≤ 10 := hsm; k_extra "w my om"
      exact Nat.le_trans this (by decide)
    clear F N
    rintro _ h2 tk2 F N t2 rfl
    dsimp only at F N ⊢
    k_steps
    unfold Stop
    exact ElEnd.intro F N sub_id rfl
  case fin =>
    intro ys hyl hys
    obtain rfl : ys = List.replicate 3 .none := List.ext_getElem? fun j => by
      by_cases hj : j < 3
      · obtain ⟨v, e, rfl⟩ := hys j hj
        rw [e, List.getElem?_replicate, if_pos hj]
      · rw [List.getElem?_eq_none (by k_extra "w my om"), List.getElem?_eq_none (by rw [List.length_replicate]; k_extra "w my om")]
    clear F N
    unfold LCg.FinE
    intro D2 h' tk' F N r1
    k_steps
    unfold Stop
    (rename Fr _ _ _ _ => F); (rename News _ _ _ _ => N)
    have RA : ∀ h : Heap, ReadsAll h [Value.none, .none, .none] [PyData.none, .none, .none] [] := fun h => .cons .none (.cons .none (.cons .none .nil))
    refine ne_data_no (d := .list [PyData.none, .none, .none]) (Reads.list (N.get (.tail _ (.head _))) rfl rfl (RA _)) (Reads.list (N.get (.head _)) rfl rfl (RA _)) (by decide +kernel) (by units_room) (by decide +kernel) (by decide +kernel) ?_
    k_steps
    unfold Stop
    refine next.cut F N ?hs
    k_extra "w my sub"
end
end
section
theorem resetL10 : (0 : Nat) = 0 := by
  w_top off
  k_with_none
  (k_with "w my pick" => (with_reducible first | assumption | exact lo1 | exact lo2 | exact lo3 | exact lo4 | exact ls1 (by assumption) | exact ls2 (by assumption) | exact ls3 (by assumption) | exact pk0 (by assumption) | exact pk1 (by assumption) | exact pk2 (by assumption) | exact pk3 (by assumption) | exact pk4 (by assumption) | exact pk5 (by assumption) | exact pk6 (by assumption) | exact pk7 (by assumption) | exact pk8 (by assumption) | exact pk9 (by assumption) | exact pk10 (by assumption) | exact pk11 (by assumption) | exact pk12 (by assumption) | exact pk13 (by assumption) | exact pk14 (by assumption) | exact pk15 (by assumption) | exact pk16 (by assumption) | exact pk17 (by assumption) | exact qk1 (by assumption) | exact qk2 (by assumption) | exact qk3 (by assumption) | exact qk4 (by assumption) | exact qk5 (by assumption) | exact qk6 (by assumption) | exact qk7 (by assumption) | exact qk8 (by assumption) | exact qk9 (by assumption) | exact qk10 (by assumption) | exact qk11 (by assumption) | exact qk12 (by assumption) | exact qk13 (by assumption) | exact qk14 (by assumption) | exact qk15 (by assumption) | exact qk16 (by assumption) | exact qk17 (by assumption)))
  (k_with "w my sml" => (with_reducible first | (refine Nat.ne_of_lt ?_; k_extra "w my pick") | (refine Nat.ne_of_gt ?_; k_extra "w my pick") | (refine Ne.symm ?_; k_extra "w my pick") | (refine id ?_; k_extra "w my pick") | (refine Nat.le_of_lt ?_; k_extra "w my pick") | exact lrefl | exact lzero | exact one_le | exact room0 (by assumption) | exact room (by assumption) (by decide) | exact room1 (by assumption) (by decide) | exact room2 (by assumption) (by decide) | exact room3 (by assumption) (by decide) | exact le_le (by assumption) (by decide) | exact le_sc (by assumption) | (refine above1' ?_ (by assumption); k_extra "w my pick") | (refine above2' ?_ (by assumption); k_extra "w my pick")))
  (k_with "w my om" => (first | k_extra "w my sml" | lia | omega))
  rfl
theorem rgL10x1 : (0 : Nat) = 0 := by
  (k_with "w my k_room" => ((try simp only [depth_under_make, depth_under_kw, depth_in1, depth_deeper]); (show _ < 1000); (try dsimp only); omega))
  (k_with "w my units_room" => ((try simp only [units_in1, units_deeper, Around.mark_units]); (show _ < 9900); (try dsimp only); omega))
  (k_with "w my small" => (first
  | (refine Sm.int ?_; (try simp only [Int.fmod_eq_emod_of_nonneg, Int.fdiv_eq_ediv_of_nonneg, Int.reduceLE]); omega)
  | (apply Sm.slice; k_extra "w my small")
  | (apply Sm.add <;> k_extra "w my small")
  | (apply Sm.ite <;> k_extra "w my small")
  | assumption
  | exact Sm.refl _))
  (k_with "w subscriptTail Name Slice str ref" => ((with_reducible show wpAny _ _ (subscriptTail _ (Expr.Slice (some _) none none _) (Value.str _ _) (Value.ref _)) _ _ _); dsimp only; (with_reducible rename Fr _ _ _ _ => F'); (with_reducible rename News _ _ _ _ => N'); (refine' slice_strN_sn (hsz := by (apply Sm.size <;> first | k_extra "w my small" | decide)) (s := ⟨_, _, _, _, _⟩) F' N' ?_); intro _ _ _ _ _))
  (k_with "w binaryOp Add str str" => ((with_reducible show wpAny _ _ (binaryOp Operator.Add (Value.str _ _) (Value.str _ _)) _ _ _); (refine' PyProof.Rows.add_str ?_ (by (apply Sm.size2 <;> first | k_extra "w my small" | decide))); intro _ _))
  (k_with "w ite" => ((with_reducible refine ite_strs ?_); intro _))
  (k_with "w my k_ne" => (first | exact Mine.CellOff.c1 (by with_reducible assumption) | exact Mine.CellOff.c2 (by with_reducible assumption) | exact Mine.CellOff.c3 (by with_reducible assumption) | exact Mine.CellOff.c4 (by with_reducible assumption) | exact Mine.CellOff.c5 (by with_reducible assumption) | exact Mine.CellOff.c6 (by with_reducible assumption) | exact Mine.CellOff.c7 (by with_reducible assumption) | exact Mine.CellOff.c8 (by with_reducible assumption) | exact Mine.CellOff.t1 (by with_reducible assumption) | exact Mine.CellOff.t2 (by with_reducible assumption) | exact Mine.CellOff.t3 (by with_reducible assumption)))
  (k_with "w my sub" => (with_reducible first
  | exact sub_id
  | (refine sub_keep ?_; k_extra "w my sub")
  | (refine sub_skip ?_; k_extra "w my sub")
  | exact sub_nil))
  (k_with "w ElEnd" => (refine stop_here ?_))
  (k_with "w subscriptTail" => (k_here; (with_reducible show wpAny _ _ (subscriptTail _ _ (Value.ref _) (Value.int (0 + ((_ : Nat) : Int)) _)) _ _ _); (first | (refine' Mine.item_intv (by k_asm) (by k_mem) (by assumption) (by decide) ?_ (by with_unfolding_all rfl)) | (refine' Mine.item_textv (by k_asm) (by k_mem) (by assumption) (by decide) ?_ (by with_unfolding_all rfl)))))
  (k_with "w subscriptTail Name Name ref int" => (k_here; (with_reducible show wpAny _ _ (subscriptTail _ _ (Value.ref _) (Value.int (0 + ((_ : Nat) : Int)) _)) _ _ _); (first | (refine' Mine.item_intv (by k_asm) (by k_mem) (by assumption) (by decide) ?_ (by with_unfolding_all rfl)) | (refine' Mine.item_textv (by k_asm) (by k_mem) (by assumption) (by decide) ?_ (by with_unfolding_all rfl)))))
  (k_with "w execs cons" => (refine stop_here ?_))
  (k_with "w call ref" => ((with_reducible show wpAny _ _ (call (Value.ref 153) _ _) _ _ _); refine stop_here ?_))
  rfl
section
variable {w : World} {A : Around} {base : Heap} {outer : List Env} {p : Program} {loose : List Str} {mean : ExcName → Option Value} {mg mb : Str → Option Value} {g : Heap} {L fa : Addr} {cd : Value} {Q : Flow → Shared → Prop} {s : Shared} {o1 o2 o3 o4 o5 o6 o7 o8 : Obj} {sc : Addr}
set_option maxHeartbeats 8000000 in
theorem st10 (C : LawC w A base outer p loose mean mg mb g L Q s) {D cc : Addr} {oc : Obj} {x : Nat → Int} {ud : Nat → Tok} {tx : Str} {tt : Tok} (c5 : CellN o5) (oD : CellOff L D) (oC : CellOff L cc)
    (next : ∀ (a : PplA) (j0 j1 j2 j3 : Nat) (ps : Array Value) (o5 : Obj), RowIs x 4 [j0, j1, j2, j3] → a.are (nm j0) (nm j1) (nm j2) (nm j3) (x j0) (x j1) (x j2) (x j3) → PplFar L a → CellV o5 (.ref a.l) →
      Go w A g L fa cd Q s 11 (m3 sc D tx tt) (pplLed a ++ (D, listOf (intv x ud 7).toArray 7) :: (cc, oc) :: lawCells L o1 o2 o3 o4 o5 o6 o7 o8 (lawTabs #[] ps (lexPs cc)))) :
    Go w A g L fa cd Q s 10 (m3 sc D tx tt) ((D, listOf (intv x ud 7).toArray 7) :: (cc, oc) :: lawCells L o1 o2 o3 o4 o5 o6 o7 o8 (lawTabs #[] #[] (lexPs cc))) := by
  (try unfold CellN at *)
  (try unfold CellV at *)
  refine ⟨fun h tk F N => ?_⟩
  have big := C.big
  have hdone := C.done
  have hSu := C.S
  revert next
  apply Setup.open hSu
  clear hSu C
  intro dpt grs uni hX hTp hBl hdp hun
  intro next
  dsimp only [lawD, dOf, LE, List.drop]
  refine wpAny_execs_cons ?_
  k_steps
  unfold Stop
  refine use (guests_spec (u := ud) (Setup.down0 (n := 20) (A := ⟨none, _, some outer, _, _⟩) ⟨hX, hTp, hBl, rfl, by dsimp only; k_extra "w my om", by dsimp only; k_extra "w my om"⟩ F N rfl rfl) (fun b o e => of_hideAll _ e) (N.get (by k_mem)) (hideAll_none _ (List.mem_map_of_mem (a := (150, tabObj #[])) (by k_mem))) (N.isList (.head _))) F N (by first | exact each_nil | (refine each_cons ?_ each_nil; repeat (first | exact .head _ | refine .tail _ ?_)) | (refine each_cons ?_ (each_cons ?_ each_nil) <;> repeat (first | exact .head _ | refine .tail _ ?_)) | simp) ?_
  rintro _ h1 tk1 F1 N1 t1 ⟨a, j0, j1, j2, j3, rfl, hr, ha, H, hf, ps, he⟩
  dsimp only at F1 t1 hf
  have far := PplFar.of (fun q hq => (N q (.tail _ (.tail _ hq))).1) hf
  have N2 := ppl_news F (News.upd N (by k_upd) t1 he) H hf
  clear N N1 F
  have ⟨f1, f2, f3, f4, f5⟩ := far
  dsimp only [pplLed, List.cons_append, List.nil_append] at N2
  dsimp only at N2 ⊢
  k_steps
  unfold Stop
  (rename Fr _ _ _ _ => F); (rename News _ _ _ _ => N)
  refine' (next a j0 j1 j2 j3 ps ?o hr ha far ?e).cut F N ?hs
  case hs =>
    dsimp only [pplLed, List.cons_append, List.nil_append]
    k_extra "w my sub"
  case e => assumption
end
end
section
theorem resetL12 : (0 : Nat) = 0 := by
  w_top off
  k_with_none
  (k_with "w my pick" => (with_reducible first | assumption | exact lo1 | exact lo2 | exact lo3 | exact lo4 | exact ls1 (by assumption) | exact ls2 (by assumption) | exact ls3 (by assumption) | exact pk0 (by assumption) | exact pk1 (by assumption) | exact pk2 (by assumption) | exact pk3 (by assumption) | exact pk4 (by assumption) | exact pk5 (by assumption) | exact pk6 (by assumption) | exact pk7 (by assumption) | exact pk8 (by assumption) | exact pk9 (by assumption) | exact pk10 (by assumption) | exact pk11 (by assumption) | exact pk12 (by assumption) | exact pk13 (by assumption) | exact pk14 (by assumption) | exact pk15 (by assumption) | exact pk16 (by assumption) | exact pk17 (by assumption) | exact qk1 (by assumption) | exact qk2 (by assumption) | exact qk3 (by assumption) | exact qk4 (by assumption) | exact qk5 (by assumption) | exact qk6 (by assumption) | exact qk7 (by assumption) | exact qk8 (by assumption) | exact qk9 (by assumption) | exact qk10 (by assumption) | exact qk11 (by assumption) | exact qk12 (by assumption) | exact qk13 (by assumption) | exact qk14 (by assumption) | exact qk15 (by assumption) | exact qk16 (by assumption) | exact qk17 (by assumption)))
  (k_with "w my sml" => (with_reducible first | (refine Nat.ne_of_lt ?_; k_extra "w my pick") | (refine Nat.ne_of_gt ?_; k_extra "w my pick") | (refine Ne.symm ?_; k_extra "w my pick") | (refine id ?_; k_extra "w my pick") | (refine Nat.le_of_lt ?_; k_extra "w my pick") | exact lrefl | exact lzero | exact one_le | exact room0 (by assumption) | exact room (by assumption) (by decide) | exact room1 (by assumption) (by decide) | exact room2 (by assumption) (by decide) | exact room3 (by assumption) (by decide) | exact le_le (by assumption) (by decide) | exact le_sc (by assumption) | (refine above1' ?_ (by assumption); k_extra "w my pick") | (refine above2' ?_ (by assumption); k_extra "w my pick")))
  (k_with "w my om" => (first | k_extra "w my sml" | lia | omega))
  rfl
theorem rgL12x1 : (0 : Nat) = 0 := by
  (k_with "w my k_room" => ((try simp only [depth_under_make, depth_under_kw, depth_in1, depth_deeper]); (show _ < 1000); (try dsimp only); omega))
  (k_with "w my units_room" => ((try simp only [units_in1, units_deeper, Around.mark_units]); (show _ < 9900); (try dsimp only); omega))
  (k_with "w my small" => (first
  | (refine Sm.int ?_; (try simp only [Int.fmod_eq_emod_of_nonneg, Int.fdiv_eq_ediv_of_nonneg, Int.reduceLE]); omega)
  | (apply Sm.slice; k_extra "w my small")
  | (apply Sm.add <;> k_extra "w my small")
  | (apply Sm.ite <;> k_extra "w my small")
  | assumption
  | exact Sm.refl _))
  (k_with "w subscriptTail Name Slice str ref" => ((with_reducible show wpAny _ _ (subscriptTail _ (Expr.Slice (some _) none none _) (Value.str _ _) (Value.ref _)) _ _ _); dsimp only; (with_reducible rename Fr _ _ _ _ => F'); (with_reducible rename News _ _ _ _ => N'); (refine' slice_strN_sn (hsz := by (apply Sm.size <;> first | k_extra "w my small" | decide)) (s := ⟨_, _, _, _, _⟩) F' N' ?_); intro _ _ _ _ _))
  (k_with "w binaryOp Add str str" => ((with_reducible show wpAny _ _ (binaryOp Operator.Add (Value.str _ _) (Value.str _ _)) _ _ _); (refine' PyProof.Rows.add_str ?_ (by (apply Sm.size2 <;> first | k_extra "w my small" | decide))); intro _ _))
  (k_with "w ite" => ((with_reducible refine ite_strs ?_); intro _))
  (k_with "w my k_ne" => (first | exact Mine.CellOff.c1 (by with_reducible assumption) | exact Mine.CellOff.c2 (by with_reducible assumption) | exact Mine.CellOff.c3 (by with_reducible assumption) | exact Mine.CellOff.c4 (by with_reducible assumption) | exact Mine.CellOff.c5 (by with_reducible assumption) | exact Mine.CellOff.c6 (by with_reducible assumption) | exact Mine.CellOff.c7 (by with_reducible assumption) | exact Mine.CellOff.c8 (by with_reducible assumption) | exact Mine.CellOff.t1 (by with_reducible assumption) | exact Mine.CellOff.t2 (by with_reducible assumption) | exact Mine.CellOff.t3 (by with_reducible assumption)))
  (k_with "w my sub" => (with_reducible first
  | exact sub_id
  | (refine sub_keep ?_; k_extra "w my sub")
  | (refine sub_skip ?_; k_extra "w my sub")
  | exact sub_nil))
  (k_with "w ElEnd" => (refine stop_here ?_))
  (k_with "w subscriptTail" => (k_here; (with_reducible show wpAny _ _ (subscriptTail _ _ (Value.ref _) (Value.int (0 + ((_ : Nat) : Int)) _)) _ _ _); (first | (refine' Mine.item_intv (by k_asm) (by k_mem) (by assumption) (by decide) ?_ (by with_unfolding_all rfl)) | (refine' Mine.item_textv (by k_asm) (by k_mem) (by assumption) (by decide) ?_ (by with_unfolding_all rfl)))))
  (k_with "w subscriptTail Name Name ref int" => (k_here; (with_reducible show wpAny _ _ (subscriptTail _ _ (Value.ref _) (Value.int (0 + ((_ : Nat) : Int)) _)) _ _ _); (first | (refine' Mine.item_intv (by k_asm) (by k_mem) (by assumption) (by decide) ?_ (by with_unfolding_all rfl)) | (refine' Mine.item_textv (by k_asm) (by k_mem) (by assumption) (by decide) ?_ (by with_unfolding_all rfl)))))
  (k_with "w execs cons" => (refine stop_here ?_))
  (k_with "w eval ListComp" => (refine stop_here ?_))
  (k_with "w SrcLP" => (refine stop_here ?_))
  rfl
section
variable {w : World} {A : Around} {base : Heap} {outer : List Env} {p : Program} {loose : List Str} {mean : ExcName → Option Value} {mg mb : Str → Option Value} {g : Heap} {L fa : Addr} {cd : Value} {Q : Flow → Shared → Prop} {s : Shared} {o1 o2 o3 o4 o5 o6 o7 o8 : Obj} {sc : Addr}
set_option maxHeartbeats 8000000 in
theorem st12 (C : LawC w A base outer p loose mean mg mb g L Q s) {D cc : Addr} {oc : Obj} {x : Nat → Int} {ud : Nat → Tok} {tx : Str} {tt : Tok} {a : PplA} {ps : Array Value} (far : PplFar L a) (oD : CellOff L D) (oC : CellOff L cc) (c5 : CellV o5 (.ref a.l)) (c6 : CellN o6)
    (next : ∀ (Ti : Addr) (o6 : Obj), CellOff L Ti → CellV o6 (.ref Ti) →
      Go w A g L fa cd Q s 13 (m3 sc D tx tt) ((Ti, timesO a) :: (pplLed a ++ (D, listOf (intv x ud 7).toArray 7) :: (cc, oc) :: lawCells L o1 o2 o3 o4 o5 o6 o7 o8 (lawTabs #[] ps (lexPs cc))))) :
    Go w A g L fa cd Q s 12 (m3 sc D tx tt) (pplLed a ++ (D, listOf (intv x ud 7).toArray 7) :: (cc, oc) :: lawCells L o1 o2 o3 o4 o5 o6 o7 o8 (lawTabs #[] ps (lexPs cc))) := by
  (try unfold CellN at *)
  (try unfold CellV at *)
  refine ⟨fun h tk F N => ?_⟩
  have big := C.big
  have hdone := C.done
  have hSu := C.S
  revert next
  apply Setup.open hSu
  clear hSu C
  intro dpt grs uni hX hTp hBl hdp hun
  intro next
  dsimp only [lawD, dOf, LE, List.drop]
  have ⟨f1, f2, f3, f4, f5⟩ := far
  refine wpAny_execs_cons ?_
  have N0 := N
  dsimp only [pplLed, List.cons_append, List.nil_append] at N
  k_steps
  unfold Stop
  refine LCp.ListComp_P (F₀ := F) (by with_unfolding_all rfl) (by decide) (by rfl) (by decide) (by rfl) (by rfl) (by decide) ?_
  k_steps
  unfold Stop
  refine comp_second (items := [.ref a.p0, .ref a.p1, .ref a.p2, .ref a.p3]) (vals := momL a) rfl F N (.head _) (ppl_second fun q hq => ?pm) rfl (by show 4 ≤ 100; decide) rfl rfl (by decide) ?_
  case pm =>
    have : q ∈ pplLed a ++ (D, listOf (intv x ud 7).toArray 7) :: (cc, oc) :: lawCells L o1 o2 o3 o4 o5 o6 o7 o8 (lawTabs #[] ps (lexPs cc)) := List.mem_append_left _ hq
    exact this
  clear F N N0
  intro g2
  unfold LCg.FinE
  intro Ti h' tk' F N r1
  change News g L h' ((Ti, timesO a) :: _) at N
  have oT := CellOff.of (L := L) (a := Ti) fun q hq => off1_mem r1 q (.tail _ (.tail _ (.tail _ (.tail _ (.tail _ (.tail _ (.tail _ hq)))))))
  k_steps
  unfold Stop
  (rename Fr _ _ _ _ => F); (rename News _ _ _ _ => N)
  refine' (next Ti ?o oT ?e).cut F N ?hs
  case hs =>
    dsimp only [pplLed, List.cons_append, List.nil_append]
    k_extra "w my sub"
  case e => assumption
end
end
section
theorem resetL13 : (0 : Nat) = 0 := by
  w_top off
  k_with_none
  (k_with "w my pick" => (with_reducible first | assumption | exact lo1 | exact lo2 | exact lo3 | exact lo4 | exact ls1 (by assumption) | exact ls2 (by assumption) | exact ls3 (by assumption) | exact pk0 (by assumption) | exact pk1 (by assumption) | exact pk2 (by assumption) | exact pk3 (by assumption) | exact pk4 (by assumption) | exact pk5 (by assumption) | exact pk6 (by assumption) | exact pk7 (by assumption) | exact pk8 (by assumption) | exact pk9 (by assumption) | exact pk10 (by assumption) | exact pk11 (by assumption) | exact pk12 (by assumption) | exact pk13 (by assumption) | exact pk14 (by assumption) | exact pk15 (by assumption) | exact pk16 (by assumption) | exact pk17 (by assumption) | exact qk1 (by assumption) | exact qk2 (by assumption) | exact qk3 (by assumption) | exact qk4 (by assumption) | exact qk5 (by assumption) | exact qk6 (by assumption) | exact qk7 (by assumption) | exact qk8 (by assumption) | exact qk9 (by assumption) | exact qk10 (by assumption) | exact qk11 (by assumption) | exact qk12 (by assumption) | exact qk13 (by assumption) | exact qk14 (by assumption) | exact qk15 (by assumption) | exact qk16 (by assumption) | exact qk17 (by assumption)))
  (k_with "w my sml" => (with_reducible first | (refine Nat.ne_of_lt ?_; k_extra "w my pick") | (refine Nat.ne_of_gt ?_; k_extra "w my pick") | (refine Ne.symm ?_; k_extra "w my pick") | (refine id ?_; k_extra "w my pick") | (refine Nat.le_of_lt ?_; k_extra "w my pick") | exact lrefl | exact lzero | exact one_le | exact room0 (by assumption) | exact room (by assumption) (by decide) | exact room1 (by assumption) (by decide) | exact room2 (by assumption) (by decide) | exact room3 (by assumption) (by decide) | exact le_le (by assumption) (by decide) | exact le_sc (by assumption) | (refine above1' ?_ (by assumption); k_extra "w my pick") | (refine above2' ?_ (by assumption); k_extra "w my pick")))
  (k_with "w my om" => (first | k_extra "w my sml" | lia | omega))
  rfl
theorem rgL13x1 : (0 : Nat) = 0 := by
  (k_with "w my k_room" => ((try simp only [depth_under_make, depth_under_kw, depth_in1, depth_deeper]); (show _ < 1000); (try dsimp only); omega))
  (k_with "w my units_room" => ((try simp only [units_in1, units_deeper, Around.mark_units]); (show _ < 9900); (try dsimp only); omega))
  (k_with "w my small" => (first
  | (refine Sm.int ?_; (try simp only [Int.fmod_eq_emod_of_nonneg, Int.fdiv_eq_ediv_of_nonneg, Int.reduceLE]); omega)
  | (apply Sm.slice; k_extra "w my small")
  | (apply Sm.add <;> k_extra "w my small")
  | (apply Sm.ite <;> k_extra "w my small")
  | assumption
  | exact Sm.refl _))
  (k_with "w subscriptTail Name Slice str ref" => ((with_reducible show wpAny _ _ (subscriptTail _ (Expr.Slice (some _) none none _) (Value.str _ _) (Value.ref _)) _ _ _); dsimp only; (with_reducible rename Fr _ _ _ _ => F'); (with_reducible rename News _ _ _ _ => N'); (refine' slice_strN_sn (hsz := by (apply Sm.size <;> first | k_extra "w my small" | decide)) (s := ⟨_, _, _, _, _⟩) F' N' ?_); intro _ _ _ _ _))
  (k_with "w binaryOp Add str str" => ((with_reducible show wpAny _ _ (binaryOp Operator.Add (Value.str _ _) (Value.str _ _)) _ _ _); (refine' PyProof.Rows.add_str ?_ (by (apply Sm.size2 <;> first | k_extra "w my small" | decide))); intro _ _))
  (k_with "w ite" => ((with_reducible refine ite_strs ?_); intro _))
  (k_with "w my k_ne" => (first | exact Mine.CellOff.c1 (by with_reducible assumption) | exact Mine.CellOff.c2 (by with_reducible assumption) | exact Mine.CellOff.c3 (by with_reducible assumption) | exact Mine.CellOff.c4 (by with_reducible assumption) | exact Mine.CellOff.c5 (by with_reducible assumption) | exact Mine.CellOff.c6 (by with_reducible assumption) | exact Mine.CellOff.c7 (by with_reducible assumption) | exact Mine.CellOff.c8 (by with_reducible assumption) | exact Mine.CellOff.t1 (by with_reducible assumption) | exact Mine.CellOff.t2 (by with_reducible assumption) | exact Mine.CellOff.t3 (by with_reducible assumption)))
  (k_with "w my sub" => (with_reducible first
  | exact sub_id
  | (refine sub_keep ?_; k_extra "w my sub")
  | (refine sub_skip ?_; k_extra "w my sub")
  | exact sub_nil))
  (k_with "w ElEnd" => (refine stop_here ?_))
  (k_with "w subscriptTail" => (k_here; (with_reducible show wpAny _ _ (subscriptTail _ _ (Value.ref _) (Value.int (0 + ((_ : Nat) : Int)) _)) _ _ _); (first | (refine' Mine.item_intv (by k_asm) (by k_mem) (by assumption) (by decide) ?_ (by with_unfolding_all rfl)) | (refine' Mine.item_textv (by k_asm) (by k_mem) (by assumption) (by decide) ?_ (by with_unfolding_all rfl)))))
  (k_with "w subscriptTail Name Name ref int" => (k_here; (with_reducible show wpAny _ _ (subscriptTail _ _ (Value.ref _) (Value.int (0 + ((_ : Nat) : Int)) _)) _ _ _); (first | (refine' Mine.item_intv (by k_asm) (by k_mem) (by assumption) (by decide) ?_ (by with_unfolding_all rfl)) | (refine' Mine.item_textv (by k_asm) (by k_mem) (by assumption) (by decide) ?_ (by with_unfolding_all rfl)))))
  (k_with "w execs cons" => (refine stop_here ?_))
  rfl
section
variable {w : World} {A : Around} {base : Heap} {outer : List Env} {p : Program} {loose : List Str} {mean : ExcName → Option Value} {mg mb : Str → Option Value} {g : Heap} {L fa : Addr} {cd : Value} {Q : Flow → Shared → Prop} {s : Shared} {o1 o2 o3 o4 o5 o6 o7 o8 : Obj} {sc : Addr}
set_option maxHeartbeats 8000000 in
theorem st13 (C : LawC w A base outer p loose mean mg mb g L Q s) {D cc Ti : Addr} {oc : Obj} {x : Nat → Int} {ud : Nat → Tok} {tx : Str} {tt : Tok} {a : PplA} {ps : Array Value} (far : PplFar L a) (oD : CellOff L D) (oC : CellOff L cc) (oT : CellOff L Ti) (c7 : CellN o7)
    (next : ∀ (Co : Addr) (o7 : Obj), CellOff L Co → CellV o7 (.ref Co) →
      Go w A g L fa cd Q s 14 (m3 sc D tx tt) ((Co, costsO x ud) :: (Ti, timesO a) :: (pplLed a ++ (cc, oc) :: lawCells L o1 o2 o3 o4 o5 o6 o7 o8 (lawTabs #[] ps (lexPs cc))))) :
    Go w A g L fa cd Q s 13 (m3 sc D tx tt) ((Ti, timesO a) :: (pplLed a ++ (D, listOf (intv x ud 7).toArray 7) :: (cc, oc) :: lawCells L o1 o2 o3 o4 o5 o6 o7 o8 (lawTabs #[] ps (lexPs cc)))) := by
  (try unfold CellN at *)
  (try unfold CellV at *)
  refine ⟨fun h tk F N => ?_⟩
  have big := C.big
  have hdone := C.done
  have hSu := C.S
  revert next
  apply Setup.open hSu
  clear hSu C
  intro dpt grs uni hX hTp hBl hdp hun
  intro next
  dsimp only [lawD, dOf, LE, List.drop]
  have ⟨f1, f2, f3, f4, f5⟩ := far
  refine wpAny_execs_cons ?_
  dsimp only [pplLed, List.cons_append, List.nil_append] at N
  have hLs : @LT.lt Nat _ (L + 1 + 1 + 1 + 1 + 1 + 1 + 1 + 1) h.objs.size := Heap.lt_size (N _ (.tail _ (.tail _ (.tail _ (.tail _ (.tail _ (.tail _ (.tail _ (.tail _ (.head _)))))))))).1
  k_steps
  unfold Stop
  (rename Fr _ _ _ _ => F); (rename News _ _ _ _ => N)
  refine' (next ?Co ?o ?oC ?e).cut F N ?hs
  case hs =>
    dsimp only [pplLed, List.cons_append, List.nil_append]
    k_extra "w my sub"
  any_goals ((with_reducible show CellOff _ _); refine CellOff.gt big ?_ (Nat.le_refl _); k_extra "w my om")
  all_goals assumption
end
end
section
theorem resetL14 : (0 : Nat) = 0 := by
  w_top off
  k_with_none
  (k_with "w my pick" => (with_reducible first | assumption | exact lo1 | exact lo2 | exact lo3 | exact lo4 | exact ls1 (by assumption) | exact ls2 (by assumption) | exact ls3 (by assumption) | exact pk0 (by assumption) | exact pk1 (by assumption) | exact pk2 (by assumption) | exact pk3 (by assumption) | exact pk4 (by assumption) | exact pk5 (by assumption) | exact pk6 (by assumption) | exact pk7 (by assumption) | exact pk8 (by assumption) | exact pk9 (by assumption) | exact pk10 (by assumption) | exact pk11 (by assumption) | exact pk12 (by assumption) | exact pk13 (by assumption) | exact pk14 (by assumption) | exact pk15 (by assumption) | exact pk16 (by assumption) | exact pk17 (by assumption) | exact qk1 (by assumption) | exact qk2 (by assumption) | exact qk3 (by assumption) | exact qk4 (by assumption) | exact qk5 (by assumption) | exact qk6 (by assumption) | exact qk7 (by assumption) | exact qk8 (by assumption) | exact qk9 (by assumption) | exact qk10 (by assumption) | exact qk11 (by assumption) | exact qk12 (by assumption) | exact qk13 (by assumption) | exact qk14 (by assumption) | exact qk15 (by assumption) | exact qk16 (by assumption) | exact qk17 (by assumption)))
  (k_with "w my sml" => (with_reducible first | (refine Nat.ne_of_lt ?_; k_extra "w my pick") | (refine Nat.ne_of_gt ?_; k_extra "w my pick") | (refine Ne.symm ?_; k_extra "w my pick") | (refine id ?_; k_extra "w my pick") | (refine Nat.le_of_lt ?_; k_extra "w my pick") | exact lrefl | exact lzero | exact one_le | exact room0 (by assumption) | exact room (by assumption) (by decide) | exact room1 (by assumption) (by decide) | exact room2 (by assumption) (by decide) | exact room3 (by assumption) (by decide) | exact le_le (by assumption) (by decide) | exact le_sc (by assumption) | (refine above1' ?_ (by assumption); k_extra "w my pick") | (refine above2' ?_ (by assumption); k_extra "w my pick")))
  (k_with "w my om" => (first | k_extra "w my sml" | lia | omega))
  rfl
theorem rgL14x1 : (0 : Nat) = 0 := by
  (k_with "w my k_room" => ((try simp only [depth_under_make, depth_under_kw, depth_in1, depth_deeper]); (show _ < 1000); (try dsimp only); omega))
  (k_with "w my units_room" => ((try simp only [units_in1, units_deeper, Around.mark_units]); (show _ < 9900); (try dsimp only); omega))
  (k_with "w my small" => (first
  | (refine Sm.int ?_; (try simp only [Int.fmod_eq_emod_of_nonneg, Int.fdiv_eq_ediv_of_nonneg, Int.reduceLE]); omega)
  | (apply Sm.slice; k_extra "w my small")
  | (apply Sm.add <;> k_extra "w my small")
  | (apply Sm.ite <;> k_extra "w my small")
  | assumption
  | exact Sm.refl _))
  (k_with "w subscriptTail Name Slice str ref" => ((with_reducible show wpAny _ _ (subscriptTail _ (Expr.Slice (some _) none none _) (Value.str _ _) (Value.ref _)) _ _ _); dsimp only; (with_reducible rename Fr _ _ _ _ => F'); (with_reducible rename News _ _ _ _ => N'); (refine' slice_strN_sn (hsz := by (apply Sm.size <;> first | k_extra "w my small" | decide)) (s := ⟨_, _, _, _, _⟩) F' N' ?_); intro _ _ _ _ _))
  (k_with "w binaryOp Add str str" => ((with_reducible show wpAny _ _ (binaryOp Operator.Add (Value.str _ _) (Value.str _ _)) _ _ _); (refine' PyProof.Rows.add_str ?_ (by (apply Sm.size2 <;> first | k_extra "w my small" | decide))); intro _ _))
  (k_with "w ite" => ((with_reducible refine ite_strs ?_); intro _))
  (k_with "w my k_ne" => (first | exact Mine.CellOff.c1 (by with_reducible assumption) | exact Mine.CellOff.c2 (by with_reducible assumption) | exact Mine.CellOff.c3 (by with_reducible assumption) | exact Mine.CellOff.c4 (by with_reducible assumption) | exact Mine.CellOff.c5 (by with_reducible assumption) | exact Mine.CellOff.c6 (by with_reducible assumption) | exact Mine.CellOff.c7 (by with_reducible assumption) | exact Mine.CellOff.c8 (by with_reducible assumption) | exact Mine.CellOff.t1 (by with_reducible assumption) | exact Mine.CellOff.t2 (by with_reducible assumption) | exact Mine.CellOff.t3 (by with_reducible assumption)))
  (k_with "w my sub" => (with_reducible first
  | exact sub_id
  | (refine sub_keep ?_; k_extra "w my sub")
  | (refine sub_skip ?_; k_extra "w my sub")
  | exact sub_nil))
  (k_with "w ElEnd" => (refine stop_here ?_))
  (k_with "w subscriptTail" => (k_here; (with_reducible show wpAny _ _ (subscriptTail _ _ (Value.ref _) (Value.int (0 + ((_ : Nat) : Int)) _)) _ _ _); (first | (refine' Mine.item_intv (by k_asm) (by k_mem) (by assumption) (by decide) ?_ (by with_unfolding_all rfl)) | (refine' Mine.item_textv (by k_asm) (by k_mem) (by assumption) (by decide) ?_ (by with_unfolding_all rfl)))))
  (k_with "w subscriptTail Name Name ref int" => (k_here; (with_reducible show wpAny _ _ (subscriptTail _ _ (Value.ref _) (Value.int (0 + ((_ : Nat) : Int)) _)) _ _ _); (first | (refine' Mine.item_intv (by k_asm) (by k_mem) (by assumption) (by decide) ?_ (by with_unfolding_all rfl)) | (refine' Mine.item_textv (by k_asm) (by k_mem) (by assumption) (by decide) ?_ (by with_unfolding_all rfl)))))
  (k_with "w execs cons" => (refine stop_here ?_))
  (k_with "w eval ListComp" => (refine stop_here ?_))
  (k_with "w pyIter ref" => (refine stop_here ?_))
  (k_with "w CompSrc" => (refine stop_here ?_))
  rfl
section
variable {w : World} {A : Around} {base : Heap} {outer : List Env} {p : Program} {loose : List Str} {mean : ExcName → Option Value} {mg mb : Str → Option Value} {g : Heap} {L fa : Addr} {cd : Value} {Q : Flow → Shared → Prop} {s : Shared} {o1 o2 o3 o4 o5 o6 o7 o8 : Obj} {sc : Addr}
set_option maxHeartbeats 8000000 in
theorem st14 (C : LawC w A base outer p loose mean mg mb g L Q s) {D cc Ti Co : Addr} {oc : Obj} {x : Nat → Int} {ud : Nat → Tok} {tx : Str} {tt : Tok} {a : PplA} {ps : Array Value} (far : PplFar L a) (oC : CellOff L cc) (oT : CellOff L Ti) (oCo : CellOff L Co) (c6 : CellV o6 (.ref Ti)) (c7 : CellV o7 (.ref Co)) (c8 : CellN o8) {f : Nat → Int} (hf : dueF a (sumC x) (maxC x) = f)
    (next : ∀ (Du : Addr) (uv : Nat → Tok) (o8 : Obj), CellOff L Du → CellV o8 (.ref Du) →
      Go w A g L fa cd Q s 15 (m3 sc D tx tt) ((Du, dueO f uv) :: (Co, costsO x ud) :: (Ti, timesO a) :: (pplLed a ++ (cc, oc) :: lawCells L o1 o2 o3 o4 o5 o6 o7 o8 (lawTabs #[] ps (lexPs cc))))) :
    Go w A g L fa cd Q s 14 (m3 sc D tx tt) ((Co, costsO x ud) :: (Ti, timesO a) :: (pplLed a ++ (cc, oc) :: lawCells L o1 o2 o3 o4 o5 o6 o7 o8 (lawTabs #[] ps (lexPs cc)))) := by
  (try unfold CellN at *)
  (try unfold CellV at *)
  refine ⟨fun h tk F N => ?_⟩
  have big := C.big
  have hdone := C.done
  have hSu := C.S
  revert next
  apply Setup.open hSu
  clear hSu C
  intro dpt grs uni hX hTp hBl hdp hun
  intro next
  dsimp only [lawD, dOf, LE, List.drop]
  have ⟨f1, f2, f3, f4, f5⟩ := far
  refine wpAny_execs_cons ?_
  dsimp only [pplLed, List.cons_append, List.nil_append] at N
  k_steps
  unfold Stop
  refine ListComp_cell (by with_unfolding_all rfl) (by rfl) (by decide) ?_
  k_steps
  unfold Stop
  (rename Fr _ _ _ _ => F); (rename News _ _ _ _ => N); (rename IsRange _ _ _ _ _ _ _ _ => hR)
  refine comp_cell (n := 4) (x := Str.ofString "k") rfl F N hR (by decide) (by decide) (by decide) (fun _ => rfl) (fun _ => rfl) rfl (fun _ _ => by with_unfolding_all rfl) (fun j v => ∃ t, v = .int (f j) t) ?step ?fin
  case step =>
    clear F N
    intro i ys I oI B D2 K oK h tk t E' hi hyl hK F N r1 r2
    k_steps
    unfold Stop
    refine LCg.ListComp_U (F₀ := F) (by with_unfolding_all rfl) (by decide) (by rfl) (by decide) (by rfl) ?_
    k_steps
    unfold Stop
    (rename Fr _ _ _ _ => F); (rename News _ _ _ _ => N); (rename IsRange _ _ _ (0 + (i : Int) + 1) _ _ _ _ => hR2)
    have h4 : i = 0 ∨ i = 1 ∨ i = 2 ∨ i = 3 := lt4 (by assumption)
    refine LCg.CompSrc.range (n := i + 1) rfl F N hR2 (by rcases h4 with rfl | rfl | rfl | rfl <;> decide) (by rcases h4 with rfl | rfl | rfl | rfl <;> decide) (by rcases h4 with rfl | rfl | rfl | rfl <;> decide) ?_
    intro g3
    refine rest_same (fun j v => ∃ t, v = .int (inn a (sumC x) (maxC x) i j) t) trivial ?step2 ?fin2
    case step2 =>
      clear F N
      rintro j zs v I2 oI2 B2 oB2 D3 m₃ h tk E2 hj hzl hzs ⟨tv, rfl⟩ hn hv F N q1 q2
      have hj4 : j < 4 := by k_extra "w my om"
      k_steps
      unfold Stop
      (rename Fr _ _ _ _ => F); (rename News _ _ _ _ => N)
      rename_i k4 Mx t4 k5 ha hb
      obtain rfl : Mx = maxC x := max_of3 (by assumption) (by assumption)
      refine ElEnd.intro F N sub_id ⟨_, congrArg (fun z => Value.int z _) ?_⟩
      rw [show x 4 + (x 5 + (x 6 + 0)) = sumC x from by unfold sumC; k_extra "w my om", Int.zero_add, Int.zero_add]
      rfl
    case fin2 =>
      intro zs hzl hzs
      obtain ⟨uu, rfl⟩ := intv_of hzl fun j hj => (by obtain ⟨v, e, t, rfl⟩ := hzs j hj; exact ⟨t, e⟩)
      clear F N
      unfold LCg.FinE
      intro D3 h' tk' F N q1
      rcases h4 with rfl | rfl | rfl | rfl
      · change News g L h' ((D3, LCg.lst [.int (inn a (sumC x) (maxC x) 0 0) (uu 0)]) :: _) at N
        k_steps
        unfold Stop
        (rename Fr _ _ _ _ => F); (rename News _ _ _ _ => N)
        refine ElEnd.intro F N (sub_skip sub_id) ⟨_, congrArg (fun z => Value.int z _) ?_⟩
        rw [← hf]
        first | assumption | (show _ = inn a (sumC x) (maxC x) 0 0; k_extra "w my om")
      · change News g L h' ((D3, LCg.lst [.int (inn a (sumC x) (maxC x) 1 0) (uu 0), .int (inn a (sumC x) (maxC x) 1 1) (uu 1)]) :: _) at N
        k_steps
        unfold Stop
        (rename Fr _ _ _ _ => F); (rename News _ _ _ _ => N)
        refine ElEnd.intro F N (sub_skip sub_id) ⟨_, congrArg (fun z => Value.int z _) ?_⟩
        rw [← hf]
        exact max_of2 (by assumption) (by assumption)
      · change News g L h' ((D3, LCg.lst [.int (inn a (sumC x) (maxC x) 2 0) (uu 0), .int (inn a (sumC x) (maxC x) 2 1) (uu 1), .int (inn a (sumC x) (maxC x) 2 2) (uu 2)]) :: _) at N
        k_steps
        unfold Stop
        (rename Fr _ _ _ _ => F); (rename News _ _ _ _ => N)
        refine ElEnd.intro F N (sub_skip sub_id) ⟨_, congrArg (fun z => Value.int z _) ?_⟩
        rw [← hf]
        exact max_of3 (by assumption) (by assumption)
      · change News g L h' ((D3, LCg.lst [.int (inn a (sumC x) (maxC x) 3 0) (uu 0), .int (inn a (sumC x) (maxC x) 3 1) (uu 1), .int (inn a (sumC x) (maxC x) 3 2) (uu 2), .int (inn a (sumC x) (maxC x) 3 3) (uu 3)]) :: _) at N
        k_steps
        unfold Stop
        (rename Fr _ _ _ _ => F); (rename News _ _ _ _ => N)
        refine ElEnd.intro F N (sub_skip sub_id) ⟨_, congrArg (fun z => Value.int z _) ?_⟩
        rw [← hf]
        exact max_of4 (by assumption) (by assumption)
  case fin =>
    intro ys Du h' tk' hyl hys F N r1
    obtain ⟨uv, rfl⟩ := intv_of (x := f) hyl fun j hj => (by obtain ⟨v, e, t, rfl⟩ := hys j hj; exact ⟨t, e⟩)
    dsimp only [LCg.lst] at N
    rw [intv_len] at N
    have oD := CellOff.of (L := L) (a := Du) fun q hq => off1_mem r1 q (.tail _ (.tail _ (.tail _ (.tail _ (.tail _ (.tail _ (.tail _ (.tail _ hq))))))))
    k_steps
    unfold Stop
    (rename Fr _ _ _ _ => F); (rename News _ _ _ _ => N)
    refine Wp.run ?_
    refine' (next Du uv ?o oD ?e).cutW F N ?hs
    case hs =>
      dsimp only [pplLed, List.cons_append, List.nil_append]
      k_extra "w my sub"
    case e => assumption
end
end
section
theorem resetL15 : (0 : Nat) = 0 := by
  w_top off
  k_with_none
  (k_with "w my pick" => (with_reducible first | assumption | exact lo1 | exact lo2 | exact lo3 | exact lo4 | exact ls1 (by assumption) | exact ls2 (by assumption) | exact ls3 (by assumption) | exact pk0 (by assumption) | exact pk1 (by assumption) | exact pk2 (by assumption) | exact pk3 (by assumption) | exact pk4 (by assumption) | exact pk5 (by assumption) | exact pk6 (by assumption) | exact pk7 (by assumption) | exact pk8 (by assumption) | exact pk9 (by assumption) | exact pk10 (by assumption) | exact pk11 (by assumption) | exact pk12 (by assumption) | exact pk13 (by assumption) | exact pk14 (by assumption) | exact pk15 (by assumption) | exact pk16 (by assumption) | exact pk17 (by assumption) | exact qk1 (by assumption) | exact qk2 (by assumption) | exact qk3 (by assumption) | exact qk4 (by assumption) | exact qk5 (by assumption) | exact qk6 (by assumption) | exact qk7 (by assumption) | exact qk8 (by assumption) | exact qk9 (by assumption) | exact qk10 (by assumption) | exact qk11 (by assumption) | exact qk12 (by assumption) | exact qk13 (by assumption) | exact qk14 (by assumption) | exact qk15 (by assumption) | exact qk16 (by assumption) | exact qk17 (by assumption)))
  (k_with "w my sml" => (with_reducible first | (refine Nat.ne_of_lt ?_; k_extra "w my pick") | (refine Nat.ne_of_gt ?_; k_extra "w my pick") | (refine Ne.symm ?_; k_extra "w my pick") | (refine id ?_; k_extra "w my pick") | (refine Nat.le_of_lt ?_; k_extra "w my pick") | exact lrefl | exact lzero | exact one_le | exact room0 (by assumption) | exact room (by assumption) (by decide) | exact room1 (by assumption) (by decide) | exact room2 (by assumption) (by decide) | exact room3 (by assumption) (by decide) | exact le_le (by assumption) (by decide) | exact le_sc (by assumption) | (refine above1' ?_ (by assumption); k_extra "w my pick") | (refine above2' ?_ (by assumption); k_extra "w my pick")))
  (k_with "w my om" => (first | k_extra "w my sml" | lia | omega))
  rfl
theorem rgL15x1 : (0 : Nat) = 0 := by
  (k_with "w my k_room" => ((try simp only [depth_under_make, depth_under_kw, depth_in1, depth_deeper]); (show _ < 1000); (try dsimp only); omega))
  (k_with "w my units_room" => ((try simp only [units_in1, units_deeper, Around.mark_units]); (show _ < 9900); (try dsimp only); omega))
  (k_with "w my small" => (first
  | (refine Sm.int ?_; (try simp only [Int.fmod_eq_emod_of_nonneg, Int.fdiv_eq_ediv_of_nonneg, Int.reduceLE]); omega)
  | (apply Sm.slice; k_extra "w my small")
  | (apply Sm.add <;> k_extra "w my small")
  | (apply Sm.ite <;> k_extra "w my small")
  | assumption
  | exact Sm.refl _))
  (k_with "w subscriptTail Name Slice str ref" => ((with_reducible show wpAny _ _ (subscriptTail _ (Expr.Slice (some _) none none _) (Value.str _ _) (Value.ref _)) _ _ _); dsimp only; (with_reducible rename Fr _ _ _ _ => F'); (with_reducible rename News _ _ _ _ => N'); (refine' slice_strN_sn (hsz := by (apply Sm.size <;> first | k_extra "w my small" | decide)) (s := ⟨_, _, _, _, _⟩) F' N' ?_); intro _ _ _ _ _))
  (k_with "w binaryOp Add str str" => ((with_reducible show wpAny _ _ (binaryOp Operator.Add (Value.str _ _) (Value.str _ _)) _ _ _); (refine' PyProof.Rows.add_str ?_ (by (apply Sm.size2 <;> first | k_extra "w my small" | decide))); intro _ _))
  (k_with "w ite" => ((with_reducible refine ite_strs ?_); intro _))
  (k_with "w my k_ne" => (first | exact Mine.CellOff.c1 (by with_reducible assumption) | exact Mine.CellOff.c2 (by with_reducible assumption) | exact Mine.CellOff.c3 (by with_reducible assumption) | exact Mine.CellOff.c4 (by with_reducible assumption) | exact Mine.CellOff.c5 (by with_reducible assumption) | exact Mine.CellOff.c6 (by with_reducible assumption) | exact Mine.CellOff.c7 (by with_reducible assumption) | exact Mine.CellOff.c8 (by with_reducible assumption) | exact Mine.CellOff.t1 (by with_reducible assumption) | exact Mine.CellOff.t2 (by with_reducible assumption) | exact Mine.CellOff.t3 (by with_reducible assumption)))
  (k_with "w my sub" => (with_reducible first
  | exact sub_id
  | (refine sub_keep ?_; k_extra "w my sub")
  | (refine sub_skip ?_; k_extra "w my sub")
  | exact sub_nil))
  (k_with "w ElEnd" => (refine stop_here ?_))
  (k_with "w subscriptTail" => (k_here; (with_reducible show wpAny _ _ (subscriptTail _ _ (Value.ref _) (Value.int (0 + ((_ : Nat) : Int)) _)) _ _ _); (first | (refine' Mine.item_intv (by k_asm) (by k_mem) (by assumption) (by decide) ?_ (by with_unfolding_all rfl)) | (refine' Mine.item_textv (by k_asm) (by k_mem) (by assumption) (by decide) ?_ (by with_unfolding_all rfl)))))
  (k_with "w subscriptTail Name Name ref int" => (k_here; (with_reducible show wpAny _ _ (subscriptTail _ _ (Value.ref _) (Value.int (0 + ((_ : Nat) : Int)) _)) _ _ _); (first | (refine' Mine.item_intv (by k_asm) (by k_mem) (by assumption) (by decide) ?_ (by with_unfolding_all rfl)) | (refine' Mine.item_textv (by k_asm) (by k_mem) (by assumption) (by decide) ?_ (by with_unfolding_all rfl)))))
  (k_with "w execs cons" => (refine stop_here ?_))
  (k_with "w pyIter ref" => (refine stop_here ?_))
  (k_with "w exec For Name Name cons nil" => (refine stop_here ?_))
  (k_with "w eval ListComp" => (refine stop_here ?_))
  (k_with "w CompSrc" => (refine stop_here ?_))
  (k_with "w TurnEnd" => (refine stop_here ?_))
  (k_with "w compareOp NotEq ref ref" => (refine stop_here ?_))
  (k_with "w call ref" => ((with_reducible show wpAny _ _ (call (Value.ref 158) _ _) _ _ _); refine stop_here ?_))
  (k_with "w subscriptTail Name Name ref int" => ((with_reducible show wpAny _ _ (subscriptTail (Expr.Name _ _) (Expr.Name _ _) (Value.ref _) (Value.int ((_ : Nat) : Int) _)) _ _ _); refine stop_here ?_))
  rfl
/-- the order's list -/
noncomputable def OrdOk (led : List (Addr × Obj)) (v : Value) : Prop :=
  ∃ (O : Addr) (i0 i1 i2 : Nat) (t0 t1 t2 : Tok) (n : Nat), v = .ref O ∧ (O, listOf #[.int (i0 : Nat) t0, .int (i1 : Nat) t1, .int (i2 : Nat) t2] n) ∈ led ∧ (i0 < 3 ∧ i1 < 3 ∧ i2 < 3) ∧ (i0 ≠ i1 ∧ i0 ≠ i2 ∧ i1 ≠ i2)
theorem OrdOk.intro {led : List (Addr × Obj)} {O : Addr} {i0 i1 i2 : Nat} {t0 t1 t2 : Tok} {n : Nat} (m : (O, listOf #[.int (i0 : Nat) t0, .int (i1 : Nat) t1, .int (i2 : Nat) t2] n) ∈ led) (b : i0 < 3 ∧ i1 < 3 ∧ i2 < 3) (d : i0 ≠ i1 ∧ i0 ≠ i2 ∧ i1 ≠ i2) : OrdOk led (.ref O) := ⟨O, i0, i1, i2, t0, t1, t2, n, rfl, m, b, d⟩
/-- the people after j of an order's tills -/
noncomputable def outs (m : Nat → Int) (x : Nat → Int) (i0 i1 i2 : Nat) : Nat → Nat → Int
  | 0 => m
  | 1 => outF m (x (4 + i0))
  | 2 => outF (outF m (x (4 + i0))) (x (4 + i1))
  | _ => outF (outF (outF m (x (4 + i0))) (x (4 + i1))) (x (4 + i2))
/-- b are a's people, at the moments m -/
noncomputable def PplAt (a b : PplA) (m : Nat → Int) : Prop := b.y0 = a.y0 ∧ b.y1 = a.y1 ∧ b.y2 = a.y2 ∧ b.y3 = a.y3 ∧ ∀ j, j < 4 → mom b j = m j
theorem PplAt.self (a : PplA) : PplAt a a (mom a) := ⟨rfl, rfl, rfl, rfl, fun _ _ => rfl⟩
theorem PplAt.who {a b : PplA} {m : Nat → Int} (h : PplAt a b m) (j : Nat) : who b j = who a j := by
  obtain ⟨h0, h1, h2, h3, _⟩ := h
  unfold Mine.who
  rw [h0, h1, h2, h3]
theorem PplAt.out {a b d : PplA} {m : Nat → Int} {c : Int} (h : PplAt a b m) (hd : d.are b.y0 b.y1 b.y2 b.y3 (outT b c 0) (outT b c 1) (outT b c 2) (outT b c 3)) : PplAt a d (outF m c) := by
  obtain ⟨h0, h1, h2, h3, hm⟩ := h
  obtain ⟨y0, y1, y2, y3, k0, k1, k2, k3⟩ := hd
  refine ⟨y0.trans h0, y1.trans h1, y2.trans h2, y3.trans h3, fun j hj => ?_⟩
  have e : mom d j = outT b c j := by
    have : j = 0 ∨ j = 1 ∨ j = 2 ∨ j = 3 := lt4 (by assumption)
    rcases this with rfl | rfl | rfl | rfl <;> assumption
  rw [e, outT_outF]
  exact outF_congr fun i hi => hm i (by k_extra "w my om")
theorem outF_up (m : Nat → Int) {c : Int} (h : 0 ≤ c) (k : Nat) : outF m c k ≤ outF m c (k + 1) := by
  show _ ≤ max (outF m c k) (m (k + 1)) + c
  k_extra "w my om"
theorem outs_up {m x : Nat → Int} {i0 i1 i2 : Nat} (hm : ∀ k, k < 3 → m k ≤ m (k + 1)) (hx : ∀ j, j < 3 → 0 ≤ x (4 + j)) (h0 : i0 < 3) (h1 : i1 < 3) (h2 : i2 < 3) (j : Nat) : ∀ k, k < 3 → outs m x i0 i1 i2 j k ≤ outs m x i0 i1 i2 j (k + 1) := by
  intro k hk
  match j with
  | 0 => exact hm k hk
  | 1 => exact outF_up _ (hx _ h0) k
  | 2 => exact outF_up _ (hx _ h1) k
  | _ + 3 => exact outF_up _ (hx _ h2) k
noncomputable abbrev mTurn (sc D : Addr) (tx : Str) (tt : Tok) (u1 u2 u3 : Option Value) : Str → Option Value := fun y => if y = Str.ofString "people" then u1 else if y = Str.ofString "till" then u2 else if y = Str.ofString "order" then u3 else m3 sc D tx tt y
theorem turn_map (sc D : Addr) (tx : Str) (tt : Tok) (u1 u2 u3 p o : Option Value) (y : Str) : (if y = Str.ofString "people" then p else if y = Str.ofString "order" then o else mTurn sc D tx tt u1 u2 u3 y) = mTurn sc D tx tt p u2 o y := by
  have n1 : ¬ Str.ofString "till" = Str.ofString "order" := by decide
  by_cases h1 : y = Str.ofString "people"
  · simp [mTurn, h1]
  by_cases h2 : y = Str.ofString "till"
  · subst h2; simp [mTurn, h1, n1]
  by_cases h3 : y = Str.ofString "order"
  · simp only [mTurn, if_neg h1, if_neg h2, if_pos h3]
  · simp only [mTurn, if_neg h1, if_neg h2, if_neg h3]
theorem turn_map2 (sc D : Addr) (tx : Str) (tt : Tok) (u1 u2 u3 p o : Option Value) (y : Str) : (if y = Str.ofString "people" then p else if y = Str.ofString "till" then o else mTurn sc D tx tt u1 u2 u3 y) = mTurn sc D tx tt p o u3 y := by
  by_cases h1 : y = Str.ofString "people"
  · simp only [mTurn, if_pos h1]
  by_cases h2 : y = Str.ofString "till"
  · simp only [mTurn, if_neg h1, if_pos h2]
  · simp only [mTurn, if_neg h1, if_neg h2]
theorem ord_item {i0 i1 i2 j : Nat} {t0 t1 t2 : Tok} {v : Value} {m x : Nat → Int} (b0 : i0 < 3) (b1 : i1 < 3) (b2 : i2 < 3) (e : [Value.int (i0 : Nat) t0, .int (i1 : Nat) t1, .int (i2 : Nat) t2][j]? = some v) : ∃ (ij : Nat) (t : Tok), v = .int (ij : Nat) t ∧ ij < 3 ∧ j < 3 ∧ outs m x i0 i1 i2 (j + 1) = outF (outs m x i0 i1 i2 j) (x (4 + ij)) := by
  match j, e with
  | 0, e => exact ⟨i0, t0, (Option.some.inj e).symm, b0, by decide, rfl⟩
  | 1, e => exact ⟨i1, t1, (Option.some.inj e).symm, b1, by decide, rfl⟩
  | 2, e => exact ⟨i2, t2, (Option.some.inj e).symm, b2, by decide, rfl⟩
  | _ + 3, e => cases e
theorem costs_at {x : Nat → Int} {ud : Nat → Tok} {i : Nat} (h : i < 3) : [Value.int (x 4) (ud 4), .int (x 5) (ud 5), .int (x 6) (ud 6)][i]? = some (.int (x (4 + i)) (ud (4 + i))) := by
  have : i = 0 ∨ i = 1 ∨ i = 2 := lt3 (by assumption)
  rcases this with rfl | rfl | rfl <;> rfl
section
variable {w : World} {A : Around} {base : Heap} {outer : List Env} {p : Program} {loose : List Str} {mean : ExcName → Option Value} {mg mb : Str → Option Value} {g : Heap} {L fa : Addr} {cd : Value} {Q : Flow → Shared → Prop} {s : Shared} {o1 o2 o3 o4 o5 o6 o7 o8 : Obj} {sc : Addr}
set_option maxHeartbeats 8000000 in
theorem st15 (C : LawC w A base outer p loose mean mg mb g L Q s) {D cc Ti Co Du : Addr} {oc : Obj} {x f : Nat → Int} {ud uv : Nat → Tok} {tx : Str} {tt : Tok} {a : PplA} {ps : Array Value} (c5 : CellV o5 (.ref a.l)) (c6 : CellV o6 (.ref Ti)) (c7 : CellV o7 (.ref Co)) (c8 : CellV o8 (.ref Du))
    (hoc : ∃ vs t, oc.data = .fields vs ∧ vs[1]? = some (.str lexQual t)) (hx : ∀ j, j < 3 → 0 ≤ x (4 + j)) (hm : ∀ k, k < 3 → mom a k ≤ mom a (k + 1)) (hy : ∀ j, j < 4 → who a j ≠ Str.ofString "") (hf : ∀ j, j < 4 → f j = DF (mom a) (sumC x) (maxC x) j) (hstr : ∀ j, j < 4 → PyData.strOk (who a j) = true)
    (next : ∀ (u1 u2 u3 : Option Value), Go w A g L fa cd Q s 16 (mTurn sc D tx tt u1 u2 u3) ((Du, dueO f uv) :: (Co, costsO x ud) :: (Ti, timesO a) :: (pplLed a ++ (cc, oc) :: lawCells L o1 o2 o3 o4 o5 o6 o7 o8 (lawTabs #[] ps (lexPs cc))))) :
    Go w A g L fa cd Q s 15 (m3 sc D tx tt) ((Du, dueO f uv) :: (Co, costsO x ud) :: (Ti, timesO a) :: (pplLed a ++ (cc, oc) :: lawCells L o1 o2 o3 o4 o5 o6 o7 o8 (lawTabs #[] ps (lexPs cc)))) := by
  (try unfold CellN at *)
  (try unfold CellV at *)
  refine ⟨fun h tk F N => ?_⟩
  have big := C.big
  have hdone := C.done
  have hSu := C.S
  revert next
  apply Setup.open hSu
  clear hSu C
  intro dpt grs uni hX hTp hBl hdp hun
  intro next
  dsimp only [lawD, dOf, LE, List.drop]
  refine wpAny_execs_cons ?_
  dsimp only [pplLed, List.cons_append, List.nil_append] at N
  refine wpAny_For ?_
  k_steps
  unfold Stop
  (rename Fr _ _ _ _ => F); (rename News _ _ _ _ => N)
  rename_i A1 g1 q1 A2 g2 q2 A3 g3 q3 A4 g4 q4 A5 g5 q5 A6 g6 q6 A7 g7 q7
  generalize hLed : (_ :: _ : List (Addr × Obj)) = Led at N
  have mBase : ∀ q ∈ (Du, dueO f uv) :: (Co, costsO x ud) :: (Ti, timesO a) :: (pplLed a ++ (cc, oc) :: lawCells L o1 o2 o3 o4 o5 o6 o7 o8 (lawTabs #[] ps (lexPs cc))), q ∈ Led := fun q hq => by
    rw [← hLed]; exact .tail _ (.tail _ (.tail _ (.tail _ (.tail _ (.tail _ (.tail _ hq))))))
  have mList : (A7, listOf #[.ref A1, .ref A2, .ref A3, .ref A4, .ref A5, .ref A6] 0) ∈ Led := by rw [← hLed]; exact .head _
  have mOrd : ∀ (i : Nat) (v : Value), ([.ref A1, .ref A2, .ref A3, .ref A4, .ref A5, .ref A6] : List Value)[i]? = some v → OrdOk Led v := by
    intro i v e
    rw [← hLed]
    exact (each_cons (.intro (i0 := 0) (i1 := 1) (i2 := 2) (.tail _ (.tail _ (.tail _ (.tail _ (.tail _ (.tail _ (.head _))))))) (by decide) (by decide)) (each_cons (.intro (i0 := 0) (i1 := 2) (i2 := 1) (.tail _ (.tail _ (.tail _ (.tail _ (.tail _ (.head _)))))) (by decide) (by decide)) (each_cons (.intro (i0 := 1) (i1 := 0) (i2 := 2) (.tail _ (.tail _ (.tail _ (.tail _ (.head _))))) (by decide) (by decide)) (each_cons (.intro (i0 := 1) (i1 := 2) (i2 := 0) (.tail _ (.tail _ (.tail _ (.head _)))) (by decide) (by decide)) (each_cons (.intro (i0 := 2) (i1 := 0) (i2 := 1) (.tail _ (.tail _ (.head _))) (by decide) (by decide)) (each_cons (.intro (i0 := 2) (i1 := 1) (i2 := 0) (.tail _ (.head _)) (by decide) (by decide)) (each_nil)))))) : ∀ v ∈ ([.ref A1, .ref A2, .ref A3, .ref A4, .ref A5, .ref A6] : List Value), OrdOk _ v) v (List.mem_of_getElem? e)
  clear q1 q2 q3 q4 q5 q6 q7
  refine for_led (vs := [.ref A1, .ref A2, .ref A3, .ref A4, .ref A5, .ref A6]) (fun _ m news => (∃ u1 u2 u3, m = mTurn sc D tx tt u1 u2 u3) ∧ news = Led) rfl rfl rfl F N ?hl ?h0 ?turn ?done
  case hl =>
    rintro _ _ _ h ⟨_, rfl⟩ _ N
    exact N.isList mList
  case h0 =>
    refine ⟨⟨m3 sc D tx tt (Str.ofString "people"), m3 sc D tx tt (Str.ofString "till"), m3 sc D tx tt (Str.ofString "order"), funext fun y => ?_⟩, rfl⟩
    unfold mTurn
    by_cases h1 : y = Str.ofString "people"
    · rw [if_pos h1, h1]
    · rw [if_neg h1]
      by_cases h2 : y = Str.ofString "till"
      · rw [if_pos h2, h2]
      · rw [if_neg h2]
        by_cases h3 : y = Str.ofString "order"
        · rw [if_pos h3, h3]
        · rw [if_neg h3]
  case done =>
    clear F N
    rintro _ _ h tk ⟨⟨u1, u2, u3, rfl⟩, rfl⟩ F N
    dsimp only
    refine Wp.run ?_
    exact (next u1 u2 u3).cutW F N mBase
  case turn =>
    clear F N
    rintro i v m₁ news₁ h tk I oI hvi ⟨⟨u1, u2, u3, rfl⟩, rfl⟩ hO offI F N
    obtain ⟨O, i0, i1, i2, t0, t1, t2, n, rfl, hmO, ⟨b0, b1, b2⟩, ⟨d1, d2, d3⟩⟩ := mOrd _ _ hvi
    rw [← hLed] at N
    refine wpAny_execs_cons ?_
    k_steps
    unfold Stop
    refine wpAny_execs_cons ?_
    refine wpAny_For ?_
    k_steps
    unfold Stop
    (rename Fr _ _ _ _ => F); (rename News _ _ _ _ => N)
    rw [hLed] at N
    replace F := Fr.congr F (turn_map sc D tx tt u1 u2 u3 (some (.ref a.l)) (some (.ref O)))
    have hmu := outs_up (x := x) (i0 := i0) (i1 := i1) (i2 := i2) hm hx b0 b1 b2
    refine for_led (vs := [.int (i0 : Nat) t0, .int (i1 : Nat) t1, .int (i2 : Nat) t2]) (fun j m news => ∃ b u2, m = mTurn sc D tx tt (some (.ref b.l)) u2 (some (.ref O)) ∧ PplAt a b (outs (mom a) x i0 i1 i2 j) ∧ news = pplLed b ++ ((I, oI) :: news₁)) rfl rfl rfl F (fun q hq => N q ?hn2) ?hl2 ⟨a, u2, rfl, PplAt.self a, rfl⟩ ?turn2 ?done2
    case hn2 =>
      rcases List.mem_append.mp hq with hq | hq
      · exact .tail _ (mBase q (.tail _ (.tail _ (.tail _ (List.mem_append_left _ hq)))))
      · exact hq
    case hl2 =>
      rintro _ _ _ h ⟨b, u, rfl, hat, rfl⟩ _ N
      exact PyProof.Rows.News.isList N (List.mem_append_right _ (.tail _ hmO))
    case turn2 =>
      clear F N
      rintro j v m₁ news₂ h tk I2 oI2 hvj ⟨b, u, rfl, hat, rfl⟩ hO2 off2 F N
      obtain ⟨ij, tj, rfl, hij, hj3, hout⟩ := ord_item (m := mom a) (x := x) b0 b1 b2 hvj
      have N0 := Hid.mk N
      rw [← hLed] at N
      dsimp only [pplLed, List.cons_append, List.nil_append] at N
      refine wpAny_execs_cons ?_
      k_steps
      unfold Stop
      (rename Fr _ _ _ _ => F); (rename News _ _ _ _ => N)
      refine item_at (vs := [.int (x 4) (ud 4), .int (x 5) (ud 5), .int (x 6) (ud 6)]) (v := .int (x (4 + ij)) (ud (4 + ij))) (PyProof.Rows.News.isList N (by k_mem)) (Int.natCast_nonneg _) (by k_extra "w my om") (by rw [Int.toNat_natCast]; exact costs_at hij) ?_
      k_steps
      unfold Stop
      have N1 := N0.out
      obtain ⟨p0, p1, p2, p3, hmb⟩ := id hat
      have mono : ∀ k, k < 3 → mom b k ≤ mom b (k + 1) := fun k hk => by rw [hmb k (by k_extra "w my om"), hmb (k + 1) (by k_extra "w my om")]; exact hmu j k hk
      refine use (till_spec (Setup.down0 (n := 40) (A := ⟨none, _, some outer, _, _⟩) ⟨hX, hTp, hBl, rfl, by dsimp only; k_extra "w my om", by dsimp only; k_extra "w my om"⟩ F N1 rfl rfl) (fun b o e => of_hideAll _ e) b cc oc hoc
        (fun q hq => ?hn) (x (4 + ij)) _ (hx ij hij) (mono 0 (by decide)) (mono 1 (by decide)) (mono 2 (by decide)) (fun k hk => by rw [hat.who]; exact hy k hk)) F N1 (by first | exact each_nil | (refine each_cons ?_ each_nil; repeat (first | exact .head _ | refine .tail _ ?_)) | (refine each_cons ?_ (each_cons ?_ each_nil) <;> repeat (first | exact .head _ | refine .tail _ ?_)) | simp) ?_
      case hn =>
        have hm : q ∈ pplLed b ++ ((I, oI) :: news₁) ∨ False := by
          rcases List.mem_cons.mp hq with rfl | hq
          · exact .inl (List.mem_append_right _ (.tail _ (mBase _ (.tail _ (.tail _ (.tail _ (List.mem_append_right _ (.tail _ (.tail _ (.tail _ (.tail _ (.tail _ (.tail _ (.tail _ (.tail _ (.tail _ (.tail _ (.tail _ (.head _)))))))))))))))))))
          rcases List.mem_cons.mp hq with rfl | hq
          · exact .inl (List.mem_append_right _ (.tail _ (mBase _ (.tail _ (.tail _ (.tail _ (List.mem_append_right _ (.head _))))))))
          · exact .inl (List.mem_append_left _ hq)
        have hm := hm.resolve_right id
        exact ⟨N1.get (.tail _ hm), hideAll_none _ (List.mem_map_of_mem (.tail _ hm))⟩
      rintro _ h7 tk7 F7 N7 t7 ⟨d, rfl, are, Hd, hfd⟩
      dsimp only at F7 t7 hfd
      have N8 := ppl_news F (fun q hq => ⟨t7.2 _ _ (N1 q hq).1 (by simp), (N1 q hq).2⟩) Hd hfd
      clear N7 N F
      have hat2 : PplAt a d (outs (mom a) x i0 i1 i2 (j + 1)) := by rw [hout]; exact hat.out are
      have N9 := Hid.mk N8
      dsimp only at N8 ⊢
      rw [← hLed] at N8
      dsimp only [pplLed, List.cons_append, List.nil_append] at N8
      k_steps
      unfold Stop
      (rename Fr _ _ _ _ => F); (rename News _ _ _ _ => N)
      refine TurnEnd.goes (Fr.congr F (turn_map2 sc D tx tt (some (.ref b.l)) u (some (.ref O)) (some (.ref d.l)) (some (.int (ij : Nat) tj)))) (fun q hq => N q ?hq3) (fun q hq e => ?off3) ⟨d, _, rfl, hat2, rfl⟩
      case hq3 =>
        rcases List.mem_cons.mp hq with rfl | hq
        · exact .tail _ (.tail _ (.tail _ (.tail _ (.tail _ (.head _)))))
        rcases List.mem_append.mp (show q ∈ pplLed d ++ ((I, oI) :: news₁) from hq) with hq | hq
        · show q ∈ pplLed d ++ _
          exact List.mem_append_left _ hq
        rcases List.mem_cons.mp hq with rfl | hq
        · exact .tail _ (.tail _ (.tail _ (.tail _ (.tail _ (.tail _ (.tail _ (.tail _ (.tail _ (.tail _ (.tail _ (.head _)))))))))))
        · rw [← hLed] at hq; exact .tail _ (.tail _ (.tail _ (.tail _ (.tail _ (.tail _ (.tail _ (.tail _ (.tail _ (.tail _ (.tail _ (.tail _ (hq))))))))))))
      case off3 =>
        rcases List.mem_append.mp (show q ∈ pplLed d ++ ((I, oI) :: news₁) from hq) with hq | hq
        · have e1 := hfd q hq
          have e2 := (N1 _ (.head _)).1
          rw [e] at e1
          rw [e1] at e2
          cases e2
        · exact off2 q (List.mem_append_right _ hq) e
    case done2 =>
      clear F N
      rintro _ _ h tk ⟨b, u, rfl, hat, rfl⟩ F N
      have N0 := Hid.mk N
      rw [← hLed] at N
      dsimp only [pplLed, List.cons_append, List.nil_append] at N
      dsimp only
      k_steps
      unfold Stop
      refine wpAny_execs_cons ?_
      k_steps
      unfold Stop
      (rename Fr _ _ _ _ => F); (rename News _ _ _ _ => N)
      refine LCg.ListComp_U (F₀ := F) (by with_unfolding_all rfl) (by decide) (by rfl) (by decide) (by rfl) ?_
      k_steps
      unfold Stop
      (rename Fr _ _ _ _ => F); (rename News _ _ _ _ => N); (rename IsRange _ _ _ _ _ _ _ _ => hR)
      rw [hLed] at N
      have cell : ∀ q ∈ lawCells L o1 o2 o3 o4 o5 o6 o7 o8 (lawTabs #[] ps (lexPs cc)), q ∈ pplLed b ++ ((I, oI) :: news₁) := fun q hq => List.mem_append_right _ (.tail _ (mBase q (.tail _ (.tail _ (.tail _ (List.mem_append_right _ (.tail _ hq)))))))
      refine LCg.CompSrc.range (n := 4) (news := pplLed b ++ ((I, oI) :: news₁)) rfl F N hR (by decide) (by decide) (by decide) ?_
      intro g3
      refine rest_due (a := a) (Du := Du) (f := f) (uv := uv) (cell _ (.tail _ (.tail _ (.tail _ (.head _))))) c5 (fun q hq => List.mem_append_right _ (.tail _ (mBase q (.tail _ (.tail _ (.tail _ (List.mem_append_left _ hq))))))) (cell _ (.head _)) c8 (List.mem_append_right _ (.tail _ (mBase _ (.head _)))) rfl rfl (fun _ => rfl) (fun _ => rfl) ?_
      clear F N
      intro ys nw hsub hAll
      unfold LCg.FinE
      intro D2 h2 tk2 F N r1
      dsimp only [LCg.lst] at N
      k_steps
      unfold Stop
      have eo : ∀ j, j < 4 → mom b j = f j := fun j hj => by
        rw [hat.2.2.2.2 j hj, hf j hj]
        exact friedman (mom a) x b0 b1 b2 d1 d2 d3 j
      have ep : [(b.y0, b.k0), (b.y1, b.k1), (b.y2, b.k2), (b.y3, b.k3)] = [(who a 0, f 0), (who a 1, f 1), (who a 2, f 2), (who a 3, f 3)] := by
        rw [← hat.who 0, ← hat.who 1, ← hat.who 2, ← hat.who 3, ← eo 0 (by decide), ← eo 1 (by decide), ← eo 2 (by decide), ← eo 3 (by decide)]; rfl
      refine ne_ppl_no (a := b) N (fun q hq => .tail _ (hsub _ (List.mem_append_left _ hq))) (.head _) (paired_mono (fun v p ⟨a, t, u, e, hm⟩ => ⟨a, t, u, e, .tail _ hm⟩) hAll) ep ?hst (by units_room) ?_
      case hst =>
        intro p hp
        revert p hp
        refine each_cons ?_ (each_cons ?_ (each_cons ?_ (each_cons ?_ each_nil)))
        · exact hstr 0 (by decide)
        · exact hstr 1 (by decide)
        · exact hstr 2 (by decide)
        · exact hstr 3 (by decide)
      k_steps
      unfold Stop
      (rename Fr _ _ _ _ => F)
      refine TurnEnd.goes F (fun q hq => N q (.tail _ (hsub q (List.mem_append_right _ hq)))) offI ⟨⟨_, _, _, rfl⟩, rfl⟩
end
end
section
theorem resetL16 : (0 : Nat) = 0 := by
  w_top off
  k_with_none
  (k_with "w my pick" => (with_reducible first | assumption | exact lo1 | exact lo2 | exact lo3 | exact lo4 | exact ls1 (by assumption) | exact ls2 (by assumption) | exact ls3 (by assumption) | exact pk0 (by assumption) | exact pk1 (by assumption) | exact pk2 (by assumption) | exact pk3 (by assumption) | exact pk4 (by assumption) | exact pk5 (by assumption) | exact pk6 (by assumption) | exact pk7 (by assumption) | exact pk8 (by assumption) | exact pk9 (by assumption) | exact pk10 (by assumption) | exact pk11 (by assumption) | exact pk12 (by assumption) | exact pk13 (by assumption) | exact pk14 (by assumption) | exact pk15 (by assumption) | exact pk16 (by assumption) | exact pk17 (by assumption) | exact qk1 (by assumption) | exact qk2 (by assumption) | exact qk3 (by assumption) | exact qk4 (by assumption) | exact qk5 (by assumption) | exact qk6 (by assumption) | exact qk7 (by assumption) | exact qk8 (by assumption) | exact qk9 (by assumption) | exact qk10 (by assumption) | exact qk11 (by assumption) | exact qk12 (by assumption) | exact qk13 (by assumption) | exact qk14 (by assumption) | exact qk15 (by assumption) | exact qk16 (by assumption) | exact qk17 (by assumption)))
  (k_with "w my sml" => (with_reducible first | (refine Nat.ne_of_lt ?_; k_extra "w my pick") | (refine Nat.ne_of_gt ?_; k_extra "w my pick") | (refine Ne.symm ?_; k_extra "w my pick") | (refine id ?_; k_extra "w my pick") | (refine Nat.le_of_lt ?_; k_extra "w my pick") | exact lrefl | exact lzero | exact one_le | exact room0 (by assumption) | exact room (by assumption) (by decide) | exact room1 (by assumption) (by decide) | exact room2 (by assumption) (by decide) | exact room3 (by assumption) (by decide) | exact le_le (by assumption) (by decide) | exact le_sc (by assumption) | (refine above1' ?_ (by assumption); k_extra "w my pick") | (refine above2' ?_ (by assumption); k_extra "w my pick")))
  (k_with "w my om" => (first | k_extra "w my sml" | lia | omega))
  rfl
theorem rgL16x1 : (0 : Nat) = 0 := by
  (k_with "w my k_room" => ((try simp only [depth_under_make, depth_under_kw, depth_in1, depth_deeper]); (show _ < 1000); (try dsimp only); omega))
  (k_with "w my units_room" => ((try simp only [units_in1, units_deeper, Around.mark_units]); (show _ < 9900); (try dsimp only); omega))
  (k_with "w my small" => (first
  | (refine Sm.int ?_; (try simp only [Int.fmod_eq_emod_of_nonneg, Int.fdiv_eq_ediv_of_nonneg, Int.reduceLE]); omega)
  | (apply Sm.slice; k_extra "w my small")
  | (apply Sm.add <;> k_extra "w my small")
  | (apply Sm.ite <;> k_extra "w my small")
  | assumption
  | exact Sm.refl _))
  (k_with "w subscriptTail Name Slice str ref" => ((with_reducible show wpAny _ _ (subscriptTail _ (Expr.Slice (some _) none none _) (Value.str _ _) (Value.ref _)) _ _ _); dsimp only; (with_reducible rename Fr _ _ _ _ => F'); (with_reducible rename News _ _ _ _ => N'); (refine' slice_strN_sn (hsz := by (apply Sm.size <;> first | k_extra "w my small" | decide)) (s := ⟨_, _, _, _, _⟩) F' N' ?_); intro _ _ _ _ _))
  (k_with "w binaryOp Add str str" => ((with_reducible show wpAny _ _ (binaryOp Operator.Add (Value.str _ _) (Value.str _ _)) _ _ _); (refine' PyProof.Rows.add_str ?_ (by (apply Sm.size2 <;> first | k_extra "w my small" | decide))); intro _ _))
  (k_with "w ite" => ((with_reducible refine ite_strs ?_); intro _))
  (k_with "w my k_ne" => (first | exact Mine.CellOff.c1 (by with_reducible assumption) | exact Mine.CellOff.c2 (by with_reducible assumption) | exact Mine.CellOff.c3 (by with_reducible assumption) | exact Mine.CellOff.c4 (by with_reducible assumption) | exact Mine.CellOff.c5 (by with_reducible assumption) | exact Mine.CellOff.c6 (by with_reducible assumption) | exact Mine.CellOff.c7 (by with_reducible assumption) | exact Mine.CellOff.c8 (by with_reducible assumption) | exact Mine.CellOff.t1 (by with_reducible assumption) | exact Mine.CellOff.t2 (by with_reducible assumption) | exact Mine.CellOff.t3 (by with_reducible assumption)))
  (k_with "w my sub" => (with_reducible first
  | exact sub_id
  | (refine sub_keep ?_; k_extra "w my sub")
  | (refine sub_skip ?_; k_extra "w my sub")
  | exact sub_nil))
  (k_with "w ElEnd" => (refine stop_here ?_))
  (k_with "w subscriptTail" => (k_here; (with_reducible show wpAny _ _ (subscriptTail _ _ (Value.ref _) (Value.int (0 + ((_ : Nat) : Int)) _)) _ _ _); (first | (refine' Mine.item_intv (by k_asm) (by k_mem) (by assumption) (by decide) ?_ (by with_unfolding_all rfl)) | (refine' Mine.item_textv (by k_asm) (by k_mem) (by assumption) (by decide) ?_ (by with_unfolding_all rfl)))))
  (k_with "w subscriptTail Name Name ref int" => (k_here; (with_reducible show wpAny _ _ (subscriptTail _ _ (Value.ref _) (Value.int (0 + ((_ : Nat) : Int)) _)) _ _ _); (first | (refine' Mine.item_intv (by k_asm) (by k_mem) (by assumption) (by decide) ?_ (by with_unfolding_all rfl)) | (refine' Mine.item_textv (by k_asm) (by k_mem) (by assumption) (by decide) ?_ (by with_unfolding_all rfl)))))
  (k_with "w exec Assign cons ListComp" => (refine stop_here ?_))
  (k_with "w call type:enumerate" => (refine stop_here ?_))
  (k_with "w pyIter ref" => (refine stop_here ?_))
  (k_with "w execs cons" => (refine stop_here ?_))
  rfl
section
variable {w : World} {A : Around} {base : Heap} {outer : List Env} {p : Program} {loose : List Str} {mean : ExcName → Option Value} {mg mb : Str → Option Value} {g : Heap} {L fa : Addr} {cd : Value} {Q : Flow → Shared → Prop} {s : Shared} {o1 o2 o3 o4 o5 o6 o7 o8 : Obj} {sc : Addr}
set_option maxHeartbeats 1600000 in
theorem st16 (C : LawC w A base outer p loose mean mg mb g L Q s) {Ti Du cc : Addr} {oc : Obj} {f : Nat → Int} {uv : Nat → Tok} {a : PplA} {ps : Array Value} {m : Str → Option Value} (c6 : CellV o6 (.ref Ti)) (c8 : CellV o8 (.ref Du))
    (next : ∀ (La : Addr) (ys : List Value) (ex : List (Addr × Obj)), ys.length = 8 → All2 (PairII ex) ys (laidP (allT a f)) → (∀ q ∈ ex, q.2.cls = .type "tuple") →
      Go w A g L fa cd Q s 17 (fun z => if z = Str.ofString "laid" then some (.ref La) else m z) ((La, LCg.lst ys) :: (ex ++ (Du, dueO f uv) :: (Ti, timesO a) :: lawCells L o1 o2 o3 o4 o5 o6 o7 o8 (lawTabs #[] ps (lexPs cc))))) :
    Go w A g L fa cd Q s 16 m ((Du, dueO f uv) :: (Ti, timesO a) :: lawCells L o1 o2 o3 o4 o5 o6 o7 o8 (lawTabs #[] ps (lexPs cc))) := by
  (try unfold CellN at *)
  (try unfold CellV at *)
  refine ⟨fun h tk F N => ?_⟩
  have big := C.big
  have hdone := C.done
  have hSu := C.S
  revert next
  apply Setup.open hSu
  clear hSu C
  intro dpt grs uni hX hTp hBl hdp hun
  intro next
  dsimp only [lawD, dOf, LE, List.drop]
  refine wpAny_execs_cons ?_
  have i1 := intv_are (mom a) (momU a) 4
  have i2 := intv_are f uv 4
  k_steps
  unfold Stop
  refine Assign_comp (by with_unfolding_all rfl) (by with_unfolding_all rfl) (by rfl) (by decide) ?_
  k_steps
  unfold Stop
  (rename Fr _ _ _ _ => F); (rename News _ _ _ _ => N)
  rename_i Ds hs0 ls0
  change News g L hs0 ((Ds, listOf (intv (allT a f) (allU a uv) 8).toArray 0) :: _) at N
  refine call_enumerate_list (PyProof.Rows.News.isList N (.head _)) ?_
  intro h' hE hI hsz hk
  have hLs : @LT.lt Nat _ L hs0.objs.size := F.ns.lt
  refine comp_enum (e := hs0.objs.size + 1) (it := hs0.objs.size) (l := Ds) (items := intv (allT a f) (allU a uv) 8) (nl := 0) rfl (F.keeps hk) (fun q hq => ⟨hk _ _ (N q hq).1, (N q hq).2⟩) (.head _) (by rw [intv_len]; decide) hE hI (Nat.succ_ne_self _)
    ⟨Nat.ne_of_gt (Nat.lt_succ_of_lt hLs), Heap.get?_none_of_le (Nat.le_trans F.above (Nat.le_of_lt (Nat.lt_succ_of_lt hLs)))⟩ ⟨Nat.ne_of_gt hLs, Heap.get?_none_of_le (Nat.le_trans F.above (Nat.le_of_lt hLs))⟩
    (fun q hq => ⟨Nat.ne_of_lt (Nat.lt_succ_of_lt (Heap.lt_size (N q hq).1)), Nat.ne_of_lt (Heap.lt_size (N q hq).1)⟩) (by decide) rfl rfl rfl
    (fun i ys ex => All2 (PairII ex) ys ((List.range i).map fun j => (allT a f j, -(j : Int))) ∧ ∀ q ∈ ex, q.2.cls = .type "tuple") ⟨.nil, fun _ h => nomatch h⟩ ?step ?hRR
  case step =>
    clear F N
    rintro i ys ex C D oe oi oC x h tk t m₂ E' hi hyl ⟨hInv, hcx⟩ hx hnC hmb hma F N
    rw [intv_len] at hi
    rw [intv_get hi] at hx
    obtain rfl := Option.some.inj hx
    have nsC := hnC.ns (PyProof.Rows.News.get N (.tail _ (.tail _ (.head _))))
    refine Tuple_ (spliced_more (wpAny_Name (wpAny_loadName_local rfl rfl nsC hmb ?_)))
    refine spliced_more (UnaryOp_ (wpAny_Name (wpAny_loadName_local rfl rfl nsC (hma (by decide)) ?_)))
    refine PyProof.Rows.neg_int ?_
    refine spliced_none (newTuple_N F N (fun h3 F3 N3 => ?_) (by show 2 ≤ sizeLine; decide))
    refine ⟨h3, _, (h.objs.size, tup2 (.int (allT a f i) (allU a uv i)) (.int (-(i : Int)) tk)) :: ex, rfl, F3, fun q hq => N3 q ?_, fun q hq => ?_, ?_, fun q hq => ?_⟩
    · exact turn4 q hq
    · rcases List.mem_cons.mp hq with rfl | hq
      · exact .inr (Nat.le_refl _)
      · exact .inl hq
    · rw [List.range_succ, List.map_append]
      exact all2_app (paired_mono (fun v p ⟨a, t, u, e, hm⟩ => ⟨a, t, u, e, .tail _ hm⟩) hInv) (.cons ⟨_, allU a uv i, tk, rfl, .head _⟩ .nil)
    · rcases List.mem_cons.mp hq with rfl | hq
      · rfl
      · exact hcx q hq
  case hRR =>
    clear F N
    intro La C h tk m' ys ex hyl hInv F N hn hCL hC0 offC
    rw [intv_len] at hyl hInv
    refine' assign_post (L := L) ?hLe ?hy ?hp ?hF ?hN ?hn hCL hC0 ?hof ?hk
    case hLe => rfl
    case hy => rfl
    case hp => rfl
    case hF => exact F
    case hN => exact N
    case hn => exact hn
    case hof => exact offC
    clear F N hn offC
    intro h tk F N
    dsimp only
    refine Wp.run ?_
    refine (next La ys ex hyl hInv.1 hInv.2).cutW F N (sub_keep fun q hq => ?_)
    rcases List.mem_append.mp hq with hq | hq
    · exact List.mem_append_left _ hq
    · exact List.mem_append_right _ (.tail _ hq)
end
end
section
theorem resetL17 : (0 : Nat) = 0 := by
  w_top off
  k_with_none
  (k_with "w my pick" => (with_reducible first | assumption | exact lo1 | exact lo2 | exact lo3 | exact lo4 | exact ls1 (by assumption) | exact ls2 (by assumption) | exact ls3 (by assumption) | exact pk0 (by assumption) | exact pk1 (by assumption) | exact pk2 (by assumption) | exact pk3 (by assumption) | exact pk4 (by assumption) | exact pk5 (by assumption) | exact pk6 (by assumption) | exact pk7 (by assumption) | exact pk8 (by assumption) | exact pk9 (by assumption) | exact pk10 (by assumption) | exact pk11 (by assumption) | exact pk12 (by assumption) | exact pk13 (by assumption) | exact pk14 (by assumption) | exact pk15 (by assumption) | exact pk16 (by assumption) | exact pk17 (by assumption) | exact qk1 (by assumption) | exact qk2 (by assumption) | exact qk3 (by assumption) | exact qk4 (by assumption) | exact qk5 (by assumption) | exact qk6 (by assumption) | exact qk7 (by assumption) | exact qk8 (by assumption) | exact qk9 (by assumption) | exact qk10 (by assumption) | exact qk11 (by assumption) | exact qk12 (by assumption) | exact qk13 (by assumption) | exact qk14 (by assumption) | exact qk15 (by assumption) | exact qk16 (by assumption) | exact qk17 (by assumption)))
  (k_with "w my sml" => (with_reducible first | (refine Nat.ne_of_lt ?_; k_extra "w my pick") | (refine Nat.ne_of_gt ?_; k_extra "w my pick") | (refine Ne.symm ?_; k_extra "w my pick") | (refine id ?_; k_extra "w my pick") | (refine Nat.le_of_lt ?_; k_extra "w my pick") | exact lrefl | exact lzero | exact one_le | exact room0 (by assumption) | exact room (by assumption) (by decide) | exact room1 (by assumption) (by decide) | exact room2 (by assumption) (by decide) | exact room3 (by assumption) (by decide) | exact le_le (by assumption) (by decide) | exact le_sc (by assumption) | (refine above1' ?_ (by assumption); k_extra "w my pick") | (refine above2' ?_ (by assumption); k_extra "w my pick")))
  (k_with "w my om" => (first | k_extra "w my sml" | lia | omega))
  rfl
theorem rgL17x1 : (0 : Nat) = 0 := by
  (k_with "w my k_room" => ((try simp only [depth_under_make, depth_under_kw, depth_in1, depth_deeper]); (show _ < 1000); (try dsimp only); omega))
  (k_with "w my units_room" => ((try simp only [units_in1, units_deeper, Around.mark_units]); (show _ < 9900); (try dsimp only); omega))
  (k_with "w my small" => (first
  | (refine Sm.int ?_; (try simp only [Int.fmod_eq_emod_of_nonneg, Int.fdiv_eq_ediv_of_nonneg, Int.reduceLE]); omega)
  | (apply Sm.slice; k_extra "w my small")
  | (apply Sm.add <;> k_extra "w my small")
  | (apply Sm.ite <;> k_extra "w my small")
  | assumption
  | exact Sm.refl _))
  (k_with "w subscriptTail Name Slice str ref" => ((with_reducible show wpAny _ _ (subscriptTail _ (Expr.Slice (some _) none none _) (Value.str _ _) (Value.ref _)) _ _ _); dsimp only; (with_reducible rename Fr _ _ _ _ => F'); (with_reducible rename News _ _ _ _ => N'); (refine' slice_strN_sn (hsz := by (apply Sm.size <;> first | k_extra "w my small" | decide)) (s := ⟨_, _, _, _, _⟩) F' N' ?_); intro _ _ _ _ _))
  (k_with "w binaryOp Add str str" => ((with_reducible show wpAny _ _ (binaryOp Operator.Add (Value.str _ _) (Value.str _ _)) _ _ _); (refine' PyProof.Rows.add_str ?_ (by (apply Sm.size2 <;> first | k_extra "w my small" | decide))); intro _ _))
  (k_with "w ite" => ((with_reducible refine ite_strs ?_); intro _))
  (k_with "w my k_ne" => (first | exact Mine.CellOff.c1 (by with_reducible assumption) | exact Mine.CellOff.c2 (by with_reducible assumption) | exact Mine.CellOff.c3 (by with_reducible assumption) | exact Mine.CellOff.c4 (by with_reducible assumption) | exact Mine.CellOff.c5 (by with_reducible assumption) | exact Mine.CellOff.c6 (by with_reducible assumption) | exact Mine.CellOff.c7 (by with_reducible assumption) | exact Mine.CellOff.c8 (by with_reducible assumption) | exact Mine.CellOff.t1 (by with_reducible assumption) | exact Mine.CellOff.t2 (by with_reducible assumption) | exact Mine.CellOff.t3 (by with_reducible assumption)))
  (k_with "w my sub" => (with_reducible first
  | exact sub_id
  | (refine sub_keep ?_; k_extra "w my sub")
  | (refine sub_skip ?_; k_extra "w my sub")
  | exact sub_nil))
  (k_with "w ElEnd" => (refine stop_here ?_))
  (k_with "w subscriptTail" => (k_here; (with_reducible show wpAny _ _ (subscriptTail _ _ (Value.ref _) (Value.int (0 + ((_ : Nat) : Int)) _)) _ _ _); (first | (refine' Mine.item_intv (by k_asm) (by k_mem) (by assumption) (by decide) ?_ (by with_unfolding_all rfl)) | (refine' Mine.item_textv (by k_asm) (by k_mem) (by assumption) (by decide) ?_ (by with_unfolding_all rfl)))))
  (k_with "w subscriptTail Name Name ref int" => (k_here; (with_reducible show wpAny _ _ (subscriptTail _ _ (Value.ref _) (Value.int (0 + ((_ : Nat) : Int)) _)) _ _ _); (first | (refine' Mine.item_intv (by k_asm) (by k_mem) (by assumption) (by decide) ?_ (by with_unfolding_all rfl)) | (refine' Mine.item_textv (by k_asm) (by k_mem) (by assumption) (by decide) ?_ (by with_unfolding_all rfl)))))
  (k_with "w execs cons" => (refine stop_here ?_))
  (k_with "w call ref" => ((with_reducible show wpAny _ _ (call (Value.ref 165) _ _) _ _ _); refine stop_here ?_))
  rfl
theorem laid_at {ys : List Value} {ex : List (Addr × Obj)} {x : Nat → Int} (h : All2 (PairII ex) ys (laidP x)) (hl : ys.length = 8) {i : Nat} {v : Value} (e : ys[i]? = some v) : ∃ P t u, v = .ref P ∧ i < 8 ∧ (P, tup2 (.int (x i) t) (.int (-(i : Int)) u)) ∈ ex := by
  obtain ⟨p, e1, P, t, u, rfl, hm⟩ := all2_get h e
  have hi : i < 8 := by rw [← hl]; exact (List.getElem?_eq_some_iff.mp e).1
  unfold laidP at e1
  rw [List.getElem?_map, List.getElem?_range hi] at e1
  cases e1
  exact ⟨P, t, u, rfl, hi, hm⟩
section
variable {w : World} {A : Around} {base : Heap} {outer : List Env} {p : Program} {loose : List Str} {mean : ExcName → Option Value} {mg mb : Str → Option Value} {g : Heap} {L fa : Addr} {cd : Value} {Q : Flow → Shared → Prop} {s : Shared} {o1 o2 o3 o4 o5 o6 o7 o8 : Obj} {sc : Addr}
set_option maxHeartbeats 1600000 in
theorem st17 (C : LawC w A base outer p loose mean mg mb g L Q s) {Ti Du La cc : Addr} {f : Nat → Int} {uv : Nat → Tok} {a : PplA} {ps : Array Value} {m : Str → Option Value} {ys : List Value} {ex : List (Addr × Obj)} (hyl : ys.length = 8) (hys : All2 (PairII ex) ys (laidP (allT a f))) (hex : ∀ q ∈ ex, q.2.cls = .type "tuple")
    (next : ∀ (Ma : Addr) (ws : List Value) (js : List Nat) (n : Nat) (p1 : Array Value), All2 (fun v j => ys[j]? = some v) ws js → LRow (allT a f) 8 js →
      Go w A g L fa cd Q s 18 (fun z => if z = Str.ofString "marks" then some (.ref Ma) else if z = Str.ofString "laid" then some (.ref La) else m z) ((Ma, listOf ws.toArray n) :: (La, LCg.lst ys) :: (ex ++ (Du, dueO f uv) :: (Ti, timesO a) :: lawCells L o1 o2 o3 o4 o5 o6 o7 o8 (lawTabs p1 ps (lexPs cc))))) :
    Go w A g L fa cd Q s 17 (fun z => if z = Str.ofString "laid" then some (.ref La) else m z) ((La, LCg.lst ys) :: (ex ++ (Du, dueO f uv) :: (Ti, timesO a) :: lawCells L o1 o2 o3 o4 o5 o6 o7 o8 (lawTabs #[] ps (lexPs cc)))) := by
  (try unfold CellN at *)
  (try unfold CellV at *)
  refine ⟨fun h tk F N => ?_⟩
  have big := C.big
  have hdone := C.done
  have hSu := C.S
  revert next
  apply Setup.open hSu
  clear hSu C
  intro dpt grs uni hX hTp hBl hdp hun
  intro next
  dsimp only [lawD, dOf, LE, List.drop]
  refine wpAny_execs_cons ?_
  k_steps
  unfold Stop
  have mt : (160, tabObj #[]) ∈ (La, LCg.lst ys) :: (ex ++ (Du, dueO f uv) :: (Ti, timesO a) :: lawCells L o1 o2 o3 o4 o5 o6 o7 o8 (lawTabs #[] ps (lexPs cc))) :=
    .tail _ (List.mem_append_right _ (.tail _ (.tail _ (.tail _ (.tail _ (.tail _ (.tail _ (.tail _ (.tail _ (.tail _ (.tail _ (.head _))))))))))))
  refine use (marks_spec (x := allT a f) (vs := ys) (Setup.down0 (n := 20) (A := ⟨none, _, some outer, _, _⟩) ⟨hX, hTp, hBl, rfl, by dsimp only; k_extra "w my om", by dsimp only; k_extra "w my om"⟩ F N rfl rfl) (fun b o e => of_hideAll _ e) (N _ mt).1 (hideAll_none _ (List.mem_map_of_mem mt)) (N.isList (.head _)) (by rw [hyl]; decide) (fun i v e => ?hv)) F N ?hS ?_
  case hS =>
    intro z hz
    rw [List.mem_singleton.mp hz]
    exact List.mem_map_of_mem (f := (·.1)) mt
  case hv =>
    obtain ⟨P, t, u, rfl, hi, hm⟩ := laid_at hys hyl e
    exact ⟨P, _, t, rfl, _, (N _ (.tail _ (List.mem_append_left _ hm))).1, rfl, _, rfl⟩
  rintro _ h1 tk1 F1 _ t1 ⟨Ma, n, ws, js, rfl, hfr, hMa, hws, hjs, p1, he⟩
  dsimp only at F1 t1 hfr
  rw [hyl] at hjs
  have N2 : News g L h1 ((La, LCg.lst ys) :: (ex ++ (Du, dueO f uv) :: (Ti, timesO a) :: lawCells L o1 o2 o3 o4 o5 o6 o7 o8 (lawTabs p1 ps (lexPs cc)))) := by
    have ne : ∀ q ∈ (La, LCg.lst ys) :: (ex ++ (Du, dueO f uv) :: (Ti, timesO a) :: lawCells L o1 o2 o3 o4 o5 o6 o7 o8 (lawTabs #[] ps (lexPs cc))), q.1 ≠ 160 → h1.get? q.1 = some q.2 ∧ q.1 ≠ L ∧ g.get? q.1 = none := fun q hq hn => ⟨t1.2 _ _ (N q hq).1 (by simpa using hn), (N q hq).2⟩
    have nt : ∀ q ∈ (La, LCg.lst ys) :: (ex ++ (Du, dueO f uv) :: (Ti, timesO a) :: lawCells L o1 o2 o3 o4 o5 o6 o7 o8 (lawTabs #[] ps (lexPs cc))), q.2.cls ≠ .none → q.1 ≠ 160 := fun q hq hc e => by
      have e1 := (N q hq).1
      rw [e, (N _ mt).1] at e1
      rw [← Option.some.inj e1] at hc
      exact hc rfl
    intro q hq
    rcases List.mem_cons.mp hq with rfl | hq
    · exact ne _ (.head _) (nt _ (.head _) (by show Value.type "list" ≠ Value.none; exact fun e => nomatch e))
    rcases List.mem_append.mp hq with hq | hq
    · have hm := List.mem_cons_of_mem (La, LCg.lst ys) (List.mem_append_left ((Du, dueO f uv) :: (Ti, timesO a) :: lawCells L o1 o2 o3 o4 o5 o6 o7 o8 (lawTabs #[] ps (lexPs cc))) hq)
      exact ne q hm (nt q hm (by rw [hex q hq]; decide))
    have lift : ∀ r ∈ (Du, dueO f uv) :: (Ti, timesO a) :: lawCells L o1 o2 o3 o4 o5 o6 o7 o8 (lawTabs #[] ps (lexPs cc)), r ∈ (La, LCg.lst ys) :: (ex ++ (Du, dueO f uv) :: (Ti, timesO a) :: lawCells L o1 o2 o3 o4 o5 o6 o7 o8 (lawTabs #[] ps (lexPs cc))) := fun r hr => .tail _ (List.mem_append_right _ hr)
    rcases List.mem_cons.mp hq with rfl | hq
    · exact ne _ (lift _ (.head _)) (nt _ (lift _ (.head _)) (by show Value.type "list" ≠ Value.none; exact fun e => nomatch e))
    rcases List.mem_cons.mp hq with rfl | hq
    · exact ne _ (lift _ (.tail _ (.head _))) (nt _ (lift _ (.tail _ (.head _))) (by show Value.type "list" ≠ Value.none; exact fun e => nomatch e))
    have big' : @LT.lt Nat _ 160 L := big
    have cellne : ∀ r ∈ lawCells L o1 o2 o3 o4 o5 o6 o7 o8 [], r.1 ≠ 160 := fun r hr => by
      revert r hr
      refine each_cons ?_ (each_cons ?_ (each_cons ?_ (each_cons ?_ (each_cons ?_ (each_cons ?_ (each_cons ?_ (each_cons ?_ each_nil))))))) <;> (refine neN ?_; dsimp only; k_extra "w my om")
    have hq' : q ∈ lawCells L o1 o2 o3 o4 o5 o6 o7 o8 [] ++ lawTabs p1 ps (lexPs cc) := hq
    rcases List.mem_append.mp hq' with hq | hq
    · refine ne q (lift _ (.tail _ (.tail _ ?_))) (cellne q hq)
      show q ∈ lawCells L o1 o2 o3 o4 o5 o6 o7 o8 [] ++ lawTabs #[] ps (lexPs cc)
      exact List.mem_append_left _ hq
    rcases List.mem_cons.mp hq with rfl | hq
    · exact ⟨he, (N _ mt).2⟩
    have tl : ∀ r ∈ [(150, tabObj ps), (143, tabObj (lexPs cc))], r ∈ lawCells L o1 o2 o3 o4 o5 o6 o7 o8 (lawTabs #[] ps (lexPs cc)) := fun r hr => by
      show r ∈ lawCells L o1 o2 o3 o4 o5 o6 o7 o8 [] ++ lawTabs #[] ps (lexPs cc)
      exact List.mem_append_right _ (.tail _ hr)
    refine ne q (lift _ (.tail _ (.tail _ (tl q hq)))) ?_
    simp only [List.mem_cons, List.not_mem_nil, or_false] at hq
    rcases hq with rfl | rfl <;> (refine neN ?_; dsimp only; k_extra "w my om")
  have N3 := news_fresh F N2 hfr hMa
  clear N N2 F
  dsimp only
  k_steps
  unfold Stop
  (rename Fr _ _ _ _ => F); (rename News _ _ _ _ => N)
  refine Wp.run ?_
  exact (next Ma ws js n p1 hws hjs).cutW F N sub_id
end
end
section
theorem resetL18 : (0 : Nat) = 0 := by
  w_top off
  k_with_none
  (k_with "w my pick" => (with_reducible first | assumption | exact lo1 | exact lo2 | exact lo3 | exact lo4 | exact ls1 (by assumption) | exact ls2 (by assumption) | exact ls3 (by assumption) | exact pk0 (by assumption) | exact pk1 (by assumption) | exact pk2 (by assumption) | exact pk3 (by assumption) | exact pk4 (by assumption) | exact pk5 (by assumption) | exact pk6 (by assumption) | exact pk7 (by assumption) | exact pk8 (by assumption) | exact pk9 (by assumption) | exact pk10 (by assumption) | exact pk11 (by assumption) | exact pk12 (by assumption) | exact pk13 (by assumption) | exact pk14 (by assumption) | exact pk15 (by assumption) | exact pk16 (by assumption) | exact pk17 (by assumption) | exact qk1 (by assumption) | exact qk2 (by assumption) | exact qk3 (by assumption) | exact qk4 (by assumption) | exact qk5 (by assumption) | exact qk6 (by assumption) | exact qk7 (by assumption) | exact qk8 (by assumption) | exact qk9 (by assumption) | exact qk10 (by assumption) | exact qk11 (by assumption) | exact qk12 (by assumption) | exact qk13 (by assumption) | exact qk14 (by assumption) | exact qk15 (by assumption) | exact qk16 (by assumption) | exact qk17 (by assumption)))
  (k_with "w my sml" => (with_reducible first | (refine Nat.ne_of_lt ?_; k_extra "w my pick") | (refine Nat.ne_of_gt ?_; k_extra "w my pick") | (refine Ne.symm ?_; k_extra "w my pick") | (refine id ?_; k_extra "w my pick") | (refine Nat.le_of_lt ?_; k_extra "w my pick") | exact lrefl | exact lzero | exact one_le | exact room0 (by assumption) | exact room (by assumption) (by decide) | exact room1 (by assumption) (by decide) | exact room2 (by assumption) (by decide) | exact room3 (by assumption) (by decide) | exact le_le (by assumption) (by decide) | exact le_sc (by assumption) | (refine above1' ?_ (by assumption); k_extra "w my pick") | (refine above2' ?_ (by assumption); k_extra "w my pick")))
  (k_with "w my om" => (first | k_extra "w my sml" | lia | omega))
  rfl
theorem rgL18x1 : (0 : Nat) = 0 := by
  (k_with "w my k_room" => ((try simp only [depth_under_make, depth_under_kw, depth_in1, depth_deeper]); (show _ < 1000); (try dsimp only); omega))
  (k_with "w my units_room" => ((try simp only [units_in1, units_deeper, Around.mark_units]); (show _ < 9900); (try dsimp only); omega))
  (k_with "w my small" => (first
  | (refine Sm.int ?_; (try simp only [Int.fmod_eq_emod_of_nonneg, Int.fdiv_eq_ediv_of_nonneg, Int.reduceLE]); omega)
  | (apply Sm.slice; k_extra "w my small")
  | (apply Sm.add <;> k_extra "w my small")
  | (apply Sm.ite <;> k_extra "w my small")
  | assumption
  | exact Sm.refl _))
  (k_with "w subscriptTail Name Slice str ref" => ((with_reducible show wpAny _ _ (subscriptTail _ (Expr.Slice (some _) none none _) (Value.str _ _) (Value.ref _)) _ _ _); dsimp only; (with_reducible rename Fr _ _ _ _ => F'); (with_reducible rename News _ _ _ _ => N'); (refine' slice_strN_sn (hsz := by (apply Sm.size <;> first | k_extra "w my small" | decide)) (s := ⟨_, _, _, _, _⟩) F' N' ?_); intro _ _ _ _ _))
  (k_with "w binaryOp Add str str" => ((with_reducible show wpAny _ _ (binaryOp Operator.Add (Value.str _ _) (Value.str _ _)) _ _ _); (refine' PyProof.Rows.add_str ?_ (by (apply Sm.size2 <;> first | k_extra "w my small" | decide))); intro _ _))
  (k_with "w ite" => ((with_reducible refine ite_strs ?_); intro _))
  (k_with "w my k_ne" => (first | exact Mine.CellOff.c1 (by with_reducible assumption) | exact Mine.CellOff.c2 (by with_reducible assumption) | exact Mine.CellOff.c3 (by with_reducible assumption) | exact Mine.CellOff.c4 (by with_reducible assumption) | exact Mine.CellOff.c5 (by with_reducible assumption) | exact Mine.CellOff.c6 (by with_reducible assumption) | exact Mine.CellOff.c7 (by with_reducible assumption) | exact Mine.CellOff.c8 (by with_reducible assumption) | exact Mine.CellOff.t1 (by with_reducible assumption) | exact Mine.CellOff.t2 (by with_reducible assumption) | exact Mine.CellOff.t3 (by with_reducible assumption)))
  (k_with "w my sub" => (with_reducible first
  | exact sub_id
  | (refine sub_keep ?_; k_extra "w my sub")
  | (refine sub_skip ?_; k_extra "w my sub")
  | exact sub_nil))
  (k_with "w ElEnd" => (refine stop_here ?_))
  (k_with "w subscriptTail" => (k_here; (with_reducible show wpAny _ _ (subscriptTail _ _ (Value.ref _) (Value.int (0 + ((_ : Nat) : Int)) _)) _ _ _); (first | (refine' Mine.item_intv (by k_asm) (by k_mem) (by assumption) (by decide) ?_ (by with_unfolding_all rfl)) | (refine' Mine.item_textv (by k_asm) (by k_mem) (by assumption) (by decide) ?_ (by with_unfolding_all rfl)))))
  (k_with "w subscriptTail Name Name ref int" => (k_here; (with_reducible show wpAny _ _ (subscriptTail _ _ (Value.ref _) (Value.int (0 + ((_ : Nat) : Int)) _)) _ _ _); (first | (refine' Mine.item_intv (by k_asm) (by k_mem) (by assumption) (by decide) ?_ (by with_unfolding_all rfl)) | (refine' Mine.item_textv (by k_asm) (by k_mem) (by assumption) (by decide) ?_ (by with_unfolding_all rfl)))))
  (k_with "w execs cons" => (refine stop_here ?_))
  (k_with "w call builtin:sorted" => (refine stop_here ?_))
  (k_with "w compareOp NotEq ref ref" => (refine stop_here ?_))
  rfl
theorem reads_pairsI {h : Heap} {nw : List (Addr × Obj)} (N : ∀ q ∈ nw, h.get? q.1 = some q.2) : ∀ {ys : List Value} {ps : List (Int × Int)}, All2 (PairII nw) ys ps → ∃ as, ReadsAll h ys (ps.map pII) as := fun H => by
  induction H with
  | nil => exact ⟨_, .nil⟩
  | cons H _ ih =>
    obtain ⟨a, t, u, e, hm⟩ := H
    obtain ⟨as, hr⟩ := ih
    subst e
    exact ⟨_, .cons (.tuple (N _ hm) rfl rfl (.cons (.int _ _) (.cons (.int _ _) .nil))) hr⟩
theorem all2_imp {α β : Type} {R : Value → α → Prop} {S : Value → β → Prop} {f : α → β} {vs : List Value} {as : List α} (h : All2 R vs as) (g : ∀ v a, R v a → S v (f a)) : All2 S vs (as.map f) := by
  induction h with
  | nil => exact .nil
  | cons a _ ih => exact .cons (g _ _ a) ih
theorem all2_getD {ys ws : List Value} {js : List Nat} (h : All2 (fun v j => ys[j]? = some v) ws js) : (js.map fun i => ys.getD i Value.none) = ws := by
  induction h with
  | nil => rfl
  | cons a _ ih => rw [List.map_cons, ih]; simp [List.getD, a]
theorem laid_mem {ys : List Value} {ex : List (Addr × Obj)} {x : Nat → Int} (h : All2 (PairII ex) ys (laidP x)) (hl : ys.length = 8) {i : Nat} (hi : i < 8) : ∃ P t u, ys[i]? = some (.ref P) ∧ (P, tup2 (.int (x i) t) (.int (-(i : Int)) u)) ∈ ex := by
  have e : ys[i]? = some (ys[i]'(by k_extra "w my om")) := List.getElem?_eq_getElem (by k_extra "w my om")
  obtain ⟨p, e1, P, t, u, e2, hm⟩ := all2_get h e
  unfold laidP at e1
  rw [List.getElem?_map, List.getElem?_range hi] at e1
  cases e1
  exact ⟨P, t, u, by rw [e, e2], hm⟩
theorem marks_pairs {ys ws : List Value} {js : List Nat} {ex : List (Addr × Obj)} {x : Nat → Int} (h : All2 (PairII ex) ys (laidP x)) (hl : ys.length = 8) (hw : All2 (fun v j => ys[j]? = some v) ws js) : All2 (PairII ex) ws (js.map fun j => (x j, -(j : Int))) :=
  all2_imp hw fun v j e => by
    have hj : j < 8 := by rw [← hl]; exact (List.getElem?_eq_some_iff.mp e).1
    obtain ⟨P, t, u, e1, hm⟩ := laid_mem h hl hj
    rw [e1] at e
    exact ⟨P, t, u, (Option.some.inj e).symm, hm⟩
theorem ne_marks_no {prog : Program} {w : World} {A : Around} {E : Value → Shared → Prop} {s : Shared} {h₀ : Heap} {L Ma D : Addr} {nw ex : List (Addr × Obj)} {ws ys : List Value} {js : List Nat} {n c : Nat} {x : Nat → Int} {Q : Value → Shared → Prop} (N : News h₀ L s.heap nw) (hM : (Ma, listOf ws.toArray n) ∈ nw) (hD : (D, listOf (js.map fun i => ys.getD i .none).toArray c) ∈ nw) (hex : ∀ q ∈ ex, q ∈ nw)
    (h : All2 (PairII ex) ys (laidP x)) (hl : ys.length = 8) (hw : All2 (fun v j => ys[j]? = some v) ws js) (hu : A.units + 64 < cLine) (k : Q (.bool false) s) : wpAny (model prog w) A (compareOp .NotEq (.ref Ma) (.ref D)) Q E s := by
  rw [all2_getD hw] at hD
  obtain ⟨as, r⟩ := reads_pairsI (h := s.heap) (fun q hq => N.get (hex q hq)) (marks_pairs h hl hw)
  exact ne_flat_no (Reads.list (N.get hM) rfl rfl r) (Reads.list (N.get hD) rfl rfl r) (fun d hd => by obtain ⟨p, _, rfl⟩ := List.mem_map.mp hd; exact pII_flat p) hu k
section
variable {w : World} {A : Around} {base : Heap} {outer : List Env} {p : Program} {loose : List Str} {mean : ExcName → Option Value} {mg mb : Str → Option Value} {g : Heap} {L fa : Addr} {cd : Value} {Q : Flow → Shared → Prop} {s : Shared} {o1 o2 o3 o4 o5 o6 o7 o8 : Obj} {sc : Addr}
set_option maxHeartbeats 1600000 in
theorem st18 (C : LawC w A base outer p loose mean mg mb g L Q s) {Ma La : Addr} {x : Nat → Int} {m : Str → Option Value} {ys ws : List Value} {js : List Nat} {n : Nat} {ex oth : List (Addr × Obj)} (hyl : ys.length = 8) (hys : All2 (PairII ex) ys (laidP x))
    (hws : All2 (fun v j => ys[j]? = some v) ws js) (hjs : LRow x 8 js)
    (next : Go w A g L fa cd Q s 19 (fun z => if z = Str.ofString "marks" then some (.ref Ma) else if z = Str.ofString "laid" then some (.ref La) else m z) ((Ma, listOf ws.toArray n) :: (La, LCg.lst ys) :: (ex ++ oth))) :
    Go w A g L fa cd Q s 18 (fun z => if z = Str.ofString "marks" then some (.ref Ma) else if z = Str.ofString "laid" then some (.ref La) else m z) ((Ma, listOf ws.toArray n) :: (La, LCg.lst ys) :: (ex ++ oth)) := by
  (try unfold CellN at *)
  (try unfold CellV at *)
  refine ⟨fun h tk F N => ?_⟩
  have big := C.big
  have hdone := C.done
  have hSu := C.S
  revert next
  apply Setup.open hSu
  clear hSu C
  intro dpt grs uni hX hTp hBl hdp hun
  intro next
  dsimp only [lawD, dOf, LE, List.drop]
  refine wpAny_execs_cons ?_
  k_steps
  unfold Stop
  refine sorted_tups (vs := ys) (n := 8) (x := x) (b := fun i u => .int (-(i : Int)) u) (js := js) (l2 := fun i j => decide (-(i : Int) < -(j : Int))) F N (N.isList (.tail _ (.head _))) hyl (by decide) (by decide) (fun i hi => ?hH) (fun s' T => ans_ii T fun i j _ _ hij => by k_extra "w my om") (ord_int fun i j _ _ hij => by k_extra "w my om") hjs.1 (lex_row hjs) ?_
  case hH =>
    obtain ⟨P, t, u, e, hm⟩ := laid_mem hys hyl hi
    exact ⟨P, t, u, e, .tail _ (.tail _ (List.mem_append_left _ hm))⟩
  intro D h1 c F1 N1 lt
  clear F N
  dsimp only
  k_steps
  unfold Stop
  refine ne_marks_no (Q := _) N1 (.tail _ (.head _)) (.head _) (fun q hq => .tail _ (.tail _ (.tail _ (List.mem_append_left _ hq)))) hys hyl hws ?hun ?_
  case hun => units_room
  k_steps
  unfold Stop
  (rename Fr _ _ _ _ => F); (rename News _ _ _ _ => N)
  refine Wp.run ?_
  exact next.cutW F N fun q hq => .tail _ hq
end
end
section
theorem resetL19 : (0 : Nat) = 0 := by
  w_top off
  k_with_none
  (k_with "w my pick" => (with_reducible first | assumption | exact lo1 | exact lo2 | exact lo3 | exact lo4 | exact ls1 (by assumption) | exact ls2 (by assumption) | exact ls3 (by assumption) | exact pk0 (by assumption) | exact pk1 (by assumption) | exact pk2 (by assumption) | exact pk3 (by assumption) | exact pk4 (by assumption) | exact pk5 (by assumption) | exact pk6 (by assumption) | exact pk7 (by assumption) | exact pk8 (by assumption) | exact pk9 (by assumption) | exact pk10 (by assumption) | exact pk11 (by assumption) | exact pk12 (by assumption) | exact pk13 (by assumption) | exact pk14 (by assumption) | exact pk15 (by assumption) | exact pk16 (by assumption) | exact pk17 (by assumption) | exact qk1 (by assumption) | exact qk2 (by assumption) | exact qk3 (by assumption) | exact qk4 (by assumption) | exact qk5 (by assumption) | exact qk6 (by assumption) | exact qk7 (by assumption) | exact qk8 (by assumption) | exact qk9 (by assumption) | exact qk10 (by assumption) | exact qk11 (by assumption) | exact qk12 (by assumption) | exact qk13 (by assumption) | exact qk14 (by assumption) | exact qk15 (by assumption) | exact qk16 (by assumption) | exact qk17 (by assumption)))
  (k_with "w my sml" => (with_reducible first | (refine Nat.ne_of_lt ?_; k_extra "w my pick") | (refine Nat.ne_of_gt ?_; k_extra "w my pick") | (refine Ne.symm ?_; k_extra "w my pick") | (refine id ?_; k_extra "w my pick") | (refine Nat.le_of_lt ?_; k_extra "w my pick") | exact lrefl | exact lzero | exact one_le | exact room0 (by assumption) | exact room (by assumption) (by decide) | exact room1 (by assumption) (by decide) | exact room2 (by assumption) (by decide) | exact room3 (by assumption) (by decide) | exact le_le (by assumption) (by decide) | exact le_sc (by assumption) | (refine above1' ?_ (by assumption); k_extra "w my pick") | (refine above2' ?_ (by assumption); k_extra "w my pick")))
  (k_with "w my om" => (first | k_extra "w my sml" | lia | omega))
  rfl
theorem rgL19x1 : (0 : Nat) = 0 := by
  (k_with "w my k_room" => ((try simp only [depth_under_make, depth_under_kw, depth_in1, depth_deeper]); (show _ < 1000); (try dsimp only); omega))
  (k_with "w my units_room" => ((try simp only [units_in1, units_deeper, Around.mark_units]); (show _ < 9900); (try dsimp only); omega))
  (k_with "w my small" => (first
  | (refine Sm.int ?_; (try simp only [Int.fmod_eq_emod_of_nonneg, Int.fdiv_eq_ediv_of_nonneg, Int.reduceLE]); omega)
  | (apply Sm.slice; k_extra "w my small")
  | (apply Sm.add <;> k_extra "w my small")
  | (apply Sm.ite <;> k_extra "w my small")
  | assumption
  | exact Sm.refl _))
  (k_with "w subscriptTail Name Slice str ref" => ((with_reducible show wpAny _ _ (subscriptTail _ (Expr.Slice (some _) none none _) (Value.str _ _) (Value.ref _)) _ _ _); dsimp only; (with_reducible rename Fr _ _ _ _ => F'); (with_reducible rename News _ _ _ _ => N'); (refine' slice_strN_sn (hsz := by (apply Sm.size <;> first | k_extra "w my small" | decide)) (s := ⟨_, _, _, _, _⟩) F' N' ?_); intro _ _ _ _ _))
  (k_with "w binaryOp Add str str" => ((with_reducible show wpAny _ _ (binaryOp Operator.Add (Value.str _ _) (Value.str _ _)) _ _ _); (refine' PyProof.Rows.add_str ?_ (by (apply Sm.size2 <;> first | k_extra "w my small" | decide))); intro _ _))
  (k_with "w ite" => ((with_reducible refine ite_strs ?_); intro _))
  (k_with "w my k_ne" => (first | exact Mine.CellOff.c1 (by with_reducible assumption) | exact Mine.CellOff.c2 (by with_reducible assumption) | exact Mine.CellOff.c3 (by with_reducible assumption) | exact Mine.CellOff.c4 (by with_reducible assumption) | exact Mine.CellOff.c5 (by with_reducible assumption) | exact Mine.CellOff.c6 (by with_reducible assumption) | exact Mine.CellOff.c7 (by with_reducible assumption) | exact Mine.CellOff.c8 (by with_reducible assumption) | exact Mine.CellOff.t1 (by with_reducible assumption) | exact Mine.CellOff.t2 (by with_reducible assumption) | exact Mine.CellOff.t3 (by with_reducible assumption)))
  (k_with "w my sub" => (with_reducible first
  | exact sub_id
  | (refine sub_keep ?_; k_extra "w my sub")
  | (refine sub_skip ?_; k_extra "w my sub")
  | exact sub_nil))
  (k_with "w ElEnd" => (refine stop_here ?_))
  (k_with "w subscriptTail" => (k_here; (with_reducible show wpAny _ _ (subscriptTail _ _ (Value.ref _) (Value.int (0 + ((_ : Nat) : Int)) _)) _ _ _); (first | (refine' Mine.item_intv (by k_asm) (by k_mem) (by assumption) (by decide) ?_ (by with_unfolding_all rfl)) | (refine' Mine.item_textv (by k_asm) (by k_mem) (by assumption) (by decide) ?_ (by with_unfolding_all rfl)))))
  (k_with "w subscriptTail Name Name ref int" => (k_here; (with_reducible show wpAny _ _ (subscriptTail _ _ (Value.ref _) (Value.int (0 + ((_ : Nat) : Int)) _)) _ _ _); (first | (refine' Mine.item_intv (by k_asm) (by k_mem) (by assumption) (by decide) ?_ (by with_unfolding_all rfl)) | (refine' Mine.item_textv (by k_asm) (by k_mem) (by assumption) (by decide) ?_ (by with_unfolding_all rfl)))))
  (k_with "w execs cons" => (refine stop_here ?_))
  rfl
section
variable {w : World} {A : Around} {base : Heap} {outer : List Env} {p : Program} {loose : List Str} {mean : ExcName → Option Value} {mg mb : Str → Option Value} {g : Heap} {L fa : Addr} {cd : Value} {Q : Flow → Shared → Prop} {s : Shared} {o1 o2 o3 o4 o5 o6 o7 o8 : Obj} {sc : Addr}
set_option maxHeartbeats 1600000 in
theorem st19 (C : LawC w A base outer p loose mean mg mb g L Q s) {m : Str → Option Value} {led led' : List (Addr × Obj)} (hs : ∀ q ∈ led', q ∈ led)
    (next : ∀ t, Go w A g L fa cd Q s 20 (fun z => if z = Str.ofString "stay" then some (.int 0 t) else m z) led') :
    Go w A g L fa cd Q s 19 m led := by
  refine ⟨fun h tk F N => ?_⟩
  have big := C.big
  have hdone := C.done
  have hSu := C.S
  revert next
  apply Setup.open hSu
  clear hSu C
  intro dpt grs uni hX hTp hBl hdp hun
  intro next
  dsimp only [lawD, dOf, LE, List.drop]
  refine wpAny_execs_cons ?_
  k_steps
  unfold Stop
  (rename Fr _ _ _ _ => F); (rename News _ _ _ _ => N)
  refine Wp.run ?_
  exact (next _).cutW F N hs
end
end
section
theorem resetL20 : (0 : Nat) = 0 := by
  w_top off
  k_with_none
  (k_with "w my pick" => (with_reducible first | assumption | exact lo1 | exact lo2 | exact lo3 | exact lo4 | exact ls1 (by assumption) | exact ls2 (by assumption) | exact ls3 (by assumption) | exact pk0 (by assumption) | exact pk1 (by assumption) | exact pk2 (by assumption) | exact pk3 (by assumption) | exact pk4 (by assumption) | exact pk5 (by assumption) | exact pk6 (by assumption) | exact pk7 (by assumption) | exact pk8 (by assumption) | exact pk9 (by assumption) | exact pk10 (by assumption) | exact pk11 (by assumption) | exact pk12 (by assumption) | exact pk13 (by assumption) | exact pk14 (by assumption) | exact pk15 (by assumption) | exact pk16 (by assumption) | exact pk17 (by assumption) | exact qk1 (by assumption) | exact qk2 (by assumption) | exact qk3 (by assumption) | exact qk4 (by assumption) | exact qk5 (by assumption) | exact qk6 (by assumption) | exact qk7 (by assumption) | exact qk8 (by assumption) | exact qk9 (by assumption) | exact qk10 (by assumption) | exact qk11 (by assumption) | exact qk12 (by assumption) | exact qk13 (by assumption) | exact qk14 (by assumption) | exact qk15 (by assumption) | exact qk16 (by assumption) | exact qk17 (by assumption)))
  (k_with "w my sml" => (with_reducible first | (refine Nat.ne_of_lt ?_; k_extra "w my pick") | (refine Nat.ne_of_gt ?_; k_extra "w my pick") | (refine Ne.symm ?_; k_extra "w my pick") | (refine id ?_; k_extra "w my pick") | (refine Nat.le_of_lt ?_; k_extra "w my pick") | exact lrefl | exact lzero | exact one_le | exact room0 (by assumption) | exact room (by assumption) (by decide) | exact room1 (by assumption) (by decide) | exact room2 (by assumption) (by decide) | exact room3 (by assumption) (by decide) | exact le_le (by assumption) (by decide) | exact le_sc (by assumption) | (refine above1' ?_ (by assumption); k_extra "w my pick") | (refine above2' ?_ (by assumption); k_extra "w my pick")))
  (k_with "w my om" => (first | k_extra "w my sml" | lia | omega))
  rfl
theorem rgL20x1 : (0 : Nat) = 0 := by
  (k_with "w my k_room" => ((try simp only [depth_under_make, depth_under_kw, depth_in1, depth_deeper]); (show _ < 1000); (try dsimp only); omega))
  (k_with "w my units_room" => ((try simp only [units_in1, units_deeper, Around.mark_units]); (show _ < 9900); (try dsimp only); omega))
  (k_with "w my small" => (first
  | (refine Sm.int ?_; (try simp only [Int.fmod_eq_emod_of_nonneg, Int.fdiv_eq_ediv_of_nonneg, Int.reduceLE]); omega)
  | (apply Sm.slice; k_extra "w my small")
  | (apply Sm.add <;> k_extra "w my small")
  | (apply Sm.ite <;> k_extra "w my small")
  | assumption
  | exact Sm.refl _))
  (k_with "w subscriptTail Name Slice str ref" => ((with_reducible show wpAny _ _ (subscriptTail _ (Expr.Slice (some _) none none _) (Value.str _ _) (Value.ref _)) _ _ _); dsimp only; (with_reducible rename Fr _ _ _ _ => F'); (with_reducible rename News _ _ _ _ => N'); (refine' slice_strN_sn (hsz := by (apply Sm.size <;> first | k_extra "w my small" | decide)) (s := ⟨_, _, _, _, _⟩) F' N' ?_); intro _ _ _ _ _))
  (k_with "w binaryOp Add str str" => ((with_reducible show wpAny _ _ (binaryOp Operator.Add (Value.str _ _) (Value.str _ _)) _ _ _); (refine' PyProof.Rows.add_str ?_ (by (apply Sm.size2 <;> first | k_extra "w my small" | decide))); intro _ _))
  (k_with "w ite" => ((with_reducible refine ite_strs ?_); intro _))
  (k_with "w my k_ne" => (first | exact Mine.CellOff.c1 (by with_reducible assumption) | exact Mine.CellOff.c2 (by with_reducible assumption) | exact Mine.CellOff.c3 (by with_reducible assumption) | exact Mine.CellOff.c4 (by with_reducible assumption) | exact Mine.CellOff.c5 (by with_reducible assumption) | exact Mine.CellOff.c6 (by with_reducible assumption) | exact Mine.CellOff.c7 (by with_reducible assumption) | exact Mine.CellOff.c8 (by with_reducible assumption) | exact Mine.CellOff.t1 (by with_reducible assumption) | exact Mine.CellOff.t2 (by with_reducible assumption) | exact Mine.CellOff.t3 (by with_reducible assumption)))
  (k_with "w my sub" => (with_reducible first
  | exact sub_id
  | (refine sub_keep ?_; k_extra "w my sub")
  | (refine sub_skip ?_; k_extra "w my sub")
  | exact sub_nil))
  (k_with "w ElEnd" => (refine stop_here ?_))
  (k_with "w subscriptTail" => (k_here; (with_reducible show wpAny _ _ (subscriptTail _ _ (Value.ref _) (Value.int (0 + ((_ : Nat) : Int)) _)) _ _ _); (first | (refine' Mine.item_intv (by k_asm) (by k_mem) (by assumption) (by decide) ?_ (by with_unfolding_all rfl)) | (refine' Mine.item_textv (by k_asm) (by k_mem) (by assumption) (by decide) ?_ (by with_unfolding_all rfl)))))
  (k_with "w subscriptTail Name Name ref int" => (k_here; (with_reducible show wpAny _ _ (subscriptTail _ _ (Value.ref _) (Value.int (0 + ((_ : Nat) : Int)) _)) _ _ _); (first | (refine' Mine.item_intv (by k_asm) (by k_mem) (by assumption) (by decide) ?_ (by with_unfolding_all rfl)) | (refine' Mine.item_textv (by k_asm) (by k_mem) (by assumption) (by decide) ?_ (by with_unfolding_all rfl)))))
  (k_with "w execs cons" => (refine stop_here ?_))
  (k_with "w binaryOp Mult int int" => (refine stop_here ?_))
  (k_with "w pyIter ref" => (refine stop_here ?_))
  (k_with "w TurnEnd" => (refine stop_here ?_))
  (k_with "w call ref" => ((with_reducible show wpAny _ _ (call (Value.ref 62) _ _) _ _ _); refine stop_here ?_))
  (k_with "w subscriptTail Name Name ref int" => (refine stop_here ?_))
  (k_with "w subscriptTail Name Constant ref int" => (refine stop_here ?_))
  (k_with "w subscriptTail Name BinOp ref int" => (refine stop_here ?_))
  rfl
theorem mark_at {ys ws : List Value} {js : List Nat} {ex : List (Addr × Obj)} {x : Nat → Int} (h : All2 (PairII ex) ys (laidP x)) (hl : ys.length = 8) (hw : All2 (fun v j => ys[j]? = some v) ws js) (hjs : LRow x 8 js) {i : Nat} (hi : i < 8) : ∃ P t u, ws[i]? = some (.ref P) ∧ (P, tup2 (.int (rowY x js i) t) (.int (-(js.getD i 0 : Nat)) u)) ∈ ex := by
  have hwl := all2_len hw
  rw [hjs.length] at hwl
  have e : ws[i]? = some (ws[i]'(by k_extra "w my om")) := List.getElem?_eq_getElem (by k_extra "w my om")
  obtain ⟨j, e1, e2⟩ := all2_get hw e
  have ej : js.getD i 0 = j := by simp [List.getD, e1]
  have hj : j < 8 := by rw [← hl]; exact (List.getElem?_eq_some_iff.mp e2).1
  obtain ⟨P, t, u, e3, hm⟩ := laid_mem h hl hj
  rw [e3] at e2
  refine ⟨P, t, u, by rw [e, ← Option.some.inj e2], ?_⟩
  unfold rowY
  rw [ej]
  exact hm
theorem news_touch {g h h' : Heap} {L : Addr} {l : List (Addr × Obj)} (t : Touch [] h h') (N : News g L h l) : News g L h' l := fun q hq => ⟨t.2 _ _ (N q hq).1 (by simp), (N q hq).2⟩
theorem mulOk_small {a b : Int} (h1 : -4 ≤ b) (h2 : b ≤ 4) : IntMulOk a b := by
  exact IntMulOk.of_right (intBits_le_64 (Int.lt_of_lt_of_le (by decide) h1) (Int.lt_of_le_of_lt h2 (by decide)))
theorem up4 {x : Nat → Int} (h : ∀ k, k < 3 → x k ≤ x (k + 1)) : [x 0, x 1, x 2, x 3].Pairwise (· ≤ ·) := by
  have h0 := h 0 (by decide)
  have h1 := h 1 (by decide)
  have h2 := h 2 (by decide)
  have h3 := Int.le_trans h0 h1
  have h4 := Int.le_trans h1 h2
  have h5 := Int.le_trans h3 h2
  exact .cons (each_cons h0 (each_cons h3 (each_cons h5 each_nil))) (.cons (each_cons h1 (each_cons h4 each_nil)) (.cons (each_cons h2 each_nil) (.cons each_nil .nil)))
theorem intv_four (x : Nat → Int) (u : Nat → Tok) : IntsAre (intv x u 4) [x 0, x 1, x 2, x 3] := intv_are x u 4
section
variable {w : World} {A : Around} {base : Heap} {outer : List Env} {p : Program} {loose : List Str} {mean : ExcName → Option Value} {mg mb : Str → Option Value} {g : Heap} {L fa : Addr} {cd : Value} {Q : Flow → Shared → Prop} {s : Shared} {o1 o2 o3 o4 o5 o6 o7 o8 : Obj} {sc : Addr}
set_option maxHeartbeats 8000000 in
theorem st20 (C : LawC w A base outer p loose mean mg mb g L Q s) {Ma Du Ti : Addr} {f : Nat → Int} {uv : Nat → Tok} {a : PplA} {p1 p2 p3 : Array Value} {m : Str → Option Value} {ys ws : List Value} {js : List Nat} {n : Nat} {t0 : Tok} {ex : List (Addr × Obj)} (c6 : CellV o6 (.ref Ti)) (c8 : CellV o8 (.ref Du))
    (hm : ∀ k, k < 3 → mom a k ≤ mom a (k + 1)) (hf : ∀ k, k < 3 → f k ≤ f (k + 1))
    (hyl : ys.length = 8) (hys : All2 (PairII ex) ys (laidP (allT a f))) (hws : All2 (fun v j => ys[j]? = some v) ws js) (hjs : LRow (allT a f) 8 js) (hmM : m (Str.ofString "marks") = some (.ref Ma))
    (next : ∀ (m' : Str → Option Value) t, Go w A g L fa cd Q s 21 (fun z => if z = Str.ofString "stay" then some (.int (stayTo (allT a f) (rowY (allT a f) js) 7) t) else m' z) ((Ma, listOf ws.toArray n) :: (Du, dueO f uv) :: (Ti, timesO a) :: lawCells L o1 o2 o3 o4 o5 o6 o7 o8 ((160, tabObj p1) :: (150, tabObj p2) :: (143, tabObj p3) :: ex))) :
    Go w A g L fa cd Q s 20 (fun z => if z = Str.ofString "stay" then some (.int 0 t0) else m z) ((Ma, listOf ws.toArray n) :: (Du, dueO f uv) :: (Ti, timesO a) :: lawCells L o1 o2 o3 o4 o5 o6 o7 o8 ((160, tabObj p1) :: (150, tabObj p2) :: (143, tabObj p3) :: ex)) := by
  (try unfold CellN at *)
  (try unfold CellV at *)
  refine ⟨fun h tk F N => ?_⟩
  have big := C.big
  have hdone := C.done
  have hSu := C.S
  revert next
  apply Setup.open hSu
  clear hSu C
  intro dpt grs uni hX hTp hBl hdp hun
  intro next
  dsimp only [lawD, dOf, LE, List.drop]
  refine wpAny_execs_cons ?_
  refine wpAny_For ?_
  k_steps
  unfold Stop
  (rename Fr _ _ _ _ => F); (rename News _ _ _ _ => N); (rename IsRange _ _ _ _ _ _ _ _ => hR)
  generalize hLed : (_ :: _ : List (Addr × Obj)) = Led at N
  refine for_range (n := 7) (fun i m' news => (∃ t, m' (Str.ofString "stay") = some (.int (stayTo (allT a f) (rowY (allT a f) js) i) t)) ∧ m' (Str.ofString "marks") = some (.ref Ma) ∧ news = Led) hR (by decide) (by decide) rfl rfl rfl F N ⟨⟨t0, if_pos rfl⟩, (if_neg (by decide)).trans hmM, rfl⟩ ?turn ?done
  case done =>
    clear F N
    rintro m' _ h tk ⟨⟨t, hst⟩, hmm, rfl⟩ F N
    dsimp only
    refine Wp.run ?_
    rw [← hLed] at N
    exact (next m' t).cutW (Fr.expose F hst) N sub_id
  case turn =>
    clear F N hR
    rintro i t m' _ h tk I oI hi ⟨⟨t1, hst⟩, hmm, rfl⟩ off F N
    replace F := Fr.expose (Fr.expose F (x := Str.ofString "stay") (v := .int (stayTo (allT a f) (rowY (allT a f) js) i) t1) ((if_neg (by decide)).trans hst)) (x := Str.ofString "marks") (v := .ref Ma) ((if_neg (by decide)).trans ((if_neg (by decide)).trans hmm))
    rw [← hLed] at N
    obtain ⟨P, tP, uP, eP, mP⟩ := mark_at hys hyl hws hjs (i := i) (by k_extra "w my om")
    obtain ⟨P', tP', uP', eP', mP'⟩ := mark_at hys hyl hws hjs (i := i + 1) (by k_extra "w my om")
    refine wpAny_execs_cons ?_
    k_steps
    unfold Stop
    refine item_at (vs := ws) (N.isList (.tail _ (.head _))) (by k_extra "w my om") (by k_extra "w my om") (by rw [show (0 + (i : Int)).toNat = i from by k_extra "w my om"]; exact eP) ?_
    k_steps
    unfold Stop
    refine item_tupleT (j := 0) (l := [.int (rowY (allT a f) js i) tP, .int (-(js.getD i 0 : Nat)) uP]) ⟨_, (N _ (.tail _ (.tail _ (.tail _ (.tail _ (List.mem_append_right (lawCells L o1 o2 o3 o4 o5 o6 o7 o8 [_, _, _]) mP)))))).1, rfl, _, rfl⟩ (by decide) (by decide) rfl rfl ?_
    k_steps
    unfold Stop
    refine wpAny_execs_cons ?_
    k_steps
    unfold Stop
    (rename Fr _ _ _ _ => F); (rename News _ _ _ _ => N)
    refine use (bisr_ints (Setup.down0 (n := 5) (A := ⟨none, _, some outer, _, _⟩) ⟨hX, hTp, hBl, rfl, by dsimp only; k_extra "w my om", by dsimp only; k_extra "w my om"⟩ F N rfl rfl) (fun b o e => of_hideAll _ e) _ _ (N.isList (.tail _ (.tail _ (.tail _ (.head _))))) (intv_four _ _) (by simp) (up4 hm)) F N (by first | exact each_nil | (refine each_cons ?_ each_nil; repeat (first | exact .head _ | refine .tail _ ?_)) | (refine each_cons ?_ (each_cons ?_ each_nil) <;> repeat (first | exact .head _ | refine .tail _ ?_)) | simp) ?_
    have N0 := N
    clear N F
    rintro _ h2 tk2 F N t2 ⟨k1, u1, rfl, cut1⟩
    clear N
    have N := news_touch t2 N0
    clear N0
    have e1 := cut4 cut1
    dsimp only at F N ⊢
    k_steps
    unfold Stop
    refine use (bisr_ints (Setup.down0 (n := 5) (A := ⟨none, _, some outer, _, _⟩) ⟨hX, hTp, hBl, rfl, by dsimp only; k_extra "w my om", by dsimp only; k_extra "w my om"⟩ F N rfl rfl) (fun b o e => of_hideAll _ e) _ _ (N.isList (.tail _ (.tail _ (.head _)))) (intv_four _ _) (by simp) (up4 hf)) F N (by first | exact each_nil | (refine each_cons ?_ each_nil; repeat (first | exact .head _ | refine .tail _ ?_)) | (refine each_cons ?_ (each_cons ?_ each_nil) <;> repeat (first | exact .head _ | refine .tail _ ?_)) | simp) ?_
    have N0 := N
    clear N F
    rintro _ h3 tk3 F N t3 ⟨k2, u2, rfl, cut2⟩
    clear N
    have N := news_touch t3 N0
    clear N0
    have e2 := cut4 cut2
    dsimp only at F N ⊢
    k_steps
    unfold Stop
    refine wpAny_execs_cons ?_
    k_steps
    unfold Stop
    (rename Fr _ _ _ _ => F); (rename News _ _ _ _ => N)
    refine item_at (vs := ws) (N.isList (.tail _ (.head _))) (by k_extra "w my om") (by k_extra "w my om") (by rw [show (0 + (i : Int) + 1).toNat = i + 1 from by k_extra "w my om"]; exact eP') ?_
    k_steps
    unfold Stop
    refine item_tupleT (j := 0) (l := [.int (rowY (allT a f) js (i + 1)) tP', .int (-(js.getD (i + 1) 0 : Nat)) uP']) ⟨_, (N _ (.tail _ (.tail _ (.tail _ (.tail _ (List.mem_append_right (lawCells L o1 o2 o3 o4 o5 o6 o7 o8 [_, _, _]) mP')))))).1, rfl, _, rfl⟩ (by decide) (by decide) rfl rfl ?_
    k_steps
    unfold Stop
    refine PyProof.Rows.mul_int ?_ (mulOk_small ?b1 ?b2)
    case b1 => have b3 : k1 ≤ 4 := cut1.1; have b4 : k2 ≤ 4 := cut2.1; k_extra "w my om"
    case b2 => have b3 : k1 ≤ 4 := cut1.1; have b4 : k2 ≤ 4 := cut2.1; k_extra "w my om"
    k_steps
    unfold Stop
    (rename Fr _ _ _ _ => F); (rename News _ _ _ _ => N)
    refine TurnEnd.goes F N (fun q hq => off q (by rw [← hLed]; exact hq)) ⟨⟨_, (if_pos rfl).trans (congrArg (fun z => some (Value.int z _)) ?st)⟩, (if_neg (by decide)).trans ((if_neg (by decide)).trans ((if_neg (by decide)).trans (if_pos rfl))), hLed⟩
    show _ = stayTo (allT a f) (rowY (allT a f) js) i + (rowY (allT a f) js (i + 1) - rowY (allT a f) js i) * inAt (allT a f) (rowY (allT a f) js i)
    have e3 : (k1 : Int) - (k2 : Int) = inAt (allT a f) (rowY (allT a f) js i) := by rw [e1, e2]; rfl
    rw [← e3]
end
end
section
theorem resetL21 : (0 : Nat) = 0 := by
  w_top off
  k_with_none
  (k_with "w my pick" => (with_reducible first | assumption | exact lo1 | exact lo2 | exact lo3 | exact lo4 | exact ls1 (by assumption) | exact ls2 (by assumption) | exact ls3 (by assumption) | exact pk0 (by assumption) | exact pk1 (by assumption) | exact pk2 (by assumption) | exact pk3 (by assumption) | exact pk4 (by assumption) | exact pk5 (by assumption) | exact pk6 (by assumption) | exact pk7 (by assumption) | exact pk8 (by assumption) | exact pk9 (by assumption) | exact pk10 (by assumption) | exact pk11 (by assumption) | exact pk12 (by assumption) | exact pk13 (by assumption) | exact pk14 (by assumption) | exact pk15 (by assumption) | exact pk16 (by assumption) | exact pk17 (by assumption) | exact qk1 (by assumption) | exact qk2 (by assumption) | exact qk3 (by assumption) | exact qk4 (by assumption) | exact qk5 (by assumption) | exact qk6 (by assumption) | exact qk7 (by assumption) | exact qk8 (by assumption) | exact qk9 (by assumption) | exact qk10 (by assumption) | exact qk11 (by assumption) | exact qk12 (by assumption) | exact qk13 (by assumption) | exact qk14 (by assumption) | exact qk15 (by assumption) | exact qk16 (by assumption) | exact qk17 (by assumption)))
  (k_with "w my sml" => (with_reducible first | (refine Nat.ne_of_lt ?_; k_extra "w my pick") | (refine Nat.ne_of_gt ?_; k_extra "w my pick") | (refine Ne.symm ?_; k_extra "w my pick") | (refine id ?_; k_extra "w my pick") | (refine Nat.le_of_lt ?_; k_extra "w my pick") | exact lrefl | exact lzero | exact one_le | exact room0 (by assumption) | exact room (by assumption) (by decide) | exact room1 (by assumption) (by decide) | exact room2 (by assumption) (by decide) | exact room3 (by assumption) (by decide) | exact le_le (by assumption) (by decide) | exact le_sc (by assumption) | (refine above1' ?_ (by assumption); k_extra "w my pick") | (refine above2' ?_ (by assumption); k_extra "w my pick")))
  (k_with "w my om" => (first | k_extra "w my sml" | lia | omega))
  rfl
theorem rgL21x1 : (0 : Nat) = 0 := by
  (k_with "w my k_room" => ((try simp only [depth_under_make, depth_under_kw, depth_in1, depth_deeper]); (show _ < 1000); (try dsimp only); omega))
  (k_with "w my units_room" => ((try simp only [units_in1, units_deeper, Around.mark_units]); (show _ < 9900); (try dsimp only); omega))
  (k_with "w my small" => (first
  | (refine Sm.int ?_; (try simp only [Int.fmod_eq_emod_of_nonneg, Int.fdiv_eq_ediv_of_nonneg, Int.reduceLE]); omega)
  | (apply Sm.slice; k_extra "w my small")
  | (apply Sm.add <;> k_extra "w my small")
  | (apply Sm.ite <;> k_extra "w my small")
  | assumption
  | exact Sm.refl _))
  (k_with "w subscriptTail Name Slice str ref" => ((with_reducible show wpAny _ _ (subscriptTail _ (Expr.Slice (some _) none none _) (Value.str _ _) (Value.ref _)) _ _ _); dsimp only; (with_reducible rename Fr _ _ _ _ => F'); (with_reducible rename News _ _ _ _ => N'); (refine' slice_strN_sn (hsz := by (apply Sm.size <;> first | k_extra "w my small" | decide)) (s := ⟨_, _, _, _, _⟩) F' N' ?_); intro _ _ _ _ _))
  (k_with "w binaryOp Add str str" => ((with_reducible show wpAny _ _ (binaryOp Operator.Add (Value.str _ _) (Value.str _ _)) _ _ _); (refine' PyProof.Rows.add_str ?_ (by (apply Sm.size2 <;> first | k_extra "w my small" | decide))); intro _ _))
  (k_with "w ite" => ((with_reducible refine ite_strs ?_); intro _))
  (k_with "w my k_ne" => (first | exact Mine.CellOff.c1 (by with_reducible assumption) | exact Mine.CellOff.c2 (by with_reducible assumption) | exact Mine.CellOff.c3 (by with_reducible assumption) | exact Mine.CellOff.c4 (by with_reducible assumption) | exact Mine.CellOff.c5 (by with_reducible assumption) | exact Mine.CellOff.c6 (by with_reducible assumption) | exact Mine.CellOff.c7 (by with_reducible assumption) | exact Mine.CellOff.c8 (by with_reducible assumption) | exact Mine.CellOff.t1 (by with_reducible assumption) | exact Mine.CellOff.t2 (by with_reducible assumption) | exact Mine.CellOff.t3 (by with_reducible assumption)))
  (k_with "w my sub" => (with_reducible first
  | exact sub_id
  | (refine sub_keep ?_; k_extra "w my sub")
  | (refine sub_skip ?_; k_extra "w my sub")
  | exact sub_nil))
  (k_with "w ElEnd" => (refine stop_here ?_))
  (k_with "w subscriptTail" => (k_here; (with_reducible show wpAny _ _ (subscriptTail _ _ (Value.ref _) (Value.int (0 + ((_ : Nat) : Int)) _)) _ _ _); (first | (refine' Mine.item_intv (by k_asm) (by k_mem) (by assumption) (by decide) ?_ (by with_unfolding_all rfl)) | (refine' Mine.item_textv (by k_asm) (by k_mem) (by assumption) (by decide) ?_ (by with_unfolding_all rfl)))))
  (k_with "w subscriptTail Name Name ref int" => (k_here; (with_reducible show wpAny _ _ (subscriptTail _ _ (Value.ref _) (Value.int (0 + ((_ : Nat) : Int)) _)) _ _ _); (first | (refine' Mine.item_intv (by k_asm) (by k_mem) (by assumption) (by decide) ?_ (by with_unfolding_all rfl)) | (refine' Mine.item_textv (by k_asm) (by k_mem) (by assumption) (by decide) ?_ (by with_unfolding_all rfl)))))
  (k_with "w execs cons" => (refine stop_here ?_))
  rfl
theorem timesO_lit (a : PplA) : timesO a = listOf #[.int (mom a 0) (momU a 0), .int (mom a 1) (momU a 1), .int (mom a 2) (momU a 2), .int (mom a 3) (momU a 3)] 4 := rfl
theorem dueO_lit (f : Nat → Int) (uv : Nat → Tok) : dueO f uv = listOf #[.int (f 0) (uv 0), .int (f 1) (uv 1), .int (f 2) (uv 2), .int (f 3) (uv 3)] 4 := rfl
theorem end_true {S T : Int} {Q : Flow → Shared → Prop} {s : Shared} (e : S = T) (h : Q (.ret (.bool true)) s) : Q (.ret (.bool (S == T))) s := by
  rw [beq_iff_eq.mpr e]; exact h
section
variable {w : World} {A : Around} {base : Heap} {outer : List Env} {p : Program} {loose : List Str} {mean : ExcName → Option Value} {mg mb : Str → Option Value} {g : Heap} {L fa : Addr} {cd : Value} {Q : Flow → Shared → Prop} {s : Shared} {o1 o2 o3 o4 o5 o6 o7 o8 : Obj} {sc : Addr}
set_option maxHeartbeats 8000000 in
theorem st21 (C : LawC w A base outer p loose mean mg mb g L Q s) {Ma Du Ti : Addr} {f : Nat → Int} {uv : Nat → Tok} {a : PplA} {p1 p2 p3 : Array Value} {m : Str → Option Value} {oM : Obj} {t0 : Tok} {ex : List (Addr × Obj)} {S : Int} (c6 : CellV o6 (.ref Ti)) (c8 : CellV o8 (.ref Du))
    (hS : S = (f 0 + f 1 + f 2 + f 3) - (mom a 0 + mom a 1 + mom a 2 + mom a 3)) :
    Go w A g L fa cd Q s 21 (fun z => if z = Str.ofString "stay" then some (.int S t0) else m z) ((Ma, oM) :: (Du, dueO f uv) :: (Ti, timesO a) :: lawCells L o1 o2 o3 o4 o5 o6 o7 o8 ((160, tabObj p1) :: (150, tabObj p2) :: (143, tabObj p3) :: ex)) := by
  (try unfold CellN at *)
  (try unfold CellV at *)
  rw [timesO_lit, dueO_lit]
  refine ⟨fun h tk F N => ?_⟩
  have big := C.big
  have hdone := C.done
  have hSu := C.S
  apply Setup.open hSu
  clear hSu C
  intro dpt grs uni hX hTp hBl hdp hun
  dsimp only [lawD, dOf, LE, List.drop]
  refine wpAny_execs_cons ?_
  k_steps
  (rename Fr _ _ _ _ => F); (rename News _ _ _ _ => N)
  refine end_true (Q := Q) (hS.trans ?e2) ?_
  case e2 => (try simp only [List.foldl, List.sum, List.foldr]); k_extra "w my om"
  exact hdone _ _ _ p1 p2 p3 F (N.get (.tail _ (.tail _ (.tail _ (.tail _ (.tail _ (.tail _ (.tail _ (.tail _ (.tail _ (.tail _ (.tail _ (.head _)))))))))))))
    (N.get (.tail _ (.tail _ (.tail _ (.tail _ (.tail _ (.tail _ (.tail _ (.tail _ (.tail _ (.tail _ (.tail _ (.tail _ (.head _))))))))))))))
    (N.get (.tail _ (.tail _ (.tail _ (.tail _ (.tail _ (.tail _ (.tail _ (.tail _ (.tail _ (.tail _ (.tail _ (.tail _ (.tail _ (.head _)))))))))))))))
end
end
section
theorem Go.mono {w : World} {A : Around} {g : Heap} {L fa : Addr} {cd : Value} {Q : Flow → Shared → Prop} {s : Shared} {k : Nat} {m : Str → Option Value} {news news' : List (Addr × Obj)} (G : Go w A g L fa cd Q s k m news) (h : ∀ q ∈ news, q ∈ news') : Go w A g L fa cd Q s k m news' := ⟨fun hp tk F N => G.run hp tk F fun q hq => N q (h q hq)⟩
theorem inn_self (a : PplA) (S M : Int) (k : Nat) : inn a S M k k = mom a k + S := by
  unfold inn; rw [Int.sub_self, Int.zero_mul, Int.add_zero]
theorem inn_succ (a : PplA) (S M : Int) (k j : Nat) : inn a S M (k + 1) j = inn a S M k j + M := by
  unfold inn; rw [Int.natCast_add_one, Int.sub_eq_add_neg, Int.add_right_comm _ 1, Int.add_mul _ 1, Int.one_mul, ← Int.add_assoc]; rfl
theorem inn_1 (a : PplA) (S M : Int) (k : Nat) : inn a S M (k + 1) k = mom a k + S + M := (inn_succ a S M k k).trans (congrArg (· + M) (inn_self a S M k))
theorem inn_2 (a : PplA) (S M : Int) (k : Nat) : inn a S M (k + 2) k = mom a k + S + M + M := (inn_succ a S M (k + 1) k).trans (congrArg (· + M) (inn_1 a S M k))
theorem inn_3 (a : PplA) (S M : Int) (k : Nat) : inn a S M (k + 3) k = mom a k + S + M + M + M := (inn_succ a S M (k + 2) k).trans (congrArg (· + M) (inn_2 a S M k))
theorem due_DF (a : PplA) (S M : Int) {j : Nat} (h : j < 4) : dueF a S M j = DF (mom a) S M j := by
  match j, h with
  | 0, _ => exact inn_self a S M 0
  | 1, _ =>
    show max (inn a S M 1 0) (inn a S M 1 1) = max (mom a 0 + S + M) (mom a 1 + S)
    rw [show inn a S M 1 0 = _ from inn_1 a S M 0, inn_self]
  | 2, _ =>
    show max (max (inn a S M 2 0) (inn a S M 2 1)) (inn a S M 2 2) = max (max (mom a 0 + S + M) (mom a 1 + S) + M) (mom a 2 + S)
    rw [show inn a S M 2 0 = _ from inn_2 a S M 0, show inn a S M 2 1 = _ from inn_1 a S M 1, inn_self, mx_add]
  | 3, _ =>
    show max (max (max (inn a S M 3 0) (inn a S M 3 1)) (inn a S M 3 2)) (inn a S M 3 3) = max (max (max (mom a 0 + S + M) (mom a 1 + S) + M) (mom a 2 + S) + M) (mom a 3 + S)
    rw [show inn a S M 3 0 = _ from inn_3 a S M 0, show inn a S M 3 1 = _ from inn_2 a S M 1, show inn a S M 3 2 = _ from inn_1 a S M 2, inn_self, mx_add, mx_add, mx_add]
  | n + 4, h => exact absurd h (Nat.not_lt.mpr (Nat.le_add_left 4 n))
theorem ppl_up {x : Nat → Int} {a : PplA} {j0 j1 j2 j3 : Nat} (hr : RowIs x 4 [j0, j1, j2, j3]) (ha : a.are (nm j0) (nm j1) (nm j2) (nm j3) (x j0) (x j1) (x j2) (x j3)) : ∀ k, k < 3 → mom a k ≤ mom a (k + 1) := by
  obtain ⟨_, _, _, _, b0, b1, b2, b3⟩ := ha
  have le {p q : Int} {c : Prop} (h : p < q ∨ p = q ∧ c) : p ≤ q := h.elim Int.le_of_lt fun e => Int.le_of_eq e.1
  have q0 := List.pairwise_cons.mp hr.2
  have q1 := List.pairwise_cons.mp q0.2
  have q2 := List.pairwise_cons.mp q1.2
  intro k hk
  match k, hk with
  | 0, _ => show a.k0 ≤ a.k1; rw [b0, b1]; exact le (q0.1 j1 (.head _))
  | 1, _ => show a.k1 ≤ a.k2; rw [b1, b2]; exact le (q1.1 j2 (.head _))
  | 2, _ => show a.k2 ≤ a.k3; rw [b2, b3]; exact le (q2.1 j3 (.head _))
theorem ppl_who {x : Nat → Int} {a : PplA} {j0 j1 j2 j3 : Nat} (hr : RowIs x 4 [j0, j1, j2, j3]) (ha : a.are (nm j0) (nm j1) (nm j2) (nm j3) (x j0) (x j1) (x j2) (x j3)) : ∀ j, j < 4 → ∃ i, i < 4 ∧ who a j = nm i := by
  obtain ⟨a0, a1, a2, a3, _⟩ := ha
  intro j hj
  have c : j = 0 ∨ j = 1 ∨ j = 2 ∨ j = 3 := lt4 (by assumption)
  rcases c with rfl | rfl | rfl | rfl
  · exact ⟨j0, hr.lt (.head _), a0⟩
  · exact ⟨j1, hr.lt (.tail _ (.head _)), a1⟩
  · exact ⟨j2, hr.lt (.tail _ (.tail _ (.head _))), a2⟩
  · exact ⟨j3, hr.lt (.tail _ (.tail _ (.tail _ (.head _)))), a3⟩
theorem nm_ne (j : Nat) : nm j ≠ Str.ofString "" := fun e => by
  have := congrArg Str.length e
  exact absurd (show (1 : Nat) = 0 from this) (by decide)
end
section
theorem resetJoin : (0 : Nat) = 0 := by
  w_top off
  k_with_none
  (k_with "w my pick" => (with_reducible first | assumption | exact lo1 | exact lo2 | exact lo3 | exact lo4 | exact ls1 (by assumption) | exact ls2 (by assumption) | exact ls3 (by assumption) | exact pk0 (by assumption) | exact pk1 (by assumption) | exact pk2 (by assumption) | exact pk3 (by assumption) | exact pk4 (by assumption) | exact pk5 (by assumption) | exact pk6 (by assumption) | exact pk7 (by assumption) | exact pk8 (by assumption) | exact pk9 (by assumption) | exact pk10 (by assumption) | exact pk11 (by assumption) | exact pk12 (by assumption) | exact pk13 (by assumption) | exact pk14 (by assumption) | exact pk15 (by assumption) | exact pk16 (by assumption) | exact pk17 (by assumption) | exact qk1 (by assumption) | exact qk2 (by assumption) | exact qk3 (by assumption) | exact qk4 (by assumption) | exact qk5 (by assumption) | exact qk6 (by assumption) | exact qk7 (by assumption) | exact qk8 (by assumption) | exact qk9 (by assumption) | exact qk10 (by assumption) | exact qk11 (by assumption) | exact qk12 (by assumption) | exact qk13 (by assumption) | exact qk14 (by assumption) | exact qk15 (by assumption) | exact qk16 (by assumption) | exact qk17 (by assumption)))
  (k_with "w my sml" => (with_reducible first | (refine Nat.ne_of_lt ?_; k_extra "w my pick") | (refine Nat.ne_of_gt ?_; k_extra "w my pick") | (refine Ne.symm ?_; k_extra "w my pick") | (refine id ?_; k_extra "w my pick") | (refine Nat.le_of_lt ?_; k_extra "w my pick") | exact lrefl | exact lzero | exact one_le | exact room0 (by assumption) | exact room (by assumption) (by decide) | exact room1 (by assumption) (by decide) | exact room2 (by assumption) (by decide) | exact room3 (by assumption) (by decide) | exact le_le (by assumption) (by decide) | exact le_sc (by assumption) | (refine above1' ?_ (by assumption); k_extra "w my pick") | (refine above2' ?_ (by assumption); k_extra "w my pick")))
  (k_with "w my om" => (first | k_extra "w my sml" | lia | omega))
  rfl
set_option maxHeartbeats 1000000
section
variable {w : World} {A : Around} {base : Heap} {outer : List Env} {p : Program} {loose : List Str} {mean : ExcName → Option Value} {mg mb : Str → Option Value} {g : Heap} {L fa : Addr} {cd : Value} {Q : Flow → Shared → Prop} {s : Shared} {o1 o2 o3 o4 o5 o6 o7 o8 : Obj} {sc : Addr}
/-- from the due moments on -/
theorem law_b (C : LawC w A base outer p loose mean mg mb g L Q s) {cc Ti Co Du D : Addr} {oc : Obj} {x : Nat → Int} {ud uv : Nat → Tok} {tx : Str} {tt : Tok} {a : PplA} {ps : Array Value} {j0 j1 j2 j3 : Nat} (c5 : CellV o5 (.ref a.l)) (c6 : CellV o6 (.ref Ti)) (c7 : CellV o7 (.ref Co)) (c8 : CellV o8 (.ref Du))
    (hoc : ∃ vs t, oc.data = .fields vs ∧ vs[1]? = some (.str lexQual t)) (hx : ∀ j, j < 3 → 0 ≤ x (4 + j)) (hr : RowIs x 4 [j0, j1, j2, j3]) (ha : a.are (nm j0) (nm j1) (nm j2) (nm j3) (x j0) (x j1) (x j2) (x j3)) :
    Go w A g L fa cd Q s 15 (m3 sc D tx tt) ((Du, dueO (dueF a (sumC x) (maxC x)) uv) :: (Co, costsO x ud) :: (Ti, timesO a) :: (pplLed a ++ (cc, oc) :: lawCells L o1 o2 o3 o4 o5 o6 o7 o8 (lawTabs #[] ps (lexPs cc)))) := by
  have hm := ppl_up hr ha
  have hw := ppl_who hr ha
  generalize hf : dueF a (sumC x) (maxC x) = f
  have hDF : ∀ j, j < 4 → f j = DF (mom a) (sumC x) (maxC x) j := fun j hj => by rw [← hf]; exact due_DF a _ _ hj
  have hM : 0 ≤ maxC x := by
    have := hx 0 (by decide)
    have h4 : 0 ≤ x 4 := this
    unfold maxC; exact Int.le_trans (by assumption) (Int.le_trans (Int.le_max_left _ _) (Int.le_max_left _ _))
  have hfu : ∀ k, k < 3 → f k ≤ f (k + 1) := fun k hk => by rw [hDF k (Nat.lt_succ_of_lt hk), hDF (k + 1) (Nat.succ_lt_succ hk)]; exact DF_le _ _ _ hM k
  refine st15 C c5 c6 c7 c8 hoc hx hm (fun j hj => ?_) hDF (fun j hj => ?_) fun u1 u2 u3 => ?_
  · obtain ⟨i, _, e⟩ := hw j hj
    rw [e]; exact nm_ne i
  · obtain ⟨i, hi, e⟩ := hw j hj
    rw [e]; exact nm_ok hi
  refine Go.mono (st16 C (o1 := o1) (o2 := o2) (o3 := o3) (o4 := o4) (o5 := o5) (o7 := o7) (cc := cc) (oc := oc) (f := f) (uv := uv) (a := a) (ps := ps) c6 c8 fun La ys ex hyl hys hex => ?_) fun q hq => ?_
  · refine st17 C hyl hys hex fun Ma ws js n p1 hws hjs => ?_
    refine st18 C hyl hys hws hjs ?_
    refine st19 C (led' := (Ma, listOf ws.toArray n) :: (Du, dueO f uv) :: (Ti, timesO a) :: lawCells L o1 o2 o3 o4 o5 o6 o7 o8 ((160, tabObj p1) :: (150, tabObj ps) :: (143, tabObj (lexPs cc)) :: ex)) (fun q hq => ?_) fun t => ?_
    · rcases List.mem_cons.mp hq with rfl | hq
      · exact .head _
      have h2 : q ∈ (Du, dueO f uv) :: (Ti, timesO a) :: lawCells L o1 o2 o3 o4 o5 o6 o7 o8 (lawTabs p1 ps (lexPs cc)) ∨ q ∈ ex := by
        have h3 : q ∈ ((Du, dueO f uv) :: (Ti, timesO a) :: lawCells L o1 o2 o3 o4 o5 o6 o7 o8 (lawTabs p1 ps (lexPs cc))) ++ ex := hq
        exact List.mem_append.mp h3
      rcases h2 with h2 | h2
      · exact .tail _ (.tail _ (List.mem_append_right _ h2))
      · exact .tail _ (.tail _ (List.mem_append_left _ h2))
    refine st20 C c6 c8 hm hfu hyl hys hws hjs (if_pos rfl) fun m' t2 => ?_
    exact st21 C c6 c8 (little_row hjs)
  · rcases List.mem_cons.mp hq with rfl | hq
    · exact .head _
    rcases List.mem_cons.mp hq with rfl | hq
    · exact .tail _ (.tail _ (.head _))
    · exact .tail _ (.tail _ (.tail _ (List.mem_append_right _ (.tail _ hq))))
theorem law_a (C : LawC w A base outer p loose mean mg mb g L Q s) {vs : List Value} {ns : List Int} (hl : g.IsList sc vs.toArray) (hi : IntsAre vs ns) (hz : ns.length ≤ 63)
    (c1 : CellN o1) (c2 : CellN o2) (c3 : CellN o3) (c4 : CellN o4) (c5 : CellN o5) (c6 : CellN o6) (c7 : CellN o7) (c8 : CellN o8) :
    Go w A g L fa cd Q s 0 (fun y => if y = Str.ofString "script" then some (.ref sc) else none) (lawCells L o1 o2 o3 o4 o5 o6 o7 o8 (lawTabs #[] #[] #[])) := by
  refine st0 C hl hi hz c1 fun Tt x u n o1 hx oT c1 => ?_
  refine st1 C hx oT c1 c2 fun M mi um nM o2 m4 m7 oM c2 => ?_
  have hmi : ∀ j, j < 7 → -90 ≤ mi j ∧ mi j ≤ 90 := fun j hj => by
    by_cases h : j < 4
    · rw [m4 j h]; k_extra "w my om"
    · rw [m7 j (by k_extra "w my om") hj]; k_extra "w my om"
  have hmt : ∀ j, 4 ≤ j → j < 7 → 0 ≤ mi j ∧ mi j ≤ 60 := fun j h1 h2 => by rw [m7 j h1 h2]; k_extra "w my om"
  refine st2 C hx hmi oT oM c1 c2 c3 fun Z uz nZ o3 oZ c3 => ?_
  have hdr : ∀ y : Int, 0 ≤ y.fmod 4 ∧ y.fmod 4 < 4 := fun y => ⟨Int.fmod_nonneg_of_pos _ (by decide), Int.fmod_lt_of_pos _ (by decide)⟩
  generalize hzz : (fun j => zone (mi j) (((x j).fdiv 7).fmod 4)) = z
  have hze : ∀ j, z j = zone (mi j) (((x j).fdiv 7).fmod 4) := fun j => by rw [← hzz]
  have htell : ∀ j, j < 7 → OffOf (z j) (some (60 * mi j)) ∧ plain (z j) = true := fun j hj => by
    rw [hze j]
    exact zone_tells (hmi j hj).1 (hmi j hj).2 (hdr _).1 (hdr _).2
  have hpl : ∀ j, j < 7 → Plain (z j).cps.toList ∧ (z j).length ≤ 10 := fun j hj => plain_of (htell j hj).2
  have hno : ∀ j, 4 ≤ j → j < 7 → OffOf (z j ++ Str.ofString "x") none := fun j h1 h2 => by
    rw [hze j]
    exact zone_none (hmt j h1 h2).1 (hmt j h1 h2).2 (hdr _).1 (hdr _).2
  refine st3 C hx (fun j hj => (hpl j hj).2) oT oM oZ c1 c2 c3 fun tt => ?_
  generalize htx : Txt.join (Str.ofString "") ((List.range 7).map fun j => written (z j) (((x j).fdiv 28).fmod 3)) = tx
  generalize hc : toRead (fun j => (z j).cps.toList) (fun j => ((x j).fdiv 28).fmod 3) 7 = c
  have hc0 : tx.cps.toList = c 0 := by rw [← htx, ← hc]; exact text_codes z _ 7
  have hzl : ∀ j, j < 7 → ((z j).cps.toList).length ≤ 10 := fun j hj => by simpa [Str.length] using (hpl j hj).2
  have hcl : ∀ i, i ≤ 7 → (c i).length ≤ 3000 := fun i h => by rw [← hc]; exact toRead_len hzl (by decide) h
  have hct : ∀ i, i < 7 → Tok1 (c i) (z i).cps.toList (c (i + 1)) := fun i h => by rw [← hc]; exact toRead_step h (hpl i h).1
  have hce : Tok1 (c 7) [] [] := by rw [← hc]; exact toRead_end
  have htl : tx.length ≤ 3000 := by
    have := hcl 0 (by decide)
    rw [← hc0] at this
    simpa [Str.length] using this
  refine st4 C htl oM oZ c4 fun lx vs' nl tn o4 okl hsg far c4 offL => ?_
  refine st5 C okl far oM oZ c4 c hct hcl (fun i h => (htell i h).1) (fun i h => (hpl i h).2) (1 + nls (c 0)) (by k_extra "w my om") (by rw [← hc0]; exact hsg) offL hmi fun D ud vs2 n2 tn2 hs2 oD offD => ?_
  refine st6 C c2 hmi ?_
  refine st7 C ?_
  refine st8 C c4 okl offL offD hce hs2 (hcl 7 (Nat.le_refl _)) (by rw [hc0]) htl ?_
  refine st9 C c3 hno (fun i h => (hpl i h).2) ?_
  refine st10 C c5 oD far.f5 fun a j0 j1 j2 j3 ps o5 hr ha pfar c5 => ?_
  refine st11 C c5 hr ha ?_
  refine st12 C pfar oD far.f5 c5 c6 fun Ti o6 oTi c6 => ?_
  refine st13 C pfar oD far.f5 oTi c7 fun Co o7 oCo c7 => ?_
  refine st14 C pfar far.f5 oTi oCo c6 c7 c8 rfl fun Du uv o8 oDu c8 => ?_
  refine law_b C c5 c6 c7 c8 okl.oc (fun j hj => ?_) hr ha
  have := (hmt (4 + j) (by k_extra "w my om") (by k_extra "w my om")).1
  show 0 ≤ 60 * mi (4 + j)
  k_extra "w my om"
end
theorem law_holds : PySem.Challenge.rw_xe0029_01.Holds := law_top fun C hl hi hz c1 c2 c3 c4 c5 c6 c7 c8 => law_a C hl hi hz c1 c2 c3 c4 c5 c6 c7 c8
end
end Mine
theorem PySem.Challenge.cw_xe0029_01_holds : PySem.Challenge.rw_xe0029_01.Holds :=
  Mine.law_holds
