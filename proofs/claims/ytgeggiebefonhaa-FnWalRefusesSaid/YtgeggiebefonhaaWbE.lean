/- Texts and lists of bytes. -/
import Derived.Test.YtgeggiebefonhaaWbA0
set_option linter.unusedVariables false
set_option linter.unusedSimpArgs false
namespace Go.Proofs.Ytgeggiebefonhaa
open Go Go.RowKit Gw
theorem ba_ext {a b : ByteArray} (h : a.data.toList = b.data.toList) : a = b := by
  cases a with | mk x => cases b with | mk y => exact congrArg ByteArray.mk (Array.ext' h)
theorem strN_app (a b : List Int) : strN a ++ strN b = strN (a ++ b) := by
  refine ba_ext ?_
  rw [strN_data]; simp [strN_data]
theorem strN_ints (u : ByteArray) : strN (ints u) = u := ba_ext (by rw [strN_u8s, u8s_ints])
def joinB (l : List ByteArray) : ByteArray := l.foldl (· ++ ·) ByteArray.empty
theorem joinB_take {l : List ByteArray} {k : Nat} {x : ByteArray} (h : l[k]? = some x) : joinB (l.take k) ++ x = joinB (l.take (k + 1)) := by
  rw [List.take_add_one, h]; simp [joinB]
theorem joinB_strN (l : List (List Int)) : joinB (l.map strN) = strN l.flatten := by
  suffices ∀ (l : List (List Int)) (a : List Int), (l.map strN).foldl (· ++ ·) (strN a) = strN (a ++ l.flatten) from (this l []).trans (by rw [List.nil_append])
  intro l
  induction l with
  | nil => intro a; simp
  | cons b l ih => intro a; simp only [List.map_cons, List.foldl_cons, strN_app, ih, List.flatten_cons, List.append_assoc]
theorem joinB_size {l : List ByteArray} {m : Nat} (h : ∀ x ∈ l, x.size ≤ m) : (joinB l).size ≤ m * l.length := by
  suffices ∀ (l : List ByteArray) (a : ByteArray), (∀ x ∈ l, x.size ≤ m) → (l.foldl (· ++ ·) a).size ≤ a.size + m * l.length by simpa [joinB] using this l ByteArray.empty h
  intro l
  induction l with
  | nil => intro a _; simp
  | cons b l ih =>
    intro a h
    have h1 := ih (a ++ b) fun x hx => h x (by simp [hx])
    have h2 := h b (by simp)
    rw [ByteArray.size_append] at h1
    rw [List.foldl_cons, List.length_cons, Nat.mul_add]; omega
theorem wfs_len {prev : Int} {l : List WR} : (wfs prev l).length = l.length := by
  suffices ∀ (l : List WR) (s : List (List Int) × Int), (l.foldl wstep s).1.length = s.1.length + l.length by simpa [wfs, wst] using this l ([], prev)
  intro l
  induction l with
  | nil => intro s; simp
  | cons r l ih => intro s; rw [List.foldl_cons, ih]; simp [wstep]; omega
theorem wfs_small {prev : Int} {l : List WR} (hG : ∀ x ∈ l, Good x) : ∀ x ∈ wfs prev l, x.length ≤ 5100 := by
  suffices ∀ (l : List WR) (s : List (List Int) × Int), (∀ x ∈ l, Good x) → (∀ x ∈ s.1, x.length ≤ 5100) → ∀ x ∈ (l.foldl wstep s).1, x.length ≤ 5100 from this l ([], prev) hG (by simp)
  intro l
  induction l with
  | nil => intro s _ h; exact h
  | cons r l ih =>
    intro s hG h
    refine ih _ (fun x hx => hG x (by simp [hx])) fun x hx => ?_
    simp only [wstep, List.mem_append, List.mem_singleton] at hx
    rcases hx with hx | rfl
    · exact h x hx
    · exact wfr_len (hG r (by simp))
theorem sz1 (x : UInt8) : (ByteArray.mk #[x]).size = 1 := rfl
theorem body_t (ty n : Int) (u : ByteArray) : ((((ByteArray.mk #[8]) ++ (strN (vint ((IntKind.u64.wrap ty).toNat)))) ++ (ByteArray.mk #[16])) ++ (strN (vint ((IntKind.u64.wrap n).toNat)))) ++ (((ByteArray.mk #[26]) ++ (strN (vint ((IntKind.u64.wrap (u.size : Int)).toNat)))) ++ u) = strN (wbody ty n true (ints u)) := by
  have e : u = strN (ints u) := (strN_ints u).symm
  rw [show ByteArray.mk #[8] = strN [8] from rfl, show ByteArray.mk #[16] = strN [16] from rfl, show ByteArray.mk #[26] = strN [26] from rfl]
  conv => lhs; rw [← ints_length u]; arg 2; arg 2; rw [e]
  simp only [strN_app, wbody, vi, if_true, List.append_assoc]
theorem body_f (ty n : Int) (u : ByteArray) : ((((ByteArray.mk #[8]) ++ (strN (vint ((IntKind.u64.wrap ty).toNat)))) ++ (ByteArray.mk #[16])) ++ (strN (vint ((IntKind.u64.wrap n).toNat)))) = strN (wbody ty n false (ints u)) := by
  rw [show ByteArray.mk #[8] = strN [8] from rfl, show ByteArray.mk #[16] = strN [16] from rfl]
  simp [strN_app, wbody, vi]
end Go.Proofs.Ytgeggiebefonhaa
