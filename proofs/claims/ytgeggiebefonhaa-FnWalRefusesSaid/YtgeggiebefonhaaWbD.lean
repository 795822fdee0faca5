/- What a log comes to, record by record. -/
import Derived.Test.YtgeggiebefonhaaWaI0
set_option linter.unusedVariables false
set_option linter.unusedSimpArgs false
namespace Go.Proofs.Ytgeggiebefonhaa
open Go Go.RowKit Gw
structure WR where
  type_ : Int
  hasType : Bool
  crc : Int
  hasCrc : Bool
  data : ByteArray
  hasData : Bool
def WR.cells (x : WR) : List Value := [(Value.int .i64 x.type_), (Value.bool x.hasType), (Value.int .u32 x.crc), (Value.bool x.hasCrc), (Value.string x.data), (Value.bool x.hasData)]
theorem WR.len (x : WR) : x.cells.length = 6 := rfl
structure Good (x : WR) : Prop where
  ty : x.hasType = true
  len : x.data.size ≤ 5000
  none_ : x.hasData = false → x.data = ByteArray.mk #[]
def wfr (n : Int) (r : WR) : List Int := wframe (wbody r.type_ n r.hasData (ints r.data))
def wnx (n : Int) (r : WR) : Int := crc n (ints r.data)
def wstep (s : List (List Int) × Int) (r : WR) : List (List Int) × Int := (s.1 ++ [wfr (wnx s.2 r) r], wnx s.2 r)
def wst (prev : Int) (l : List WR) : List (List Int) × Int := l.foldl wstep ([], prev)
def wfs (prev : Int) (l : List WR) : List (List Int) := (wst prev l).1
def wsm (prev : Int) (l : List WR) : Int := (wst prev l).2
theorem wst_take {prev : Int} {l : List WR} {k : Nat} {x : WR} (h : l[k]? = some x) : wst prev (l.take (k + 1)) = wstep (wst prev (l.take k)) x := by
  rw [List.take_add_one, h]; simp [wst]
theorem wfs_take {prev : Int} {l : List WR} {k : Nat} {x : WR} (h : l[k]? = some x) : wfs prev (l.take (k + 1)) = wfs prev (l.take k) ++ [wfr (wnx (wsm prev (l.take k)) x) x] := by
  unfold wfs wsm; rw [wst_take h]; rfl
theorem wsm_take {prev : Int} {l : List WR} {k : Nat} {x : WR} (h : l[k]? = some x) : wsm prev (l.take (k + 1)) = wnx (wsm prev (l.take k)) x := by
  unfold wsm; rw [wst_take h]; rfl
theorem wframe_len {b : List Int} : (wframe b).length ≤ b.length + 15 := by
  have hp8 : wpad b.length < 8 := Nat.mod_lt _ (by omega)
  simp only [wframe, le7, List.length_append, List.length_map, List.length_cons, List.length_nil, List.length_replicate]; omega
theorem wfr_len {n : Int} {r : WR} (h : Good r) : (wfr n r).length ≤ 5100 := by
  have h1 := wbody_len r.type_ n r.hasData (ints r.data)
  have h2 := wframe_len (b := wbody r.type_ n r.hasData (ints r.data))
  have h3 := h.len
  rw [ints_length] at h1
  unfold wfr; omega
theorem ints_none {r : WR} (h : Good r) (hd : r.hasData = false) : ints r.data = [] := by rw [h.none_ hd]; rfl
theorem wfr_has {n : Int} {r : WR} (hd : r.hasData = true) : wframe (wbody r.type_ n true (ints r.data)) = wfr n r := by unfold wfr; rw [hd]
theorem wfr_none {n : Int} {r : WR} (h : Good r) (hd : r.hasData = false) : wframe (wbody r.type_ n false []) = wfr n r := by unfold wfr; rw [hd, ints_none h hd]
theorem wnx_none {n : Int} {r : WR} (h : Good r) (hd : r.hasData = false) : crc n [] = wnx n r := by unfold wnx; rw [ints_none h hd]
/-! ### Each frame fills whole eights -/
theorem wframe_mod {b : List Int} : (wframe b).length % 8 = 0 := by
  have hp : wpad b.length = (8 - b.length % 8) % 8 := rfl
  simp only [wframe, le7, List.length_append, List.length_map, List.length_cons, List.length_nil, List.length_replicate]; omega
theorem flat_mod {l : List (List Int)} (h : ∀ x ∈ l, x.length % 8 = 0) : l.flatten.length % 8 = 0 := by
  induction l with
  | nil => rfl
  | cons a l ih =>
    have h1 := h a (by simp)
    have h2 := ih fun x hx => h x (by simp [hx])
    rw [List.flatten_cons, List.length_append]; omega
theorem wst_inv {p : List Int → Prop} (hp : ∀ n r, p (wfr n r)) (prev : Int) (l : List WR) : ∀ x ∈ wfs prev l, p x := by
  suffices ∀ (l : List WR) (s : List (List Int) × Int), (∀ x ∈ s.1, p x) → ∀ x ∈ (l.foldl wstep s).1, p x from this l ([], prev) (by simp)
  intro l
  induction l with
  | nil => intro s h; exact h
  | cons r l ih =>
    intro s h
    refine ih _ fun x hx => ?_
    simp only [wstep, List.mem_append, List.mem_singleton] at hx
    rcases hx with hx | rfl
    · exact h x hx
    · exact hp _ _
end Go.Proofs.Ytgeggiebefonhaa
