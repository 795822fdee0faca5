/- Rows on their way to their bytes. -/
import Derived.Test.YtgeggiebefonhaaHaC0
set_option linter.unusedVariables false
set_option linter.unusedSimpArgs false
namespace Go.Proofs.Ytgeggiebefonhaa
open Go Go.RowKit Gw
structure RW where
  rev_Main : Int
  rev_Sub : Int
  gone : Bool
  kV_Key : ByteArray
  kV_Value : ByteArray
  kV_Create : Int
  kV_Mod : Int
  kV_Version : Int
  kV_Lease : Int
def RW.cells (x : RW) : List Value := [(Value.int .i64 x.rev_Main), (Value.int .i64 x.rev_Sub), (Value.bool x.gone), (Value.string x.kV_Key), (Value.string x.kV_Value), (Value.int .i64 x.kV_Create), (Value.int .i64 x.kV_Mod), (Value.int .i64 x.kV_Version), (Value.int .i64 x.kV_Lease)]
theorem RW.len (x : RW) : x.cells.length = 9 := rfl
structure ZR where
  key_Revision_Main : Int
  key_Revision_Sub : Int
  key_tombstone : Bool
  kV : Value
def ZR.cells (x : ZR) : List Value := [(Value.int .i64 x.key_Revision_Main), (Value.int .i64 x.key_Revision_Sub), (Value.bool x.key_tombstone), x.kV]
theorem ZR.len (x : ZR) : x.cells.length = 4 := rfl
structure RV where
  main : Int
  sub : Int
def RV.cells (x : RV) : List Value := [(Value.int .i64 x.main), (Value.int .i64 x.sub)]
theorem RV.len (x : RV) : x.cells.length = 2 := rfl
structure MR where
  main : Int
  sub : Int
def MR.cells (x : MR) : List Value := [(Value.int .i64 x.main), (Value.int .i64 x.sub)]
theorem MR.len (x : MR) : x.cells.length = 2 := rfl
def RW.ks (x : RW) : List Int := ints x.kV_Key
def RW.vs (x : RW) : List Int := ints x.kV_Value
def RW.kb (x : RW) : List Int := rkey x.rev_Main x.rev_Sub x.gone
def RW.vb (x : RW) : List Int := kvb x.ks x.vs x.kV_Create x.kV_Mod x.kV_Version x.kV_Lease
/-- Block b has this key-value. -/
structure KVat (R : HP) (b : Nat) (kv vv : Value) (x : RW) : Prop where
  cells : RC R b 0 [kv, .int .i64 x.kV_Create, .int .i64 x.kV_Mod, .int .i64 x.kV_Version, vv, .int .i64 x.kV_Lease]
  key : RS R 1 kv x.ks.length (bytesV x.ks)
  val : RS R 1 vv x.vs.length (bytesV x.vs)
theorem KVat.mono {R R' : HP} {b : Nat} {kv vv : Value} {x : RW} (h : KVat R b kv vv x) (hs : Sub R R') : KVat R' b kv vv x := ⟨h.cells.mono hs, h.key.mono hs, h.val.mono hs⟩
def ZRof (x : RW) (b : Nat) : ZR := ⟨x.rev_Main, x.rev_Sub, x.gone, .pointer (some ⟨b, 0, none⟩)⟩
def ZipR (R : HP) (zs : List ZR) (l : List RW) : Prop := zs.length = l.length ∧ ∀ (i : Nat) (x : RW), l[i]? = some x → ∃ b kv vv, zs[i]? = some (ZRof x b) ∧ KVat R b kv vv x
theorem ZipR.mono {R R' : HP} {zs : List ZR} {l : List RW} (h : ZipR R zs l) (hs : Sub R R') : ZipR R' zs l :=
  ⟨h.1, fun i x hx => by obtain ⟨b, kv, vv, h1, h2⟩ := h.2 i x hx; exact ⟨b, kv, vv, h1, h2.mono hs⟩⟩
theorem take_snoc {α : Type} {l : List α} {k : Nat} {x : α} (h : l[k]? = some x) : l.take (k + 1) = l.take k ++ [x] := by rw [List.take_add_one, h]; rfl
theorem ZipR.next {R R' : HP} {zs : List ZR} {l : List RW} {k b : Nat} {kv vv : Value} {x : RW} (h : ZipR R zs (l.take k)) (hs : Sub R R') (hx : l[k]? = some x) (hk : KVat R' b kv vv x) : ZipR R' (zs ++ [ZRof x b]) (l.take (k + 1)) := by
  rw [take_snoc hx]
  refine ⟨by simp [h.1], fun i y hy => ?_⟩
  rcases Nat.lt_trichotomy i (l.take k).length with hlt | heq | hgt
  · rw [List.getElem?_append_left hlt] at hy
    obtain ⟨c, k2, v2, h1, h2⟩ := h.2 i y hy
    exact ⟨c, k2, v2, by rw [List.getElem?_append_left (by rw [h.1]; exact hlt), h1], h2.mono hs⟩
  · subst heq
    rw [List.getElem?_append_right (Nat.le_refl _), Nat.sub_self] at hy
    simp at hy; subst hy
    exact ⟨b, kv, vv, by rw [← h.1, List.getElem?_append_right (Nat.le_refl _), Nat.sub_self]; rfl, hk⟩
  · rw [List.getElem?_append_right (by omega)] at hy
    have : i - (l.take k).length ≠ 0 := by omega
    obtain ⟨j, hj⟩ : ∃ j, i - (l.take k).length = j + 1 := ⟨i - (l.take k).length - 1, by omega⟩
    rw [hj] at hy; simp at hy
/-- Slices of bytes, one after the other. -/
def Bts (R : HP) (ks : List Value) (bs : List (List Int)) : Prop := ks.length = bs.length ∧ ∀ (i : Nat) (u : List Int), bs[i]? = some u → ∃ kv, ks[i]? = some kv ∧ RS R 1 kv u.length (bytesV u)
theorem Bts.nil (R : HP) : Bts R [] [] := ⟨rfl, fun i u h => by simp at h⟩
theorem Bts.mono {R R' : HP} {ks : List Value} {bs : List (List Int)} (h : Bts R ks bs) (hs : Sub R R') : Bts R' ks bs :=
  ⟨h.1, fun i x hx => by obtain ⟨kv, h1, h2⟩ := h.2 i x hx; exact ⟨kv, h1, h2.mono hs⟩⟩
theorem Bts.next {R R' : HP} {ks : List Value} {l : List RW} {f : RW → List Int} {k : Nat} {kv : Value} {x : RW} (h : Bts R ks ((l.take k).map f)) (hs : Sub R R') (hx : l[k]? = some x) (hk : RS R' 1 kv (f x).length (bytesV (f x))) : Bts R' (ks ++ [kv]) ((l.take (k + 1)).map f) := by
  rw [take_snoc hx, List.map_append]
  refine ⟨by simp [h.1], fun i y hy => ?_⟩
  rcases Nat.lt_trichotomy i ((l.take k).map f).length with hlt | heq | hgt
  · rw [List.getElem?_append_left hlt] at hy
    obtain ⟨c, h1, h2⟩ := h.2 i y hy
    exact ⟨c, by rw [List.getElem?_append_left (by rw [h.1]; exact hlt), h1], h2.mono hs⟩
  · subst heq
    rw [List.getElem?_append_right (Nat.le_refl _), Nat.sub_self] at hy
    simp at hy; subst hy
    exact ⟨kv, by rw [← h.1, List.getElem?_append_right (Nat.le_refl _), Nat.sub_self]; rfl, hk⟩
  · rw [List.getElem?_append_right (by omega)] at hy
    obtain ⟨j, hj⟩ : ∃ j, i - ((l.take k).map f).length = j + 1 := ⟨i - ((l.take k).map f).length - 1, by omega⟩
    rw [hj] at hy; simp at hy
end Go.Proofs.Ytgeggiebefonhaa
