/- The own words of these proofs for a walk: bytes compared. -/
import Derived.Test.YtlnihndjepjagaaGwJ
import Derived.Lib.Bytealg
set_option linter.unusedVariables false
set_option linter.unusedSimpArgs false
namespace Go.Proofs.Ytlnihndjepjagaa.Gw
open Go Go.RowKit
section
variable {P : Program} {n : Nat} {e : Env} {w : World} {K : Value → World → Prop} {Q : Exit → Act → World → Prop} {ops : Array Oper} {rest : List Oper} {ds : List Deferred}
  {d : Option Nat} {ty : TypeId} {pos : String} {af : Array Edge} {g : Option (Nat × Bool)} {l : List SP}
theorem run_extLoad (b : Nat) : ∀ (ns : List Int) (off : Nat) (acc : ByteArray), (∀ j v, (bytesV ns)[j]? = some v → w.cell? ⟨b, off + j, none⟩ = some v) →
    (Extern.Bytes.loadBytes ⟨b, off, none⟩ ns.length acc).run P w = .ok (ns.foldl (fun r n => r.push (UInt8.ofNat n.toNat)) acc) w
  | [], off, acc, _ => rfl
  | x :: ns, off, acc, h => by
    have h0 := h 0 (.int .u8 x) rfl
    simp only [Nat.add_zero] at h0
    have ih := run_extLoad b ns (off + 1) (acc.push (UInt8.ofNat x.toNat)) (fun j v hj => by have := h (j + 1) v hj; rwa [show off + 1 + j = off + (j + 1) by omega])
    simp only [List.length_cons, Extern.Bytes.loadBytes, Sem.run_bind, run_load, h0, Result.andThen_ok, List.foldl_cons]
    rw [add_mk]
    exact ih
theorem run_extBytes {m : Nat} {v : Value} {ns : List Int} (h : RS (hp w) 1 v m (bytesV ns)) : (Extern.Bytes.bytesOf v).run P w = .ok (strN ns) w := by
  have hl : ns.length = m := by have := h.1; simpa [bytesV] using this
  by_cases hm : 0 < m
  · obtain ⟨b, off, cap, rfl, _, hc⟩ := h.at_ hm
    subst hl
    exact run_extLoad b ns off ByteArray.empty (fun j v hj => hc.cell (Sub.rfl' _) hj)
  · obtain ⟨a, cap, rfl, _⟩ := h.len
    have : m = 0 := by omega
    subst this
    have : ns = [] := by simpa using hl
    subst this
    cases a <;> rfl
/-- A text's bytes, as numbers. -/
def ints (u : ByteArray) : List Int := u.data.toList.map fun b => (b.toNat : Int)
theorem byteCells_bytesV (u : ByteArray) : byteCells u = bytesV (ints u) := by simp [byteCells, bytesV, ints]
theorem ints_length (u : ByteArray) : (ints u).length = u.size := by simp [ints]
theorem toList_data (u : ByteArray) : u.toList = u.data.toList := by rw [ByteArray.toList_eq]
theorem empty_of {u : ByteArray} (h : (u.toList == (ByteArray.mk #[]).toList) = true) : u = ByteArray.mk #[] := by
  rw [toList_data, toList_data] at h
  have h' : u.data.toList = [] := by simpa using h
  obtain ⟨⟨l⟩⟩ := u
  simp at h'
  subst h'
  rfl
/-- What bytes are, as bytes. -/
def u8s (ns : List Int) : List UInt8 := ns.map fun n => UInt8.ofNat n.toNat
theorem strN_u8s (ns : List Int) : (strN ns).data.toList = u8s ns := strN_data ns
theorem u8s_ints (u : ByteArray) : u8s (ints u) = u.data.toList := by
  simp only [u8s, ints, List.map_map]
  have : ((fun n : Int => UInt8.ofNat n.toNat) ∘ fun b : UInt8 => (b.toNat : Int)) = id := by
    funext b; simp
  rw [this, List.map_id]
theorem T_bcmp {f : FuncId} {fn : Func} {x : Operand} {lo : List Operand} {at_ : Array TypeId} {u v : Value} {j k : Nat} {xs ys : List Int} (hf : P.funcs[f]? = some fn) (hn : (fn.name == "runtime.NumGoroutine") = false) (hb : fn.body.isNone = true)
    (h1 : (Extern.findNext fn).isNone = true) (h2 : Extern.find fn = some Extern.BytealgCompare.compare) (hx : ev n e x = .func (.func f) #[] #[]) (ha : lo.map (ev n e) = [u, v])
    (hu : RS (hp w) 1 u j (bytesV xs)) (hv : RS (hp w) 1 v k (bytesV ys)) (kk : K (.int .i64 (Lib.compareBytes (u8s xs) (u8s ys))) w) :
    Stp P n e ⟨d, .call { callee := .value x, args := lo.toArray, argTypes := at_ }, ty, pos, af, g⟩ w K := by
  refine .inl ⟨_, w, ?_, kk⟩
  have hn' : ¬ fn.name = "runtime.NumGoroutine" := by simpa using hn
  have hb' : fn.body = none := by simpa using hb
  have h1' : Extern.findNext fn = none := by simpa using h1
  have hargs : lo.toArray.map (ev n e) = #[u, v] := by simp [ha]
  simp only [execOp, resolve, hx, hargs, Deferred.ofValue, Sem.run_bind, Sem.run_pure, Result.andThen_ok, invoke]
  have hc : (Extern.BytealgCompare.compare #[u, v]).run P w = .ok (.int .i64 (Lib.compareBytes (u8s xs) (u8s ys))) w := by
    change Sem.run P (do pure (goInt (Extern.BytealgCompare.cmp (← Extern.Bytes.bytesOf u) (← Extern.Bytes.bytesOf v)))) w = _
    simp only [Sem.run_bind, Sem.run_pure, run_extBytes hu, run_extBytes hv, Result.andThen_ok]
    rw [Lib.cmp_eq, strN_u8s, strN_u8s]
    rfl
  simp [callFunc, hf, hn', hb', h1', h2, hc]
end
end Go.Proofs.Ytlnihndjepjagaa.Gw
