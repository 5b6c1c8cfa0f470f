/- Parts of the proofs over the numbers of any length: RawB. -/
import Derived.Lib.SlBytesRowKit
import Derived.Test.YtacbllkmcldniaaGreatDoorBytesB
import Derived.Test.YtacbllkmcldniaaGreatDoorBytesA
set_option linter.unusedSimpArgs false
set_option linter.unusedVariables false
namespace Go.Proofs
open Go.RowKit
set_option maxHeartbeats 400000
set_option linter.unusedVariables false
set_option maxRecDepth 100000

theorem bs_of_bytesIn {W : World} {a : Option Addr} {n c : Nat} {xs : List Int} (hx : xs.length = n) (hc : n ≤ c) (h : Lib.BytesIn W a n xs) (hr : ∀ x ∈ xs, 0 ≤ x ∧ x < 256) :
    BsV W 0 (.slice a n c) (beL (ofBE (xs.map Int.toNat)) n) c ∧ ofBE (xs.map Int.toNat) < 256 ^ n := by
  have hB : ∀ y ∈ xs.map Int.toNat, y < 256 := by
    intro y hy
    obtain ⟨x, hxm, rfl⟩ := List.mem_map.1 hy
    have := hr x hxm
    omega
  have hl : (xs.map Int.toNat).length = n := by rw [List.length_map, hx]
  have hbe := beL_ofBE _ hB
  rw [hl] at hbe
  have hlt := ofBE_lt _ hB
  rw [hl] at hlt
  refine ⟨?_, hlt⟩
  rw [hbe]
  refine ⟨a, by rw [hl], by rw [hl]; exact hc, fun h0 => ?_⟩
  rw [hl] at h0
  obtain ⟨b, o, rfl, hcell⟩ := h h0
  refine ⟨b, o, rfl, Nat.zero_le _, World.block_lt_of_cell? W ⟨b, o + 0, none⟩ (hcell 0 h0), fun i hi => ?_⟩
  rw [hl] at hi
  rw [hcell i hi]
  have hix : i < xs.length := by omega
  have hm := hr _ (List.getElem_mem hix)
  simp [bv, List.getD_eq_getElem?_getD, List.getElem?_eq_getElem hix]
  omega
end Go.Proofs
