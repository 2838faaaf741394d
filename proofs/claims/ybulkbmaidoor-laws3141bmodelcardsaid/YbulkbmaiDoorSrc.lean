/- A byte slice that came in, as the walks of this seat want it; a row of bytes that the call owns. -/
import Derived.Test.YbulkbmaiDoorProg
import Derived.WalkKit
import Derived.ProofKit
import Derived.OpenShut
namespace Go.Proofs.YbulkbmaiDoor
open Go.ChangeShapes Go.WideShapes Go.ChangeAt Go.RowKit

theorem info5 : (Ybad.prog.info? 5).map (fun i => (i.zero, i.size, i.bytes)) = some (some (.int .u8 0), 1, 1) := by kernel_rfl

/-- What the walks are told of a byte slice that came in: where it has an element its cells lie below block B and hold the numbers z; nil has no length and no capacity. -/
def Src (w : World) (B : Nat) (ao : Option Addr) (n c : Nat) (z : List Int) : Prop :=
  (ao = none → n = 0 ∧ c = 0) ∧ z.length = n ∧ (0 < n → ∃ b off, ao = some ⟨b, off, none⟩ ∧ b < B ∧ ∀ j, j < n → w.cell? ⟨b, off + j, none⟩ = some (.int .u8 (z.getD j 0)))

theorem Src.cells {w w' : World} {B n c : Nat} {ao : Option Addr} {z : List Int} (h : Src w B ao n c z) (hb : ∀ b off, b < B → w'.cell? ⟨b, off, none⟩ = w.cell? ⟨b, off, none⟩) :
    ∀ ad, ao = some ad → ∀ j u, (z.map (Value.int .u8))[j]? = some u → w'.cell? (ad.add j) = some u := by
  intro ad had j u hu
  obtain ⟨_, hl, hp⟩ := h
  have hj : j < z.length := by
    have := (List.getElem?_eq_some_iff.1 hu).1
    simpa using this
  obtain ⟨b, off, rfl, hbB, hc⟩ := hp (by omega)
  obtain rfl := Option.some.inj had
  rw [Addr.add_lit, hb _ _ hbB, hc j (by omega)]
  simp [hj] at hu
  simp [List.getD, hj, hu]

/-- A cell of a row of bytes that the call owns. -/
theorem row_cell {w : World} {base g n cap : Nat} {zs : List Int} (h : w.ownsRow base 5 1 (.slice (some ⟨g, 0, none⟩) n cap) n (zs.map (Value.int .u8))) (j : Nat) (x : Int) (hx : zs[j]? = some x) : w.cell? ⟨g, j, none⟩ = some (.int .u8 x) := by
  have hj : j < n := by
    have h1 := (List.getElem?_eq_some_iff.1 hx).1
    have h2 := h.1
    simp at h2
    omega
  rw [h.cellAt j (by omega), List.getElem?_map, hx]
  rfl

/-- A slice of bytes that came in, as the walks want it. -/
theorem open_src {H : Type} {enc : TypeId × Value → H} {W : World} {a : Option Addr} {len cap : Nat} {d : DataW H} {p : List MemPlace} (h : DataW.Trod enc Ybad.prog W 0 (fun _ => true) true 22 (.slice a len cap) d p) :
    ∃ z, Src W W.heap.size a len cap z ∧ len ≤ maxLen := by
  obtain ⟨fuel, hf⟩ := h
  rcases open_ints Ybad.underlying22 Ybad.underlying5 (by kernel_rfl) hf with ⟨hcs, _⟩ | ⟨x, l, c, zs, hcs, _, hl, hm, hz, _, hcell, hwz⟩
  · simp [Value.cells] at hcs
    obtain ⟨rfl, rfl, rfl⟩ := hcs
    exact ⟨[], ⟨fun _ => ⟨rfl, rfl⟩, rfl, fun h => absurd h (by omega)⟩, Nat.zero_le _⟩
  · simp [Value.cells] at hcs
    obtain ⟨rfl, rfl, rfl⟩ := hcs
    have hz' : zs.length = cap := by simpa using hz
    refine ⟨zs.take len, ⟨fun h => (by cases h), by rw [List.length_take]; omega, fun hp => ?_⟩, by omega⟩
    obtain ⟨b, off, rfl, hc⟩ := ints_at hcell (by omega)
    refine ⟨b, off, rfl, by simpa using World.block_lt_of_cell? _ _ (hc 0 (by omega)), fun j hj => ?_⟩
    rw [hc j (by omega)]
    simp [List.getD, hj]

end Go.Proofs.YbulkbmaiDoor
