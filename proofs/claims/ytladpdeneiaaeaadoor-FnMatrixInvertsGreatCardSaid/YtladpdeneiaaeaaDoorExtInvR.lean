import Derived.Test.YtladpdeneiaaeaaDoorPInvx0
/-! A row of one matrix that came in: the literal that a call with any number of arguments makes. -/
namespace Go.Proofs.YtladpdeneiaaeaaDoor.PInv
open Go.RowKit Go.Proofs.YtladpdeneiaaeaaDoorW.PrintWords Go.Proofs.YtladpdeneiaaeaaDoorW.PrintLast Go.Proofs.YtladpdeneiaaeaaDoorW.PrintMore
theorem C_one {α : Type} {d : Kd α} (hs : d.sz = 1) {w : World} {g : Nat} {x : α} {v : Value} (hk : d.K w x [v]) (h : w.cell? ⟨g, 0, none⟩ = some v) : d.C w (some ⟨g, 0, none⟩) 1 [x] := by
  refine ⟨rfl, by decide, fun _ => ⟨_, rfl, fun j p hp => ?_⟩⟩
  cases j with
  | zero =>
    have hp : x = p := by simpa using hp
    subst hp
    refine ⟨[v], by rw [hs]; rfl, hk, fun i u hu => ?_⟩
    cases i with
    | zero =>
      have hu : v = u := by simpa using hu
      subst hu
      simpa [Addr.add, hs] using h
    | succ i => simp at hu
  | succ j => simp at hp
theorem one_readM {w : World} {A0 : Option Addr} {c0 : Nat} {l0 : List (List Int)} (hr0 : Kd.C (Kd.slice 5 (Kd.int .u8)) w A0 l0.length l0) (hc0 : l0.length ≤ c0) :
    Kd.C (Kd.slice 25 (Kd.slice 5 (Kd.int .u8))) (w.alloc (Obj.cells #[.slice A0 l0.length c0] 31)) (some ⟨w.heap.size, 0, none⟩) 1 [l0] :=
  C_one rfl ⟨A0, c0, rfl, hc0, Kd.C_below hr0 (below_alloc (Below.refl _ _) _)⟩ (blk_cell (blk_new w _) 0)
end Go.Proofs.YtladpdeneiaaeaaDoor.PInv
