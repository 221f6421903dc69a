/- The reference's function normalRow as a whole (printed by wip/gen_filtn.py). -/
import Derived.Test.YtmdijdoaijnpaaaDoorFiltM
namespace Go.Proofs.YtmdijdoaijnpaaaDoor
open Go.RowKit

theorem normalRow_any (l : Nat → Int) (most near high : Int) (large : Bool) (w : World) (hl : In8 l) :
    Calls Tryd.prog 44 #[.agg (row8 l), .int .i64 most, .int .i64 near, .int .i64 high, .bool large] w fun e w' => e = .returned (.agg (row8 (nrm most near high (!large) l))) ∧ Below w.heap.size w w' := by
  by_cases hn : isNr l most = true
  · by_cases hs : isSm l near = true
    · by_cases k1 : high < dst (l 2) (l 3)
      · have e : nrm most near high (!large) l = two l true := by unfold nrm; rw [if_pos ⟨hn, hs⟩, if_pos (show contr l high = true from decide_eq_true (Or.inl k1))]
        rw [e]
        cases large with
        | true => exact nr_C1t1 l most near high w hl hn hs k1
        | false => exact nr_C3t1 l most near high w hl hn hs k1
      · by_cases k2 : high < dst (l 5) (l 4)
        · have e : nrm most near high (!large) l = two l true := by unfold nrm; rw [if_pos ⟨hn, hs⟩, if_pos (show contr l high = true from decide_eq_true (Or.inr k2))]
          rw [e]
          cases large with
          | true => exact nr_C1t2 l most near high w hl hn hs k1 k2
          | false => exact nr_C3t2 l most near high w hl hn hs k1 k2
        · have hc : ¬ contr l high = true := fun h => by
            rcases of_decide_eq_true h with h | h
            · exact k1 h
            · exact k2 h
          cases large with
          | true =>
            have e : nrm most near high (!true) l = six l := by unfold nrm; rw [if_pos ⟨hn, hs⟩, if_neg hc, if_neg (by decide)]
            rw [e]; exact nr_C2 l most near high w hl hn hs k1 k2
          | false =>
            have e : nrm most near high (!false) l = four l := by unfold nrm; rw [if_pos ⟨hn, hs⟩, if_neg hc, if_pos (by decide)]
            rw [e]; exact nr_C3f l most near high w hl hn hs k1 k2
    · have e : nrm most near high (!large) l = l := by unfold nrm; rw [if_neg (fun h => hs h.2)]
      rw [e]; exact nr_B l most near high w hl large hn (by simpa using hs)
  · have e : nrm most near high (!large) l = l := by unfold nrm; rw [if_neg (fun h => hn h.1)]
    rw [e]; exact nr_A l most near high w hl large (by simpa using hn)
end Go.Proofs.YtmdijdoaijnpaaaDoor
