/- The law's walker: chunks, at every depth. -/
import Derived.Test.YthipghkhdlnfiaaDoorTrG
import Derived.Test.YthipghkhdlnfiaaDoorTrG0
namespace Go.Proofs.YthipghkhdlnfiaaDoor
open Go.RowKit
theorem chunksT_all (c : WC) : ∀ (d : Nat), d ≤ 6 → ∀ (w : World) (sv wv kv : Value) (ps : List (Int × Int)) (cks : List Ck) (ks : List Nat) (ds : List Value), WK c w sv wv kv ps cks ks ds → ps.length + 4 * qD d ≤ 5000000 → cks.length + 4 * qD d ≤ 5000000 → ks.length + 4 * qD d ≤ 5000000 →
    Calls Tryd.prog 17 #[.pointer (some ⟨c.gw, 0, none⟩), .int .i64 d, .bool true] w (TP c (4 * qD d) w ps cks ks ds)
  | 0, hd, w, sv, wv, kv, ps, cks, ks, ds, h, bp, bk, bs => chunksT0 c 0 hd (by decide) (fun d' _ _ _ _ _ _ _ _ e => by omega) w sv wv kv ps cks ks ds h bp bk bs
  | d + 1, hd, w, sv, wv, kv, ps, cks, ks, ds, h, bp, bk, bs => chunksT1 c (d + 1) hd (by omega) (fun d' w' sv' wv' kv' ps' cks' ks' ds' e h' bp' bk' bs' => by
      obtain rfl : d' = d := by omega
      exact chunksT_all c d' (by omega) w' sv' wv' kv' ps' cks' ks' ds' h' bp' bk' bs') w sv wv kv ps cks ks ds h bp bk bs
end Go.Proofs.YthipghkhdlnfiaaDoor
