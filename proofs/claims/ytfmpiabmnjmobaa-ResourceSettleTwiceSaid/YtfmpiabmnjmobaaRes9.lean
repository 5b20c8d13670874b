/- Layer 28: Order, Queue, Item. -/
import Derived.Test.YtfmpiabmnjmobaaRes8
namespace Go.Proofs.Ytfmpiabmnjmobaa
open Go.RowKit

end Go.Proofs.Ytfmpiabmnjmobaa

/- Layer 28: Item. -/
namespace Go.Proofs.Ytfmpiabmnjmobaa
open Go.RowKit

end Go.Proofs.Ytfmpiabmnjmobaa

/- Layer 28, plain: items by id. -/
namespace Go.Proofs.Ytfmpiabmnjmobaa
open Go.RowKit

theorem items_ids {l : List Itm} (h : itemsE l = 0) : (l.map Itm.id).Nodup := by
  have h0 := fst0_zero.1 h
  rw [List.Nodup, List.pairwise_map, List.pairwise_iff_getElem]
  intro i j hi hj hij e
  have := h0 j (List.mem_range.2 hj)
  unfold iErr at this
  rw [getD_at itm0 hj] at this
  split at this
  · contradiction
  · split at this
    · cases this
    · rename_i hn
      exact hn (.inl (mem_tk hj hij e))
end Go.Proofs.Ytfmpiabmnjmobaa
