/- Lemmas for a loop that gathers words. -/
import Derived.Test.YtdfcomilhjoooaaGreatDoorBase4
namespace Go.Proofs.YtdfcomilhjoooaaGreatDoor.Base
open Go.RowKit Go.Proofs.YtdfcomilhjoooaaGreatDoorW.PrintWords

theorem infoU : (Tryz.prog.info? 44).map (fun i => (i.zero, i.size, i.bytes)) = some (some (.int .u64 0), 1, 8) := by kernel_rfl
theorem new_one (w : World) (x : Value) (t : TypeId) : ∀ (j : Nat) (u : Value), [x][j]? = some u → (w.alloc (.cells #[x] t)).cell? ((⟨w.heap.size, 0, none⟩ : Addr).add j) = some u := by
  intro j u hj
  match j, hj with
  | 0, hj => simp at hj; subst hj; simp [Addr.add]
theorem take_snoc (l : List Int) (k : Nat) (h : k < l.length) : nums .u64 (l.take (k + 1)) = nums .u64 (l.take k) ++ [.int .u64 (l.getD k 0)] := by
  rw [List.take_add_one, nums_append]
  congr 1
  rw [List.getD_eq_getElem?_getD, List.getElem?_eq_getElem h]
  rfl

/-- one append of a loop that gathers words in a row of its own -/
theorem gather {w wr w1 : World} {o : Obj} {v v' : Value} {l : List Int} {k e : Nat} (hk : k < l.length) (hbel : Below w.heap.size w wr) (hown : wr.ownsRow w.heap.size e 1 v k (nums .u64 (l.take k)))
    (hown' : w1.ownsRow w.heap.size e 1 v' (k + 1) (nums .u64 (l.take k) ++ [.int .u64 (l.getD k 0)])) (hg : (wr.alloc o).grownBy w1 v.ownBlock) :
    w1.ownsRow w.heap.size e 1 v' (k + 1) (nums .u64 (l.take (k + 1))) ∧ Below w.heap.size w w1 :=
  ⟨by rw [take_snoc l k hk]; exact hown', (hbel.alloc hbel.size o).grown hg (by have := hbel.size; simp; omega) (fun k hk => (hown.lt k hk).1)⟩
end Go.Proofs.YtdfcomilhjoooaaGreatDoor.Base
