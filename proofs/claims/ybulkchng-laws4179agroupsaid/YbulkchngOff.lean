/-
  (*topDocs).offer: the best of what was offered are kept.
-/
import Derived.Test.YbulkchngSwapIn
import Derived.Test.YbulkchngDrop
namespace Go.Proofs.Ybulkchng
open Go.RowKit Go.Sort

def Small (h : Array Mt) : Prop := ∀ t, t < h.size → h[t]!.2 < 1000

theorem Small.more {h h' : Array Mt} {m : Mt} (hs : Small h) (hp : h'.toList.Perm (h.toList ++ [m])) (hm : m.2 < 1000) : Small h' := fun t ht => by
  have hx : h'[t]! ∈ h'.toList := by rw [getElem!_pos h' t ht]; simp
  rcases List.mem_append.1 (hp.mem_iff.1 hx) with h1 | h1
  · obtain ⟨i, hi, e⟩ := mem_get h1; rw [← e]; exact hs i hi
  · have : h'[t]! = m := by simpa using h1
    rw [this]; exact hm
theorem Small.put {h h' : Array Mt} {m : Mt} (hs : Small h) (hp : h'.toList.Perm (h.setIfInBounds 0 m).toList) (hm : m.2 < 1000) : Small h' := fun t ht => by
  have hx : h'[t]! ∈ h'.toList := by rw [getElem!_pos h' t ht]; simp
  have h1 := hp.mem_iff.1 hx
  rw [Array.toList_setIfInBounds] at h1
  rcases List.mem_or_eq_of_mem_set h1 with h2 | h2
  · obtain ⟨i, hi, e⟩ := mem_get h2; rw [← e]; exact hs i hi
  · rw [h2]; exact hm
theorem Small.wide {h : Array Mt} (hs : Small h) : ∀ t, t < h.size → h[t]!.2 < 1024 := fun t ht => Nat.lt_trans (hs t ht) (by omega)

theorem offer_any (cb limit : Nat) (v : Value) (h : Array Mt) (total B : Nat) (m : Mt) (off : List Mt) (w : World) (c : Coll cb limit v h total B w) (hm : m.2 < 1000) (hl : 1 ≤ limit ∧ limit ≤ 12) (k : Kept limit off h) (hs : Small h) :
    Calls Yba.prog 32 #[.pointer (some ⟨cb, 0, none⟩), ev m] w fun e w' => e = .returned (.tuple #[]) ∧ ∃ v' h', Coll cb limit v' h' total B w' ∧ Kept limit (off ++ [m]) h' ∧ Small h' ∧ Frm B (· = cb) w w' := by
  by_cases h1 : h.size < limit
  · refine (offer_more cb limit v h total B m w c (by omega) h1 hl.2 k.heap hs.wide).mono ?_
    rintro e w' ⟨rfl, v', h', c', hp, hk, hf⟩
    exact ⟨rfl, v', h', c', k.more h1 hp hk, hs.more hp hm, hf⟩
  · have hz : 0 < h.size := by omega
    have hle := k.le
    cases hw : worse h[0]! m with
    | false =>
      refine (offer_drop cb limit v h total B m w c (by omega) h1 hz hs.wide hw).mono ?_
      rintro e w' ⟨rfl, hg⟩
      exact ⟨rfl, v, h, c.kept hg (by simp) (by simp), k.drop h1 hw, hs, Frm.of hg (by simp) c.base⟩
    | true =>
      refine (offer_swap cb limit v h total B m w c (by omega) h1 (by omega) hz k.heap hs.wide hw).mono ?_
      rintro e w' ⟨rfl, h', c', hp, hk, hf⟩
      exact ⟨rfl, v, h', c', k.swap h1 hz hw hp hk, hs.put hp hm, hf⟩
end Go.Proofs.Ybulkchng
