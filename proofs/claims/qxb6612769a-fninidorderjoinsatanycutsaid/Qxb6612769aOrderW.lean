/-
  inIDOrder of seat b6612769a: the walk.
-/
import Derived.Test.Qxb6612769aOrder
namespace Go.Proofs.Qxb6612769a
open Go.RowKit Go.Lib

theorem enters30 : ∀ args w, (callFunc 30 args).run Try.prog w = .ok (.enter 30 args) w := enters_of Try.func30 (by kernel_rfl) rfl

/-- slices.SortFunc at this dump. -/
theorem sort_at {ids : List Int} {n B blk cap : Nat} {ps : List Nat} {w : World} (hn : 0 < n) (hT : Txns ids n B w) (hne : ∀ j, j < n → B + j ≠ blk) (hH : Sort.Holds (encN n B) w blk 0 ps.toArray) (hblk : blk < w.heap.size) (hsz : ps.length ≤ 16384) :
    Calls Try.prog 29 #[.slice (some ⟨blk, 0, none⟩) ps.length cap, .func (.func 30) #[] #[]] w fun e w' =>
      e = .returned (.tuple #[]) ∧ ∃ d' q os, Sort.PermIn 0 ps.toArray.size ps.toArray d' ∧ Sort.SortedIn (ltOf (cfN ids n)) 0 ps.toArray.size d' ∧ w' = sortWorld (encN n B) w blk 0 q d' os := by
  have h := Any.slices_SortFunc Try.sortF (encN n B) (fun _ => rfl) (cfN ids n) (swoN ids n) 30 #[] blk 0 cap ps.toArray w enters30 (cmp_reads hn hT hne).lays hH hblk (by simp; omega)
  have e : ps.toArray.size = ps.length := by simp
  rw [e] at h
  rw [e]
  exact h

/-- slices.Compact behind it. -/
theorem compact_behind {ids : List Int} {n B blk cap : Nat} {ps : List Nat} {w : World} (hps : ∀ x, x ∈ ps → x < n) (hinj : Inj ids n) (hT : Txns ids n B w) (hne : ∀ j, j < n → B + j ≠ blk) (hH : Sort.Holds (encN n B) w blk 0 ps.toArray)
    (hblk : blk < w.heap.size) (hsz : ps.length ≤ 16384) (hcap : ps.length ≤ cap) {d' : Array Nat} {q : Nat} {os : Array Obj} (hp : Sort.PermIn 0 ps.toArray.size ps.toArray d') (hs : Sort.SortedIn (ltOf (cfN ids n)) 0 ps.toArray.size d') :
    Calls Try.prog 32 #[.slice (some ⟨blk, 0, none⟩) ps.length cap] (sortWorld (encN n B) w blk 0 q d' os) fun e w' => ∃ l, IsOrd ids ps l ∧ e = .returned (.slice (some ⟨blk, 0, none⟩) l.length cap) ∧
      (∀ i, i < l.length → w'.cell? ⟨blk, i, none⟩ = some (ptr B (l.getD i 0))) ∧ w.grownBy w' (some blk) := by
  obtain ⟨hmem, hord, hsome⟩ := order_plain hps hinj hp hs
  have hsz' : d'.size = ps.length := by simpa using hp.1
  have hds : (d'.toList.map some).toArray.size = ps.length := by simp [hsz']
  have hat : ∀ j, j < d'.size → (d'.toList.map some).toArray[j]! = some d'[j]! := fun j hj => by
    rw [getElem!_pos _ j (by simpa using hj), getElem!_pos d' j hj]; simp
  have hin : ∀ j, j < d'.size → d'[j]! < n := fun j hj => hps _ ((hmem _).1 (by rw [getElem!_pos d' j hj]; simp))
  have hH1 : Sort.Holds (encN n B) (sortWorld (encN n B) w blk 0 q d' os) blk 0 d' := holds_sortWorld (encN n B) w blk 0 q ps.toArray d' os hblk hH (by simp [hsz'])
  have hH2 : Sort.Holds (encP B) (sortWorld (encN n B) w blk 0 q d' os) blk 0 (d'.toList.map some).toArray := fun j hj => by
    rw [hds, ← hsz'] at hj
    rw [hat j hj]
    obtain ⟨h1, h2⟩ := hH1 j hj
    refine ⟨h1.trans ?_, h2⟩
    show some (ptr B (norm n d'[j]!)) = some (ptr B d'[j]!)
    rw [norm_of (hin j hj)]
  have hT1 : ∀ j, j < n → (sortWorld (encN n B) w blk 0 q d' os).heap[B + j]? = w.heap[B + j]? := fun j hj => heap_sortWorld _ w blk 0 q d' os _ (hne j hj) (hT.lt hj)
  have hc := compact_at (encP B) (encP_one B) (encP_guard B) none rfl blk 0 cap (d'.toList.map some).toArray (sortWorld (encN n B) w blk 0 q d' os)
    (fun W hW i j hi hj => by
      rw [hds, ← hsz'] at hi hj
      rw [hat i hi, hat j hj]
      have li := hin i hi
      have lj := hin j hj
      obtain ⟨c, hc, _⟩ := hT _ li
      obtain ⟨c', hc', _⟩ := hT _ lj
      exact eq_encP ⟨c, by rw [hW _ (hne _ li), hT1 _ li]; exact hc⟩ ⟨c', by rw [hW _ (hne _ lj), hT1 _ lj]; exact hc'⟩)
    hH2 (by rw [hds]; omega) (by rw [hds]; exact hcap)
  rw [hds] at hc
  rw [hds] at hord hsome
  refine hc.mono fun e w' ⟨he, q2, hw⟩ => ⟨_, hord, ?_, fun i hi => ?_, ?_⟩
  · rw [he, List.length_map]
  · rw [List.length_map] at hi
    have hlen := compact_len (d'.toList.map some).toArray ps.length
    have hsize : ((compactUpTo (d'.toList.map some).toArray ps.length ++ List.replicate (ps.length - (compactUpTo (d'.toList.map some).toArray ps.length).length) none).toArray).size = (d'.toList.map some).toArray.size := by
      rw [hds]; simp; omega
    have := Sort.cell?_putRow (encP B) (Sort.ahead (sortWorld (encN n B) w blk 0 q d' os) q2) blk 0 (d'.toList.map some).toArray _ (Sort.holds_ahead _ _ q2 _ _ _ hH2) hsize i (by rw [hsize, hds]; omega)
    rw [Nat.zero_add] at this
    rw [hw, this]
    have hm : (compactUpTo (d'.toList.map some).toArray ps.length)[i] ∈ compactUpTo (d'.toList.map some).toArray ps.length := List.getElem_mem hi
    obtain ⟨x, hx⟩ := hsome _ hm
    have e1 : ((compactUpTo (d'.toList.map some).toArray ps.length ++ List.replicate (ps.length - (compactUpTo (d'.toList.map some).toArray ps.length).length) none).toArray)[i]! = some x := by
      rw [getElem!_pos _ i (by rw [hsize, hds]; omega)]
      simp only [List.getElem_toArray]
      rw [List.getElem_append_left hi, hx]
    have e2 : ((compactUpTo (d'.toList.map some).toArray ps.length).map fun o => o.getD 0).getD i 0 = x := by
      rw [List.getD_eq_getElem?_getD, List.getElem?_map, List.getElem?_eq_getElem hi, hx]; rfl
    rw [e1, e2]
    rfl
  · rw [hw]
    exact (grown_sortWorld _ w blk 0 q d' os).trans (grown_putRow (encP B) _ blk 0 q2 _)

set_option maxHeartbeats 1000000 in
/-- inIDOrder at a list that is not empty. -/
theorem order_any {ids : List Int} {n B blk cap : Nat} {ps : List Nat} {w : World} (hn : 0 < n) (hps : ∀ x, x ∈ ps → x < n) (hinj : Inj ids n) (hT : Txns ids n B w) (hne : ∀ j, j < n → B + j ≠ blk) (hH : Sort.Holds (encN n B) w blk 0 ps.toArray)
    (hblk : blk < w.heap.size) (hsz : ps.length ≤ 16384) (hcap : ps.length ≤ cap) :
    Calls Try.prog 23 #[.slice (some ⟨blk, 0, none⟩) ps.length cap] w fun e w' => ∃ l, IsOrd ids ps l ∧ e = .returned (.slice (some ⟨blk, 0, none⟩) l.length cap) ∧
      (∀ i, i < l.length → w'.cell? ⟨blk, i, none⟩ = some (ptr B (l.getD i 0))) ∧ w.grownBy w' (some blk) := by
  have hcon := sort_at (cap := cap) hn hT hne hH hblk hsz
  have hcom := fun d' q os hp hs => compact_behind (cap := cap) (q := q) (os := os) (d' := d') hps hinj hT hne hH hblk hsz hcap hp hs
  have HC : Hid (∀ d' q os, Sort.PermIn 0 ps.toArray.size ps.toArray d' → Sort.SortedIn (ltOf (cfN ids n)) 0 ps.toArray.size d' → Calls Try.prog 32 #[.slice (some ⟨blk, 0, none⟩) ps.length cap] (sortWorld (encN n B) w blk 0 q d' os) fun e w' => ∃ l, IsOrd ids ps l ∧ e = .returned (.slice (some ⟨blk, 0, none⟩) l.length cap) ∧
      (∀ i, i < l.length → w'.cell? ⟨blk, i, none⟩ = some (ptr B (l.getD i 0))) ∧ w.grownBy w' (some blk)) := hcom
  clear hcom hT hne hH hps hinj
  go_enter Try.func23, Try.ntmps23
  go_wp2_with (first
    | (go_at_call 29; refine hcon.mono ?_; rintro e w1 ⟨rfl, d', q, os, hp, hs, rfl⟩; have hcm := HC.out d' q os hp hs; clear hp hs)
    | (go_at_call 32; refine hcm.mono ?_; rintro e w2 ⟨l, hl, rfl, hc, hg⟩))
  go_ret
  exact ⟨l, hl, rfl, hc, hg⟩

end Go.Proofs.Qxb6612769a
