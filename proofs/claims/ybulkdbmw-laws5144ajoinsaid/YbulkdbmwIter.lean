import Derived.Test.YbulkdbmwLay
import Derived.Test.YbulkdbmwSw
namespace Go.Proofs
open Go.RowKit Go.Maps Go.Sort Go.Shelf

theorem Yba.sorts8 (m : Nat) : AnyZ.SortsIn Yba.prog Yba.sorted8_ren Fence.wide m :=
  ⟨fun blk off cap ss W hH hblk hsz => callsIn_wide.2 (AnyM.slices_Sort_string Yba.sort18 blk off cap ss W hH hblk hsz),
   fun p cap W => callsIn_wide.2 (AnyM.slices_Sort_string_none Yba.sort18 p cap W)⟩

theorem Yba.maps_Keys_9 (mb : Option Nat) (W : World) : CallsIn Fence.wide 5 Yba.prog 9 #[.map mb] W fun e w' => e = .returned (.func (.func 19) #[] #[.pointer (some ⟨W.heap.size, 0, none⟩)]) ∧ w' = W.alloc (.cells #[.map mb] 30) :=
  AnyZ.keys_in Yba.keys9 Fence.wide 5 trivial rfl mb W

set_option maxHeartbeats 1000000 in
theorem Yba.slices_Sorted_keys_8_9 {H : Type} (b nn : Nat) (D0 : DataW H) (R : Value → Option (DataW H × List MemPlace)) (w : World) (hown : w.ownsMap Yba.prog 9 R b nn D0) (hmax : Maps.size D0 ≤ maxLen) (hbytes : Maps.size D0 * 16 ≤ 140737488355328) :
    CallsIn Fence.wide 5 Yba.prog 8 #[.func (.func 19) #[] #[.pointer (some ⟨w.heap.size, 0, none⟩)]] (w.alloc (.cells #[.map (some b)] 30)) fun e w' => ∃ (v : Value) (ss : List (List UInt8)), e = .returned v ∧ ss.Perm (strKeys D0) ∧
      w'.ownsRow (w.alloc (.cells #[.map (some b)] 30)).heap.size 9 1 v ss.length ((ss.mergeSort (fun x y => decide (x ≤ y))).map encStr) ∧ (v = .slice none 0 0 ↔ ss = []) ∧ Below (w.alloc (.cells #[.map (some b)] 30)).heap.size (w.alloc (.cells #[.map (some b)] 30)) w' := by
  have hbl := hown.lt
  have hseq : SeqGives Fence.wide 2 Yba.prog 19 #[.pointer (some ⟨w.heap.size, 0, none⟩)] encStr (fun ss => ss.Perm (strKeys D0)) (Maps.size D0) (w.alloc (.cells #[.map (some b)] 30)) :=
    AnyZ.keys_gives (ρ := Yba.keys9_ren) { Yba.keys9 with } Fence.wide _ trivial rfl (by omega) w.heap.size b nn D0 _ (by simp) (by simp) (by
      obtain ⟨es, clock, hb, Ft, hs, hD⟩ := hown
      exact ⟨es, clock, (Below.heap_alloc _ _ b hbl).trans hb, Ft, hs, hD⟩)
  exact AnyZ.sorted_in Yba.sorted8 Fence.wide 5 trivial trivial trivial trivial rfl (by omega) (Yba.sorts8 _) (enters_of Yba.func18 (by kernel_rfl) rfl) 19 #[.pointer (some ⟨w.heap.size, 0, none⟩)] trivial (enters_of Yba.func19 (by kernel_rfl) rfl) _ _ hmax hbytes _ hseq


end Go.Proofs
namespace Go.Proofs.Ybulkdbmw
open Go Go.RowKit Go.Maps Go.Sort Go.Shelf

theorem keys_u (mb : Option Nat) (W : World) : Calls Yba.prog 9 #[.map mb] W fun e w' => e = .returned (.func (.func 19) #[] #[.pointer (some ⟨W.heap.size, 0, none⟩)]) ∧ w' = W.alloc (.cells #[.map mb] 30) :=
  callsIn_wide.1 (Yba.maps_Keys_9 mb W)

theorem sorted_u {H : Type} (b nn : Nat) (D0 : DataW H) (R : Value → Option (DataW H × List MemPlace)) (w : World) (hown : w.ownsMap Yba.prog 9 R b nn D0) (hmax : Maps.size D0 ≤ maxLen) (hbytes : Maps.size D0 * 16 ≤ 140737488355328) :
    Calls Yba.prog 8 #[.func (.func 19) #[] #[.pointer (some ⟨w.heap.size, 0, none⟩)]] (w.alloc (.cells #[.map (some b)] 30)) fun e w' => ∃ (v : Value) (ss : List (List UInt8)), e = .returned v ∧ ss.Perm (strKeys D0) ∧
      w'.ownsRow (w.alloc (.cells #[.map (some b)] 30)).heap.size 9 1 v ss.length ((ss.mergeSort (fun x y => decide (x ≤ y))).map encStr) ∧ (v = .slice none 0 0 ↔ ss = []) ∧ Below (w.alloc (.cells #[.map (some b)] 30)).heap.size (w.alloc (.cells #[.map (some b)] 30)) w' :=
  callsIn_wide.1 (Yba.slices_Sorted_keys_8_9 b nn D0 R w hown hmax hbytes)

theorem sortS_nil (p : Option Addr) (cap : Nat) (w : World) : Calls Yba.prog 18 #[.slice p 0 cap] w fun e w' => e = .returned (.tuple #[]) ∧ w' = w := AnyM.slices_Sort_string_none Yba.sort18 p cap w
theorem sortS_u (blk off cap : Nat) (ss : List (List UInt8)) (w : World) (hH : Holds encStr w blk off ss.toArray) (hblk : blk < w.heap.size) (hsz : ss.length < 4611686018427387904) :
    Calls Yba.prog 18 #[.slice (some ⟨blk, off, none⟩) ss.length cap] w fun e w' => e = .returned (.tuple #[]) ∧ ∃ n os, w' = grow (putRow encStr (Sort.ahead w n) blk off (ss.mergeSort fun x y => decide (x ≤ y)).toArray) os := AnyM.slices_Sort_string Yba.sort18 blk off cap ss w hH hblk hsz
end Go.Proofs.Ybulkdbmw
