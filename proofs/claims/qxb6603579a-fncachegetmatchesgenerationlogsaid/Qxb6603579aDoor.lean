/- WORK: newVerifiedCache; the three doors of the export file. -/
import Derived.Test.Qxb6603579aGet
namespace Go.Proofs.Qxb6603579a
open Go.RowKit Go.Maps
open Go.MuLone
open Go.WideShapes Go.ChangeMaps Go.WideMaps
set_option linter.unusedVariables false

theorem cache_new (w : World) (z : Nat) : Cache ((w.alloc (.map #[] 0)).alloc (.cells #[.int .i32 0, .int .u32 0, .int .i64 z, .map (some w.heap.size), .map none] 64)) w.heap.size (w.heap.size + 1) 0 z (.map []) (.map []) := by
  have h := World.ownsMap_made w Try.prog 9 velem
  have hs : (w.alloc (.map #[] 0)).heap.size = w.heap.size + 1 := by simp
  refine ⟨w.heap.size, .map none, ?_, own_size (h.alloc _), .inl ⟨rfl, rfl⟩, by omega, Nat.le_refl _⟩
  have := heap_new (w.alloc (.map #[] 0)) (.cells #[.int .i32 0, .int .u32 0, .int .i64 z, .map (some w.heap.size), .map none] 64)
  rw [hs] at this
  exact this

set_option maxHeartbeats 400000 in
theorem new15 (w : World) (z : Nat) (hz : z ≤ 65536) : Calls Try.prog 15 #[.int .i64 z] w fun e w' => ∃ C, e = .returned (.pointer (some ⟨C, 0, none⟩)) ∧ Cache w' w.heap.size C 0 z (.map []) (.map []) ∧ Below w.heap.size w w' := by
  have hmm := makeMap_hint
  have HC : Hid _ := cache_new w z
  have HB : Hid (Below w.heap.size w ((w.alloc (.map #[] 0)).alloc (.cells #[.int .i32 0, .int .u32 0, .int .i64 z, .map (some w.heap.size), .map none] 64))) := ((Below.refl _ w).alloc (Nat.le_refl _) _).alloc (by simp) _
  go_enter Try.func15, Try.ntmps15
  go_wp2
  go_ret
  exact ⟨_, rfl, HC.out, HB.out⟩
set_option maxHeartbeats 400000 in
theorem new_any (w : World) (z : Nat) (hz : z ≤ 65536) : Calls Try.prog 8 #[.int .i64 z] w fun e w' => ∃ C, e = .returned (.pointer (some ⟨C, 0, none⟩)) ∧ Cache w' w.heap.size C 0 z (.map []) (.map []) ∧ Below w.heap.size w w' := by
  go_enter Try.func8, Try.ntmps8
  go_wp2_with fail
  refine (new15 w z hz).mono ?_
  rintro e w' ⟨C, rfl, hc, hb⟩
  go_wp2
  go_ret
  exact ⟨_, rfl, hc, hb⟩

set_option maxHeartbeats 400000 in
theorem zzput_any {w : World} {B C z : Nat} {Dn Do : DataW Unit} (tok name : ByteArray) (hc : Cache w B C 0 z Dn Do) (hn : Maps.size Dn < maxLen) (hz : z ≤ 65536) (ht : tok.size ≤ maxLen) :
    Calls Try.prog 13 #[.pointer (some ⟨C, 0, none⟩), .string tok, vf name] w fun e w' => e = .returned (.tuple #[]) ∧ Cache w' B C 0 z (stepN z Dn tok name) (stepO z Dn Do) ∧ Below B w w' ∧ ∀ n, K n w w' := by
  have hle := hc.le
  have HC : Hid (Cache (w.alloc (.cells (match vf name with | .agg ds => ds | _ => #[]) 40)) B C 0 z Dn Do) := hc.alloc _
  have HB : Hid (Below B w (w.alloc (.cells (match vf name with | .agg ds => ds | _ => #[]) 40))) := (Below.refl B w).alloc (by omega) _
  have HX : Hid _ := load40 (heap_new w (.cells (match vf name with | .agg ds => ds | _ => #[]) 40))
  have HK : Hid (∀ n, K n w (w.alloc (.cells (match vf name with | .agg ds => ds | _ => #[]) 40))) := fun n => K_alloc n w _
  clear hc
  go_enter Try.func13, Try.ntmps13
  go_wp2_with (refine wpList_ld (by rfl) _ 40 (by rfl) _ _ (by rfl) HX.out ?_)
  refine (put_any tok name HC.out hn hz ht).mono ?_
  rintro e w3 ⟨rfl, hc3, hb3, hk3⟩
  have HC3 : Hid _ := hc3
  have HB3 : Hid _ := HB.out.trans hb3
  have HK3 : Hid (∀ n, K n w w3) := fun n => (HK.out n).trans (hk3 n)
  clear hc3 hb3 hk3
  go_wp2
  go_end0
  exact ⟨rfl, HC3.out, HB3.out, HK3.out⟩

set_option maxHeartbeats 400000 in
theorem zzget_any {w : World} {B C z : Nat} {Dn Do : DataW Unit} (tok : ByteArray) (hc : Cache w B C 0 z Dn Do) (ht : tok.size ≤ maxLen) (hn : Maps.size Dn < maxLen) (hz : z ≤ 65536) :
    Calls Try.prog 9 #[.pointer (some ⟨C, 0, none⟩), .string tok] w fun e w' => ∃ s b Dn' Do', e = .returned (.tuple #[vf s, .bool b]) ∧ Cache w' B C 0 z Dn' Do' ∧ Below B w w' ∧ GetRel z Dn Do tok s b Dn' Do' ∧ K w.heap.size w w' := by
  have hc1 := hc.alloc (.cells (vc (ByteArray.mk #[])) 40)
  have hle := hc.le
  have hb1 : Below B w (w.alloc (.cells (vc (ByteArray.mk #[])) 40)) := (Below.refl B w).alloc (by omega) _
  have hx := Box.new w (ByteArray.mk #[])
  have hk1 := K_alloc w.heap.size w (.cells (vc (ByteArray.mk #[])) 40)
  go_enter Try.func9, Try.ntmps9
  go_wp2_with fail
  generalize hw1 : w.alloc _ = w1 at hc1 hb1 hx hk1 ⊢
  clear hw1
  refine (get_any tok hc1 ht hn hz).mono ?_
  rintro e w2 ⟨s, b, Dn', Do', rfl, hc2, hb2, hr, hk⟩
  have hx2 : Box w2 w.heap.size (ByteArray.mk #[]) := hk _ _ _ _ hx.lt (by decide) hx
  obtain ⟨w3, hs3, hc3, hb3, hx3, kk3⟩ := box_store hc2 hx2 (by omega) s
  have HS : Hid _ := hs3
  have HC : Hid _ := hc3
  have HB : Hid (Below B w w3) := hb1.trans (hb2.trans hb3)
  have HX : Hid _ := hx3
  have HK : Hid (K w.heap.size w w3) := hk1.trans (K.trans (fun g cs t fz hg ht h => hk g cs t fz (Nat.lt_trans hg hx.lt) ht h) (kk3 _ (Nat.le_refl _)))
  have HR : Hid _ := hr
  clear kk3 hk1 hs3 hc3 hb3 hx3 hr hk hx2 hb2 hc2 hc1 hb1 hx hc
  go_wp2_with (refine wpList_st (by rfl) _ _ 40 (by rfl) _ _ (by rfl) (by rfl) HS.out ?_)
  refine bodyPost_ret (results_ct rfl _ _ w.heap.size s rfl HX.out) rfl ?_
  exact ⟨s, b, Dn', Do', rfl, HC.out, HB.out, HR.out, HK.out⟩
end Go.Proofs.Qxb6603579a
