/- WORK: the law FnCacheGetKeepsRecentToken: its walk. -/
import Derived.Test.Qxb6603579aDoor
import Derived.Test.Qxb6603579aAns
import Derived.Test.Qxb6603579aClone
import Derived.Test.Qxb6603579aPlain
import Derived.Lib.SlicesS
namespace Go.Proofs.Qxb6603579a
open Go.RowKit Go.Maps
open Go.MuLone
open Go.WideShapes Go.ChangeMaps Go.WideMaps
set_option linter.unusedVariables false

theorem Alk.below {w w' : World} (B : Nat) (h : Alk w w') : Below B w w' := ⟨h.2.1, h.2.2.1, h.2.2.2, by rw [h.1]; exact Nat.le_refl _, fun k _ => by rw [h.1]⟩
theorem Cache.alk {w w' : World} {B C z : Nat} {s : Int} {Dn Do : DataW Unit} (h : Cache w B C s z Dn Do) (ha : Alk w w') : Cache w' B C s z Dn Do := by
  obtain ⟨nb, ov, h1, h2, h3, h4, h5⟩ := h
  refine ⟨nb, ov, h1.alk ha, own_alk ha h2, ?_, h4, h5⟩
  rcases h3 with h3 | ⟨ob, e1, e2, e3, e4⟩
  · exact .inl h3
  · exact .inr ⟨ob, e1, e2, e3, own_alk ha e4⟩
theorem Alk.cell {w w' : World} (h : Alk w w') (p : Addr) : w'.cell? p = w.cell? p := World.cell?_of_block (w := w) (by rw [h.1])

/-- The law's end: all the tests passed, the lists cloned, the cache made. -/
def Here (w : World) (B C z k : Nat) (wr : World) : Prop := ∃ Dn Do, Cache wr B C 0 z Dn Do ∧ Fit z Dn ∧ Below B w wr
def Kept (w : World) (B C z k : Nat) (tok name : ByteArray) (wr : World) : Prop := ∃ Dn Do, Cache wr B C 0 z Dn Do ∧ Fit z Dn ∧ Below B w wr ∧ Keep tok name k Dn Do

set_option maxHeartbeats 1600000 in
set_option maxRecDepth 100000 in
theorem keep_any (sz : Int) (a b : Option Addr) (n c m d : Nat) (f g : Nat → ByteArray) (tok name : ByteArray) (w : World) (h0 : (Lit.int .i64 sz).wf = true) (h1 : tok.size ≤ 9223372036854775807) (h2 : name.size ≤ 9223372036854775807) (hn : n ≤ 9223372036854775807) (hm : m ≤ 9223372036854775807) (ho : Own w a n f) (hp : Own w b m g) (hf : ∀ i, i < n → (f i).size ≤ 9223372036854775807) (hg : ∀ i, i < m → (g i).size ≤ 9223372036854775807) (hna : a = none → n = 0 ∧ c = 0) (hnb : b = none → m = 0 ∧ d = 0) :
    Calls Try.prog 4 #[.int .i64 sz, .slice a n c, .string tok, .string name, .slice b m d] w fun e w' => e = .returned (.bool true) ∧ Below w.heap.size w w' := by
  have HO : Hid (Own w a n f) := ho
  have HP : Hid (Own w b m g) := hp
  have HF : Hid (∀ i, i < n → (f i).size ≤ 9223372036854775807) := hf
  have HG : Hid (∀ i, i < m → (g i).size ≤ 9223372036854775807) := hg
  have HNA : Hid (a = none → n = 0 ∧ c = 0) := hna
  have HNB : Hid (b = none → m = 0 ∧ d = 0) := hnb
  clear ho hp hf hg hna hnb
  go_enter Try.func4, Try.ntmps4
  go_wp2_with fail
  refine (bytes14 sz a b n c m d f g tok name w h1 h2 hn hm HO.out HP.out HF.out HG.out).mono ?_
  rintro e w' ⟨he, rfl⟩
  rcases he with rfl | ⟨rfl, hS⟩
  · go_wp2
    go_ret
    exact ⟨rfl, Below.refl _ _⟩
  have HS : Hid (Small n m f g tok name) := hS
  clear hS
  by_cases hL : n ≤ 65536 ∧ m ≤ 65536 ∧ tok.size ≤ 65536 ∧ name.size ≤ 65536
  rotate_left
  · go_wp2
    all_goals
      go_ret
      exact ⟨rfl, Below.refl _ _⟩
  obtain ⟨l1, l2, l3, l4⟩ := hL
  go_wp2
  go_loop [11, 12] (fun t i => ∃ k q : Nat, k ≤ n ∧ q ≤ 2228224 + k * 1048576 ∧ i = .int .i64 k ∧ t = .int .i64 q) (fun _ i => n - (intOf i).toNat)
  case atStart => exact ⟨0, 16 * n + 16 * m + tok.size + name.size, Nat.zero_le _, by omega, rfl, by go_num⟩
  case round =>
    obtain ⟨k, q, hk, hq, rfl, rfl⟩ := hrel
    by_cases hlt : k < n
    · rcases HO.out with ho | ⟨x, rfl, hx, hc⟩
      · omega
      have e1 := hc k hlt
      have e2 := HS.out.2.2.2.2.1 k hlt
      clear hc
      generalize f k = s at e1 e2
      go_wp2
      go_round
      case rel => exact ⟨k + 1, q + s.size, by omega, by omega, by go_num, by go_num⟩
      case measure => simp [intOf]; omega
    go_wp2
    go_loop [11, 13] (fun t i => ∃ k' q' : Nat, k' ≤ m ∧ q' ≤ q + k' * 1048576 ∧ i = .int .i64 k' ∧ t = .int .i64 q') (fun _ i => m - (intOf i).toNat)
    case atStart => exact ⟨0, q, Nat.zero_le _, by omega, rfl, rfl⟩
    case round =>
      obtain ⟨k', q', hk', hq', rfl, rfl⟩ := hrel
      by_cases hlt' : k' < m
      · rcases HP.out with hp | ⟨x, rfl, hx, hc⟩
        · omega
        have e1 := hc k' hlt'
        have e2 := HS.out.2.2.2.2.2 k' hlt'
        clear hc
        generalize g k' = s at e1 e2
        go_wp2
        go_round
        case rel => exact ⟨k' + 1, q' + s.size, by omega, by omega, by go_num, by go_num⟩
        case measure => simp [intOf]; omega
      by_cases hz : q' ≤ 1048576 ∧ 2 ≤ sz ∧ sz ≤ 65536
      rotate_left
      · go_wp2
        all_goals
          go_ret
          exact ⟨rfl, Below.refl _ _⟩
      obtain ⟨z1, z2, z3⟩ := hz
      obtain ⟨z, rfl⟩ : ∃ z : Nat, sz = (z : Int) := ⟨sz.toNat, by omega⟩
      by_cases hmz : m ≤ z / 2
      rotate_left
      · go_wp2
        go_ret
        exact ⟨rfl, Below.refl _ _⟩
      go_wp2
      go_loop [14] (fun i => ∃ k3 : Nat, k3 ≤ m ∧ i = .int .i64 k3 ∧ Hid (∀ j, j < k3 → g j ≠ tok)) (fun i => m - (intOf i).toNat)
      case atStart => exact ⟨0, Nat.zero_le _, rfl, fun j hj => by omega⟩
      case round =>
        obtain ⟨k3, hk3, rfl, HNE⟩ := hrel
        by_cases hlt3 : k3 < m
        · rcases HP.out with hp | ⟨x, rfl, hx, hc⟩
          · omega
          have e1 := hc k3 hlt3
          have HK : Hid (∀ s, g k3 = s → s ≠ tok → ∀ j, j < k3 + 1 → g j ≠ tok) := by
            intro s hs hz j hj
            by_cases e : j = k3
            · rw [e, hs]; exact hz
            · exact HNE.out j (by omega)
          clear hc
          generalize hs : g k3 = s at e1
          have Hs : Hid _ := hs
          clear hs
          cases hq : (s.toList == tok.toList)
          · have hst : Hid (s ≠ tok) := fun e => by rw [(Lib.bytes_beq_iff _ _).2 e] at hq; cases hq
            go_wp2
            go_round
            case rel => exact ⟨k3 + 1, by omega, by go_num, HK.out s Hs.out hst.out⟩
            case measure => simp [intOf]; omega
          · go_wp2
            go_ret
            exact ⟨rfl, Below.refl _ _⟩
        have HNM : Hid (∀ j, j < m → g j ≠ tok) := fun j hj => HNE.out j (by omega)
        clear HNE
        go_wp2_with fail
        refine (clone_own a n c f _ (by omega) HO.out HNA.out).mono ?_
        rintro e w2 ⟨a', rfl, hb2, C1⟩
        have HP2 : Hid (Own w2 b m g) := Own.below HP.out hb2
        have HC1 : Hid _ := C1
        have HB2 : Hid _ := hb2
        clear C1 hb2
        go_wp2_with fail
        refine (clone_own b m d g _ (by omega) HP2.out HNB.out).mono ?_
        rintro e w3 ⟨b', rfl, hb3, C2⟩
        have HO3 : Hid (Own w3 a' n f) := Cl.own (Cl.below HC1.out hb3)
        have HP3 : Hid (Own w3 b' m g) := C2.own
        have HB3 : Hid (Below w'.heap.size w' w3) := HB2.out.trans (hb3.mono HB2.out.size)
        clear hb3 C2 HP2 HC1 HB2
        go_wp2_with fail
        refine (new_any w3 z (by omega)).mono ?_
        rintro e w4 ⟨C, rfl, hc4, hb4⟩
        have HH4 : Hid (Here w3 w3.heap.size C z 0 w4) := ⟨_, _, hc4, Fit.nil z, hb4⟩
        clear hc4 hb4
        go_wp2
        go_loopw [16] (fun i wr => ∃ k4 : Nat, k4 ≤ n ∧ i = .int .i64 k4 ∧ Here w3 w3.heap.size C z 0 wr) (fun i _ => n - (intOf i).toNat)
        case atStart => exact ⟨0, Nat.zero_le _, rfl, HH4.out⟩
        case round =>
          obtain ⟨k4, hk4, rfl, hhere⟩ := hrel
          have HH : Hid _ := hhere
          clear hhere
          by_cases hlt4 : k4 < n
          · obtain ⟨Dn, Do, hc, hfit, hbel⟩ := HH.out
            rcases Own.below HO3.out hbel with ho | ⟨x, rfl, hx, hcell⟩
            · omega
            have e1 := hcell k4 hlt4
            have HT : Hid ((f k4).size ≤ maxLen) := by have := HS.out.2.2.2.2.1 k4 hlt4; unfold Hid maxLen; omega
            have HC : Hid _ := hc
            have HFT : Hid _ := hfit
            have HBL : Hid _ := hbel
            clear hc hfit hbel hcell hx
            generalize f k4 = s at e1 HT
            go_wp2_with fail
            refine region_tail 11 mixed (by kernel_rfl) (fun w5 ha => ?_)
            have e1' : w5.cell? (x.add k4) = some (.string s) := (ha.cell _).trans e1
            have HA : Hid _ := ha
            clear e1 ha
            simp only [List.take_succ_cons, List.take_zero, List.drop_succ_cons, List.drop_zero]
            still_step
            still_step
            still_step
            still_step
            still_step
            still_step
            still_step
            still_step
            still_step
            still_step
            still_step
            refine wpStill_nil ?_
            go_wp2_with fail
            refine (zzput_any s s (Cache.alk HC.out HA.out) (Fit.lt HFT.out (by omega)) (by omega) HT.out).mono ?_
            rintro e w6 ⟨rfl, hc6, hb6⟩
            have HH6 : Hid (Here w3 w3.heap.size C z 0 w6) := ⟨_, _, hc6, Fit.step HFT.out _ _, HBL.out.trans ((Alk.below _ HA.out).trans hb6)⟩
            clear hc6 hb6
            go_wp2
            go_roundw
            case rel => exact ⟨k4 + 1, by omega, by go_num, HH6.out⟩
            case measure => simp [intOf]; omega
          obtain ⟨Dn, Do, hc, hfit, hbel⟩ := HH.out
          have HC : Hid _ := hc
          have HFT : Hid _ := hfit
          have HBL : Hid _ := hbel
          clear hc hfit hbel HH
          go_wp2_with fail
          refine (zzput_any tok name HC.out (Fit.lt HFT.out (by omega)) (by omega) (by unfold maxLen; omega)).mono ?_
          rintro e w6 ⟨rfl, hc6, hb6⟩
          have HK6 : Hid (Kept w3 w3.heap.size C z 0 tok name w6) := ⟨_, _, hc6, Fit.step HFT.out _ _, HBL.out.trans hb6, .inl (has_step HFT.out.1 _ _)⟩
          clear hc6 hb6 HC HFT HBL
          go_wp2
          go_loopw [17] (fun i wr => ∃ k5 : Nat, k5 ≤ m ∧ i = .int .i64 k5 ∧ Kept w3 w3.heap.size C z k5 tok name wr) (fun i _ => m - (intOf i).toNat)
          case atStart => exact ⟨0, Nat.zero_le _, rfl, HK6.out⟩
          case round =>
            obtain ⟨k5, hk5, rfl, hkept⟩ := hrel
            have HH : Hid _ := hkept
            clear hkept
            by_cases hlt5 : k5 < m
            · obtain ⟨Dn, Do, hc, hfit, hbel, hkp⟩ := HH.out
              rcases Own.below HP3.out hbel with ho | ⟨x, rfl, hx, hcell⟩
              · omega
              have e1 := hcell k5 hlt5
              have HT : Hid ((g k5).size ≤ maxLen) := by have := HS.out.2.2.2.2.2 k5 hlt5; unfold Hid maxLen; omega
              have HNK : Hid (g k5 ≠ tok) := HNM.out k5 hlt5
              have HC : Hid _ := hc
              have HFT : Hid _ := hfit
              have HBL : Hid _ := hbel
              have HKP : Hid _ := hkp
              clear hc hfit hbel hcell hx hkp
              generalize g k5 = s at e1 HT HNK
              go_wp2_with fail
              refine region_tail 11 mixed (by kernel_rfl) (fun w5 ha => ?_)
              have e1' : w5.cell? (x.add k5) = some (.string s) := (ha.cell _).trans e1
              have HA : Hid _ := ha
              clear e1 ha
              simp only [List.take_succ_cons, List.take_zero, List.drop_succ_cons, List.drop_zero]
              still_step
              still_step
              still_step
              still_step
              still_step
              still_step
              still_step
              still_step
              still_step
              still_step
              still_step
              refine wpStill_nil ?_
              go_wp2_with fail
              refine (zzput_any s s (Cache.alk HC.out HA.out) (Fit.lt HFT.out (by omega)) (by omega) HT.out).mono ?_
              rintro e w6 ⟨rfl, hc6, hb6⟩
              have HH6 : Hid (Kept w3 w3.heap.size C z (k5 + 1) tok name w6) := ⟨_, _, hc6, Fit.step HFT.out _ _, HBL.out.trans ((Alk.below _ HA.out).trans hb6), Keep.step HKP.out HFT.out.1 (by omega) HNK.out⟩
              clear hc6 hb6
              go_wp2
              go_roundw
              case rel => exact ⟨k5 + 1, by omega, by go_num, HH6.out⟩
              case measure => simp [intOf]; omega
            obtain ⟨Dn, Do, hc, hfit, hbel, hkp⟩ := HH.out
            have HC : Hid _ := hc
            have HFT : Hid _ := hfit
            have HBL : Hid _ := hbel
            have HKP : Hid _ := hkp
            clear hc hfit hbel hkp HH
            go_wp2_with fail
            refine (zzget_any tok HC.out (by unfold maxLen; omega) (Fit.lt HFT.out (by omega)) (by omega)).mono ?_
            rintro e w7 ⟨s, b, Dn', Do', rfl, hc7, hb7, hr⟩
            obtain ⟨rfl, rfl⟩ := Keep.get HKP.out hr
            have hn7 := Box.new w7 (ByteArray.mk #[])
            have HST : Hid _ := hn7.store s
            have HLD : Hid _ := (hn7.set s).load
            have hle := hc7.le
            have HB8 : Hid (Below w'.heap.size w' ((w7.alloc (.cells (vc (ByteArray.mk #[])) 40)).setRow w7.heap.size (vc s))) :=
              HB3.out.trans (((HBL.out.trans hb7).trans (below_setRow ((Below.refl _ w7).alloc (by omega) _) (by omega) _)).mono HB3.out.size)
            clear hc7 hb7 hr hn7 hle HC HFT HBL HKP
            go_wp2_with (first
              | (refine wpList_st (by rfl) _ _ 40 (by rfl) _ _ (by rfl) (by rfl) HST.out ?_)
              | (refine wpList_ld (by rfl) _ 40 (by rfl) _ _ (by rfl) HLD.out ?_))
            refine (answer_true _ s true).mono ?_
            rintro e w9 ⟨rfl, hb9⟩
            have HB9 : Hid (Below w'.heap.size w' w9) := HB8.out.trans (hb9.mono HB8.out.size)
            clear hb9
            go_wp2
            go_ret
            exact ⟨rfl, HB9.out⟩
end Go.Proofs.Qxb6603579a
