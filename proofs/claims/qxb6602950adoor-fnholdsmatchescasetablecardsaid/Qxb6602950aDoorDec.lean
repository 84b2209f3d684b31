/- WORK: zzParseDecimal. -/
import Derived.Test.Qxb6602950aDoorParse
namespace Go.Proofs.Qxb6602950aDoor
open Go.RowKit
theorem dk (s : ByteArray) (k : Nat) (h : k < s.size) : s.data.toList.drop k = s[k] :: s.data.toList.drop (k + 1) :=
  List.drop_eq_getElem_cons (by simpa using h)
theorem lz (s : ByteArray) : s.data.toList.length = s.size := Array.length_toList
theorem hd (s : ByteArray) (h : 0 < s.size) : s.data.toList.head? = some s[0] := by
  have := dk s 0 h
  rw [List.drop_zero] at this
  rw [this]
  rfl
theorem dend (s : ByteArray) (lim mg k : Nat) (h : s.size ≤ k) : dec lim mg (s.data.toList.drop k) = some mg := by
  rw [List.drop_eq_nil_of_le (by rw [lz]; exact h), dec]
theorem dno (s : ByteArray) (lim mg k : Nat) (h : k < s.size) (hc : s[k].toNat < 48 ∨ 57 < s[k].toNat) : dec lim mg (s.data.toList.drop k) = none := by
  rw [dk s k h, dec, if_pos hc]
theorem dbig (s : ByteArray) (lim mg k : Nat) (h : k < s.size) (hc : ¬ (s[k].toNat < 48 ∨ 57 < s[k].toNat)) (hb : (lim - (s[k].toNat - 48)) / 10 < mg) : dec lim mg (s.data.toList.drop k) = none := by
  rw [dk s k h, dec, if_neg hc, if_pos hb]
theorem dgo (s : ByteArray) (lim mg k : Nat) (h : k < s.size) (hc : ¬ (s[k].toNat < 48 ∨ 57 < s[k].toNat)) (hb : ¬ (lim - (s[k].toNat - 48)) / 10 < mg) : dec lim mg (s.data.toList.drop k) = dec lim (mg * 10 + (s[k].toNat - 48)) (s.data.toList.drop (k + 1)) := by
  rw [dk s k h, dec, if_neg hc, if_neg hb]

set_option maxHeartbeats 1600000 in
theorem dec_any (s : ByteArray) (hs : s.size ≤ 1048576) (w : World) :
    Calls Tryd.prog 17 #[.string s] w fun e w' => ((∃ v, rd s.data.toList = some v ∧ e = .returned (.tuple #[.int .i64 v, .bool true])) ∨ (rd s.data.toList = none ∧ e = .returned (.tuple #[.int .i64 0, .bool false]))) ∧ w' = w := by
  generalize hr : rd s.data.toList = r
  have HR : Hid (rd s.data.toList = r) := hr
  clear hr
  by_cases h0 : s.size = 0
  · have HNN : Hid (r = none) := by show r = _; rw [← HR.out]; exact rd_short _ (by rw [lz, h0]; exact Nat.zero_le _)
    go_enter Tryd.func17, Tryd.ntmps17
    go_wp2
    go_ret2
    exact ⟨.inr ⟨HNN.out, rfl⟩, rfl⟩
  · have hh := hd s (by omega)
    have HH : Hid (s.data.toList.head? = some s[0]) := hh
    clear hh
    by_cases h1 : s[0].toNat = 43
    · have HS : Hid (sg s.data.toList = 1) := by show sg _ = 1; rw [sg, HH.out]; simp [h1]
      have HN : Hid (neg s.data.toList = false) := by show neg _ = false; rw [neg, HH.out]; simp [h1]
      by_cases hz : s.size = 1
      · have HNN : Hid (r = none) := by show r = _; rw [← HR.out]; exact rd_short _ (by rw [lz, hz, HS.out]; exact Nat.le_refl _)
        go_enter Tryd.func17, Tryd.ntmps17
        go_wp2
        go_ret2
        exact ⟨.inr ⟨HNN.out, rfl⟩, rfl⟩
      · have HA : Hid (r = (dec 9223372036854775807 0 (s.data.toList.drop 1)).map (fun u : Nat => (u : Int))) := by
          show r = _
          rw [← HR.out, rd_all _ (by rw [lz, HS.out]; omega), lm, HN.out, HS.out]; simp
        clear HS HN HR HH
        go_enter Tryd.func17, Tryd.ntmps17
        go_wp2
        go_loop [4, 7] (fun i m => ∃ k mg : Nat, i = .int .i64 k ∧ m = .int .u64 mg ∧ k ≤ s.size ∧ mg ≤ 9223372036854775807 ∧ Hid (r = (dec 9223372036854775807 mg (s.data.toList.drop k)).map (fun u : Nat => (u : Int)))) (fun i _ => s.size - (intOf i).toNat)
        case atStart => exact ⟨1, 0, rfl, rfl, by omega, by omega, HA⟩
        case round =>
          obtain ⟨k, mg, rfl, rfl, hk, hm, HX⟩ := hrel
          by_cases hlt : k < s.size
          · by_cases hc : s[k].toNat < 48 ∨ 57 < s[k].toNat
            · have HNN : Hid (r = none) := by show r = _; rw [HX.out, dno s _ _ k hlt hc]; rfl
              clear HX HA
              rcases hc with hc | hc
              · go_wp2
                go_ret2
                exact ⟨.inr ⟨HNN.out, rfl⟩, rfl⟩
              · go_wp2
                go_ret2
                exact ⟨.inr ⟨HNN.out, rfl⟩, rfl⟩
            · obtain ⟨d, hd⟩ : ∃ d : Nat, s[k].toNat = d + 48 := ⟨s[k].toNat - 48, by omega⟩
              have hd9 : d ≤ 9 := by omega
              have hcc : ¬ (s[k].toNat < 48 ∨ 57 < s[k].toNat) := hc
              have HC : Hid _ := hcc
              clear hc hcc
              by_cases hb : (9223372036854775807 - d) / 10 < mg
              · have HNN : Hid (r = none) := by show r = _; rw [HX.out, dbig s _ _ k hlt HC.out (by rw [hd]; exact hb)]; rfl
                clear HX HA HC
                go_wp2
                go_ret2
                exact ⟨.inr ⟨HNN.out, rfl⟩, rfl⟩
              · have HY : Hid (r = (dec 9223372036854775807 (mg * 10 + d) (s.data.toList.drop (k + 1))).map (fun u : Nat => (u : Int))) := by
                  show r = _
                  rw [HX.out, dgo s _ _ k hlt HC.out (by rw [hd]; exact hb), hd]
                  rfl
                clear HX HA HC
                have hmg : mg * 10 + d ≤ 9223372036854775807 := by omega
                go_wp2
                refine ⟨⟨_, _, _, _, ⟨k + 1, by go_num, mg * 10 + d, by go_num, by omega, hmg, HY⟩, rfl, rfl, rfl, rfl⟩, ?_⟩
                simp [intOf]
                omega
          · have HNN : Hid (r = some ((mg : Int))) := by show r = _; rw [HX.out, dend s _ _ k (by omega)]; rfl
            clear HX HA
            go_wp2
            go_ret2
            exact ⟨.inl ⟨_, HNN.out, rfl⟩, rfl⟩
    · by_cases h2 : s[0].toNat = 45
      · have HS : Hid (sg s.data.toList = 1) := by show sg _ = 1; rw [sg, HH.out]; simp [h2]
        have HN : Hid (neg s.data.toList = true) := by show neg _ = true; rw [neg, HH.out]; simp [h2]
        by_cases hz : s.size = 1
        · have HNN : Hid (r = none) := by show r = _; rw [← HR.out]; exact rd_short _ (by rw [lz, hz, HS.out]; exact Nat.le_refl _)
          go_enter Tryd.func17, Tryd.ntmps17
          go_wp2
          go_ret2
          exact ⟨.inr ⟨HNN.out, rfl⟩, rfl⟩
        · have HA : Hid (r = (dec 9223372036854775808 0 (s.data.toList.drop 1)).map (fun u : Nat => -(u : Int))) := by
            show r = _
            rw [← HR.out, rd_all _ (by rw [lz, HS.out]; omega), lm, HN.out, HS.out]; simp
          clear HS HN HR HH
          go_enter Tryd.func17, Tryd.ntmps17
          go_wp2
          go_loop [4, 7] (fun i m => ∃ k mg : Nat, i = .int .i64 k ∧ m = .int .u64 mg ∧ k ≤ s.size ∧ mg ≤ 9223372036854775808 ∧ Hid (r = (dec 9223372036854775808 mg (s.data.toList.drop k)).map (fun u : Nat => -(u : Int)))) (fun i _ => s.size - (intOf i).toNat)
          case atStart => exact ⟨1, 0, rfl, rfl, by omega, by omega, HA⟩
          case round =>
            obtain ⟨k, mg, rfl, rfl, hk, hm, HX⟩ := hrel
            by_cases hlt : k < s.size
            · by_cases hc : s[k].toNat < 48 ∨ 57 < s[k].toNat
              · have HNN : Hid (r = none) := by show r = _; rw [HX.out, dno s _ _ k hlt hc]; rfl
                clear HX HA
                rcases hc with hc | hc
                · go_wp2
                  go_ret2
                  exact ⟨.inr ⟨HNN.out, rfl⟩, rfl⟩
                · go_wp2
                  go_ret2
                  exact ⟨.inr ⟨HNN.out, rfl⟩, rfl⟩
              · obtain ⟨d, hd⟩ : ∃ d : Nat, s[k].toNat = d + 48 := ⟨s[k].toNat - 48, by omega⟩
                have hd9 : d ≤ 9 := by omega
                have hcc : ¬ (s[k].toNat < 48 ∨ 57 < s[k].toNat) := hc
                have HC : Hid _ := hcc
                clear hc hcc
                by_cases hb : (9223372036854775808 - d) / 10 < mg
                · have HNN : Hid (r = none) := by show r = _; rw [HX.out, dbig s _ _ k hlt HC.out (by rw [hd]; exact hb)]; rfl
                  clear HX HA HC
                  go_wp2
                  go_ret2
                  exact ⟨.inr ⟨HNN.out, rfl⟩, rfl⟩
                · have HY : Hid (r = (dec 9223372036854775808 (mg * 10 + d) (s.data.toList.drop (k + 1))).map (fun u : Nat => -(u : Int))) := by
                    show r = _
                    rw [HX.out, dgo s _ _ k hlt HC.out (by rw [hd]; exact hb), hd]
                    rfl
                  clear HX HA HC
                  have hmg : mg * 10 + d ≤ 9223372036854775808 := by omega
                  go_wp2
                  refine ⟨⟨_, _, _, _, ⟨k + 1, by go_num, mg * 10 + d, by go_num, by omega, hmg, HY⟩, rfl, rfl, rfl, rfl⟩, ?_⟩
                  simp [intOf]
                  omega
            · have HNN : Hid (r = some (-(mg : Int))) := by show r = _; rw [HX.out, dend s _ _ k (by omega)]; rfl
              clear HX HA
              by_cases h9 : mg = 0
              · subst h9
                go_wp2
                go_ret2
                exact ⟨.inl ⟨_, HNN.out, by go_num⟩, rfl⟩
              · obtain ⟨q, rfl⟩ : ∃ q : Nat, mg = q + 1 := ⟨mg - 1, by omega⟩
                go_wp2
                go_ret2
                exact ⟨.inl ⟨_, HNN.out, by go_num⟩, rfl⟩
      · have HS : Hid (sg s.data.toList = 0) := by show sg _ = 0; rw [sg, HH.out]; simp [h1, h2]
        have HN : Hid (neg s.data.toList = false) := by show neg _ = false; rw [neg, HH.out]; simp [h2]
        have HA : Hid (r = (dec 9223372036854775807 0 (s.data.toList.drop 0)).map (fun u : Nat => (u : Int))) := by
          show r = _
          rw [← HR.out, rd_all _ (by rw [lz, HS.out]; omega), lm, HN.out, HS.out]; simp
        clear HS HN HR HH
        go_enter Tryd.func17, Tryd.ntmps17
        go_wp2
        go_loop [4, 7] (fun i m => ∃ k mg : Nat, i = .int .i64 k ∧ m = .int .u64 mg ∧ k ≤ s.size ∧ mg ≤ 9223372036854775807 ∧ Hid (r = (dec 9223372036854775807 mg (s.data.toList.drop k)).map (fun u : Nat => (u : Int)))) (fun i _ => s.size - (intOf i).toNat)
        case atStart => exact ⟨0, 0, rfl, rfl, by omega, by omega, HA⟩
        case round =>
          obtain ⟨k, mg, rfl, rfl, hk, hm, HX⟩ := hrel
          by_cases hlt : k < s.size
          · by_cases hc : s[k].toNat < 48 ∨ 57 < s[k].toNat
            · have HNN : Hid (r = none) := by show r = _; rw [HX.out, dno s _ _ k hlt hc]; rfl
              clear HX HA
              rcases hc with hc | hc
              · go_wp2
                go_ret2
                exact ⟨.inr ⟨HNN.out, rfl⟩, rfl⟩
              · go_wp2
                go_ret2
                exact ⟨.inr ⟨HNN.out, rfl⟩, rfl⟩
            · obtain ⟨d, hd⟩ : ∃ d : Nat, s[k].toNat = d + 48 := ⟨s[k].toNat - 48, by omega⟩
              have hd9 : d ≤ 9 := by omega
              have hcc : ¬ (s[k].toNat < 48 ∨ 57 < s[k].toNat) := hc
              have HC : Hid _ := hcc
              clear hc hcc
              by_cases hb : (9223372036854775807 - d) / 10 < mg
              · have HNN : Hid (r = none) := by show r = _; rw [HX.out, dbig s _ _ k hlt HC.out (by rw [hd]; exact hb)]; rfl
                clear HX HA HC
                go_wp2
                go_ret2
                exact ⟨.inr ⟨HNN.out, rfl⟩, rfl⟩
              · have HY : Hid (r = (dec 9223372036854775807 (mg * 10 + d) (s.data.toList.drop (k + 1))).map (fun u : Nat => (u : Int))) := by
                  show r = _
                  rw [HX.out, dgo s _ _ k hlt HC.out (by rw [hd]; exact hb), hd]
                  rfl
                clear HX HA HC
                have hmg : mg * 10 + d ≤ 9223372036854775807 := by omega
                go_wp2
                refine ⟨⟨_, _, _, _, ⟨k + 1, by go_num, mg * 10 + d, by go_num, by omega, hmg, HY⟩, rfl, rfl, rfl, rfl⟩, ?_⟩
                simp [intOf]
                omega
          · have HNN : Hid (r = some ((mg : Int))) := by show r = _; rw [HX.out, dend s _ _ k (by omega)]; rfl
            clear HX HA
            go_wp2
            go_ret2
            exact ⟨.inl ⟨_, HNN.out, rfl⟩, rfl⟩
end Go.Proofs.Qxb6602950aDoor
