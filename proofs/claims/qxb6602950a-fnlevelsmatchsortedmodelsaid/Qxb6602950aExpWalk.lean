/- WORK: zzIsExpansion. -/
import Derived.Test.Qxb6602950aMrgWalk
namespace Go.Proofs.Qxb6602950a
open Go.RowKit

/-- Where the i-th run begins. -/
def J (L : List (Int × Int)) (i : Nat) : Nat := (Lev.expand (L.take i)).length
theorem J_zero (L : List (Int × Int)) : J L 0 = 0 := rfl
theorem take_split (L : List (Int × Int)) (i : Nat) (h : i < L.length) : L = L.take i ++ [L[i]] ++ L.drop (i + 1) := by
  have h1 := List.take_append_drop i L
  rw [List.drop_eq_getElem_cons h] at h1
  rw [List.append_assoc]
  exact h1.symm
theorem expand_one (p : Int × Int) : Lev.expand [p] = List.replicate p.2.toNat p.1 := by simp [Lev.expand]
theorem J_succ (L : List (Int × Int)) (i : Nat) (h : i < L.length) : J L (i + 1) = J L i + L[i].2.toNat := by
  unfold J
  rw [List.take_succ_eq_append_getElem h, Lev.expand_append, expand_one]
  simp
theorem J_all (L : List (Int × Int)) : J L L.length = (Lev.expand L).length := by unfold J; rw [List.take_length]
theorem J_le (L : List (Int × Int)) (i : Nat) (h : i < L.length) : J L i + L[i].2.toNat ≤ (Lev.expand L).length := by
  rw [← J_succ L i h, ← J_all]
  unfold J
  rw [List.take_length]
  have e : Lev.expand L = Lev.expand (L.take (i + 1)) ++ Lev.expand (L.drop (i + 1)) := by rw [← Lev.expand_append, List.take_append_drop]
  rw [e, List.length_append]; omega
theorem J_get (L : List (Int × Int)) (h : Nat → Int) (n : Nat) (he : Lev.expand L = lst h n) (i : Nat) (hi : i < L.length) (c : Nat) (hc : c < L[i].2.toNat) : h (J L i + c) = L[i].1 := by
  have e : Lev.expand L = Lev.expand (L.take i) ++ List.replicate L[i].2.toNat L[i].1 ++ Lev.expand (L.drop (i + 1)) := by
    rw [← expand_one, ← Lev.expand_append, ← Lev.expand_append, ← take_split L i hi]
  have hl := J_le L i hi
  have g1 : (Lev.expand L)[J L i + c]? = some L[i].1 := by
    rw [e, List.getElem?_append_left (by rw [List.length_append, List.length_replicate]; unfold J; omega), List.getElem?_append_right (by unfold J; omega)]
    rw [show J L i + c - (Lev.expand (L.take i)).length = c from by unfold J; omega]
    simp [hc]
  rw [he] at g1 hl
  rw [lst_length] at hl
  rw [lst_get _ _ _ (by omega)] at g1
  exact Option.some.inj g1

set_option maxHeartbeats 1600000 in
theorem expansion_own (a b x : Option Addr) (c1 c2 c3 n : Nat) (L : List (Int × Int)) (h : Nat → Int) (w : World) (hn : n ≤ 1048576) (hL : L.length ≤ 1048576)
    (h1 : Own w a L.length (fun i => (L.getD i (0, 0)).1)) (h2 : Own w b L.length (fun i => (L.getD i (0, 0)).2)) (h3 : Own w x n h)
    (hpos : ∀ p ∈ L, 1 ≤ p.2) (hasc : (L.map (·.1)).Pairwise (· < ·)) (hexp : Lev.expand L = lst h n) :
    Calls Try.prog 10 #[.slice a L.length c1, .slice b L.length c2, .slice x n c3] w fun e w' => e = .returned (.bool true) ∧ ∃ k, w' = w.drewN k := by
  have hlen : (Lev.expand L).length = n := by rw [hexp, lst_length]
  have HE : Hid _ := hexp
  have HA : Hid _ := hasc
  have HP : Hid _ := hpos
  have HN : Hid _ := hlen
  clear hexp hasc hpos hlen
  go_enter Try.func10, Try.ntmps10
  go_wp2
  go_loopw [7, 8] (fun jv iv wr => ∃ i q : Nat, i ≤ L.length ∧ iv = .int .i64 i ∧ jv = .int .i64 (J L i) ∧ wr = w.drewN q) (fun _ iv _ => L.length - (intOf iv).toNat)
  case atStart => exact ⟨0, 0, Nat.zero_le _, rfl, rfl, rfl⟩
  case round =>
    obtain ⟨i, q, hi, rfl, rfl, rfl⟩ := hrel
    by_cases hlt : i < L.length
    · rcases h1 with h1 | ⟨y1, rfl, hy1, h1⟩
      · omega
      rcases h2 with h2 | ⟨y2, rfl, hy2, h2⟩
      · omega
      have hLi : L.getD i (0, 0) = L[i] := by simp [hlt]
      have e1 := h1 i hlt
      have e2 := h2 i hlt
      simp only [hLi] at e1 e2
      have hp : 1 ≤ L[i].2 := HP.out _ (List.getElem_mem hlt)
      have hJle := J_le L i hlt
      have hJs := J_succ L i hlt
      have hget := J_get L h n HE.out i hlt
      rw [HN.out] at hJle
      generalize hpp : L[i] = p at e1 e2 hp hJle hJs hget
      obtain ⟨p1, p2⟩ := p
      simp only at e1 e2 hp hJle hJs hget
      have hb1 : (J L i : Int) + p2 ≤ (n : Int) := by omega
      have hJ0 : 0 ≤ (J L i : Int) := by omega
      have HJs : Hid _ := hJs
      have HG : Hid _ := hget
      have HPP : Hid _ := hpp
      generalize hJJ : J L i = j0 at hb1 hJ0 hJle HJs HG ⊢
      clear hJs hget hpp hJJ hLi
      have hiI : (i : Int) < (L.length : Int) := by omega
      by_cases hi0 : 0 < i
      · have hiI0 : (0 : Int) < (i : Int) := by omega
        have e0 : w.cell? (y1.add (i - 1)) = some (.int .i64 (L.getD (i - 1) (0, 0)).1) := h1 (i - 1) (by omega)
        have hasc : ((L.getD (i - 1) (0, 0)).1) < p1 := by
          have hA := HA.out
          rw [List.pairwise_iff_getElem] at hA
          have := hA (i - 1) i (by simp; omega) (by simp; omega) (by omega)
          simp only [List.getElem_map] at this
          rw [HPP.out] at this
          have e : L.getD (i - 1) (0, 0) = L[i - 1] := by
            rw [List.getD_eq_getElem?_getD, List.getElem?_eq_getElem (by omega)]; rfl
          rw [e]; exact this
        generalize (L.getD (i - 1) (0, 0)).1 = p0 at e0 hasc
        go_wp2
        go_quiet (fail)
        go_wp2
        go_loopw [7, 9] (fun jv cv wr => ∃ c q : Nat, c ≤ p2.toNat ∧ cv = .int .i64 c ∧ jv = .int .i64 (j0 + c : Nat) ∧ wr = w.drewN q) (fun _ cv _ => p2.toNat - (intOf cv).toNat)
        case atStart => exact ⟨0, q + nq, Nat.zero_le _, rfl, rfl, rfl⟩
        case round =>
          obtain ⟨c, q2, hc, rfl, rfl, rfl⟩ := hrel
          by_cases hcp : c < p2.toNat
          · rcases h3 with h3 | ⟨y3, rfl, hy3, h3⟩
            · omega
            have e3 := h3 (j0 + c) (by omega)
            rw [HG.out c hcp] at e3
            have hjn : (j0 : Int) + (c : Int) < (n : Int) := by omega
            have hcI : (c : Int) < p2 := by omega
            go_wp2
            go_quiet (fail)
            go_wp2
            go_roundw
            case rel => exact ⟨c + 1, _, by omega, by go_num, by go_num, rfl⟩
            case measure => simp [intOf]; omega
          · have hce : c = p2.toNat := by omega
            have hcI : ¬ (c : Int) < p2 := by omega
            have hjs : J L (i + 1) = j0 + c := by rw [HJs.out, hce]
            have HJ2 : Hid _ := hjs
            clear hjs hce
            go_wp2
            go_roundw
            case rel => exact ⟨i + 1, _, by omega, by go_num, by rw [HJ2.out], rfl⟩
            case measure => simp [intOf]; omega
      · have hi0I : ¬ (0 : Int) < (i : Int) := by omega
        have hd0 : decide ((0 : Int) < (i : Int)) = false := decide_eq_false hi0I
        go_wp2
        go_quiet (fail)
        go_wp2
        go_loopw [7, 9] (fun jv cv wr => ∃ c q : Nat, c ≤ p2.toNat ∧ cv = .int .i64 c ∧ jv = .int .i64 (j0 + c : Nat) ∧ wr = w.drewN q) (fun _ cv _ => p2.toNat - (intOf cv).toNat)
        case atStart => exact ⟨0, q + nq, Nat.zero_le _, rfl, rfl, rfl⟩
        case round =>
          obtain ⟨c, q2, hc, rfl, rfl, rfl⟩ := hrel
          by_cases hcp : c < p2.toNat
          · rcases h3 with h3 | ⟨y3, rfl, hy3, h3⟩
            · omega
            have e3 := h3 (j0 + c) (by omega)
            rw [HG.out c hcp] at e3
            have hjn : (j0 : Int) + (c : Int) < (n : Int) := by omega
            have hcI : (c : Int) < p2 := by omega
            go_wp2
            go_quiet (fail)
            go_wp2
            go_roundw
            case rel => exact ⟨c + 1, _, by omega, by go_num, by go_num, rfl⟩
            case measure => simp [intOf]; omega
          · have hce : c = p2.toNat := by omega
            have hcI : ¬ (c : Int) < p2 := by omega
            have hjs : J L (i + 1) = j0 + c := by rw [HJs.out, hce]
            have HJ2 : Hid _ := hjs
            clear hjs hce
            go_wp2
            go_roundw
            case rel => exact ⟨i + 1, _, by omega, by go_num, by rw [HJ2.out], rfl⟩
            case measure => simp [intOf]; omega
    · have hiL : L.length = i := by omega
      have hJn : J L L.length = n := by rw [J_all, HN.out]
      subst hiL
      have hfin : ((J L L.length : Int) == (n : Int)) = true := by rw [hJn]; simp
      clear hJn
      go_wp2
      go_ret
      exact ⟨rfl, q, rfl⟩
end Go.Proofs.Qxb6602950a
