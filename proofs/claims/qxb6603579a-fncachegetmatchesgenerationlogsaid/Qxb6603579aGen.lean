/- WORK: the law FnCacheGetMatchesGenerationLog: its walk. -/
import Derived.Test.Qxb6603579aDoor
import Derived.Test.Qxb6603579aAns
import Derived.Test.Qxb6603579aBools
import Derived.Test.Qxb6603579aLogPlain
set_option linter.unusedVariables false
namespace Go.Proofs.Qxb6603579a
open Go.RowKit Go.Maps
open Go.MuLone
open Go.WideShapes Go.ChangeMaps Go.WideMaps

theorem Cache.grown {w w' : World} {B C z n : Nat} {s : Int} {lv : Value} {xs : List Value} {Dn Do : DataW Unit} (h : Cache w B C s z Dn Do) (ho : w.ownsRow B 52 3 lv n xs) (hg : w.grownBy w' lv.ownBlock) : Cache w' B C s z Dn Do := by
  obtain ⟨nb, ov, h1, h2, h3, h4, h5⟩ := h
  have nC : some C ≠ lv.ownBlock := by
    rcases ho.2 with ⟨rfl, _⟩ | ⟨g, cap, cur, rfl, _, hb, _⟩
    · intro e; cases e
    · intro e
      have e : C = g := Option.some.inj e
      subst e
      unfold CS at h1
      rw [h1] at hb
      injection hb with hb
      injection hb with _ hb _
      exact absurd hb (by decide)
  have nM : ∀ b m D, w.ownsMap Try.prog 9 velem b m D → some b ≠ lv.ownBlock := by
    intro b m D hm
    rcases ho.2 with ⟨rfl, _⟩ | ⟨g, cap, cur, rfl, _, hb, _⟩
    · intro e; cases e
    · intro e
      have e : b = g := Option.some.inj e
      subst e
      obtain ⟨es, clock, hb', _⟩ := hm
      rw [hb] at hb'
      cases hb'
  refine ⟨nb, ov, h1.kept (hg.block C h1.lt nC), h2.kept hg (nM _ _ _ h2), ?_, h4, h5⟩
  rcases h3 with h3 | ⟨ob, e1, e2, e3, e4⟩
  · exact .inl h3
  · exact .inr ⟨ob, e1, e2, e3, e4.kept hg (nM _ _ _ e4)⟩
theorem Row.K {w w' : World} {B : Nat} {lv : Value} {M : List Rec} (h : Row w B lv M) (hk : K w.heap.size w w') : Row w' B lv M := by
  refine ⟨h.1, ?_⟩
  rcases h.2 with h' | ⟨g, cap, cur, e1, e2, e3, r⟩
  · exact .inl h'
  · exact .inr ⟨g, cap, cur, e1, e2, hk g _ _ _ (Array.getElem?_eq_some_iff.1 e3).1 (by decide) e3, r⟩
theorem Box.grown {w w' : World} {B b n : Nat} {t : ByteArray} {lv : Value} {xs : List Value} (h : Box w b t) (ho : w.ownsRow B 52 3 lv n xs) (hg : w.grownBy w' lv.ownBlock) : Box w' b t := by
  refine (hg.block b h.lt ?_).trans h
  rcases ho.2 with ⟨rfl, _⟩ | ⟨g, cap, cur, rfl, _, hb, _⟩
  · intro e; cases e
  · intro e
    have e : b = g := Option.some.inj e
    subst e
    unfold Box at h
    rw [h] at hb
    injection hb with hb
    injection hb with _ hb _
    exact absurd hb (by decide)
theorem box_fresh {w : World} {B C z : Nat} {lv : Value} {M : List Rec} {Dn Do : DataW Unit} (s : ByteArray) (hc : Cache w B C 0 z Dn Do) (hr : Row w B lv M) :
    ∃ w8, (Instr.storeAt 40 (.pointer (some ⟨w.heap.size, 0, none⟩)) (vf s)).run Try.prog (w.alloc (.cells (vc (ByteArray.mk #[])) 40)) = .ok () w8 ∧ Box w8 w.heap.size s ∧ Cache w8 B C 0 z Dn Do ∧ Row w8 B lv M ∧ Below B w w8 := by
  have hn := Box.new w (ByteArray.mk #[])
  have hle := hc.le
  refine ⟨_, hn.store s, hn.set s, (hc.alloc _).setRow hn s, hr.K ((K_alloc _ w _).trans (K_row (Nat.le_refl _) _)), below_setRow ((Below.refl B w).alloc (by omega) _) (by omega) _⟩
theorem row_below {w w' : World} {B : Nat} {lv : Value} {M : List Rec} (h : Row w B lv M) (hg : w.grownBy w' lv.ownBlock) (hB : B ≤ w.heap.size) : Below B w w' := by
  refine (Below.refl B w).grown hg hB (fun k hk => ?_)
  rcases h.2 with ⟨rfl, _⟩ | ⟨g, cap, cur, rfl, hb, _⟩
  · cases hk
  · cases hk
    exact hb

/-- What holds at the head of each round. -/
def GInv (w3 : World) (B C z k : Nat) (lv : Value) (gen cur : Int) (wr : World) : Prop :=
  ∃ M Dn Do, Row wr B lv M ∧ M.length ≤ k ∧ 0 ≤ gen ∧ gen ≤ k ∧ cur = Maps.size Dn ∧ Cache wr B C 0 z Dn Do ∧ Fit z Dn ∧ LogRel M gen Dn Do ∧ Below B w3 wr
theorem genS_le {h gen cur : Int} : gen ≤ genS h gen cur ∧ genS h gen cur ≤ gen + 1 := by
  unfold genS
  split <;> omega

theorem half (z : Nat) : ((z : Int) / 2) = ((z / 2 : Nat) : Int) := by omega
theorem ginv_step {w3 w6 : World} {B C z kk : Nat} {gen cur : Int} {M : List Rec} {Dn Do : DataW Unit} {key name : ByteArray} {lv : Value} (hl : LogRel M gen Dn Do) (hf : Fit z Dn) (hcu : cur = Maps.size Dn) (h2 : M.length ≤ kk) (h3 : 0 ≤ gen) (h4 : gen ≤ kk)
    (hr : Row w6 B lv ((key, name, genS ((z : Int) / 2) gen cur) :: M)) (hc : Cache w6 B C 0 z (stepN z Dn key name) (stepO z Dn Do)) (hb : Below B w3 w6) : GInv w3 B C z (kk + 1) lv (genS ((z : Int) / 2) gen cur) (curS M ((z : Int) / 2) gen cur key) w6 := by
  have hg := @genS_le ((z : Int) / 2) gen cur
  obtain ⟨s1, s2⟩ := hl.step (z := z) hf.1 key name
  rw [← half, ← hcu] at s1 s2
  exact ⟨_, _, _, hr, by simp; omega, by omega, by omega, s2.symm, hc, hf.step key name, s1, hb⟩
theorem Cache.below {w w' : World} {B C z : Nat} {s : Int} {Dn Do : DataW Unit} (h : Cache w B C s z Dn Do) (hb : Below w.heap.size w w') : Cache w' B C s z Dn Do := by
  obtain ⟨nb, ov, h1, h2, h3, h4, h5⟩ := h
  have km : ∀ b m D, w.ownsMap Try.prog 9 velem b m D → w'.ownsMap Try.prog 9 velem b m D := by
    rintro b m D ⟨es, clock, hb', r⟩
    exact ⟨es, clock, (hb.block b (Array.getElem?_eq_some_iff.1 hb').1).trans hb', r⟩
  refine ⟨nb, ov, h1.kept (hb.block C h1.lt), km _ _ _ h2, ?_, h4, h5⟩
  rcases h3 with h3 | ⟨ob, e1, e2, e3, e4⟩
  · exact .inl h3
  · exact .inr ⟨ob, e1, e2, e3, km _ _ _ e4⟩
theorem Row.below {w w' : World} {B : Nat} {lv : Value} {M : List Rec} (h : Row w B lv M) (hb : Below w.heap.size w w') : Row w' B lv M := by
  refine ⟨h.1, ?_⟩
  rcases h.2 with h' | ⟨g, cap, cur, e1, e2, e3, r⟩
  · exact .inl h'
  · exact .inr ⟨g, cap, cur, e1, e2, (hb.block g (Array.getElem?_eq_some_iff.1 e3).1).trans e3, r⟩
theorem GInv.below {w3 w w' : World} {B C z k : Nat} {lv : Value} {gen cur : Int} (h : GInv w3 B C z k lv gen cur w) (hb : Below w.heap.size w w') : GInv w3 B C z k lv gen cur w' := by
  obtain ⟨M, Dn, Do, i1, i2, i3, i4, i5, i6, i7, i8, i9⟩ := h
  have hle := i6.le
  exact ⟨M, Dn, Do, i1.below hb, i2, i3, i4, i5, i6.below hb, i7, i8, i9.trans (hb.mono (by omega))⟩
theorem ginv_kept {w3 w8 wA : World} {B C z kk : Nat} {gen cur : Int} {M : List Rec} {Dn Do : DataW Unit} {lv : Value} (hl : LogRel M gen Dn Do) (hf : Fit z Dn) (hcu : cur = Maps.size Dn) (h2 : M.length ≤ kk) (h3 : 0 ≤ gen) (h4 : gen ≤ kk)
    (hr : Row w8 B lv M) (hc : Cache w8 B C 0 z Dn Do) (hb : Below B w3 w8) (hA : Below w8.heap.size w8 wA) : GInv w3 B C z (kk + 1) lv gen cur wA :=
  GInv.below ⟨M, Dn, Do, hr, by omega, h3, by omega, hcu, hc, hf, hl, hb⟩ hA

set_option maxHeartbeats 1600000 in
set_option maxRecDepth 100000 in
theorem gen_any (sz : Int) (a b c0 : Option Addr) (n c m d p cp : Nat) (f g : Nat → ByteArray) (bs : Nat → Bool) (w : World) (h0 : (Lit.int .i64 sz).wf = true) (hn : n ≤ 9223372036854775807) (hm : m ≤ 9223372036854775807) (hp0 : p ≤ 9223372036854775807) (ho : Own w a n f) (hp : Own w b m g) (hq : OwnB w c0 p bs) (hf : ∀ i, i < n → (f i).size ≤ 9223372036854775807) (hg : ∀ i, i < m → (g i).size ≤ 9223372036854775807) (hna : a = none → n = 0 ∧ c = 0) (hnb : b = none → m = 0 ∧ d = 0) (hnc : c0 = none → p = 0 ∧ cp = 0) :
    Calls Try.prog 3 #[.int .i64 sz, .slice a n c, .slice b m d, .slice c0 p cp] w fun e w' => e = .returned (.bool true) ∧ Below w.heap.size w w' := by
  have HO : Hid (Own w a n f) := ho
  have HP : Hid (Own w b m g) := hp
  have HQ : Hid (OwnB w c0 p bs) := hq
  have HF : Hid (∀ i, i < n → (f i).size ≤ 9223372036854775807) := hf
  have HG : Hid (∀ i, i < m → (g i).size ≤ 9223372036854775807) := hg
  have HNA : Hid (a = none → n = 0 ∧ c = 0) := hna
  have HNB : Hid (b = none → m = 0 ∧ d = 0) := hnb
  have HNC : Hid (c0 = none → p = 0 ∧ cp = 0) := hnc
  clear ho hp hq hf hg hna hnb hnc
  go_enter Try.func3, Try.ntmps3
  go_wp2_with fail
  refine (bytes5 sz a b c0 n c m d p cp f g w hn hm hp0 HO.out HP.out HF.out HG.out).mono ?_
  rintro e w' ⟨he, rfl⟩
  rcases he with rfl | ⟨rfl, hS⟩
  · go_wp2
    go_ret
    exact ⟨rfl, Below.refl _ _⟩
  have HS : Hid (Small5 n m p f g) := hS
  clear hS
  by_cases hL : n ≤ 4096 ∧ m ≤ 4096 ∧ p ≤ 4096
  rotate_left
  · go_wp2
    all_goals
      go_ret
      exact ⟨rfl, Below.refl _ _⟩
  obtain ⟨l1, l2, l3⟩ := hL
  go_wp2
  go_loop [9, 10] (fun t i => ∃ k q : Nat, k ≤ n ∧ q ≤ 2228224 + k * 1048576 ∧ i = .int .i64 k ∧ t = .int .i64 q) (fun _ i => n - (intOf i).toNat)
  case atStart => exact ⟨0, 16 * n + 16 * m + p, Nat.zero_le _, by omega, rfl, by go_num⟩
  case round =>
    obtain ⟨k, q, hk, hq, rfl, rfl⟩ := hrel
    by_cases hlt : k < n
    · rcases HO.out with ho | ⟨x, rfl, hx, hc⟩
      · omega
      have e1 := hc k hlt
      have e2 := HS.out.2.2.2.1 k hlt
      clear hc
      generalize f k = s at e1 e2
      go_wp2
      go_round
      case rel => exact ⟨k + 1, q + s.size, by omega, by omega, by go_num, by go_num⟩
      case measure => simp [intOf]; omega
    go_wp2
    go_loop [9, 11] (fun t i => ∃ k' q' : Nat, k' ≤ m ∧ q' ≤ q + k' * 1048576 ∧ i = .int .i64 k' ∧ t = .int .i64 q') (fun _ i => m - (intOf i).toNat)
    case atStart => exact ⟨0, q, Nat.zero_le _, by omega, rfl, rfl⟩
    case round =>
      obtain ⟨k', q', hk', hq', rfl, rfl⟩ := hrel
      by_cases hlt' : k' < m
      · rcases HP.out with hp | ⟨x, rfl, hx, hc⟩
        · omega
        have e1 := hc k' hlt'
        have e2 := HS.out.2.2.2.2 k' hlt'
        clear hc
        generalize g k' = s at e1 e2
        go_wp2
        go_round
        case rel => exact ⟨k' + 1, q' + s.size, by omega, by omega, by go_num, by go_num⟩
        case measure => simp [intOf]; omega
      by_cases hz : q' ≤ 1048576 ∧ 0 ≤ sz ∧ sz ≤ 65536
      rotate_left
      · go_wp2
        all_goals
          go_ret
          exact ⟨rfl, Below.refl _ _⟩
      obtain ⟨z1, z2, z3⟩ := hz
      obtain ⟨z, rfl⟩ : ∃ z : Nat, sz = (z : Int) := ⟨sz.toNat, by omega⟩
      go_wp2_with fail
      refine (clone_own a n c f _ (by omega) HO.out HNA.out).mono ?_
      rintro e w1 ⟨a', rfl, hb1, C1⟩
      have HP1 : Hid (Own w1 b m g) := Own.below HP.out hb1
      have HQ1 : Hid (OwnB w1 c0 p bs) := OwnB.below HQ.out hb1
      have HC1 : Hid _ := C1
      have HB1 : Hid _ := hb1
      clear C1 hb1
      go_wp2_with fail
      refine (clone_own b m d g _ (by omega) HP1.out HNB.out).mono ?_
      rintro e w2 ⟨b', rfl, hb2, C2⟩
      have HQ2 : Hid (OwnB w2 c0 p bs) := OwnB.below HQ1.out hb2
      have HO2 : Hid (Cl w2 w'.heap.size a' n f) := Cl.below HC1.out hb2
      have HC2 : Hid _ := C2
      have HB2 : Hid (Below w'.heap.size w' w2) := HB1.out.trans (hb2.mono HB1.out.size)
      clear hb2 C2 HP1 HC1 HB1 HQ1
      go_wp2_with fail
      refine (cloneB_own c0 p cp bs _ (by omega) HQ2.out HNC.out).mono ?_
      rintro e w3 ⟨c', rfl, hb3, C3⟩
      have HO3 : Hid (Own w3 a' n f) := Cl.own (Cl.below HO2.out hb3)
      have HP3 : Hid (Own w3 b' m g) := Cl.own (Cl.below HC2.out hb3)
      have HQ3 : Hid (OwnB w3 c' p bs) := C3.own
      have HB3 : Hid (Below w'.heap.size w' w3) := HB2.out.trans (hb3.mono HB2.out.size)
      clear hb3 C3 HO2 HC2 HB2 HQ2
      go_wp2_with fail
      refine (new_any w3 z (by omega)).mono ?_
      rintro e w4 ⟨C, rfl, hc4, hb4⟩
      have HI4 : Hid (GInv w3 w3.heap.size C z 0 (.slice none 0 0) 0 0 w4) := ⟨[], _, _, World.ownsRow_nil _ _ _ _, Nat.le_refl _, Int.le_refl _, Int.le_refl _, rfl, hc4, Fit.nil z, LogRel.nil, hb4⟩
      clear hc4 hb4
      go_wp2
      go_loopw [14, 15, 16, 17] (fun l ge cu i wr => ∃ (kk : Nat) (la : Option Addr) (ln lc : Nat) (gen cur : Int), kk ≤ n ∧ i = .int .i64 kk ∧ l = .slice la ln lc ∧ ge = .int .i64 gen ∧ cu = .int .i64 cur ∧ GInv w3 w3.heap.size C z kk (.slice la ln lc) gen cur wr) (fun _ _ _ i _ => n - (intOf i).toNat)
      case atStart => exact ⟨0, none, 0, 0, 0, 0, Nat.zero_le _, rfl, rfl, rfl, rfl, HI4.out⟩
      case round =>
        obtain ⟨kk, la, ln, lc, gen, cur, hkk, rfl, rfl, rfl, rfl, hinv⟩ := hrel
        obtain ⟨M, Dn, Do, i1, i2, i3, i4, i5, i6, i7, i8, i9⟩ := hinv
        have HR : Hid (Row wr w3.heap.size (.slice la ln lc) M) := i1
        have HC : Hid (Cache wr w3.heap.size C 0 z Dn Do) := i6
        have HFT : Hid (Fit z Dn) := i7
        have HLR : Hid (LogRel M gen Dn Do) := i8
        have HBL : Hid (Below w3.heap.size w3 wr) := i9
        have HSZ : Hid (Maps.size Dn ≤ z / 2 + 1) := i7.2
        have HCU : Hid (cur = Maps.size Dn) := i5
        have HLE : Hid (w3.heap.size ≤ wr.heap.size) := i9.size
        have icur : 0 ≤ cur ∧ cur ≤ 1000000 := by rw [i5]; have := i7.2; omega
        obtain ⟨j1, j2⟩ := icur
        clear i1 i5 i6 i7 i8 i9
        by_cases hlt4 : kk < n
        rotate_left
        · have HB9 : Hid (Below w'.heap.size w' wr) := HB3.out.trans (HBL.out.mono HB3.out.size)
          go_wp2
          go_ret
          exact ⟨rfl, HB9.out⟩
        rcases Own.below HO3.out HBL.out with ho | ⟨x, rfl, hx, hcell⟩
        · omega
        have e1 := hcell kk hlt4
        have HT : Hid ((f kk).size ≤ maxLen) := by have := HS.out.2.2.2.1 kk hlt4; unfold Hid maxLen; omega
        clear hcell hx
        generalize f kk = key at e1 HT
        by_cases hltm : kk < m
        · rcases Own.below HP3.out HBL.out with hp | ⟨xm, rfl, hxm, hcellm⟩
          · omega
          have e2 := hcellm kk hltm
          clear hcellm hxm
          generalize g kk = name at e2
          by_cases hltb : kk < p
          · rcases OwnB.below HQ3.out HBL.out with hq | ⟨xb, rfl, hxb, hcellb⟩
            · omega
            have e3 := hcellb kk hltb
            clear hcellb hxb
            generalize bs kk = bb at e3
            cases bb
            · skip
              go_wp2_with fail
              refine (zzput_any key (name) HC.out (Fit.lt HFT.out (by omega)) (by omega) HT.out).mono ?_
              rintro e w5 ⟨rfl, hc5, hb5, hk5⟩
              have hr5 : Row w5 w3.heap.size (.slice la ln lc) M := Row.K HR.out (hk5 _)
              have HR5 : Hid _ := hr5
              have HC5 : Hid _ := hc5
              have HB5 : Hid (Below w3.heap.size w3 w5) := HBL.out.trans hb5
              clear hr5 hc5 hb5 hk5
              go_wp2_with fail
              refine (log_add gen cur ((z : Int) / 2) key (name) w5 (by omega) i3 (by omega) j1 j2 HR5.out HB5.out.size).mono ?_
              rintro e w6 ⟨lv6, rfl, hr6, hg6⟩
              obtain ⟨la6, lc6, rfl, _⟩ := hr6.shape
              have HI6 : Hid (GInv w3 w3.heap.size C z (kk + 1) (.slice la6 ((key, name, genS ((z : Int) / 2) gen cur) :: M).length lc6) (genS ((z : Int) / 2) gen cur) (curS M ((z : Int) / 2) gen cur key) w6) :=
                ginv_step HLR.out HFT.out HCU.out i2 i3 i4 hr6 (Cache.grown HC5.out HR5.out hg6) (HB5.out.trans (row_below HR5.out hg6 HB5.out.size))
              clear hr6 hg6
              generalize genS ((z : Int) / 2) gen cur = gen6 at *
              generalize curS M ((z : Int) / 2) gen cur key = cur6 at *
              generalize List.length (_ :: M) = ln6 at *
              go_wp2
              go_roundw
              case rel => exact ⟨kk + 1, _, _, _, _, _, by omega, by go_num, rfl, rfl, rfl, HI6.out⟩
              case measure => simp [intOf]; omega
            · skip
              go_wp2_with fail
              refine (zzget_any key HC.out HT.out (Fit.lt HFT.out (by omega)) (by omega)).mono ?_
              rintro e w7 ⟨s, b, Dn', Do', rfl, hc7, hb7, hr7, hk7⟩
              obtain ⟨w8, hst, hx8, hc8, hl8, hb8⟩ := box_fresh s hc7 (Row.K HR.out hk7)
              have HST : Hid _ := hst
              have HLD : Hid _ := hx8.load
              have HX8 : Hid _ := hx8
              have HC8 : Hid _ := hc8
              have HR8 : Hid _ := hl8
              have HB8 : Hid (Below w3.heap.size w3 w8) := HBL.out.trans (hb7.trans hb8)
              have hcases := LogRel.get HLR.out hr7
              clear hst hx8 hc8 hl8 hb8 hc7 hb7 hk7 hr7
              rcases hcases with ⟨q1, rfl, rfl, rfl⟩ | ⟨q1, q2, rfl, rfl, rfl⟩ | ⟨q1, q2, rfl, rfl, rfl, rfl⟩
              · have hf : Calls Try.prog 10 #[.slice la ln lc, .int .i64 gen, .string key] w8 fun e w' => e = .returned (.tuple #[.string s, .bool true]) ∧ w' = w8 := by
                  have := find_any gen key w8 (by omega) HR8.out
                  rw [q1] at this
                  exact this
                have HF1 : Hid _ := hf
                clear hf q1
                go_wp2_with (refine wpList_st (by rfl) _ _ 40 (by rfl) _ _ (by rfl) (by rfl) HST.out ?_)
                refine Calls.mono HF1.out ?_
                rintro e w9 ⟨rfl, rfl⟩
                go_wp2_with (refine wpList_ld (by rfl) _ 40 (by rfl) _ _ (by rfl) HLD.out ?_)
                refine (answer_true _ s true).mono ?_
                rintro e wA ⟨rfl, hbA⟩
                have HIA : Hid (GInv w3 w3.heap.size C z (kk + 1) (.slice la ln lc) gen cur wA) := ginv_kept HLR.out HFT.out HCU.out i2 i3 i4 HR8.out HC8.out HB8.out hbA
                clear hbA
                go_wp2
                go_roundw
                case rel => exact ⟨kk + 1, _, _, _, _, _, by omega, by go_num, rfl, rfl, rfl, HIA.out⟩
                case measure => simp [intOf]; omega
              · have hf : Calls Try.prog 10 #[.slice la ln lc, .int .i64 gen, .string key] w8 fun e w' => e = .returned (.tuple #[.string (ByteArray.mk #[]), .bool false]) ∧ w' = w8 := by
                  have := find_any gen key w8 (by omega) HR8.out
                  rw [q1] at this
                  exact this
                have hf2 : Calls Try.prog 10 #[.slice la ln lc, .int .i64 (gen - 1), .string key] w8 fun e w' => e = .returned (.tuple #[.string s, .bool true]) ∧ w' = w8 := by
                  have := find_any (gen - 1) key w8 (by omega) HR8.out
                  rw [q2] at this
                  exact this
                have HF1 : Hid _ := hf
                have HF2 : Hid _ := hf2
                clear hf hf2 q1 q2
                go_wp2_with (refine wpList_st (by rfl) _ _ 40 (by rfl) _ _ (by rfl) (by rfl) HST.out ?_)
                refine Calls.mono HF1.out ?_
                rintro e w9 ⟨rfl, rfl⟩
                go_wp2_with fail
                refine Calls.mono HF2.out ?_
                rintro e w9' ⟨rfl, hw9⟩
                cases hw9
                go_wp2_with fail
                refine (log_add gen cur ((z : Int) / 2) key s _ (by omega) i3 (by omega) j1 j2 HR8.out HB8.out.size).mono ?_
                rintro e w6 ⟨lv6, rfl, hr6, hg6⟩
                obtain ⟨la6, lc6, rfl, _⟩ := hr6.shape
                have HLD6 : Hid _ := Box.load (Box.grown HX8.out HR8.out hg6)
                have HIA : Hid (∀ wA, Below w6.heap.size w6 wA → GInv w3 w3.heap.size C z (kk + 1) (.slice la6 ((key, s, genS ((z : Int) / 2) gen cur) :: M).length lc6) (genS ((z : Int) / 2) gen cur) (curS M ((z : Int) / 2) gen cur key) wA) := fun wA hbA =>
                  GInv.below (ginv_step HLR.out HFT.out HCU.out i2 i3 i4 hr6 (Cache.grown HC8.out HR8.out hg6) (HB8.out.trans (row_below HR8.out hg6 HB8.out.size))) hbA
                clear hr6 hg6
                generalize genS ((z : Int) / 2) gen cur = gen6 at *
                generalize curS M ((z : Int) / 2) gen cur key = cur6 at *
                generalize List.length (_ :: M) = ln6 at *
                go_wp2_with (refine wpList_ld (by rfl) _ 40 (by rfl) _ _ (by rfl) HLD6.out ?_)
                refine (answer_true _ s true).mono ?_
                rintro e wA ⟨rfl, hbA⟩
                have HIB := HIA.out wA hbA
                have HIC : Hid _ := HIB
                clear hbA HIB
                go_wp2
                go_roundw
                case rel => exact ⟨kk + 1, _, _, _, _, _, by omega, by go_num, rfl, rfl, rfl, HIC.out⟩
                case measure => simp [intOf]; omega
              · have hf : Calls Try.prog 10 #[.slice la ln lc, .int .i64 gen, .string key] w8 fun e w' => e = .returned (.tuple #[.string (ByteArray.mk #[]), .bool false]) ∧ w' = w8 := by
                  have := find_any gen key w8 (by omega) HR8.out
                  rw [q1] at this
                  exact this
                have hf2 : Calls Try.prog 10 #[.slice la ln lc, .int .i64 (gen - 1), .string key] w8 fun e w' => e = .returned (.tuple #[.string (ByteArray.mk #[]), .bool false]) ∧ w' = w8 := by
                  have := find_any (gen - 1) key w8 (by omega) HR8.out
                  rw [q2] at this
                  exact this
                have HF1 : Hid _ := hf
                have HF2 : Hid _ := hf2
                clear hf hf2 q1 q2
                go_wp2_with (refine wpList_st (by rfl) _ _ 40 (by rfl) _ _ (by rfl) (by rfl) HST.out ?_)
                refine Calls.mono HF1.out ?_
                rintro e w9 ⟨rfl, rfl⟩
                go_wp2_with fail
                refine Calls.mono HF2.out ?_
                rintro e w9' ⟨rfl, hw9⟩
                cases hw9
                go_wp2_with (refine wpList_ld (by rfl) _ 40 (by rfl) _ _ (by rfl) HLD.out ?_)
                refine (answer_true _ (ByteArray.mk #[]) false).mono ?_
                rintro e wA ⟨rfl, hbA⟩
                have HIA : Hid (GInv w3 w3.heap.size C z (kk + 1) (.slice la ln lc) gen cur wA) := ginv_kept HLR.out HFT.out HCU.out i2 i3 i4 HR8.out HC8.out HB8.out hbA
                clear hbA
                go_wp2
                go_roundw
                case rel => exact ⟨kk + 1, _, _, _, _, _, by omega, by go_num, rfl, rfl, rfl, HIA.out⟩
                case measure => simp [intOf]; omega
          · skip
            go_wp2_with fail
            refine (zzput_any key (name) HC.out (Fit.lt HFT.out (by omega)) (by omega) HT.out).mono ?_
            rintro e w5 ⟨rfl, hc5, hb5, hk5⟩
            have hr5 : Row w5 w3.heap.size (.slice la ln lc) M := Row.K HR.out (hk5 _)
            have HR5 : Hid _ := hr5
            have HC5 : Hid _ := hc5
            have HB5 : Hid (Below w3.heap.size w3 w5) := HBL.out.trans hb5
            clear hr5 hc5 hb5 hk5
            go_wp2_with fail
            refine (log_add gen cur ((z : Int) / 2) key (name) w5 (by omega) i3 (by omega) j1 j2 HR5.out HB5.out.size).mono ?_
            rintro e w6 ⟨lv6, rfl, hr6, hg6⟩
            obtain ⟨la6, lc6, rfl, _⟩ := hr6.shape
            have HI6 : Hid (GInv w3 w3.heap.size C z (kk + 1) (.slice la6 ((key, name, genS ((z : Int) / 2) gen cur) :: M).length lc6) (genS ((z : Int) / 2) gen cur) (curS M ((z : Int) / 2) gen cur key) w6) :=
              ginv_step HLR.out HFT.out HCU.out i2 i3 i4 hr6 (Cache.grown HC5.out HR5.out hg6) (HB5.out.trans (row_below HR5.out hg6 HB5.out.size))
            clear hr6 hg6
            generalize genS ((z : Int) / 2) gen cur = gen6 at *
            generalize curS M ((z : Int) / 2) gen cur key = cur6 at *
            generalize List.length (_ :: M) = ln6 at *
            go_wp2
            go_roundw
            case rel => exact ⟨kk + 1, _, _, _, _, _, by omega, by go_num, rfl, rfl, rfl, HI6.out⟩
            case measure => simp [intOf]; omega
        · skip
          by_cases hltb : kk < p
          · rcases OwnB.below HQ3.out HBL.out with hq | ⟨xb, rfl, hxb, hcellb⟩
            · omega
            have e3 := hcellb kk hltb
            clear hcellb hxb
            generalize bs kk = bb at e3
            cases bb
            · skip
              go_wp2_with fail
              refine (zzput_any key ((ByteArray.mk #[])) HC.out (Fit.lt HFT.out (by omega)) (by omega) HT.out).mono ?_
              rintro e w5 ⟨rfl, hc5, hb5, hk5⟩
              have hr5 : Row w5 w3.heap.size (.slice la ln lc) M := Row.K HR.out (hk5 _)
              have HR5 : Hid _ := hr5
              have HC5 : Hid _ := hc5
              have HB5 : Hid (Below w3.heap.size w3 w5) := HBL.out.trans hb5
              clear hr5 hc5 hb5 hk5
              go_wp2_with fail
              refine (log_add gen cur ((z : Int) / 2) key ((ByteArray.mk #[])) w5 (by omega) i3 (by omega) j1 j2 HR5.out HB5.out.size).mono ?_
              rintro e w6 ⟨lv6, rfl, hr6, hg6⟩
              obtain ⟨la6, lc6, rfl, _⟩ := hr6.shape
              have HI6 : Hid (GInv w3 w3.heap.size C z (kk + 1) (.slice la6 ((key, (ByteArray.mk #[]), genS ((z : Int) / 2) gen cur) :: M).length lc6) (genS ((z : Int) / 2) gen cur) (curS M ((z : Int) / 2) gen cur key) w6) :=
                ginv_step HLR.out HFT.out HCU.out i2 i3 i4 hr6 (Cache.grown HC5.out HR5.out hg6) (HB5.out.trans (row_below HR5.out hg6 HB5.out.size))
              clear hr6 hg6
              generalize genS ((z : Int) / 2) gen cur = gen6 at *
              generalize curS M ((z : Int) / 2) gen cur key = cur6 at *
              generalize List.length (_ :: M) = ln6 at *
              go_wp2
              go_roundw
              case rel => exact ⟨kk + 1, _, _, _, _, _, by omega, by go_num, rfl, rfl, rfl, HI6.out⟩
              case measure => simp [intOf]; omega
            · skip
              go_wp2_with fail
              refine (zzget_any key HC.out HT.out (Fit.lt HFT.out (by omega)) (by omega)).mono ?_
              rintro e w7 ⟨s, b, Dn', Do', rfl, hc7, hb7, hr7, hk7⟩
              obtain ⟨w8, hst, hx8, hc8, hl8, hb8⟩ := box_fresh s hc7 (Row.K HR.out hk7)
              have HST : Hid _ := hst
              have HLD : Hid _ := hx8.load
              have HX8 : Hid _ := hx8
              have HC8 : Hid _ := hc8
              have HR8 : Hid _ := hl8
              have HB8 : Hid (Below w3.heap.size w3 w8) := HBL.out.trans (hb7.trans hb8)
              have hcases := LogRel.get HLR.out hr7
              clear hst hx8 hc8 hl8 hb8 hc7 hb7 hk7 hr7
              rcases hcases with ⟨q1, rfl, rfl, rfl⟩ | ⟨q1, q2, rfl, rfl, rfl⟩ | ⟨q1, q2, rfl, rfl, rfl, rfl⟩
              · have hf : Calls Try.prog 10 #[.slice la ln lc, .int .i64 gen, .string key] w8 fun e w' => e = .returned (.tuple #[.string s, .bool true]) ∧ w' = w8 := by
                  have := find_any gen key w8 (by omega) HR8.out
                  rw [q1] at this
                  exact this
                have HF1 : Hid _ := hf
                clear hf q1
                go_wp2_with (refine wpList_st (by rfl) _ _ 40 (by rfl) _ _ (by rfl) (by rfl) HST.out ?_)
                refine Calls.mono HF1.out ?_
                rintro e w9 ⟨rfl, rfl⟩
                go_wp2_with (refine wpList_ld (by rfl) _ 40 (by rfl) _ _ (by rfl) HLD.out ?_)
                refine (answer_true _ s true).mono ?_
                rintro e wA ⟨rfl, hbA⟩
                have HIA : Hid (GInv w3 w3.heap.size C z (kk + 1) (.slice la ln lc) gen cur wA) := ginv_kept HLR.out HFT.out HCU.out i2 i3 i4 HR8.out HC8.out HB8.out hbA
                clear hbA
                go_wp2
                go_roundw
                case rel => exact ⟨kk + 1, _, _, _, _, _, by omega, by go_num, rfl, rfl, rfl, HIA.out⟩
                case measure => simp [intOf]; omega
              · have hf : Calls Try.prog 10 #[.slice la ln lc, .int .i64 gen, .string key] w8 fun e w' => e = .returned (.tuple #[.string (ByteArray.mk #[]), .bool false]) ∧ w' = w8 := by
                  have := find_any gen key w8 (by omega) HR8.out
                  rw [q1] at this
                  exact this
                have hf2 : Calls Try.prog 10 #[.slice la ln lc, .int .i64 (gen - 1), .string key] w8 fun e w' => e = .returned (.tuple #[.string s, .bool true]) ∧ w' = w8 := by
                  have := find_any (gen - 1) key w8 (by omega) HR8.out
                  rw [q2] at this
                  exact this
                have HF1 : Hid _ := hf
                have HF2 : Hid _ := hf2
                clear hf hf2 q1 q2
                go_wp2_with (refine wpList_st (by rfl) _ _ 40 (by rfl) _ _ (by rfl) (by rfl) HST.out ?_)
                refine Calls.mono HF1.out ?_
                rintro e w9 ⟨rfl, rfl⟩
                go_wp2_with fail
                refine Calls.mono HF2.out ?_
                rintro e w9' ⟨rfl, hw9⟩
                cases hw9
                go_wp2_with fail
                refine (log_add gen cur ((z : Int) / 2) key s _ (by omega) i3 (by omega) j1 j2 HR8.out HB8.out.size).mono ?_
                rintro e w6 ⟨lv6, rfl, hr6, hg6⟩
                obtain ⟨la6, lc6, rfl, _⟩ := hr6.shape
                have HLD6 : Hid _ := Box.load (Box.grown HX8.out HR8.out hg6)
                have HIA : Hid (∀ wA, Below w6.heap.size w6 wA → GInv w3 w3.heap.size C z (kk + 1) (.slice la6 ((key, s, genS ((z : Int) / 2) gen cur) :: M).length lc6) (genS ((z : Int) / 2) gen cur) (curS M ((z : Int) / 2) gen cur key) wA) := fun wA hbA =>
                  GInv.below (ginv_step HLR.out HFT.out HCU.out i2 i3 i4 hr6 (Cache.grown HC8.out HR8.out hg6) (HB8.out.trans (row_below HR8.out hg6 HB8.out.size))) hbA
                clear hr6 hg6
                generalize genS ((z : Int) / 2) gen cur = gen6 at *
                generalize curS M ((z : Int) / 2) gen cur key = cur6 at *
                generalize List.length (_ :: M) = ln6 at *
                go_wp2_with (refine wpList_ld (by rfl) _ 40 (by rfl) _ _ (by rfl) HLD6.out ?_)
                refine (answer_true _ s true).mono ?_
                rintro e wA ⟨rfl, hbA⟩
                have HIB := HIA.out wA hbA
                have HIC : Hid _ := HIB
                clear hbA HIB
                go_wp2
                go_roundw
                case rel => exact ⟨kk + 1, _, _, _, _, _, by omega, by go_num, rfl, rfl, rfl, HIC.out⟩
                case measure => simp [intOf]; omega
              · have hf : Calls Try.prog 10 #[.slice la ln lc, .int .i64 gen, .string key] w8 fun e w' => e = .returned (.tuple #[.string (ByteArray.mk #[]), .bool false]) ∧ w' = w8 := by
                  have := find_any gen key w8 (by omega) HR8.out
                  rw [q1] at this
                  exact this
                have hf2 : Calls Try.prog 10 #[.slice la ln lc, .int .i64 (gen - 1), .string key] w8 fun e w' => e = .returned (.tuple #[.string (ByteArray.mk #[]), .bool false]) ∧ w' = w8 := by
                  have := find_any (gen - 1) key w8 (by omega) HR8.out
                  rw [q2] at this
                  exact this
                have HF1 : Hid _ := hf
                have HF2 : Hid _ := hf2
                clear hf hf2 q1 q2
                go_wp2_with (refine wpList_st (by rfl) _ _ 40 (by rfl) _ _ (by rfl) (by rfl) HST.out ?_)
                refine Calls.mono HF1.out ?_
                rintro e w9 ⟨rfl, rfl⟩
                go_wp2_with fail
                refine Calls.mono HF2.out ?_
                rintro e w9' ⟨rfl, hw9⟩
                cases hw9
                go_wp2_with (refine wpList_ld (by rfl) _ 40 (by rfl) _ _ (by rfl) HLD.out ?_)
                refine (answer_true _ (ByteArray.mk #[]) false).mono ?_
                rintro e wA ⟨rfl, hbA⟩
                have HIA : Hid (GInv w3 w3.heap.size C z (kk + 1) (.slice la ln lc) gen cur wA) := ginv_kept HLR.out HFT.out HCU.out i2 i3 i4 HR8.out HC8.out HB8.out hbA
                clear hbA
                go_wp2
                go_roundw
                case rel => exact ⟨kk + 1, _, _, _, _, _, by omega, by go_num, rfl, rfl, rfl, HIA.out⟩
                case measure => simp [intOf]; omega
          · skip
            go_wp2_with fail
            refine (zzput_any key ((ByteArray.mk #[])) HC.out (Fit.lt HFT.out (by omega)) (by omega) HT.out).mono ?_
            rintro e w5 ⟨rfl, hc5, hb5, hk5⟩
            have hr5 : Row w5 w3.heap.size (.slice la ln lc) M := Row.K HR.out (hk5 _)
            have HR5 : Hid _ := hr5
            have HC5 : Hid _ := hc5
            have HB5 : Hid (Below w3.heap.size w3 w5) := HBL.out.trans hb5
            clear hr5 hc5 hb5 hk5
            go_wp2_with fail
            refine (log_add gen cur ((z : Int) / 2) key ((ByteArray.mk #[])) w5 (by omega) i3 (by omega) j1 j2 HR5.out HB5.out.size).mono ?_
            rintro e w6 ⟨lv6, rfl, hr6, hg6⟩
            obtain ⟨la6, lc6, rfl, _⟩ := hr6.shape
            have HI6 : Hid (GInv w3 w3.heap.size C z (kk + 1) (.slice la6 ((key, (ByteArray.mk #[]), genS ((z : Int) / 2) gen cur) :: M).length lc6) (genS ((z : Int) / 2) gen cur) (curS M ((z : Int) / 2) gen cur key) w6) :=
              ginv_step HLR.out HFT.out HCU.out i2 i3 i4 hr6 (Cache.grown HC5.out HR5.out hg6) (HB5.out.trans (row_below HR5.out hg6 HB5.out.size))
            clear hr6 hg6
            generalize genS ((z : Int) / 2) gen cur = gen6 at *
            generalize curS M ((z : Int) / 2) gen cur key = cur6 at *
            generalize List.length (_ :: M) = ln6 at *
            go_wp2
            go_roundw
            case rel => exact ⟨kk + 1, _, _, _, _, _, by omega, by go_num, rfl, rfl, rfl, HI6.out⟩
            case measure => simp [intOf]; omega
end Go.Proofs.Qxb6603579a
