/- WORK: the log of generations, newest first: its plain words; zzB1find; zzB1add. -/
import Derived.Test.Qxb6603579aClone
import Derived.Deep.AppendLies
import Derived.Laws.AppendOwnNone
import Derived.Laws.OwnMore
import Derived.OwnWalk
import Derived.Lib.SlicesS
namespace Go.Proofs.Qxb6603579a
open Go.RowKit
set_option linter.unusedVariables false

abbrev Rec := ByteArray × ByteArray × Int
def flat (ls : List Rec) : List Value := ls.flatMap fun p => [.string p.1, .string p.2.1, .int .i64 p.2.2]
theorem flat_append (a b : List Rec) : flat (a ++ b) = flat a ++ flat b := by simp [flat]
theorem flat_get : ∀ (L : List Rec) (j : Nat) (r : Rec), L[j]? = some r → (flat L)[j * 3]? = some (.string r.1) ∧ (flat L)[j * 3 + 1]? = some (.string r.2.1) ∧ (flat L)[j * 3 + 2]? = some (.int .i64 r.2.2)
  | [], j, r, h => by simp at h
  | p :: L, 0, r, h => by
    simp at h
    subst h
    exact ⟨rfl, rfl, rfl⟩
  | p :: L, j + 1, r, h => by
    have ih := flat_get L j r (by simpa using h)
    have e : flat (p :: L) = .string p.1 :: .string p.2.1 :: .int .i64 p.2.2 :: flat L := rfl
    rw [e, show (j + 1) * 3 = j * 3 + 3 by omega]
    exact ih

/-- The name last logged for a key in a generation. -/
noncomputable def lookup : List Rec → Int → ByteArray → Option ByteArray
  | [], _, _ => none
  | r :: M, g, k => open Classical in if r.2.2 = g ∧ r.1 = k then some r.2.1 else lookup M g k
/-- Is the key in the run of records of that generation at the log's end? -/
noncomputable def seen : List Rec → Int → ByteArray → Bool
  | [], _, _ => false
  | r :: M, g, k => open Classical in if r.2.2 = g then (if r.1 = k then true else seen M g k) else false

/-- The log in memory. -/
def Row (w : World) (B : Nat) (lv : Value) (M : List Rec) : Prop := w.ownsRow B 52 3 lv M.length (flat M.reverse)
theorem Row.shape {w : World} {B : Nat} {lv : Value} {M : List Rec} (h : Row w B lv M) : ∃ a c, lv = .slice a M.length c ∧ (0 < M.length → ∃ g, a = some ⟨g, 0, none⟩) := by
  rcases h.2 with ⟨rfl, h0⟩ | ⟨g, cap, cur, rfl, _⟩
  · exact ⟨none, 0, by rw [h0], fun h => by omega⟩
  · exact ⟨_, _, rfl, fun _ => ⟨g, rfl⟩⟩
theorem Row.cells {w : World} {B g c : Nat} {M : List Rec} (h : Row w B (.slice (some ⟨g, 0, none⟩) M.length c) M) (j : Nat) (hj : j < M.length) :
    ∃ k n gn, M.drop (M.length - (j + 1)) = (k, n, gn) :: M.drop (M.length - j) ∧ w.cell? ⟨g, j * 3, none⟩ = some (.string k) ∧ w.cell? ⟨g, j * 3 + 1, none⟩ = some (.string n) ∧ w.cell? ⟨g, j * 3 + 2, none⟩ = some (.int .i64 gn) := by
  have hi : M.length - (j + 1) < M.length := by omega
  refine ⟨(M[M.length - (j + 1)]).1, (M[M.length - (j + 1)]).2.1, (M[M.length - (j + 1)]).2.2, ?_, ?_⟩
  · rw [List.drop_eq_getElem_cons hi]
    congr 2
    omega
  · have e : M.reverse[j]? = some M[M.length - (j + 1)] := by
      rw [List.getElem?_reverse hj, List.getElem?_eq_getElem (by omega)]
      congr 2
      omega
    obtain ⟨f1, f2, f3⟩ := flat_get M.reverse j _ e
    exact ⟨by rw [World.ownsRow.cellAt h _ (by omega)]; exact f1, by rw [World.ownsRow.cellAt h _ (by omega)]; exact f2, by rw [World.ownsRow.cellAt h _ (by omega)]; exact f3⟩

theorem look_skip {k n key : ByteArray} {gn g : Int} {L : List Rec} (h : gn ≠ g ∨ k ≠ key) : lookup ((k, n, gn) :: L) g key = lookup L g key := by
  unfold lookup
  rw [if_neg]
  · cases L <;> rfl
  · rintro ⟨h1, h2⟩
    rcases h with h | h
    · exact h h1
    · exact h h2
theorem look_hit {k n : ByteArray} {gn : Int} {L : List Rec} : lookup ((k, n, gn) :: L) gn k = some n := by
  unfold lookup
  rw [if_pos ⟨rfl, rfl⟩]
theorem seen_off {k n key : ByteArray} {gn g : Int} {L : List Rec} (h : gn ≠ g) : seen ((k, n, gn) :: L) g key = false := by
  unfold seen
  rw [if_neg h]
theorem seen_hit {k n : ByteArray} {gn : Int} {L : List Rec} : seen ((k, n, gn) :: L) gn k = true := by
  unfold seen
  rw [if_pos rfl, if_pos rfl]
theorem seen_skip {k n key : ByteArray} {gn : Int} {L : List Rec} (h : k ≠ key) : seen ((k, n, gn) :: L) gn key = seen L gn key := by
  conv => lhs; unfold seen
  rw [if_pos rfl, if_neg h]
theorem beq_no {s t : ByteArray} (h : s ≠ t) : (s.toList == t.toList) = false := by
  cases e : (s.toList == t.toList)
  · rfl
  · exact absurd ((Lib.bytes_beq_iff s t).1 e) h
theorem beq_yes (s : ByteArray) : (s.toList == s.toList) = true := (Lib.bytes_beq_iff s s).2 rfl

set_option maxHeartbeats 800000 in
theorem find_any {B : Nat} {lv : Value} {M : List Rec} (g : Int) (key : ByteArray) (w : World) (hL : M.length ≤ 5000) (ho : Row w B lv M) :
    Calls Try.prog 10 #[lv, .int .i64 g, .string key] w fun e w' => e = .returned (.tuple #[.string ((lookup M g key).getD (ByteArray.mk #[])), .bool (lookup M g key).isSome]) ∧ w' = w := by
  obtain ⟨a, c, rfl, hsh⟩ := ho.shape
  have HR : Hid _ := ho
  clear ho
  generalize hN : M.length = N at *
  go_enter Try.func10, Try.ntmps10
  go_wp2
  go_loop [8] (fun i => ∃ k : Nat, k ≤ N ∧ i = .int .i64 ((k : Int) - 1) ∧ Hid (lookup M g key = lookup (M.drop (N - k)) g key)) (fun i => (intOf i + 1).toNat)
  case atStart => exact ⟨N, Nat.le_refl _, by go_num, by rw [Nat.sub_self]; rfl⟩
  case round =>
    obtain ⟨k, hk, rfl, HK⟩ := hrel
    cases k with
    | zero =>
      have e : lookup M g key = none := by
        rw [HK.out, Nat.sub_zero, ← hN, List.drop_length]
        rfl
      have HV : Hid _ := e
      clear HK e
      go_wp2
      go_ret2
      refine ⟨?_, rfl⟩
      rw [HV.out]
      rfl
    | succ j =>
      obtain ⟨gb, rfl⟩ := hsh (by omega)
      subst hN
      obtain ⟨k, nm, gn, hd, e0, e1, e2⟩ := Row.cells HR.out j (by omega)
      have hj : (((j + 1 : Nat) : Int) - 1) = (j : Int) := by omega
      rw [hj]
      clear hj
      rw [hd] at HK
      clear hd
      by_cases hg : gn = g
      · subst hg
        by_cases hk' : k = key
        · subst hk'
          have hb := beq_yes k
          have hv : lookup M gn k = some nm := HK.out.trans look_hit
          have HV : Hid _ := hv
          clear HK hv
          go_wp2
          go_ret2
          refine ⟨?_, rfl⟩
          rw [HV.out]
          rfl
        · have hb := beq_no hk'
          have HK2 : Hid (lookup M gn key = lookup (M.drop (M.length - j)) gn key) := HK.out.trans (look_skip (.inr hk'))
          clear HK
          go_wp2
          go_round
          case rel => exact ⟨j, by omega, by go_num, HK2⟩
          case measure => simp [intOf]
      · have hb : (gn == g) = false := by rw [beq_eq_false_iff_ne]; exact hg
        have HK2 : Hid (lookup M g key = lookup (M.drop (M.length - j)) g key) := HK.out.trans (look_skip (.inl hg))
        clear HK
        go_wp2
        go_round
        case rel => exact ⟨j, by omega, by go_num, HK2⟩
        case measure => simp [intOf]
/-- append onto what the call owns (or nil), the source whatever slice (nil too). -/
theorem run_append_opt {P : Program} (w : World) (base : Nat) (t ty e : TypeId) (i : TypeInfo) (z : Value) (size bytes : Nat) (ht : P.underlying t = some (.slice e)) (hi : P.info? e = some i) (hz : i.zero = some z)
    (hsize : i.size = size) (hby : i.bytes = bytes) (hzs : z.cells.size = size) (hsz : 0 < size)
    (v : Value) (n : Nat) (xs : List Value) (hown : w.ownsRow base e size v n xs)
    (ao : Option Addr) (m c : Nat) (news : List Value) (hao : ao = none → m = 0 ∧ c = 0) (hl : news.length = m * size) (hnews : ∀ a, ao = some a → ∀ j u, news[j]? = some u → w.cell? (a.add j) = some u) (h1 : ∀ u ∈ news, u.oneCell' = true)
    (h63 : n + m ≤ maxLen) (hbytes : (n + m) * bytes ≤ 140737488355328) (hbase : base ≤ w.heap.size) :
    ∃ v' w', (Builtin.append_ #[t, t] ty #[v, .slice ao m c]).run P w = .ok v' w' ∧ w'.ownsRow base e size v' (n + m) (xs ++ news) ∧ w.grownBy w' v.ownBlock ∧ (v'.ownBlock = v.ownBlock ∨ v'.ownBlock = some w.heap.size) := by
  cases ao with
  | some a =>
    obtain ⟨v', w', h1, h2, h3, _, h5⟩ := run_append_own_at (P := P) w base t ty e i z size bytes ht hi hz hsize hby hzs hsz v n xs hown a m c news hl (hnews a rfl) h1 h63 hbytes hbase
    exact ⟨v', w', h1, h2, h3, h5⟩
  | none =>
    obtain ⟨rfl, rfl⟩ := hao rfl
    obtain rfl : news = [] := List.eq_nil_of_length_eq_zero (by simpa using hl)
    refine ⟨v, w, run_append_owned_none (P := P) (w := w) base t ty e i size ht hi v n xs hown, by simpa using hown, ⟨rfl, rfl, rfl, Nat.le_refl _, fun _ _ _ => rfl⟩, .inl rfl⟩

/-- .. at a plain region's list. -/
theorem wpList_append_opt {P : Program} (w : World) {ops : Array Oper} {rest : List Oper} {o : Oper} {a : Act} {Q : Exit → Act → World → Prop} (hgd : o.guard = none) (s x : Operand) (t : TypeId)
    (ho : o.op = .call { callee := .builtin .append, args := #[s, x], argTypes := #[t, t] })
    (base : Nat) (e : TypeId) (i : TypeInfo) (z : Value) (size bytes : Nat) (ht : P.underlying t = some (.slice e)) (hi : P.info? e = some i) (hz : i.zero = some z)
    (hsize : i.size = size) (hby : i.bytes = bytes) (hzs : z.cells.size = size) (hsz : 0 < size)
    (v : Value) (n : Nat) (xs : List Value) (hs : a.eval s = v) (hown : w.ownsRow base e size v n xs)
    (ao : Option Addr) (m c : Nat) (news : List Value) (hx : a.eval x = .slice ao m c) (hao : ao = none → m = 0 ∧ c = 0) (hl : news.length = m * size) (hnews : ∀ a, ao = some a → ∀ j u, news[j]? = some u → w.cell? (a.add j) = some u) (h1 : ∀ u ∈ news, u.oneCell' = true)
    (h63 : n + m ≤ maxLen) (hbytes : (n + m) * bytes ≤ 140737488355328) (hbase : base ≤ w.heap.size)
    (h : ∀ v' w', w'.ownsRow base e size v' (n + m) (xs ++ news) → w.grownBy w' v.ownBlock → (v'.ownBlock = v.ownBlock ∨ v'.ownBlock = some w.heap.size) → wpList P ops Q rest (a.put o.dst v') w') : wpList P ops Q (o :: rest) a w := by
  refine wpList_plain hgd fun K hK => ?_
  obtain ⟨v', w', hr, h2, h3, h4⟩ := run_append_opt (P := P) w base t o.type e i z size bytes ht hi hz hsize hby hzs hsz v n xs hown ao m c news hao hl hnews h1 h63 hbytes hbase
  unfold Oper.wp execOp
  simp only [ho, resolve, invoke, builtin, Sem.run_bind, Sem.run_pure, Result.andThen_ok, List.map_toArray, List.map_cons, List.map_nil, hs, hx, hr]
  exact hK _ _ (h v' w' h2 h3 h4)
theorem gby_refl (w : World) (row : Option Nat) : w.grownBy w row := ⟨rfl, rfl, rfl, Nat.le_refl _, fun _ _ _ => rfl⟩
theorem gby_trans {w w' w'' : World} {row row' : Option Nat} (h : w.grownBy w' row) (k : w'.grownBy w'' row') (hr : ∀ b, row' = some b → row = some b ∨ w.heap.size ≤ b) : w.grownBy w'' row :=
  ⟨k.os.trans h.os, k.tape.trans h.tape, k.output.trans h.output, Nat.le_trans h.size k.size, fun b hb hne =>
    (k.block b (Nat.lt_of_lt_of_le hb h.size) (fun e => by
      rcases hr b e.symm with h' | h'
      · exact hne h'.symm
      · omega)).trans (h.block b hb hne)⟩
theorem gby_alloc {w w' : World} {row : Option Nat} (h : w.grownBy w' row) (o : Obj) : w.grownBy (w'.alloc o) row := gby_trans h (World.grownBy_alloc w' o none) (fun b e => by cases e)
theorem info52 : (Try.prog.info? 52).map (fun i => (i.zero, i.size, i.bytes)) = some (some (.agg #[.string (ByteArray.mk #[]), .string (ByteArray.mk #[]), .int .i64 0]), 3, 40) := by kernel_rfl
theorem row_snoc {w : World} {B : Nat} {lv : Value} {M : List Rec} {k n : ByteArray} {g : Int} (h : w.ownsRow B 52 3 lv (M.length + 1) (flat M.reverse ++ [.string k, .string n, .int .i64 g])) : Row w B lv ((k, n, g) :: M) := by
  unfold Row
  rw [List.reverse_cons, flat_append]
  exact h
noncomputable def genS (h gen cur : Int) : Int := if h ≤ cur then gen + 1 else gen
noncomputable def curS (M : List Rec) (h gen cur : Int) (key : ByteArray) : Int := (if h ≤ cur then 0 else cur) + (if seen M (genS h gen cur) key = true then 0 else 1)

set_option maxHeartbeats 1600000 in
theorem log_add {B : Nat} {lv : Value} {M : List Rec} (gen cur h : Int) (key name : ByteArray) (w : World) (hL : M.length ≤ 5000) (hg0 : 0 ≤ gen) (hg1 : gen ≤ 10000) (hc0 : 0 ≤ cur) (hc1 : cur ≤ 1000000) (ho : Row w B lv M) (hB : B ≤ w.heap.size) :
    Calls Try.prog 11 #[lv, .int .i64 gen, .int .i64 cur, .int .i64 h, .string key, .string name] w fun e w' => ∃ lv', e = .returned (.tuple #[lv', .int .i64 (genS h gen cur), .int .i64 (curS M h gen cur key)]) ∧ Row w' B lv' ((key, name, genS h gen cur) :: M) ∧ w.grownBy w' lv.ownBlock := by
  obtain ⟨a, c, rfl, hsh⟩ := ho.shape
  obtain ⟨i0, hi, hz0, hz1, hz2⟩ := info_parts info52
  have HR : Hid (w.ownsRow B 52 3 (.slice a M.length c) M.length (flat M.reverse)) := ho
  clear ho
  generalize hN : M.length = N at *
  by_cases hc : h ≤ cur
  · have HG : Hid (genS h gen cur = gen + 1) := if_pos hc
    go_enter Try.func11, Try.ntmps11
    go_wp2
    go_loop [15, 16] (fun s i => ∃ k : Nat, k ≤ N ∧ s = .bool false ∧ i = .int .i64 ((k : Int) - 1) ∧ Hid (seen M (gen + 1) key = seen (M.drop (N - k)) (gen + 1) key)) (fun _ i => (intOf i + 1).toNat)
    case atStart => exact ⟨N, Nat.le_refl _, rfl, by go_num, by rw [Nat.sub_self]; rfl⟩
    case round =>
      obtain ⟨k, hk, rfl, rfl, HK⟩ := hrel
      cases k with
      | zero =>
        have HV : Hid (seen M (gen + 1) key = false) := by
          have := HK.out
          rw [Nat.sub_zero, ← hN, List.drop_length] at this
          exact this
        clear HK
        have HF : Hid (seen M (gen + 1) key = false) := HV.out
        clear HV
        go_wp2_with (at_builtin; refine wpList_append_opt _ rfl _ _ 29 rfl B 52 i0 _ 3 40 Try.underlying29 hi hz0 hz1 hz2 rfl (by omega) _ _ _ rfl (HR.out.alloc _) (some ⟨w.heap.size, 0, none⟩) 1 1 [.string key, .string name, .int .i64 (gen + 1)] rfl (by intro h; cases h) rfl (by intro a ha; cases ha; exact World.news_of_block (cs := #[.string key, .string name, .int .i64 (gen + 1)]) (heap_alloc_new w _)) (by intro u hu; simp at hu; rcases hu with rfl | rfl | rfl <;> rfl) (by unfold maxLen; omega) (by omega) (by simp; omega) ?_)
        intro v7 w7 ho7 hg7 hat7
        have R3 : Hid (Row w7 B v7 ((key, name, gen + 1) :: M)) := row_snoc (hN ▸ ho7)
        have R4 : Hid (w.grownBy w7 (Value.slice _ _ _).ownBlock) := gby_trans (gby_alloc (gby_refl w _) _) hg7 (fun b hb => .inl hb)
        clear ho7 hg7 hat7
        go_wp2
        go_ret3
        have hC : curS M h gen cur key = 0 + 1 := by
          unfold curS
          rw [HG.out, HF.out]
          rw [if_pos (by omega)]; simp
        exact ⟨v7, by rw [HG.out, hC]; rfl, by rw [HG.out]; exact R3.out, R4.out⟩
      | succ j =>
        obtain ⟨gb, rfl⟩ := hsh (by omega)
        obtain ⟨k, nm, gn, hd, e0, e1, e2⟩ := Row.cells (M := M) (B := B) (w := w) (g := gb) (c := c) (by rw [hN]; unfold Row; rw [hN]; exact HR.out) j (by omega)
        have hj : (((j + 1 : Nat) : Int) - 1) = (j : Int) := by omega
        rw [hj]
        clear hj
        rw [hN] at hd
        rw [hd] at HK
        clear hd
        by_cases hg : gn = gen + 1
        · rw [hg] at HK e2
          by_cases hk' : k = key
          · subst hk'
            have hb := beq_yes k
            have HV : Hid (seen M (gen + 1) k = true) := HK.out.trans seen_hit
            clear HK
            have HF : Hid (seen M (gen + 1) k = true) := HV.out
            clear HV
            go_wp2_with (at_builtin; refine wpList_append_opt _ rfl _ _ 29 rfl B 52 i0 _ 3 40 Try.underlying29 hi hz0 hz1 hz2 rfl (by omega) _ _ _ rfl (HR.out.alloc _) (some ⟨w.heap.size, 0, none⟩) 1 1 [.string k, .string name, .int .i64 (gen + 1)] rfl (by intro h; cases h) rfl (by intro a ha; cases ha; exact World.news_of_block (cs := #[.string k, .string name, .int .i64 (gen + 1)]) (heap_alloc_new w _)) (by intro u hu; simp at hu; rcases hu with rfl | rfl | rfl <;> rfl) (by unfold maxLen; omega) (by omega) (by simp; omega) ?_)
            intro v7 w7 ho7 hg7 hat7
            have R3 : Hid (Row w7 B v7 ((k, name, gen + 1) :: M)) := row_snoc (hN ▸ ho7)
            have R4 : Hid (w.grownBy w7 (Value.slice _ _ _).ownBlock) := gby_trans (gby_alloc (gby_refl w _) _) hg7 (fun b hb => .inl hb)
            clear ho7 hg7 hat7
            go_wp2
            go_ret3
            have hC : curS M h gen cur k = 0 := by
              unfold curS
              rw [HG.out, HF.out]
              rw [if_pos (by omega)]; simp
            exact ⟨v7, by rw [HG.out, hC]; rfl, by rw [HG.out]; exact R3.out, R4.out⟩
          · have hb := beq_no hk'
            have HK2 : Hid (seen M (gen + 1) key = seen (M.drop (N - j)) (gen + 1) key) := HK.out.trans (seen_skip hk')
            clear HK
            go_wp2
            go_round
            case rel => exact ⟨j, by omega, rfl, by go_num, HK2⟩
            case measure => simp [intOf]
        · have hb : (gn == gen + 1) = false := by rw [beq_eq_false_iff_ne]; exact hg
          have hb2 : (gn != gen + 1) = true := by simp [bne, hb]
          have HV : Hid (seen M (gen + 1) key = false) := HK.out.trans (seen_off hg)
          clear HK
          have HF : Hid (seen M (gen + 1) key = false) := HV.out
          clear HV
          go_wp2_with (at_builtin; refine wpList_append_opt _ rfl _ _ 29 rfl B 52 i0 _ 3 40 Try.underlying29 hi hz0 hz1 hz2 rfl (by omega) _ _ _ rfl (HR.out.alloc _) (some ⟨w.heap.size, 0, none⟩) 1 1 [.string key, .string name, .int .i64 (gen + 1)] rfl (by intro h; cases h) rfl (by intro a ha; cases ha; exact World.news_of_block (cs := #[.string key, .string name, .int .i64 (gen + 1)]) (heap_alloc_new w _)) (by intro u hu; simp at hu; rcases hu with rfl | rfl | rfl <;> rfl) (by unfold maxLen; omega) (by omega) (by simp; omega) ?_)
          intro v7 w7 ho7 hg7 hat7
          have R3 : Hid (Row w7 B v7 ((key, name, gen + 1) :: M)) := row_snoc (hN ▸ ho7)
          have R4 : Hid (w.grownBy w7 (Value.slice _ _ _).ownBlock) := gby_trans (gby_alloc (gby_refl w _) _) hg7 (fun b hb => .inl hb)
          clear ho7 hg7 hat7
          go_wp2
          go_ret3
          have hC : curS M h gen cur key = 0 + 1 := by
            unfold curS
            rw [HG.out, HF.out]
            rw [if_pos (by omega)]; simp
          exact ⟨v7, by rw [HG.out, hC]; rfl, by rw [HG.out]; exact R3.out, R4.out⟩
  · have HG : Hid (genS h gen cur = gen) := if_neg hc
    go_enter Try.func11, Try.ntmps11
    go_wp2
    go_loop [15, 16] (fun s i => ∃ k : Nat, k ≤ N ∧ s = .bool false ∧ i = .int .i64 ((k : Int) - 1) ∧ Hid (seen M (gen) key = seen (M.drop (N - k)) (gen) key)) (fun _ i => (intOf i + 1).toNat)
    case atStart => exact ⟨N, Nat.le_refl _, rfl, by go_num, by rw [Nat.sub_self]; rfl⟩
    case round =>
      obtain ⟨k, hk, rfl, rfl, HK⟩ := hrel
      cases k with
      | zero =>
        have HV : Hid (seen M (gen) key = false) := by
          have := HK.out
          rw [Nat.sub_zero, ← hN, List.drop_length] at this
          exact this
        clear HK
        have HF : Hid (seen M (gen) key = false) := HV.out
        clear HV
        go_wp2_with (at_builtin; refine wpList_append_opt _ rfl _ _ 29 rfl B 52 i0 _ 3 40 Try.underlying29 hi hz0 hz1 hz2 rfl (by omega) _ _ _ rfl (HR.out.alloc _) (some ⟨w.heap.size, 0, none⟩) 1 1 [.string key, .string name, .int .i64 (gen)] rfl (by intro h; cases h) rfl (by intro a ha; cases ha; exact World.news_of_block (cs := #[.string key, .string name, .int .i64 (gen)]) (heap_alloc_new w _)) (by intro u hu; simp at hu; rcases hu with rfl | rfl | rfl <;> rfl) (by unfold maxLen; omega) (by omega) (by simp; omega) ?_)
        intro v7 w7 ho7 hg7 hat7
        have R3 : Hid (Row w7 B v7 ((key, name, gen) :: M)) := row_snoc (hN ▸ ho7)
        have R4 : Hid (w.grownBy w7 (Value.slice _ _ _).ownBlock) := gby_trans (gby_alloc (gby_refl w _) _) hg7 (fun b hb => .inl hb)
        clear ho7 hg7 hat7
        go_wp2
        go_ret3
        have hC : curS M h gen cur key = cur + 1 := by
          unfold curS
          rw [HG.out, HF.out]
          rw [if_neg (by omega)]; simp
        exact ⟨v7, by rw [HG.out, hC]; rfl, by rw [HG.out]; exact R3.out, R4.out⟩
      | succ j =>
        obtain ⟨gb, rfl⟩ := hsh (by omega)
        obtain ⟨k, nm, gn, hd, e0, e1, e2⟩ := Row.cells (M := M) (B := B) (w := w) (g := gb) (c := c) (by rw [hN]; unfold Row; rw [hN]; exact HR.out) j (by omega)
        have hj : (((j + 1 : Nat) : Int) - 1) = (j : Int) := by omega
        rw [hj]
        clear hj
        rw [hN] at hd
        rw [hd] at HK
        clear hd
        by_cases hg : gn = gen
        · rw [hg] at HK e2
          by_cases hk' : k = key
          · subst hk'
            have hb := beq_yes k
            have HV : Hid (seen M (gen) k = true) := HK.out.trans seen_hit
            clear HK
            have HF : Hid (seen M (gen) k = true) := HV.out
            clear HV
            go_wp2_with (at_builtin; refine wpList_append_opt _ rfl _ _ 29 rfl B 52 i0 _ 3 40 Try.underlying29 hi hz0 hz1 hz2 rfl (by omega) _ _ _ rfl (HR.out.alloc _) (some ⟨w.heap.size, 0, none⟩) 1 1 [.string k, .string name, .int .i64 (gen)] rfl (by intro h; cases h) rfl (by intro a ha; cases ha; exact World.news_of_block (cs := #[.string k, .string name, .int .i64 (gen)]) (heap_alloc_new w _)) (by intro u hu; simp at hu; rcases hu with rfl | rfl | rfl <;> rfl) (by unfold maxLen; omega) (by omega) (by simp; omega) ?_)
            intro v7 w7 ho7 hg7 hat7
            have R3 : Hid (Row w7 B v7 ((k, name, gen) :: M)) := row_snoc (hN ▸ ho7)
            have R4 : Hid (w.grownBy w7 (Value.slice _ _ _).ownBlock) := gby_trans (gby_alloc (gby_refl w _) _) hg7 (fun b hb => .inl hb)
            clear ho7 hg7 hat7
            go_wp2
            go_ret3
            have hC : curS M h gen cur k = cur := by
              unfold curS
              rw [HG.out, HF.out]
              rw [if_neg (by omega)]; simp
            exact ⟨v7, by rw [HG.out, hC]; rfl, by rw [HG.out]; exact R3.out, R4.out⟩
          · have hb := beq_no hk'
            have HK2 : Hid (seen M (gen) key = seen (M.drop (N - j)) (gen) key) := HK.out.trans (seen_skip hk')
            clear HK
            go_wp2
            go_round
            case rel => exact ⟨j, by omega, rfl, by go_num, HK2⟩
            case measure => simp [intOf]
        · have hb : (gn == gen) = false := by rw [beq_eq_false_iff_ne]; exact hg
          have hb2 : (gn != gen) = true := by simp [bne, hb]
          have HV : Hid (seen M (gen) key = false) := HK.out.trans (seen_off hg)
          clear HK
          have HF : Hid (seen M (gen) key = false) := HV.out
          clear HV
          go_wp2_with (at_builtin; refine wpList_append_opt _ rfl _ _ 29 rfl B 52 i0 _ 3 40 Try.underlying29 hi hz0 hz1 hz2 rfl (by omega) _ _ _ rfl (HR.out.alloc _) (some ⟨w.heap.size, 0, none⟩) 1 1 [.string key, .string name, .int .i64 (gen)] rfl (by intro h; cases h) rfl (by intro a ha; cases ha; exact World.news_of_block (cs := #[.string key, .string name, .int .i64 (gen)]) (heap_alloc_new w _)) (by intro u hu; simp at hu; rcases hu with rfl | rfl | rfl <;> rfl) (by unfold maxLen; omega) (by omega) (by simp; omega) ?_)
          intro v7 w7 ho7 hg7 hat7
          have R3 : Hid (Row w7 B v7 ((key, name, gen) :: M)) := row_snoc (hN ▸ ho7)
          have R4 : Hid (w.grownBy w7 (Value.slice _ _ _).ownBlock) := gby_trans (gby_alloc (gby_refl w _) _) hg7 (fun b hb => .inl hb)
          clear ho7 hg7 hat7
          go_wp2
          go_ret3
          have hC : curS M h gen cur key = cur + 1 := by
            unfold curS
            rw [HG.out, HF.out]
            rw [if_neg (by omega)]; simp
          exact ⟨v7, by rw [HG.out, hC]; rfl, by rw [HG.out]; exact R3.out, R4.out⟩
end Go.Proofs.Qxb6603579a
