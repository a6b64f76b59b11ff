/- The law's walk. -/
import Derived.Test.Qxb6616012aWe
namespace Go.Proofs.Qxb6616012a
open Go.RowKit

theorem grown_sets (g : Nat) : ∀ (news : List Value) (o : Nat) (w : World), w.grownBy (w.setCells g o news) (some g)
  | [], _, _ => ⟨rfl, rfl, rfl, Nat.le_refl _, fun _ _ _ => rfl⟩
  | v :: r, o, w => by
    have h := grown_sets g r (o + 1) (w.setCell ⟨g, o, none⟩ v)
    refine ⟨h.os, h.tape, h.output, by have := h.size; rw [World.setCells]; simpa using this, fun k hk hne => ?_⟩
    rw [World.setCells, h.block k (by simpa using hk) hne]
    exact Deep.blk_setCell_other w _ _ k (fun e => hne (by rw [e]))

theorem wpList_push' {w : World} {B g cap : Nat} {xs : List Int} (h : Stk w B g cap xs) (l : Nat) (hl : xs.length = l)
    {ops : Array Oper} {rest : List Oper} {o : Oper} {a : Act} {Q : Exit → Act → World → Prop} (hgd : o.guard = none) (s x : Operand)
    (ho : o.op = .call { callee := .builtin .append, args := #[s, x], argTypes := #[28, 28] })
    (hs : a.eval s = .slice (some ⟨g, 0, none⟩) l cap) (ad : Addr) (m c1 : Nat) (news : List Int) (hm : news.length = m) (hx : a.eval x = .slice (some ad) m c1)
    (hnews : ∀ j u, (news.map (Value.int .u8))[j]? = some u → w.cell? (ad.add j) = some u) (hroom : l + m ≤ cap)
    (hk : ∀ w', Stk w' B g cap (xs ++ news) → w.grownBy w' (some g) → wpList Try.prog ops Q rest (a.put o.dst (.slice (some ⟨g, 0, none⟩) (l + m) cap)) w') :
    wpList Try.prog ops Q (o :: rest) a w := by
  subst hl
  exact wpList_push h hgd s x ho hs ad m c1 news hm hx hnews hroom (fun hst => hk _ hst (grown_sets g _ _ w))

/-- A slice of n bools. -/
def KindsV (w : World) (v : Value) (n : Nat) (k : Nat → Bool) : Prop :=
  (∃ a c, v = .slice a 0 c ∧ n = 0) ∨ (0 < n ∧ ∃ b off c, v = .slice (some ⟨b, off, none⟩) n c ∧ b < w.heap.size ∧ ∀ i, i < n → w.cell? ⟨b, off + i, none⟩ = some (.bool (k i)))
theorem KindsV.len {w : World} {v : Value} {n : Nat} {k : Nat → Bool} (h : KindsV w v n k) : ∃ a c, v = .slice a n c := by
  rcases h with ⟨a, c, h, rfl⟩ | ⟨_, b, off, c, h, _⟩
  · exact ⟨_, _, h⟩
  · exact ⟨_, _, h⟩

def AnsB (e : Ending) : Prop := ∃ b, e = .returned (.bool b)
theorem ansB (b : Bool) : AnsB (.returned (.bool b)) := ⟨b, rfl⟩

theorem bytes_any (a : Option Addr) (n c : Nat) (d : Int) (w : World) (hn : n ≤ 9223372036854775807) :
    Calls Try.prog 13 #[.slice a n c, .int .i64 d] w fun e w' => AnsB e ∧ w = w' := by
  by_cases h : 1048576 < n
  · go_enter Try.func13, Try.ntmps13
    go_wp2
    go_ret
    exact ⟨ansB _, rfl⟩
  · go_enter Try.func13, Try.ntmps13
    go_wp2
    go_ret
    exact ⟨ansB _, rfl⟩

theorem Stk.made (w : World) (m : Nat) (hm : m ≤ 1048576) : Stk (w.alloc (.cells (madeCells #[.int .u8 0] m) 5)) w.heap.size w.heap.size m [] := by
  have hr := World.rowIs_made w (.int .u8 0) m 5
  refine ⟨Nat.le_refl _, by simp, by simp, by unfold maxLen; omega, fun j hj => by simp at hj, fun j hj => ?_⟩
  rw [hr.cell hj]
  exact ⟨rfl, hr.frozen j⟩

theorem belowGrown {B g : Nat} {a w w' : World} (h : Below B a w) (hB : B ≤ w.heap.size) (hg : w.grownBy w' (some g)) (hBg : B ≤ g) : Below B a w' :=
  ⟨hg.os.trans h.os, hg.tape.trans h.tape, hg.output.trans h.output, Nat.le_trans h.size hg.size, fun k hk => (hg.block k (by omega) (by simp; omega)).trans (h.block k hk)⟩

theorem opens_obj {k : Nat → Bool} {n j : Nat} (hk : k j = true) (hj : j + 1 < n) : opens k n (j + 1) = (opens k n j ++ [123]) ++ [34, 34, 58] := by simp [opens, opn, hk, hj]
theorem opens_last {k : Nat → Bool} {n j : Nat} (hk : k j = true) (hj : ¬ j + 1 < n) : opens k n (j + 1) = opens k n j ++ [123] := by simp [opens, opn, hk, hj]
theorem opens_arr {k : Nat → Bool} {n j : Nat} (hk : k j = false) : opens k n (j + 1) = opens k n j ++ [91] := by simp [opens, opn, hk]

set_option maxRecDepth 100000 in
set_option maxHeartbeats 4000000 in
theorem law_any (hMC : MemClose) (hMO : MemOpen) (v : Value) (n : Nat) (k : Nat → Bool) (d : Int) (w : World) (h : KindsV w v n k) (hn : n ≤ 9223372036854775807) :
    Calls Try.prog 5 #[v, .int .i64 d] w fun e w' => e = .returned (.bool true) ∧ Below w.heap.size w w' := by
  obtain ⟨ka, kc, rfl⟩ := h.len
  have Hk := hid h
  have K13 := hid (bytes_any ka n kc d w hn)
  clear h
  go_enter Try.func5, Try.ntmps5
  go_wp2_with fail
  refine K13.out.mono ?_
  rintro e w' ⟨⟨b, rfl⟩, rfl⟩
  clear K13
  cases b with
  | false =>
    go_wp2
    go_ret
    exact ⟨rfl, Below.refl _ _⟩
  | true =>
  by_cases h1 : 65536 < n
  · go_wp2
    go_ret
    exact ⟨rfl, Below.refl _ _⟩
  by_cases h2 : d < 0
  · go_wp2
    go_ret
    exact ⟨rfl, Below.refl _ _⟩
  by_cases h3 : 10000 < d
  · go_wp2
    go_ret
    exact ⟨rfl, Below.refl _ _⟩
  by_cases h4 : n = 0
  · subst h4
    go_wp2
    go_ret
    exact ⟨rfl, Below.refl _ _⟩
  obtain ⟨dep, rfl⟩ := Int.eq_ofNat_of_zero_le (by omega : 0 ≤ d)
  rcases Hk.out with ⟨_, _, _, h0⟩ | ⟨_, kb, koff, kc', hv, hkb, hkc⟩
  · omega
  simp at hv
  obtain ⟨rfl, rfl⟩ := hv
  have Kc := hid hkc
  clear hkc Hk
  have e0 : ((n : Int) == 0) = false := by simp [h4]
  have hmk : ∀ w : World, (Instr.makeSlice 28 (.int .i64 0) (.int .i64 (5 * (n : Int)))).run Try.prog w = .ok (.slice (some ⟨w.heap.size, 0, none⟩) 0 (5 * n)) (w.alloc (.cells (madeCells #[.int .u8 0] (5 * n)) 5)) := by
    intro w
    have hinfo : (Try.prog.info? 5).map (fun i => (i.zero, i.size, i.bytes)) = some (some (.int .u8 0), 1, 1) := by kernel_rfl
    obtain ⟨i, hi, hz⟩ := Option.map_eq_some_iff.1 hinfo
    simp only [Prod.mk.injEq] at hz
    obtain ⟨hz, hs, hb⟩ := hz
    have := run_make (P := Try.prog) w 28 5 i (.int .u8 0) Try.underlying28 hi hz .i64 .i64 0 (5 * (n : Int)) (Int.le_refl _) (by omega) (by rw [hb]; omega) (by omega)
    have e5 : (5 * (n : Int)).toNat = 5 * n := by omega
    rw [e5, hs, Nat.mul_one] at this
    exact this
  have hpos : ∀ j, j ≤ n → pos k n j ≤ 4 * j := fun j _ => pos_le k n j
  have Hpos := hid hpos
  clear hpos
  go_wp2_with fail
  go_loopw [6, 7] (fun v i wr => ∃ j, j ≤ n ∧ i = .int .i64 (j : Int) ∧ v = .slice (some ⟨w.heap.size, 0, none⟩) (pos k n j) (5 * n) ∧ Stk wr w.heap.size w.heap.size (5 * n) (opens k n j) ∧ Below w.heap.size w wr) (fun _ i _ => n - (intOf i).toNat)
  case atStart => exact ⟨0, Nat.zero_le _, rfl, rfl, Stk.made w _ (by omega), (Below.refl _ _).alloc (Nat.le_refl _) _⟩
  case round =>
  obtain ⟨j, hj, rfl, rfl, hst, hb⟩ := hrel
  have Hst := hid hst
  have Hb := hid hb
  have hpj := Hpos.out j hj
  have hbs : w.heap.size ≤ wr.heap.size := hb.size
  have hplen : (opens k n j).length = pos k n j := rfl
  have Hpl := hid hplen
  clear hplen
  by_cases hlt : j < n
  · have kk : wr.cell? ⟨kb, koff + j, none⟩ = some (.bool (k j)) := by rw [hb.cell (p := ⟨kb, koff + j, none⟩) hkb]; exact Kc.out j hlt
    clear hst hb
    cases hkj : k j with
    | true =>
      rw [hkj] at kk
      by_cases hin : j + 1 < n
      · have hin' : (j : Int) < (n : Int) - 1 := by omega
        have Ho := hid (opens_obj hkj hin)
        have hl2 : pos k n j + 1 + 3 = pos k n (j + 1) := by have := congrArg List.length Ho.out; simp at this; unfold pos; omega
        have Hl2 := hid hl2
        clear hkj hl2
        go_upto_region 16 with (at_builtin; refine wpList_push' (B := w.heap.size) (g := w.heap.size) (cap := 5 * n) (xs := opens k n j) (Hst.out.alloc _) (pos k n j) rfl (by rfl) _ _ (by rfl) (by rfl) ⟨wr.heap.size, 0, none⟩ 1 1 [123] rfl (by rfl) (by exact World.news_of_block (Deep.blk_alloc_new _ _)) (by omega) ?_; intro w5 hst5 hgr5)
        have Hst5 := hid hst5
        have Hb5 := hid (belowGrown (Hb.out.alloc hbs _) (by simp; omega) hgr5 (Nat.le_refl _))
        have hbs5 : w.heap.size ≤ w5.heap.size := Hb5.out.size
        clear hst5 hgr5 kk
        go_wp2_with (at_builtin; refine wpList_push' (B := w.heap.size) (g := w.heap.size) (cap := 5 * n) (xs := opens k n j ++ [123]) (Hst5.out.alloc _) (pos k n j + 1) (by simp [pos]) (by rfl) _ _ (by rfl) (by rfl) ⟨w5.heap.size, 0, none⟩ 3 3 [34, 34, 58] rfl (by rfl) (by exact World.news_of_block (Deep.blk_alloc_new _ _)) (by omega) ?_; intro w6 hst6 hgr6)
        have Hst6 := hid hst6
        have Hb6 := hid (belowGrown (Hb5.out.alloc hbs5 _) (by simp; omega) hgr6 (Nat.le_refl _))
        clear hst6 hgr6
        go_roundw
        case rel => exact ⟨j + 1, by omega, by go_num, by rw [Hl2.out], by rw [Ho.out]; exact Hst6.out, Hb6.out⟩
        case measure => simp [intOf]; omega
      · have hin' : ¬ (j : Int) < (n : Int) - 1 := by omega
        have Ho := hid (opens_last hkj hin)
        have hl2 : pos k n j + 1 = pos k n (j + 1) := by have := congrArg List.length Ho.out; simp at this; unfold pos; omega
        have Hl2 := hid hl2
        clear hkj hl2
        go_wp2_with (at_builtin; refine wpList_push' (B := w.heap.size) (g := w.heap.size) (cap := 5 * n) (xs := opens k n j) (Hst.out.alloc _) (pos k n j) rfl (by rfl) _ _ (by rfl) (by rfl) ⟨wr.heap.size, 0, none⟩ 1 1 [123] rfl (by rfl) (by exact World.news_of_block (Deep.blk_alloc_new _ _)) (by omega) ?_; intro w5 hst5 hgr5)
        have Hst5 := hid hst5
        have Hb5 := hid (belowGrown (Hb.out.alloc hbs _) (by simp; omega) hgr5 (Nat.le_refl _))
        clear hst5 hgr5 kk
        go_roundw
        case rel => exact ⟨j + 1, by omega, by go_num, by rw [Hl2.out], by rw [Ho.out]; exact Hst5.out, Hb5.out⟩
        case measure => simp [intOf]; omega
    | false =>
      rw [hkj] at kk
      have Ho := hid (opens_arr (n := n) hkj)
      have hl2 : pos k n j + 1 = pos k n (j + 1) := by have := congrArg List.length Ho.out; simp at this; unfold pos; omega
      have Hl2 := hid hl2
      clear hkj hl2
      go_wp2_with (at_builtin; refine wpList_push' (B := w.heap.size) (g := w.heap.size) (cap := 5 * n) (xs := opens k n j) (Hst.out.alloc _) (pos k n j) rfl (by rfl) _ _ (by rfl) (by rfl) ⟨wr.heap.size, 0, none⟩ 1 1 [91] rfl (by rfl) (by exact World.news_of_block (Deep.blk_alloc_new _ _)) (by omega) ?_; intro w5 hst5 hgr5)
      have Hst5 := hid hst5
      have Hb5 := hid (belowGrown (Hb.out.alloc hbs _) (by simp; omega) hgr5 (Nat.le_refl _))
      clear hst5 hgr5 kk
      go_roundw
      case rel => exact ⟨j + 1, by omega, by go_num, by rw [Hl2.out], by rw [Ho.out]; exact Hst5.out, Hb5.out⟩
      case measure => simp [intOf]; omega
  · have hjn : n = j := by omega
    subst hjn
    clear hst hb
    go_wp2_with fail
    go_loopw [6, 8] (fun v i wr => ∃ s x, s ≤ n ∧ i = .int .i64 x ∧ x = (s : Int) - 1 ∧ v = .slice (some ⟨w.heap.size, 0, none⟩) (pos k n n + (n - s)) (5 * n) ∧ Stk wr w.heap.size w.heap.size (5 * n) (opens k n n ++ closes k n (n - s)) ∧ Below w.heap.size w wr) (fun _ i _ => (intOf i + 1).toNat)
    case atStart => exact ⟨n, (n : Int) - 1, Nat.le_refl _, rfl, rfl, by rw [Nat.sub_self]; rfl, by rw [Nat.sub_self, closes, List.append_nil]; exact Hst.out, Hb.out⟩
    case round =>
    obtain ⟨s, x, hs, rfl, hx, rfl, hst2, hb2⟩ := hrel
    have Hst2 := hid hst2
    have Hb2 := hid hb2
    have hbs2 : w.heap.size ≤ wr.heap.size := hb2.size
    rcases s with _ | s
    · have hx' : x = -1 := by omega
      subst hx'
      clear hx hst2 hb2 Hst Hb hbs hbs2
      rw [Nat.sub_zero] at Hst2
      have hcells : ∀ i, i < (text k n).length → wr.cell? ⟨w.heap.size, i, none⟩ = some (.int .u8 (byteAt k n i)) := fun i hi => Hst2.out.holds i hi
      have Hcells := hid hcells
      have hDlt : w.heap.size < wr.heap.size := Hst2.out.lt
      have hC : (text k n).length ≤ 5 * n := Hst2.out.le
      clear hcells
      have hpn := Hpos.out n (Nat.le_refl _)
      have hd : dep ≤ 10000 := by omega
      go_wp2_with fail
      rw [Nat.sub_zero, ← text_len k n]
      refine (zzSkip_any hMC hMO k n dep w.heap.size (5 * n) wr (by omega) (by omega) hd hC hDlt Hcells.out).mono ?_
      rintro e w7 ⟨rfl, hb7⟩
      have Hb7 : Hid (Below w.heap.size w w7) := hid (Hb2.out.trans (hb7.mono (by omega)))
      have kk7 : ∀ i, i < n → w7.cell? ⟨kb, koff + i, none⟩ = some (.bool (k i)) := fun i hi => by rw [Hb7.out.cell (p := ⟨kb, koff + i, none⟩) hkb]; exact Kc.out i hi
      have Kk7 := hid kk7
      clear hb7 kk7 Hst2 Hb2 Hcells
      have q1 : ((dep : Int) != (dep : Int)) = false := by simp
      by_cases hfit : dep + n ≤ 10000
      · have z1 : endB dep n = true := by simp [endB, hfit]
        have z2 : endP k n dep = (text k n).length := by simp [endP, hfit]
        rw [z1, z2]
        have z3 : (((text k n).length : Int) == ((text k n).length : Int)) = true := by simp
        have hfit' : (dep : Int) + (n : Int) ≤ 10000 := by omega
        clear z1 z2
        go_wp2_with fail
        go_ret
        exact ⟨rfl, Hb7.out⟩
      · have z1 : endB dep n = false := by simp [endB, hfit]
        have z2 : endP k n dep = pos k n (10000 - dep) := by simp [endP, hfit]
        rw [z1, z2]
        have hfit' : ¬ (dep : Int) + (n : Int) ≤ 10000 := by omega
        clear z1 z2
        have hpm := Hpos.out (10000 - dep) (by omega)
        go_wp2_with fail
        go_loop [14, 15] (fun o i => ∃ j : Nat, j ≤ 10000 - dep ∧ i = .int .i64 (j : Int) ∧ o = .int .i64 ((pos k n j : Nat) : Int)) (fun _ i => 10000 - (intOf i).toNat)
        case atStart => exact ⟨0, Nat.zero_le _, rfl, rfl⟩
        case round =>
        obtain ⟨j3, hj3, rfl, rfl⟩ := hrel
        have hp3 := Hpos.out j3 (by omega)
        by_cases hlt3 : j3 < 10000 - dep
        · have hlt3' : (j3 : Int) < 10000 - (dep : Int) := by omega
          have hj3n : (j3 : Int) < (n : Int) := by omega
          have kk := Kk7.out j3 (by omega)
          cases hk3 : k j3 with
          | true =>
            rw [hk3] at kk
            have hp4 := (byte_name k n j3 (by omega) hk3).2.2.2
            have Hp4 := hid hp4
            clear hp4 hk3
            go_wp2_with fail
            go_round
            case rel => exact ⟨j3 + 1, by omega, by go_num, by rw [Hp4.out]; go_num⟩
            case measure => simp [intOf]; omega
          | false =>
            rw [hk3] at kk
            have hp4 := pos_array k n j3 hk3
            have Hp4 := hid hp4
            clear hp4 hk3
            go_wp2_with fail
            go_round
            case rel => exact ⟨j3 + 1, by omega, by go_num, by rw [Hp4.out]; go_num⟩
            case measure => simp [intOf]; omega
        · have hj4 : 10000 - dep = j3 := by omega
          rw [hj4]
          clear hj4
          have hlt3' : ¬ (j3 : Int) < 10000 - (dep : Int) := by omega
          have z3 : (((pos k n j3 : Nat) : Int) == ((pos k n j3 : Nat) : Int)) = true := by simp
          go_wp2_with fail
          go_ret
          exact ⟨rfl, Hb7.out⟩
    · have hx' : x = (s : Int) := by omega
      subst hx'
      clear hx
      have kk : wr.cell? ⟨kb, koff + s, none⟩ = some (.bool (k s)) := by rw [hb2.cell (p := ⟨kb, koff + s, none⟩) hkb]; exact Kc.out s (by omega)
      have hs' : (s : Int) < (n : Int) := by omega
      clear hst2 hb2 Hst Hb hbs
      cases hks : k s with
      | true =>
        rw [hks] at kk
        have hcl : Hid (opens k n n ++ closes k n (n - s) = (opens k n n ++ closes k n (n - (s + 1))) ++ [125]) := by
          have e1 : n - s = (n - (s + 1)) + 1 := by omega
          rw [e1, closes, ← List.append_assoc]
          have e2 : n - 1 - (n - (s + 1)) = s := by omega
          rw [e2]
          simp [Hid, clo, hks]
        have hl3 : Hid (pos k n n + (n - (s + 1)) + 1 = pos k n n + (n - s)) := hid (by omega)
        clear hks
        go_wp2_with (at_builtin; refine wpList_push' (B := w.heap.size) (g := w.heap.size) (cap := 5 * n) (xs := opens k n n ++ closes k n (n - (s + 1))) (Hst2.out.alloc _) (pos k n n + (n - (s + 1))) (by simp [pos, closes_len]) (by rfl) _ _ (by rfl) (by rfl) ⟨wr.heap.size, 0, none⟩ 1 1 [125] rfl (by rfl) (by exact World.news_of_block (Deep.blk_alloc_new _ _)) (by omega) ?_; intro w5 hst5 hgr5)
        have Hst5 := hid hst5
        have Hb5 := hid (belowGrown (Hb2.out.alloc hbs2 _) (by simp; omega) hgr5 (Nat.le_refl _))
        clear hst5 hgr5 kk
        go_roundw
        case rel => exact ⟨s, (s : Int) - 1, by omega, by go_num, rfl, by rw [hl3.out], by rw [hcl.out]; exact Hst5.out, Hb5.out⟩
        case measure => simp [intOf]
      | false =>
        rw [hks] at kk
        have hcl : Hid (opens k n n ++ closes k n (n - s) = (opens k n n ++ closes k n (n - (s + 1))) ++ [93]) := by
          have e1 : n - s = (n - (s + 1)) + 1 := by omega
          rw [e1, closes, ← List.append_assoc]
          have e2 : n - 1 - (n - (s + 1)) = s := by omega
          rw [e2]
          simp [Hid, clo, hks]
        have hl3 : Hid (pos k n n + (n - (s + 1)) + 1 = pos k n n + (n - s)) := hid (by omega)
        clear hks
        go_wp2_with (at_builtin; refine wpList_push' (B := w.heap.size) (g := w.heap.size) (cap := 5 * n) (xs := opens k n n ++ closes k n (n - (s + 1))) (Hst2.out.alloc _) (pos k n n + (n - (s + 1))) (by simp [pos, closes_len]) (by rfl) _ _ (by rfl) (by rfl) ⟨wr.heap.size, 0, none⟩ 1 1 [93] rfl (by rfl) (by exact World.news_of_block (Deep.blk_alloc_new _ _)) (by omega) ?_; intro w5 hst5 hgr5)
        have Hst5 := hid hst5
        have Hb5 := hid (belowGrown (Hb2.out.alloc hbs2 _) (by simp; omega) hgr5 (Nat.le_refl _))
        clear hst5 hgr5 kk
        go_roundw
        case rel => exact ⟨s, (s : Int) - 1, by omega, by go_num, rfl, by rw [hl3.out], by rw [hcl.out]; exact Hst5.out, Hb5.out⟩
        case measure => simp [intOf]
end Go.Proofs.Qxb6616012a
