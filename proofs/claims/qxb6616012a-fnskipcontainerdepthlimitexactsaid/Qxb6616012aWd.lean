/- skipContainer over the nested text -/
import Derived.Test.Qxb6616012aWc
import Derived.Test.Qxb6616012aStk
import Derived.Test.Qxb6616012aPlain
namespace Go.Proofs.Qxb6616012a
open Go.RowKit

/-- the closing brackets of the first j containers -/
def clos (k : Nat → Bool) (j : Nat) : List Int := (List.range j).map (clo k)
theorem clos_len (k : Nat → Bool) (j : Nat) : (clos k j).length = j := by simp [clos]
theorem clos_succ (k : Nat → Bool) (j : Nat) : clos k (j + 1) = clos k j ++ [clo k j] := by simp [clos, List.range_succ]

theorem Stk.alloc {w : World} {B g cap : Nat} {xs : List Int} (h : Stk w B g cap xs) (o : Obj) : Stk (w.alloc o) B g cap xs :=
  h.of_block (Deep.blk_alloc_lt _ _ _ h.lt) (by simp)
theorem Stk.drewN {w : World} {B g cap : Nat} {xs : List Int} (h : Stk w B g cap xs) (q : Nat) : Stk (w.drewN q) B g cap xs := ⟨h.base, h.lt, h.le, h.max, h.holds, h.there⟩
theorem Stk.drew {w : World} {B g cap : Nat} {xs : List Int} (h : Stk w B g cap xs) : Stk w.drew B g cap xs := ⟨h.base, h.lt, h.le, h.max, h.holds, h.there⟩
theorem Stk.mv {w w' : World} {S B g cap : Nat} {xs : List Int} (h : Stk w B g cap xs) (m : Mv S w w') (hS : S < B) : Stk w' B g cap xs :=
  h.of_block (m.block g (by have := h.base; omega)) (by rw [m.size]; exact Nat.le_refl _)

/-- Below B nothing but block S has turned. -/
structure Eff (B S : Nat) (w w' : World) : Prop where
  os : w'.os = w.os
  tape : w'.tape = w.tape
  output : w'.output = w.output
  size : w.heap.size ≤ w'.heap.size
  block : ∀ k, k < B → k ≠ S → w'.heap[k]? = w.heap[k]?
theorem Eff.refl (B S : Nat) (w : World) : Eff B S w w := ⟨rfl, rfl, rfl, Nat.le_refl _, fun _ _ _ => rfl⟩
theorem Eff.mv {B S : Nat} {a w w' : World} (h : Eff B S a w) (m : Mv S w w') : Eff B S a w' :=
  ⟨m.os.trans h.os, m.tape.trans h.tape, m.output.trans h.output, by rw [m.size]; exact h.size, fun k hk hs => (m.block k hs).trans (h.block k hk hs)⟩
theorem Eff.alloc {B S : Nat} {a w : World} (h : Eff B S a w) (hB : B ≤ w.heap.size) (o : Obj) : Eff B S a (w.alloc o) :=
  ⟨h.os, h.tape, h.output, by have := h.size; simp; omega, fun k hk hs => (Deep.blk_alloc_lt _ _ _ (by omega)).trans (h.block k hk hs)⟩
theorem Eff.drewN {B S : Nat} {a w : World} (h : Eff B S a w) (q : Nat) : Eff B S a (w.drewN q) := ⟨h.os, h.tape, h.output, h.size, h.block⟩
theorem Eff.drew {B S : Nat} {a w : World} (h : Eff B S a w) : Eff B S a w.drew := ⟨h.os, h.tape, h.output, h.size, h.block⟩
theorem Eff.grown {B S g : Nat} {a w w' : World} (h : Eff B S a w) (hB : B ≤ w.heap.size) (hg : w.grownBy w' (some g)) (hBg : B ≤ g) : Eff B S a w' :=
  ⟨hg.os.trans h.os, hg.tape.trans h.tape, hg.output.trans h.output, Nat.le_trans h.size hg.size, fun k hk hs => (hg.block k (by omega) (by simp; omega)).trans (h.block k hk hs)⟩

theorem St.of_blocks {w w' : World} {S D N C : Nat} {bt : Nat → Int} {p dep : Nat} (h : St w S D N C bt p dep) (hS : w'.heap[S]? = w.heap[S]?) (hD : w'.heap[D]? = w.heap[D]?) : St w' S D N C bt p dep :=
  ⟨by rw [World.cell?_of_block (a := ⟨S, 0, none⟩) hS]; exact h.c0, by rw [World.cell?_of_block (a := ⟨S, 1, none⟩) hS]; exact h.c1, by rw [World.cell?_of_block (a := ⟨S, 2, none⟩) hS]; exact h.c2,
    by rw [World.cell?_of_block (a := ⟨S, 3, none⟩) hS]; exact h.c3, by rw [World.frozen?_of_block (a := ⟨S, 1, none⟩) hS]; exact h.f1, h.ne, h.le, fun i hi => by rw [World.cell?_of_block (a := ⟨D, i, none⟩) hD]; exact h.bytes i hi⟩
theorem St.alloc {w : World} {S D N C : Nat} {bt : Nat → Int} {p dep : Nat} (h : St w S D N C bt p dep) (hS : S < w.heap.size) (hD : D < w.heap.size) (o : Obj) : St (w.alloc o) S D N C bt p dep :=
  h.of_blocks (Deep.blk_alloc_lt _ _ _ hS) (Deep.blk_alloc_lt _ _ _ hD)

theorem step_push' {w : World} {B g cap : Nat} {xs : List Int} (h : Stk w B g cap xs) (m : Nat) (hm : xs.length = m) (hn : m + 1 ≤ 1048576) (hB : B ≤ w.heap.size)
    {ops : Array Oper} {o : Oper} {a : Act} {K : Act → World → Prop} {Q : Exit → Act → World → Prop} {E : Prop} (hgd : o.guard = none) (s x : Operand)
    (ho : o.op = .call { callee := .builtin .append, args := #[s, x], argTypes := #[28, 28] })
    (hs : a.eval s = .slice (some ⟨g, 0, none⟩) m cap) (ad : Addr) (c1 : Nat) (c : Int) (hx : a.eval x = .slice (some ad) 1 c1) (hc : w.cell? ad = some (.int .u8 c))
    (hk : ∀ g' cap' w', Stk w' B g' cap' (xs ++ [c]) → w.grownBy w' (some g) → K (a.put o.dst (.slice (some ⟨g', 0, none⟩) (m + 1) cap')) w') :
    if Region.wanted o (yielded ops a.tmps) = true then Oper.wp Try.prog o a w K Q else E := by
  subst hm
  exact step_push h hn hB hgd s x ho hs ad c1 c hx hc hk

theorem cloI_open (k : Nat → Bool) (n j : Nat) (hj : j < n) : cloI (byteAt k n (pos k n j)) = clo k j := by
  rw [byte_head k n j hj]
  unfold openI clo cloI
  cases k j <;> simp

/-- a slice's length, for a measure -/
def lenV : Value → Nat | .slice _ n _ => n | _ => 0

theorem frozen_row {w : World} {g : Nat} {c : Array Value} {t : TypeId} (h : w.heap[g]? = some (.cells c t (0, 0))) (j : Nat) : w.frozen? ⟨g, j, none⟩ = false := by
  simp [World.frozen?, h]

/-- the answer, and where the splitter stands then -/
def endB (dep n : Nat) : Bool := decide (dep + n ≤ 10000)
def endP (k : Nat → Bool) (n dep : Nat) : Nat := if dep + n ≤ 10000 then (text k n).length else pos k n (10000 - dep)

theorem Stk.room (w : World) (c : Array Value) (t : TypeId) (hc : c.size = 64) : Stk (w.alloc (.cells c t)) w.heap.size w.heap.size 64 [] := by
  refine ⟨Nat.le_refl _, by simp, by simp, by unfold maxLen; omega, fun j hj => by simp at hj, fun j hj => ?_⟩
  have hb : (w.alloc (.cells c t)).heap[w.heap.size]? = some (.cells c t (0, 0)) := Deep.blk_alloc_new _ _
  rw [cell_of_row _ _ j c t (0, 0) hb]
  exact ⟨by simp [hc, hj], frozen_row hb j⟩

set_option maxRecDepth 100000 in
set_option maxHeartbeats 4000000 in
theorem skip_any (hMC : MemClose) (hMO : MemOpen) (k : Nat → Bool) (n dep S D C : Nat) (w : World) (h : St w S D (text k n).length C (byteAt k n) 0 dep) (hn : 0 < n) (hn2 : n ≤ 65536) (hd : dep ≤ 10000)
    (hS : S < w.heap.size) (hD : D < w.heap.size) :
    Calls Try.prog 18 #[.pointer (some ⟨S, 0, none⟩)] w fun e w' => e = .returned (.bool (endB dep n)) ∧
      St w' S D (text k n).length C (byteAt k n) (endP k n dep) dep ∧ Eff w.heap.size S w w' := by
  have H := hid h
  have hNb : (text k n).length ≤ 1048576 := by have := pos_le k n n; rw [text_len]; omega
  clear h
  go_enter Try.func18, Try.ntmps18
  go_wp2
  go_loopw [4] (fun v wr => ∃ j g cap, j < n ∧ v = .slice (some ⟨g, 0, none⟩) j cap ∧ Stk wr w.heap.size g cap (clos k j) ∧ St wr S D (text k n).length C (byteAt k n) (pos k n j) dep ∧ Eff w.heap.size S w wr ∧ dep + j ≤ 10000) (fun v _ => n - lenV v)
  case atStart => exact ⟨0, _, _, hn, rfl, Stk.room w _ _ rfl, H.out.alloc hS hD _, (Eff.refl _ _ _).alloc (Nat.le_refl _) _, hd⟩
  case round =>
    obtain ⟨j, g, cap, hj, rfl, hst, hs, he, hdj⟩ := hrel
    have Hst := hid hst
    have Hs := hid hs
    have He := hid he
    have k2 := hs.c2
    clear hst hs he
    by_cases hmax : dep + j = 10000
    · have e1 : ((dep : Int) + (j : Int) == 10000) = true := by simp; omega
      go_wp2
      go_ret
      refine ⟨ret_bool (by simp [endB]; omega), ?_, He.out⟩
      have e2 : endP k n dep = pos k n j := by
        unfold endP
        rw [if_neg (by omega)]
        have : 10000 - dep = j := by omega
        rw [this]
      rw [e2]; exact Hs.out
    · have e1 : ((dep : Int) + (j : Int) == 10000) = false := by simp; omega
      go_upto_region 5 with fail
      have hBs : w.heap.size ≤ wr.heap.size := He.out.size
      have hpb : pos k n j ≤ 262144 := by have := pos_le k n j; omega
      have hSr : S < wr.heap.size := by omega
      have hDr : D < wr.heap.size := by omega
      have hgB : w.heap.size ≤ g := Hst.out.base
      have hposN : pos k n j < (text k n).length := by have := pos_mono k n j n (by omega); rw [text_len]; omega
      have k0 := Hs.out.c0
      have k1 := Hs.out.c1
      have kb := Hs.out.bytes (pos k n j) hposN
      have hp' : ((pos k n j : Nat) : Int) < ((text k n).length : Int) := by omega
      have n0 := World.new_ne wr _ k0
      have n1 := World.new_ne wr _ kb
      clear k2
      go_cut [4] (fun v w' => ∃ g' cap', v = .slice (some ⟨g', 0, none⟩) (j + 1) cap' ∧ Stk w' w.heap.size g' cap' (clos k (j + 1)) ∧ St w' S D (text k n).length C (byteAt k n) (pos k n j) dep ∧ Eff w.heap.size S w w')
      case first =>
        go_region_held3 (fun w' => w'.cell? ⟨S, 0, none⟩ = some (.slice (some ⟨D, 0, none⟩) (text k n).length C) ∧ w'.cell? ⟨S, 1, none⟩ = some (.int .i64 ((pos k n j : Nat) : Int)) ∧ w'.cell? ⟨D, pos k n j, none⟩ = some (.int .u8 (byteAt k n (pos k n j))))
          (first | go_keep | (refine ⟨?_, ?_, ?_⟩ <;> (rw [hgrow.cell_far _ (by simp; omega) (by simp; omega)]; go_keep)))
          (first
            | (go_at_call 24; refine (closing_any _ _).mono ?_; rintro e w2 ⟨rfl, rfl⟩)
            | ((refine step_push' (B := w.heap.size) (g := g) (cap := cap) (xs := clos k j) (by first | exact (Hst.out.alloc _).drew | exact Hst.out.drew.alloc _) j (clos_len k j) (by omega) (by simp; omega) (by rfl) _ _ (by rfl) (by rfl) ⟨wr.heap.size, 0, none⟩ 1 (cloI (byteAt k n (pos k n j))) (by rfl) (by simp [go_sem]) ?_; intro g2 cap2 w2 hstk hgrow)))
        go_wp2_with fail
        go_meet
        case rel =>
          rw [cloI_open k n j hj, ← clos_succ] at hstk
          refine ⟨g2, cap2, rfl, hstk, ?_, ?_⟩
          · exact ((Hs.out.alloc hSr hDr _).drewN 1).of_blocks (hgrow.block S (by simp; omega) (by simp; omega)) (hgrow.block D (by simp; omega) (by simp; omega))
          · exact ((He.out.alloc hBs _).drewN 1).grown (by simp; omega) hgrow hgB
      case rest =>
        obtain ⟨g', cap', rfl, hst, hs, he⟩ := hcut
        rename World => wq
        clear hBs hSr hDr hgB k0 k1 kb hp' n0 n1 Hst Hs He
        have k1 := hs.c1
        have kf := hs.f1
        have Hst := hid hst
        have Hs := hid hs
        have He := hid he
        clear hst hs he
        go_wp2_with fail
        go_loopw [4, 5] (fun v i wr => ∃ r g cap x, r ≤ j ∧ v = .slice (some ⟨g, 0, none⟩) (r + 1) cap ∧ i = .int .i64 x ∧ 0 ≤ x ∧ x + (r : Int) = (j : Int) ∧ Stk wr w.heap.size g cap (clos k (r + 1)) ∧
          St wr S D (text k n).length C (byteAt k n) (pos k n j + 1 + (j - r)) dep ∧ Eff w.heap.size S w wr ∧ (r < j → j + 1 = n)) (fun v _ _ => lenV v)
        case atStart =>
          refine ⟨j, g', cap', 0, Nat.le_refl _, rfl, rfl, by omega, by omega, ?_, ?_, ?_, fun h => by omega⟩
          · exact Hst.out.mv ((Mv.refl S wq).set _ _) hS
          · have := Hs.out.step
            simpa using this
          · exact He.out.mv ((Mv.refl S wq).set _ _)
        case round =>
          obtain ⟨r, g3, cap3, x, hr, rfl, rfl, hx0, hx, hst, hs, he, hlast⟩ := hrel
          have Hst3 := hid hst
          have Hs3 := hid hs
          have He3 := hid he
          have kc : wr.cell? ⟨g3, r, none⟩ = some (.int .u8 (clo k r)) := by
            have h1 := hst.holds r (by rw [clos_len]; omega)
            rw [h1]
            simp [clos]
          have Hx := hid hx
          have hxj : x ≤ 65536 := by omega
          have Hlast := hid hlast
          clear hst hs he hx hlast k1 kf Hst Hs He
          by_cases hin : j + 1 < n
          · have hrj : r = j := by
              rcases Nat.lt_or_ge r j with h | h
              · have := Hlast.out h; omega
              · omega
            have hx0' : x = 0 := by have := Hx.out; omega
            subst hrj
            subst hx0'
            have hnext : pos k n (r + 1) < (text k n).length := by have := pos_mono k n (r + 1) n (by omega); rw [text_len]; omega
            have hop : byteAt k n (pos k n (r + 1)) = 123 ∨ byteAt k n (pos k n (r + 1)) = 91 := by
              rw [byte_head k n (r + 1) hin]; unfold openI; cases k (r + 1) <;> simp
            have Hop := hid hop
            have Hs4 : Hid (St wr S D (text k n).length C (byteAt k n) (pos k n r + 1) dep) := by
              have := Hs3.out
              rw [Nat.sub_self, Nat.add_zero] at this
              exact this
            clear hop Hs3
            cases hk : k r with
            | true =>
              obtain ⟨y1, y2, y3, y4⟩ := byte_name k n r hin hk
              have Y1 := hid y1
              have Y2 := hid y2
              have Y3 := hid y3
              have Y4 := hid y4
              have ec : clo k r = 125 := by simp [clo, hk]
              rw [ec] at kc
              clear y1 y2 y3 y4 ec hk
              go_wp2_with fail
              refine (nextIn_obj hMO S D _ C _ (pos k n r + 1) dep _ Hs4.out (by have := Y4.out; omega) hNb Y1.out Y2.out Y3.out).mono ?_
              rintro e w5 ⟨rfl, h5, m5⟩
              have H5 : Hid (St w5 S D (text k n).length C (byteAt k n) (pos k n (r + 1)) dep) := by
                have e4 := Y4.out
                have e5 : pos k n r + 1 + 3 = pos k n (r + 1) := by omega
                rw [e5] at h5; exact h5
              have M5 := hid m5
              clear h5 m5
              go_wp2_with fail
              refine (opens_yes S D _ C _ _ dep _ H5.out hnext hNb Hop.out).mono ?_
              rintro e w6 ⟨rfl, q6, hw6⟩
              have H6 : Hid (St w6 S D (text k n).length C (byteAt k n) (pos k n (r + 1)) dep) := by rw [hw6]; exact H5.out.drewN q6
              have S6 : Hid (Stk w6 w.heap.size g3 cap3 (clos k (r + 1))) := by rw [hw6]; exact (Hst3.out.mv M5.out hS).drewN q6
              have E6 : Hid (Eff w.heap.size S w w6) := by rw [hw6]; exact (He3.out.mv M5.out).drewN q6
              clear hw6
              go_wp2_with fail
              go_roundw
              case rel => exact ⟨r + 1, g3, cap3, hin, rfl, S6.out, H6.out, E6.out, by omega⟩
              case measure => simp [lenV]; omega
            | false =>
              have ec : clo k r = 93 := by simp [clo, hk]
              rw [ec] at kc
              have Y4 := hid (pos_array k n r hk)
              clear ec hk
              have H4' : Hid (St wr S D (text k n).length C (byteAt k n) (pos k n (r + 1)) dep) := by rw [Y4.out]; exact Hs4.out
              go_wp2_with fail
              refine (nextIn_arr S D _ C _ (pos k n (r + 1)) dep _ H4'.out hnext hNb (by have := Hop.out; unfold Dark; omega) (by have := Hop.out; omega)).mono ?_
              rintro e w5 ⟨rfl, h5, m5⟩
              have H5 := hid h5
              have M5 := hid m5
              clear h5 m5
              go_wp2_with fail
              refine (opens_yes S D _ C _ _ dep _ H5.out hnext hNb Hop.out).mono ?_
              rintro e w6 ⟨rfl, q6, hw6⟩
              have H6 : Hid (St w6 S D (text k n).length C (byteAt k n) (pos k n (r + 1)) dep) := by rw [hw6]; exact H5.out.drewN q6
              have S6 : Hid (Stk w6 w.heap.size g3 cap3 (clos k (r + 1))) := by rw [hw6]; exact (Hst3.out.mv M5.out hS).drewN q6
              have E6 : Hid (Eff w.heap.size S w w6) := by rw [hw6]; exact (He3.out.mv M5.out).drewN q6
              clear hw6
              go_wp2_with fail
              go_roundw
              case rel => exact ⟨r + 1, g3, cap3, hin, rfl, S6.out, H6.out, E6.out, by omega⟩
              case measure => simp [lenV]; omega
          · have hjn : j + 1 = n := by omega
            have hpl := pos_last k n hn
            have hj1 : n - 1 = j := by omega
            have ep : pos k n j + 1 + (j - r) = pos k n n + (n - 1 - r) := by rw [hpl, hj1]
            have Hs4 : Hid (St wr S D (text k n).length C (byteAt k n) (pos k n n + (n - 1 - r)) dep) := by
              have := Hs3.out
              rw [ep] at this
              exact this
            have hb := byte_close k n (n - 1 - r) (by omega)
            have er : n - 1 - (n - 1 - r) = r := by omega
            rw [er] at hb
            have Hb := hid hb
            have hlt : pos k n n + (n - 1 - r) < (text k n).length := by rw [text_len]; omega
            clear hb er Hs3 ep hpl hj1
            have hcc : clo k r = 125 ∨ clo k r = 93 := by unfold clo; cases k r <;> simp
            have Hcc := hid hcc
            clear hcc
            have hbr : r < 65536 := by omega
            go_wp2_with fail
            refine (nextIn_close hMC S D _ C _ (pos k n n + (n - 1 - r)) dep (clo k r) _ _ Hs4.out hlt hNb Hcc.out Hb.out).mono ?_
            rintro e w5 ⟨rfl, h5, m5⟩
            have k3 := h5.c3
            have H5 := hid h5
            have M5 := hid m5
            have S5 := hid (by have := Hst3.out.mv m5 hS; rw [clos_succ] at this; exact this.pop : Stk w5 w.heap.size g3 cap3 (clos k r))
            have E5 := hid (He3.out.mv m5)
            have hcap : r + 1 ≤ cap3 := by have := Hst3.out.le; rw [clos_len] at this; exact this
            have hcap' : ((r : Int)) ≤ (cap3 : Int) := by omega
            clear h5 m5
            by_cases hr0 : r = 0
            · subst hr0
              go_wp2_with fail
              go_ret
              refine ⟨ret_bool (by simp [endB]; omega), ?_, E5.out⟩
              have e7 : endP k n dep = pos k n n + (n - 1 - 0) + 1 := by
                unfold endP
                rw [if_pos (by omega), text_len]; omega
              rw [e7]; exact H5.out
            · have e8 : ((r : Int) == 0) = false := by simp [hr0]
              obtain ⟨r', rfl⟩ : ∃ r', r = r' + 1 := ⟨r - 1, by omega⟩
              go_wp2_with fail
              go_roundw
              case rel =>
                refine ⟨r', g3, cap3, x + 1, by omega, rfl, rfl, by omega, by have := Hx.out; omega, S5.out, ?_, E5.out, fun _ => hjn⟩
                have e9 : pos k n j + 1 + (j - r') = pos k n n + (n - 1 - (r' + 1)) + 1 := by
                  have hpl := pos_last k n hn
                  have hj1 : n - 1 = j := by omega
                  rw [hpl, hj1]; omega
                rw [e9]; exact H5.out
              case measure => simp [lenV]
end Go.Proofs.Qxb6616012a
