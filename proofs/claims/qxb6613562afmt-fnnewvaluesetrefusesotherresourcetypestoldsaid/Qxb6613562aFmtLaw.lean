/-
  THE LAW's WALK (function 3).
-/
import Derived.Test.Qxb6613562aFmtRes
namespace Go.Proofs.Qxb6613562aFmt
open Go.RowKit Go.Extern.Stop Go.Stop Go.Extern

section
variable (F : Interp) (w : World) (a : Option Addr) (len cap : Nat) (rs : List MRow) (other : ByteArray)

set_option maxRecDepth 100000 in
set_option maxHeartbeats 2000000 in
theorem law_short (h : RowsIn w a len rs) (ho : other.size ≤ 9223372036854775807) (hbad : 65536 < len ∨ 1048576 < other.size) : Calls Tryf.prog 3 #[.slice a len cap, .string other] w fun e w' => e = .returned (.bool true) ∧ Below w.heap.size w w' := by
  have HB := bytes4 w a len cap rs other h ho
  have hll := h.2.1
  clear h
  have hb' : 65536 < len ∨ (len ≤ 65536 ∧ 1048576 < other.size) := by omega
  clear hbad
  rcases hb' with h1 | ⟨h1, h2⟩
  all_goals
    go_enter Tryf.func3, Tryf.ntmps3
    go_wp2_with fail
    refine HB.mono ?_
    rintro e W ⟨⟨b, rfl⟩, rfl⟩
    cases b
    all_goals
      go_wp2
      go_ret
      exact ⟨rfl, Below.refl _ _⟩

set_option maxRecDepth 100000 in
set_option maxHeartbeats 4000000 in
theorem law_main (hF : F.answers w.tape) (h : RowsIn w a len rs) (hl : len ≤ 65536) (ho : other.size ≤ 1048576) : Calls Tryf.prog 3 #[.slice a len cap, .string other] w fun e w' => e = .returned (.bool true) ∧ Below w.heap.size w w' := by
  have HB := bytes4 w a len cap rs other h (by omega)
  have H : Hid (RowsIn w a len rs) := h
  clear h
  go_enter Tryf.func3, Tryf.ntmps3
  go_wp2_with fail
  refine HB.mono ?_
  rintro e W ⟨⟨b, rfl⟩, rfl⟩
  clear HB
  cases b
  · go_wp2
    go_ret
    exact ⟨rfl, Below.refl _ _⟩
  go_wp2_with fail
  refine (member5 W a len cap rs other.size H.out hl ho).mono ?_
  rintro e wm ⟨⟨n, rfl⟩, hbm⟩
  have BM : Hid (Below W.heap.size W wm ∧ RowsIn wm a len rs) := ⟨hbm, H.out.below hbm⟩
  clear hbm H
  by_cases hn : n > 1048576
  · go_wp2
    go_ret
    exact ⟨rfl, BM.out.1⟩
  have hq : (other.toList == [86, 97, 108, 117, 101, 83, 101, 116]) = decide (other = kVS) := by rw [← eq_bytes, ByteArray.toList_eq kVS]
  cases hd : decide (other = kVS)
  case true =>
    rw [hd] at hq
    go_wp2
    go_ret
    exact ⟨rfl, BM.out.1⟩
  rw [hd] at hq
  have hne : Hid (other ≠ kVS) := of_decide_eq_false hd
  clear hd
  go_wp2_with fail
  refine (res6 wm a len cap rs BM.out.2 hl).mono ?_
  rintro e w1 ⟨f, rfl, hm1, hf1, hb1⟩
  have H1 : Hid (MapAt w1 wm.heap.size f ∧ Fits rs f ∧ Below wm.heap.size wm w1) := ⟨hm1, hf1, hb1⟩
  clear hm1 hf1 hb1
  go_wp2_with fail
  refine (put7 w1 wm.heap.size f kRT other H1.out.1).mono ?_
  rintro e w2 ⟨rfl, hm2, ho2⟩
  have H2 : Hid (MapAt w2 wm.heap.size (upd f kRT (.iface 9 (.string other))) ∧ Below wm.heap.size wm w2) := ⟨hm2, H1.out.2.2.trans (ho2.below (Nat.le_refl _) H1.out.2.2.size)⟩
  clear hm2 ho2 H1
  go_wp2_with fail
  refine (vs_err w2 wm.heap.size (upd f kRT (.iface 9 (.string other))) (id_other F w2 (by rw [H2.out.2.tape, BM.out.1.tape]; exact hF) wm.heap.size _ H2.out.1 other (upd_same _ _ _) hne.out)).mono ?_
  rintro e w3 ⟨⟨p, rfl⟩, hb3⟩
  have H3 : Hid (Below W.heap.size W w3 ∧ RowsIn w3 a len rs) := by
    have hb := H2.out.2.trans (hb3.mono H2.out.2.size)
    exact ⟨BM.out.1.trans (hb.mono BM.out.1.size), BM.out.2.below hb⟩
  clear hb3 H2 BM
  go_wp2_with fail
  refine (res6 w3 a len cap rs H3.out.2 hl).mono ?_
  rintro e w4 ⟨f', rfl, hm4, hf4, hb4⟩
  have H4 : Hid (MapAt w4 w3.heap.size f' ∧ Fits rs f' ∧ Below w3.heap.size w3 w4) := ⟨hm4, hf4, hb4⟩
  clear hm4 hf4 hb4
  go_wp2_with fail
  refine (put7 w4 w3.heap.size f' kRT kVS H4.out.1).mono ?_
  rintro e w5 ⟨rfl, hm5, ho5⟩
  have H5 : Hid (MapAt w5 w3.heap.size (upd f' kRT (.iface 9 (.string kVS))) ∧ Below w3.heap.size w3 w5) := ⟨hm5, H4.out.2.2.trans (ho5.below (Nat.le_refl _) H4.out.2.2.size)⟩
  clear hm5 ho5
  have HV := vs_any F w5 w3.heap.size (upd f' kRT (.iface 9 (.string kVS))) (by rw [H5.out.2.tape, H3.out.1.tape]; exact hF) H5.out.1 (upd_same _ _ _) (fits_shape H4.out.2.1 kVS)
  rw [fits_rest H4.out.2.1 kVS] at HV
  have HRst := fun (w6 : World) (hb : Below w5.heap.size w5 w6) => rest9 w6 a len cap rs (H3.out.2.below (H5.out.2.trans (hb.mono H5.out.2.size))) hl
  cases hr : restR rs with
  | none =>
    rw [hr] at HV
    simp only [hr] at HRst
    go_wp2_with fail
    refine HV.mono ?_
    rintro e w6 ⟨⟨p', rfl⟩, hb6⟩
    have HR6 := HRst w6 hb6
    have H6 : Hid (Below W.heap.size W w6) := H3.out.1.trans ((H5.out.2.trans (hb6.mono H5.out.2.size)).mono H3.out.1.size)
    clear hb6 HRst HV
    go_wp2_with fail
    refine HR6.mono ?_
    rintro e w7 ⟨rfl, hb7⟩
    have H7 : Hid (Below W.heap.size W w7) := H6.out.trans (hb7.mono H6.out.size)
    clear hb7 HR6
    go_wp2
    go_ret
    exact ⟨rfl, H7.out⟩
  | some uv =>
    obtain ⟨u, v⟩ := uv
    rw [hr] at HV
    simp only [hr] at HRst
    go_wp2_with fail
    refine HV.mono ?_
    rintro e w6 ⟨⟨q, M, g, rfl, c0, c1, c2, hm6, hg6⟩, hb6⟩
    have HR6 := HRst w6 hb6
    have H6 : Hid (Below W.heap.size W w6) := H3.out.1.trans ((H5.out.2.trans (hb6.mono H5.out.2.size)).mono H3.out.1.size)
    have G6 : Hid (MapAt w6 M g ∧ g kRT = some (.iface 9 (.string kVS)) ∧ w6.cell? ⟨q, 0, none⟩ = some (.string u) ∧ w6.cell? ⟨q, 1, none⟩ = some (.string v) ∧ w6.cell? ⟨q, 2, none⟩ = some (.map (some M))) := ⟨hm6, by rw [hg6]; exact upd_same _ _ _, c0, c1, c2⟩
    clear hb6 HRst HV hm6 hg6 c0 c1 c2
    go_wp2_with fail
    refine HR6.mono ?_
    rintro e w7 ⟨rfl, hb7⟩
    have H7 : Hid (Below W.heap.size W w7) := H6.out.trans (hb7.mono H6.out.size)
    have G7 : Hid (MapAt w7 M g ∧ g kRT = some (.iface 9 (.string kVS))) := ⟨G6.out.1.below hb7, G6.out.2.1⟩
    have hql : q < w6.heap.size := World.block_lt_of_cell? w6 _ G6.out.2.2.1
    have c0 : w7.cell? ⟨q, 0, none⟩ = some (.string u) := (hb7.cell (p := ⟨q, 0, none⟩) hql).trans G6.out.2.2.1
    have c1 : w7.cell? ⟨q, 1, none⟩ = some (.string v) := (hb7.cell (p := ⟨q, 1, none⟩) hql).trans G6.out.2.2.2.1
    have c2 : w7.cell? ⟨q, 2, none⟩ = some (.map (some M)) := (hb7.cell (p := ⟨q, 2, none⟩) hql).trans G6.out.2.2.2.2
    clear hb7 HR6 G6 hql
    have hqu : (u.toList == u.toList) = true := by rw [eq_bytes]; exact decide_eq_true rfl
    have hqv : (v.toList == v.toList) = true := by rw [eq_bytes]; exact decide_eq_true rfl
    go_wp2_with fail
    refine (member10 w7 M g G7.out.1 kVS G7.out.2).mono ?_
    rintro e w8 ⟨rfl, rfl⟩
    go_wp2
    go_ret
    exact ⟨rfl, H7.out⟩

theorem law_any (hF : F.answers w.tape) (h : RowsIn w a len rs) (ho : other.size ≤ 9223372036854775807) : Calls Tryf.prog 3 #[.slice a len cap, .string other] w fun e w' => e = .returned (.bool true) ∧ Below w.heap.size w w' := by
  by_cases hb : len ≤ 65536 ∧ other.size ≤ 1048576
  · exact law_main F w a len cap rs other hF h hb.1 hb.2
  · exact law_short w a len cap rs other h ho (by omega)
end
end Go.Proofs.Qxb6613562aFmt
