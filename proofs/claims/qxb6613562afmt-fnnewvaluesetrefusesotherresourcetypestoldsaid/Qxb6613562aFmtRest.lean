/-
  zzLastRow (17) AND zzIdentityRest (9) BY THEIR CONTRACTS.
-/
import Derived.Test.Qxb6613562aFmtRead
namespace Go.Proofs.Qxb6613562aFmt
open Go.RowKit Go.Extern.Stop Go.Stop Go.Extern

/-- The last row of a name. -/
def lastRow (rs : List MRow) (k : ByteArray) : Option MRow := rs.reverse.find? (fun r => decide (r.name = k))
theorem lastRow_snoc (l : List MRow) (r : MRow) (k : ByteArray) : lastRow (l ++ [r]) k = if r.name = k then some r else lastRow l k := by
  unfold lastRow
  rw [List.reverse_append]
  by_cases h : r.name = k <;> simp [h]
theorem take_snoc {rs : List MRow} {k : Nat} {r : MRow} (h : rs[k]? = some r) : rs.take (k + 1) = rs.take k ++ [r] := by
  rw [List.take_add_one, h]; rfl

def rowZ : MRow := ⟨⟨#[]⟩, ⟨#[]⟩, false, false⟩
/-- What zzLastRow leaves. -/
def LastPost (w : World) (o : Option MRow) (e : Ending) (w' : World) : Prop :=
  e = .returned (.tuple #[(o.getD rowZ).agg, .bool o.isSome]) ∧ Below w.heap.size w w'

section
variable (w : World) (a : Option Addr) (len cap : Nat) (rs : List MRow)
set_option maxHeartbeats 2000000 in
theorem last17 (key : ByteArray) (h : RowsIn w a len rs) (hl : len ≤ 65536) : Calls Tryf.prog 17 #[.slice a len cap, .string key] w (LastPost w (lastRow rs key)) := by
  have hlen := h.1
  have H : Hid (∀ o, RowsIn (w.alloc o) a len rs) := fun o => h.below ((Below.refl _ w).alloc (Nat.le_refl _) o)
  have HL : Hid (lastRow rs key = lastRow (rs.take len) key) := by rw [List.take_of_length_le (by omega)]; rfl
  clear h hlen
  go_enter Tryf.func17, Tryf.ntmps17
  go_wp2
  go_loop [6] (fun i => ∃ k : Nat, k ≤ len ∧ i = .int .i64 ((k : Int) - 1) ∧ lastRow rs key = lastRow (rs.take k) key) (fun i => (intOf i + 1).toNat)
  case atStart => exact ⟨len, Nat.le_refl _, by go_num, HL.out⟩
  case round =>
    obtain ⟨k, hk, rfl, hlast⟩ := hrel
    have HK : Hid (lastRow rs key = lastRow (rs.take k) key) := hlast
    clear hlast
    by_cases hp : 0 < k
    · obtain ⟨j, rfl⟩ : ∃ j, k = j + 1 := ⟨k - 1, by omega⟩
      rw [show (((j + 1 : Nat) : Int) - 1) = (j : Int) by omega]
      obtain ⟨b, off, r, rfl, hr, ⟨c0, c1, c2, c3, z0, z1⟩⟩ := (H.out (.cells #[.string ⟨#[]⟩, .string ⟨#[]⟩, .bool false, .bool false] 41)).at (show j < len by omega)
      have HR : Hid (rs.take (j + 1) = rs.take j ++ [r]) := take_snoc hr
      obtain ⟨nm, vl, x, y⟩ := r
      simp only at c0 c1 c2 c3 z0 z1
      have hq := eq_bytes nm key
      clear hr
      cases hd : decide (nm = key)
      · rw [hd] at hq
        have HD : Hid (¬ nm = key) := of_decide_eq_false hd
        clear hd
        go_wp2
        go_round
        case rel =>
          refine ⟨j, by omega, by go_num, ?_⟩
          rw [HK.out, HR.out, lastRow_snoc]
          exact if_neg HD.out
        case measure => simp [intOf]
      · rw [hd] at hq
        have HD : Hid (lastRow rs key = some ⟨nm, vl, x, y⟩) := by
          rw [HK.out, HR.out, lastRow_snoc]
          exact if_pos (of_decide_eq_true hd)
        clear hd HK HR
        go_wp2
        exact bodyPost_ret (v := .tuple #[.agg #[.string nm, .string vl, .bool x, .bool y], .bool true]) (by simp [results, Tryf.results17, go_sem]) rfl ⟨by rw [HD.out]; rfl, (Below.refl _ w).alloc (Nat.le_refl _) _⟩
    · obtain rfl : k = 0 := by omega
      rw [show (((0 : Nat) : Int) - 1) = -1 from rfl]
      go_wp2
      exact bodyPost_ret (v := .tuple #[.agg #[.string ⟨#[]⟩, .string ⟨#[]⟩, .bool false, .bool false], .bool false]) (by simp [results, Tryf.results17, go_sem]) rfl ⟨by rw [HK.out]; rfl, (Below.refl _ w).alloc (Nat.le_refl _) _⟩

theorem last_none (key : ByteArray) (h : RowsIn w a len rs) (hl : len ≤ 65536) (ho : lastRow rs key = none) : Calls Tryf.prog 17 #[.slice a len cap, .string key] w fun e w' => e = .returned (.tuple #[.agg #[.string ⟨#[]⟩, .string ⟨#[]⟩, .bool false, .bool false], .bool false]) ∧ Below w.heap.size w w' := by
  have := last17 w a len cap rs key h hl
  rw [ho] at this
  exact this
theorem last_some (key : ByteArray) (h : RowsIn w a len rs) (hl : len ≤ 65536) (nm vl : ByteArray) (x y : Bool) (ho : lastRow rs key = some ⟨nm, vl, x, y⟩) : Calls Tryf.prog 17 #[.slice a len cap, .string key] w fun e w' => e = .returned (.tuple #[.agg #[.string nm, .string vl, .bool x, .bool y], .bool true]) ∧ Below w.heap.size w w' := by
  have := last17 w a len cap rs key h hl
  rw [ho] at this
  exact this
theorem isText (nm vl : ByteArray) (x y b : Bool) (hb : (!y && !x) = b) : Calls Tryf.prog 18 #[.agg #[.string nm, .string vl, .bool x, .bool y]] w fun e w' => e = .returned (.bool b) ∧ Below w.heap.size w w' := by
  subst hb
  exact isText18 w ⟨nm, vl, x, y⟩
end

/-- A row's text, or none where it is no text; no row: the empty text. -/
def txtR : Option MRow → Option ByteArray
  | none => some ⟨#[]⟩
  | some r => if (!r.asA && !r.asB) = true then some r.value else none
/-- What url, version and contained make of the rows. -/
def restR (rs : List MRow) : Option (ByteArray × ByteArray) :=
  (txtR (lastRow rs kURL)).bind fun u => (txtR (lastRow rs kVER)).bind fun v =>
    match lastRow rs kCON with
    | none => some (u, v)
    | some r => if r.asA = true then some (u, v) else none
/-- What zzIdentityRest leaves. -/
def RestPost (w : World) (r : Option (ByteArray × ByteArray)) (e : Ending) (w' : World) : Prop :=
  (match r with
   | some (u, v) => e = .returned (.tuple #[.bool true, .string u, .string v])
   | none => e = .returned (.tuple #[.bool false, .string ⟨#[]⟩, .string ⟨#[]⟩])) ∧ Below w.heap.size w w'
/-- The three ways of a text row. -/
theorem txt3 (o : Option MRow) : (o = none ∧ txtR o = some ⟨#[]⟩) ∨ (∃ nm vl, o = some ⟨nm, vl, false, false⟩ ∧ txtR o = some vl) ∨ ∃ nm vl x y, o = some ⟨nm, vl, x, y⟩ ∧ (!y && !x) = false ∧ txtR o = none := by
  cases o with
  | none => exact Or.inl ⟨rfl, rfl⟩
  | some r =>
    obtain ⟨nm, vl, x, y⟩ := r
    cases x
    · cases y
      · exact Or.inr (Or.inl ⟨nm, vl, rfl, rfl⟩)
      · exact Or.inr (Or.inr ⟨nm, vl, _, _, rfl, rfl, rfl⟩)
    · cases y
      · exact Or.inr (Or.inr ⟨nm, vl, _, _, rfl, rfl, rfl⟩)
      · exact Or.inr (Or.inr ⟨nm, vl, _, _, rfl, rfl, rfl⟩)

section
variable (w : World) (a : Option Addr) (len cap : Nat) (rs : List MRow)
set_option maxHeartbeats 1000000 in
theorem rest_B (h : RowsIn w a len rs) (hl : len ≤ 65536) (n1 l1 : ByteArray) (x1 y1 : Bool) (p1 : (!y1 && !x1) = false) (o1 : lastRow rs kURL = some ⟨n1, l1, x1, y1⟩) : Calls Tryf.prog 9 #[.slice a len cap] w (RestPost w (none)) := by
  have H : Hid (RowsIn w a len rs) := h
  clear h
  have B0 : Hid (Below w.heap.size w w) := Below.refl _ _
  go_enter Tryf.func9, Tryf.ntmps9
  go_wp2_with fail
  refine (last_some w a len cap rs kURL (H.out.below B0.out) hl n1 l1 x1 y1 o1).mono ?_
  rintro e v1 ⟨rfl, hb⟩
  have A1 : Hid (Below w.heap.size w (v1.alloc (.cells #[.string n1, .string l1, .bool x1, .bool y1] 41))) := (B0.out.trans (hb.mono B0.out.size)).alloc (Nat.le_trans B0.out.size hb.size) _
  clear hb
  go_wp2_with fail
  refine (isText (v1.alloc (.cells #[.string n1, .string l1, .bool x1, .bool y1] 41)) n1 l1 x1 y1 false p1).mono ?_
  rintro e t1 ⟨rfl, hb⟩
  have q1 : t1.cell? ⟨v1.heap.size, 1, none⟩ = some (.string l1) := (hb.cell (p := ⟨v1.heap.size, 1, none⟩) (by simp)).trans (by simp)
  have B1 : Hid (Below w.heap.size w t1) := A1.out.trans (hb.mono A1.out.size)
  clear hb
  go_wp2
  exact bodyPost_ret (v := .tuple #[.bool false, .string ⟨#[]⟩, .string ⟨#[]⟩]) (by simp [results, Tryf.results9, go_sem]) rfl ⟨rfl, B1.out⟩

set_option maxHeartbeats 1000000 in
theorem rest_NB (h : RowsIn w a len rs) (hl : len ≤ 65536) (o1 : lastRow rs kURL = none) (n2 l2 : ByteArray) (x2 y2 : Bool) (p2 : (!y2 && !x2) = false) (o2 : lastRow rs kVER = some ⟨n2, l2, x2, y2⟩) : Calls Tryf.prog 9 #[.slice a len cap] w (RestPost w (none)) := by
  have H : Hid (RowsIn w a len rs) := h
  clear h
  have B0 : Hid (Below w.heap.size w w) := Below.refl _ _
  go_enter Tryf.func9, Tryf.ntmps9
  go_wp2_with fail
  refine (last_none w a len cap rs kURL (H.out.below B0.out) hl o1).mono ?_
  rintro e v1 ⟨rfl, hb⟩
  have B1 : Hid (Below w.heap.size w (v1.alloc (.cells #[.string ⟨#[]⟩, .string ⟨#[]⟩, .bool false, .bool false] 41))) := (B0.out.trans (hb.mono B0.out.size)).alloc (Nat.le_trans B0.out.size hb.size) _
  clear hb
  go_wp2_with fail
  refine (last_some (v1.alloc (.cells #[.string ⟨#[]⟩, .string ⟨#[]⟩, .bool false, .bool false] 41)) a len cap rs kVER (H.out.below B1.out) hl n2 l2 x2 y2 o2).mono ?_
  rintro e v2 ⟨rfl, hb⟩
  have A2 : Hid (Below w.heap.size w (v2.alloc (.cells #[.string n2, .string l2, .bool x2, .bool y2] 41))) := (B1.out.trans (hb.mono B1.out.size)).alloc (Nat.le_trans B1.out.size hb.size) _
  clear hb
  go_wp2_with fail
  refine (isText (v2.alloc (.cells #[.string n2, .string l2, .bool x2, .bool y2] 41)) n2 l2 x2 y2 false p2).mono ?_
  rintro e t2 ⟨rfl, hb⟩
  have q2 : t2.cell? ⟨v2.heap.size, 1, none⟩ = some (.string l2) := (hb.cell (p := ⟨v2.heap.size, 1, none⟩) (by simp)).trans (by simp)
  have B2 : Hid (Below w.heap.size w t2) := A2.out.trans (hb.mono A2.out.size)
  clear hb
  go_wp2
  exact bodyPost_ret (v := .tuple #[.bool false, .string ⟨#[]⟩, .string ⟨#[]⟩]) (by simp [results, Tryf.results9, go_sem]) rfl ⟨rfl, B2.out⟩

set_option maxHeartbeats 1000000 in
theorem rest_TB (h : RowsIn w a len rs) (hl : len ≤ 65536) (n1 l1 : ByteArray) (o1 : lastRow rs kURL = some ⟨n1, l1, false, false⟩) (n2 l2 : ByteArray) (x2 y2 : Bool) (p2 : (!y2 && !x2) = false) (o2 : lastRow rs kVER = some ⟨n2, l2, x2, y2⟩) : Calls Tryf.prog 9 #[.slice a len cap] w (RestPost w (none)) := by
  have H : Hid (RowsIn w a len rs) := h
  clear h
  have B0 : Hid (Below w.heap.size w w) := Below.refl _ _
  go_enter Tryf.func9, Tryf.ntmps9
  go_wp2_with fail
  refine (last_some w a len cap rs kURL (H.out.below B0.out) hl n1 l1 false false o1).mono ?_
  rintro e v1 ⟨rfl, hb⟩
  have A1 : Hid (Below w.heap.size w (v1.alloc (.cells #[.string n1, .string l1, .bool false, .bool false] 41))) := (B0.out.trans (hb.mono B0.out.size)).alloc (Nat.le_trans B0.out.size hb.size) _
  clear hb
  go_wp2_with fail
  refine (isText (v1.alloc (.cells #[.string n1, .string l1, .bool false, .bool false] 41)) n1 l1 false false true rfl).mono ?_
  rintro e t1 ⟨rfl, hb⟩
  have q1 : t1.cell? ⟨v1.heap.size, 1, none⟩ = some (.string l1) := (hb.cell (p := ⟨v1.heap.size, 1, none⟩) (by simp)).trans (by simp)
  have B1 : Hid (Below w.heap.size w t1) := A1.out.trans (hb.mono A1.out.size)
  clear hb
  go_wp2_with fail
  refine (last_some t1 a len cap rs kVER (H.out.below B1.out) hl n2 l2 x2 y2 o2).mono ?_
  rintro e v2 ⟨rfl, hb⟩
  have A2 : Hid (Below w.heap.size w (v2.alloc (.cells #[.string n2, .string l2, .bool x2, .bool y2] 41))) := (B1.out.trans (hb.mono B1.out.size)).alloc (Nat.le_trans B1.out.size hb.size) _
  clear hb
  go_wp2_with fail
  refine (isText (v2.alloc (.cells #[.string n2, .string l2, .bool x2, .bool y2] 41)) n2 l2 x2 y2 false p2).mono ?_
  rintro e t2 ⟨rfl, hb⟩
  have q2 : t2.cell? ⟨v2.heap.size, 1, none⟩ = some (.string l2) := (hb.cell (p := ⟨v2.heap.size, 1, none⟩) (by simp)).trans (by simp)
  have B2 : Hid (Below w.heap.size w t2) := A2.out.trans (hb.mono A2.out.size)
  clear hb
  go_wp2
  exact bodyPost_ret (v := .tuple #[.bool false, .string ⟨#[]⟩, .string ⟨#[]⟩]) (by simp [results, Tryf.results9, go_sem]) rfl ⟨rfl, B2.out⟩

set_option maxHeartbeats 1000000 in
theorem rest_NNN (h : RowsIn w a len rs) (hl : len ≤ 65536) (o1 : lastRow rs kURL = none) (o2 : lastRow rs kVER = none) (o3 : lastRow rs kCON = none) : Calls Tryf.prog 9 #[.slice a len cap] w (RestPost w (some (⟨#[]⟩, ⟨#[]⟩))) := by
  have H : Hid (RowsIn w a len rs) := h
  clear h
  have B0 : Hid (Below w.heap.size w w) := Below.refl _ _
  go_enter Tryf.func9, Tryf.ntmps9
  go_wp2_with fail
  refine (last_none w a len cap rs kURL (H.out.below B0.out) hl o1).mono ?_
  rintro e v1 ⟨rfl, hb⟩
  have B1 : Hid (Below w.heap.size w (v1.alloc (.cells #[.string ⟨#[]⟩, .string ⟨#[]⟩, .bool false, .bool false] 41))) := (B0.out.trans (hb.mono B0.out.size)).alloc (Nat.le_trans B0.out.size hb.size) _
  clear hb
  go_wp2_with fail
  refine (last_none (v1.alloc (.cells #[.string ⟨#[]⟩, .string ⟨#[]⟩, .bool false, .bool false] 41)) a len cap rs kVER (H.out.below B1.out) hl o2).mono ?_
  rintro e v2 ⟨rfl, hb⟩
  have B2 : Hid (Below w.heap.size w (v2.alloc (.cells #[.string ⟨#[]⟩, .string ⟨#[]⟩, .bool false, .bool false] 41))) := (B1.out.trans (hb.mono B1.out.size)).alloc (Nat.le_trans B1.out.size hb.size) _
  clear hb
  go_wp2_with fail
  refine (last_none (v2.alloc (.cells #[.string ⟨#[]⟩, .string ⟨#[]⟩, .bool false, .bool false] 41)) a len cap rs kCON (H.out.below B2.out) hl o3).mono ?_
  rintro e v3 ⟨rfl, hb⟩
  have B3 : Hid (Below w.heap.size w (v3.alloc (.cells #[.string ⟨#[]⟩, .string ⟨#[]⟩, .bool false, .bool false] 41))) := (B2.out.trans (hb.mono B2.out.size)).alloc (Nat.le_trans B2.out.size hb.size) _
  clear hb
  go_wp2
  exact bodyPost_ret (v := .tuple #[.bool true, .string ⟨#[]⟩, .string ⟨#[]⟩]) (by simp [results, Tryf.results9, go_sem]) rfl ⟨rfl, B3.out⟩

set_option maxHeartbeats 1000000 in
theorem rest_NNA (h : RowsIn w a len rs) (hl : len ≤ 65536) (o1 : lastRow rs kURL = none) (o2 : lastRow rs kVER = none) (n3 l3 : ByteArray) (x3 : Bool) (o3 : lastRow rs kCON = some ⟨n3, l3, x3, true⟩) : Calls Tryf.prog 9 #[.slice a len cap] w (RestPost w (some (⟨#[]⟩, ⟨#[]⟩))) := by
  have H : Hid (RowsIn w a len rs) := h
  clear h
  have B0 : Hid (Below w.heap.size w w) := Below.refl _ _
  go_enter Tryf.func9, Tryf.ntmps9
  go_wp2_with fail
  refine (last_none w a len cap rs kURL (H.out.below B0.out) hl o1).mono ?_
  rintro e v1 ⟨rfl, hb⟩
  have B1 : Hid (Below w.heap.size w (v1.alloc (.cells #[.string ⟨#[]⟩, .string ⟨#[]⟩, .bool false, .bool false] 41))) := (B0.out.trans (hb.mono B0.out.size)).alloc (Nat.le_trans B0.out.size hb.size) _
  clear hb
  go_wp2_with fail
  refine (last_none (v1.alloc (.cells #[.string ⟨#[]⟩, .string ⟨#[]⟩, .bool false, .bool false] 41)) a len cap rs kVER (H.out.below B1.out) hl o2).mono ?_
  rintro e v2 ⟨rfl, hb⟩
  have B2 : Hid (Below w.heap.size w (v2.alloc (.cells #[.string ⟨#[]⟩, .string ⟨#[]⟩, .bool false, .bool false] 41))) := (B1.out.trans (hb.mono B1.out.size)).alloc (Nat.le_trans B1.out.size hb.size) _
  clear hb
  go_wp2_with fail
  refine (last_some (v2.alloc (.cells #[.string ⟨#[]⟩, .string ⟨#[]⟩, .bool false, .bool false] 41)) a len cap rs kCON (H.out.below B2.out) hl n3 l3 x3 true o3).mono ?_
  rintro e v3 ⟨rfl, hb⟩
  have B3 : Hid (Below w.heap.size w (v3.alloc (.cells #[.string n3, .string l3, .bool x3, .bool true] 41))) := (B2.out.trans (hb.mono B2.out.size)).alloc (Nat.le_trans B2.out.size hb.size) _
  clear hb
  go_wp2
  exact bodyPost_ret (v := .tuple #[.bool true, .string ⟨#[]⟩, .string ⟨#[]⟩]) (by simp [results, Tryf.results9, go_sem]) rfl ⟨rfl, B3.out⟩

set_option maxHeartbeats 1000000 in
theorem rest_NNR (h : RowsIn w a len rs) (hl : len ≤ 65536) (o1 : lastRow rs kURL = none) (o2 : lastRow rs kVER = none) (n3 l3 : ByteArray) (x3 : Bool) (o3 : lastRow rs kCON = some ⟨n3, l3, x3, false⟩) : Calls Tryf.prog 9 #[.slice a len cap] w (RestPost w (none)) := by
  have H : Hid (RowsIn w a len rs) := h
  clear h
  have B0 : Hid (Below w.heap.size w w) := Below.refl _ _
  go_enter Tryf.func9, Tryf.ntmps9
  go_wp2_with fail
  refine (last_none w a len cap rs kURL (H.out.below B0.out) hl o1).mono ?_
  rintro e v1 ⟨rfl, hb⟩
  have B1 : Hid (Below w.heap.size w (v1.alloc (.cells #[.string ⟨#[]⟩, .string ⟨#[]⟩, .bool false, .bool false] 41))) := (B0.out.trans (hb.mono B0.out.size)).alloc (Nat.le_trans B0.out.size hb.size) _
  clear hb
  go_wp2_with fail
  refine (last_none (v1.alloc (.cells #[.string ⟨#[]⟩, .string ⟨#[]⟩, .bool false, .bool false] 41)) a len cap rs kVER (H.out.below B1.out) hl o2).mono ?_
  rintro e v2 ⟨rfl, hb⟩
  have B2 : Hid (Below w.heap.size w (v2.alloc (.cells #[.string ⟨#[]⟩, .string ⟨#[]⟩, .bool false, .bool false] 41))) := (B1.out.trans (hb.mono B1.out.size)).alloc (Nat.le_trans B1.out.size hb.size) _
  clear hb
  go_wp2_with fail
  refine (last_some (v2.alloc (.cells #[.string ⟨#[]⟩, .string ⟨#[]⟩, .bool false, .bool false] 41)) a len cap rs kCON (H.out.below B2.out) hl n3 l3 x3 false o3).mono ?_
  rintro e v3 ⟨rfl, hb⟩
  have B3 : Hid (Below w.heap.size w (v3.alloc (.cells #[.string n3, .string l3, .bool x3, .bool false] 41))) := (B2.out.trans (hb.mono B2.out.size)).alloc (Nat.le_trans B2.out.size hb.size) _
  clear hb
  go_wp2
  exact bodyPost_ret (v := .tuple #[.bool false, .string ⟨#[]⟩, .string ⟨#[]⟩]) (by simp [results, Tryf.results9, go_sem]) rfl ⟨rfl, B3.out⟩

set_option maxHeartbeats 1000000 in
theorem rest_NTN (h : RowsIn w a len rs) (hl : len ≤ 65536) (o1 : lastRow rs kURL = none) (n2 l2 : ByteArray) (o2 : lastRow rs kVER = some ⟨n2, l2, false, false⟩) (o3 : lastRow rs kCON = none) : Calls Tryf.prog 9 #[.slice a len cap] w (RestPost w (some (⟨#[]⟩, l2))) := by
  have H : Hid (RowsIn w a len rs) := h
  clear h
  have B0 : Hid (Below w.heap.size w w) := Below.refl _ _
  go_enter Tryf.func9, Tryf.ntmps9
  go_wp2_with fail
  refine (last_none w a len cap rs kURL (H.out.below B0.out) hl o1).mono ?_
  rintro e v1 ⟨rfl, hb⟩
  have B1 : Hid (Below w.heap.size w (v1.alloc (.cells #[.string ⟨#[]⟩, .string ⟨#[]⟩, .bool false, .bool false] 41))) := (B0.out.trans (hb.mono B0.out.size)).alloc (Nat.le_trans B0.out.size hb.size) _
  clear hb
  go_wp2_with fail
  refine (last_some (v1.alloc (.cells #[.string ⟨#[]⟩, .string ⟨#[]⟩, .bool false, .bool false] 41)) a len cap rs kVER (H.out.below B1.out) hl n2 l2 false false o2).mono ?_
  rintro e v2 ⟨rfl, hb⟩
  have A2 : Hid (Below w.heap.size w (v2.alloc (.cells #[.string n2, .string l2, .bool false, .bool false] 41))) := (B1.out.trans (hb.mono B1.out.size)).alloc (Nat.le_trans B1.out.size hb.size) _
  clear hb
  go_wp2_with fail
  refine (isText (v2.alloc (.cells #[.string n2, .string l2, .bool false, .bool false] 41)) n2 l2 false false true rfl).mono ?_
  rintro e t2 ⟨rfl, hb⟩
  have q2 : t2.cell? ⟨v2.heap.size, 1, none⟩ = some (.string l2) := (hb.cell (p := ⟨v2.heap.size, 1, none⟩) (by simp)).trans (by simp)
  have B2 : Hid (Below w.heap.size w t2) := A2.out.trans (hb.mono A2.out.size)
  clear hb
  go_wp2_with fail
  refine (last_none t2 a len cap rs kCON (H.out.below B2.out) hl o3).mono ?_
  rintro e v3 ⟨rfl, hb⟩
  have B3 : Hid (Below w.heap.size w (v3.alloc (.cells #[.string ⟨#[]⟩, .string ⟨#[]⟩, .bool false, .bool false] 41))) := (B2.out.trans (hb.mono B2.out.size)).alloc (Nat.le_trans B2.out.size hb.size) _
  clear hb
  go_wp2
  exact bodyPost_ret (v := .tuple #[.bool true, .string ⟨#[]⟩, .string l2]) (by simp [results, Tryf.results9, go_sem]) rfl ⟨rfl, B3.out⟩

set_option maxHeartbeats 1000000 in
theorem rest_NTA (h : RowsIn w a len rs) (hl : len ≤ 65536) (o1 : lastRow rs kURL = none) (n2 l2 : ByteArray) (o2 : lastRow rs kVER = some ⟨n2, l2, false, false⟩) (n3 l3 : ByteArray) (x3 : Bool) (o3 : lastRow rs kCON = some ⟨n3, l3, x3, true⟩) : Calls Tryf.prog 9 #[.slice a len cap] w (RestPost w (some (⟨#[]⟩, l2))) := by
  have H : Hid (RowsIn w a len rs) := h
  clear h
  have B0 : Hid (Below w.heap.size w w) := Below.refl _ _
  go_enter Tryf.func9, Tryf.ntmps9
  go_wp2_with fail
  refine (last_none w a len cap rs kURL (H.out.below B0.out) hl o1).mono ?_
  rintro e v1 ⟨rfl, hb⟩
  have B1 : Hid (Below w.heap.size w (v1.alloc (.cells #[.string ⟨#[]⟩, .string ⟨#[]⟩, .bool false, .bool false] 41))) := (B0.out.trans (hb.mono B0.out.size)).alloc (Nat.le_trans B0.out.size hb.size) _
  clear hb
  go_wp2_with fail
  refine (last_some (v1.alloc (.cells #[.string ⟨#[]⟩, .string ⟨#[]⟩, .bool false, .bool false] 41)) a len cap rs kVER (H.out.below B1.out) hl n2 l2 false false o2).mono ?_
  rintro e v2 ⟨rfl, hb⟩
  have A2 : Hid (Below w.heap.size w (v2.alloc (.cells #[.string n2, .string l2, .bool false, .bool false] 41))) := (B1.out.trans (hb.mono B1.out.size)).alloc (Nat.le_trans B1.out.size hb.size) _
  clear hb
  go_wp2_with fail
  refine (isText (v2.alloc (.cells #[.string n2, .string l2, .bool false, .bool false] 41)) n2 l2 false false true rfl).mono ?_
  rintro e t2 ⟨rfl, hb⟩
  have q2 : t2.cell? ⟨v2.heap.size, 1, none⟩ = some (.string l2) := (hb.cell (p := ⟨v2.heap.size, 1, none⟩) (by simp)).trans (by simp)
  have B2 : Hid (Below w.heap.size w t2) := A2.out.trans (hb.mono A2.out.size)
  clear hb
  go_wp2_with fail
  refine (last_some t2 a len cap rs kCON (H.out.below B2.out) hl n3 l3 x3 true o3).mono ?_
  rintro e v3 ⟨rfl, hb⟩
  have B3 : Hid (Below w.heap.size w (v3.alloc (.cells #[.string n3, .string l3, .bool x3, .bool true] 41))) := (B2.out.trans (hb.mono B2.out.size)).alloc (Nat.le_trans B2.out.size hb.size) _
  clear hb
  go_wp2
  exact bodyPost_ret (v := .tuple #[.bool true, .string ⟨#[]⟩, .string l2]) (by simp [results, Tryf.results9, go_sem]) rfl ⟨rfl, B3.out⟩

set_option maxHeartbeats 1000000 in
theorem rest_NTR (h : RowsIn w a len rs) (hl : len ≤ 65536) (o1 : lastRow rs kURL = none) (n2 l2 : ByteArray) (o2 : lastRow rs kVER = some ⟨n2, l2, false, false⟩) (n3 l3 : ByteArray) (x3 : Bool) (o3 : lastRow rs kCON = some ⟨n3, l3, x3, false⟩) : Calls Tryf.prog 9 #[.slice a len cap] w (RestPost w (none)) := by
  have H : Hid (RowsIn w a len rs) := h
  clear h
  have B0 : Hid (Below w.heap.size w w) := Below.refl _ _
  go_enter Tryf.func9, Tryf.ntmps9
  go_wp2_with fail
  refine (last_none w a len cap rs kURL (H.out.below B0.out) hl o1).mono ?_
  rintro e v1 ⟨rfl, hb⟩
  have B1 : Hid (Below w.heap.size w (v1.alloc (.cells #[.string ⟨#[]⟩, .string ⟨#[]⟩, .bool false, .bool false] 41))) := (B0.out.trans (hb.mono B0.out.size)).alloc (Nat.le_trans B0.out.size hb.size) _
  clear hb
  go_wp2_with fail
  refine (last_some (v1.alloc (.cells #[.string ⟨#[]⟩, .string ⟨#[]⟩, .bool false, .bool false] 41)) a len cap rs kVER (H.out.below B1.out) hl n2 l2 false false o2).mono ?_
  rintro e v2 ⟨rfl, hb⟩
  have A2 : Hid (Below w.heap.size w (v2.alloc (.cells #[.string n2, .string l2, .bool false, .bool false] 41))) := (B1.out.trans (hb.mono B1.out.size)).alloc (Nat.le_trans B1.out.size hb.size) _
  clear hb
  go_wp2_with fail
  refine (isText (v2.alloc (.cells #[.string n2, .string l2, .bool false, .bool false] 41)) n2 l2 false false true rfl).mono ?_
  rintro e t2 ⟨rfl, hb⟩
  have q2 : t2.cell? ⟨v2.heap.size, 1, none⟩ = some (.string l2) := (hb.cell (p := ⟨v2.heap.size, 1, none⟩) (by simp)).trans (by simp)
  have B2 : Hid (Below w.heap.size w t2) := A2.out.trans (hb.mono A2.out.size)
  clear hb
  go_wp2_with fail
  refine (last_some t2 a len cap rs kCON (H.out.below B2.out) hl n3 l3 x3 false o3).mono ?_
  rintro e v3 ⟨rfl, hb⟩
  have B3 : Hid (Below w.heap.size w (v3.alloc (.cells #[.string n3, .string l3, .bool x3, .bool false] 41))) := (B2.out.trans (hb.mono B2.out.size)).alloc (Nat.le_trans B2.out.size hb.size) _
  clear hb
  go_wp2
  exact bodyPost_ret (v := .tuple #[.bool false, .string ⟨#[]⟩, .string ⟨#[]⟩]) (by simp [results, Tryf.results9, go_sem]) rfl ⟨rfl, B3.out⟩

set_option maxHeartbeats 1000000 in
theorem rest_TNN (h : RowsIn w a len rs) (hl : len ≤ 65536) (n1 l1 : ByteArray) (o1 : lastRow rs kURL = some ⟨n1, l1, false, false⟩) (o2 : lastRow rs kVER = none) (o3 : lastRow rs kCON = none) : Calls Tryf.prog 9 #[.slice a len cap] w (RestPost w (some (l1, ⟨#[]⟩))) := by
  have H : Hid (RowsIn w a len rs) := h
  clear h
  have B0 : Hid (Below w.heap.size w w) := Below.refl _ _
  go_enter Tryf.func9, Tryf.ntmps9
  go_wp2_with fail
  refine (last_some w a len cap rs kURL (H.out.below B0.out) hl n1 l1 false false o1).mono ?_
  rintro e v1 ⟨rfl, hb⟩
  have A1 : Hid (Below w.heap.size w (v1.alloc (.cells #[.string n1, .string l1, .bool false, .bool false] 41))) := (B0.out.trans (hb.mono B0.out.size)).alloc (Nat.le_trans B0.out.size hb.size) _
  clear hb
  go_wp2_with fail
  refine (isText (v1.alloc (.cells #[.string n1, .string l1, .bool false, .bool false] 41)) n1 l1 false false true rfl).mono ?_
  rintro e t1 ⟨rfl, hb⟩
  have q1 : t1.cell? ⟨v1.heap.size, 1, none⟩ = some (.string l1) := (hb.cell (p := ⟨v1.heap.size, 1, none⟩) (by simp)).trans (by simp)
  have B1 : Hid (Below w.heap.size w t1) := A1.out.trans (hb.mono A1.out.size)
  clear hb
  go_wp2_with fail
  refine (last_none t1 a len cap rs kVER (H.out.below B1.out) hl o2).mono ?_
  rintro e v2 ⟨rfl, hb⟩
  have B2 : Hid (Below w.heap.size w (v2.alloc (.cells #[.string ⟨#[]⟩, .string ⟨#[]⟩, .bool false, .bool false] 41))) := (B1.out.trans (hb.mono B1.out.size)).alloc (Nat.le_trans B1.out.size hb.size) _
  clear hb
  go_wp2_with fail
  refine (last_none (v2.alloc (.cells #[.string ⟨#[]⟩, .string ⟨#[]⟩, .bool false, .bool false] 41)) a len cap rs kCON (H.out.below B2.out) hl o3).mono ?_
  rintro e v3 ⟨rfl, hb⟩
  have B3 : Hid (Below w.heap.size w (v3.alloc (.cells #[.string ⟨#[]⟩, .string ⟨#[]⟩, .bool false, .bool false] 41))) := (B2.out.trans (hb.mono B2.out.size)).alloc (Nat.le_trans B2.out.size hb.size) _
  clear hb
  go_wp2
  exact bodyPost_ret (v := .tuple #[.bool true, .string l1, .string ⟨#[]⟩]) (by simp [results, Tryf.results9, go_sem]) rfl ⟨rfl, B3.out⟩

set_option maxHeartbeats 1000000 in
theorem rest_TNA (h : RowsIn w a len rs) (hl : len ≤ 65536) (n1 l1 : ByteArray) (o1 : lastRow rs kURL = some ⟨n1, l1, false, false⟩) (o2 : lastRow rs kVER = none) (n3 l3 : ByteArray) (x3 : Bool) (o3 : lastRow rs kCON = some ⟨n3, l3, x3, true⟩) : Calls Tryf.prog 9 #[.slice a len cap] w (RestPost w (some (l1, ⟨#[]⟩))) := by
  have H : Hid (RowsIn w a len rs) := h
  clear h
  have B0 : Hid (Below w.heap.size w w) := Below.refl _ _
  go_enter Tryf.func9, Tryf.ntmps9
  go_wp2_with fail
  refine (last_some w a len cap rs kURL (H.out.below B0.out) hl n1 l1 false false o1).mono ?_
  rintro e v1 ⟨rfl, hb⟩
  have A1 : Hid (Below w.heap.size w (v1.alloc (.cells #[.string n1, .string l1, .bool false, .bool false] 41))) := (B0.out.trans (hb.mono B0.out.size)).alloc (Nat.le_trans B0.out.size hb.size) _
  clear hb
  go_wp2_with fail
  refine (isText (v1.alloc (.cells #[.string n1, .string l1, .bool false, .bool false] 41)) n1 l1 false false true rfl).mono ?_
  rintro e t1 ⟨rfl, hb⟩
  have q1 : t1.cell? ⟨v1.heap.size, 1, none⟩ = some (.string l1) := (hb.cell (p := ⟨v1.heap.size, 1, none⟩) (by simp)).trans (by simp)
  have B1 : Hid (Below w.heap.size w t1) := A1.out.trans (hb.mono A1.out.size)
  clear hb
  go_wp2_with fail
  refine (last_none t1 a len cap rs kVER (H.out.below B1.out) hl o2).mono ?_
  rintro e v2 ⟨rfl, hb⟩
  have B2 : Hid (Below w.heap.size w (v2.alloc (.cells #[.string ⟨#[]⟩, .string ⟨#[]⟩, .bool false, .bool false] 41))) := (B1.out.trans (hb.mono B1.out.size)).alloc (Nat.le_trans B1.out.size hb.size) _
  clear hb
  go_wp2_with fail
  refine (last_some (v2.alloc (.cells #[.string ⟨#[]⟩, .string ⟨#[]⟩, .bool false, .bool false] 41)) a len cap rs kCON (H.out.below B2.out) hl n3 l3 x3 true o3).mono ?_
  rintro e v3 ⟨rfl, hb⟩
  have B3 : Hid (Below w.heap.size w (v3.alloc (.cells #[.string n3, .string l3, .bool x3, .bool true] 41))) := (B2.out.trans (hb.mono B2.out.size)).alloc (Nat.le_trans B2.out.size hb.size) _
  clear hb
  go_wp2
  exact bodyPost_ret (v := .tuple #[.bool true, .string l1, .string ⟨#[]⟩]) (by simp [results, Tryf.results9, go_sem]) rfl ⟨rfl, B3.out⟩

set_option maxHeartbeats 1000000 in
theorem rest_TNR (h : RowsIn w a len rs) (hl : len ≤ 65536) (n1 l1 : ByteArray) (o1 : lastRow rs kURL = some ⟨n1, l1, false, false⟩) (o2 : lastRow rs kVER = none) (n3 l3 : ByteArray) (x3 : Bool) (o3 : lastRow rs kCON = some ⟨n3, l3, x3, false⟩) : Calls Tryf.prog 9 #[.slice a len cap] w (RestPost w (none)) := by
  have H : Hid (RowsIn w a len rs) := h
  clear h
  have B0 : Hid (Below w.heap.size w w) := Below.refl _ _
  go_enter Tryf.func9, Tryf.ntmps9
  go_wp2_with fail
  refine (last_some w a len cap rs kURL (H.out.below B0.out) hl n1 l1 false false o1).mono ?_
  rintro e v1 ⟨rfl, hb⟩
  have A1 : Hid (Below w.heap.size w (v1.alloc (.cells #[.string n1, .string l1, .bool false, .bool false] 41))) := (B0.out.trans (hb.mono B0.out.size)).alloc (Nat.le_trans B0.out.size hb.size) _
  clear hb
  go_wp2_with fail
  refine (isText (v1.alloc (.cells #[.string n1, .string l1, .bool false, .bool false] 41)) n1 l1 false false true rfl).mono ?_
  rintro e t1 ⟨rfl, hb⟩
  have q1 : t1.cell? ⟨v1.heap.size, 1, none⟩ = some (.string l1) := (hb.cell (p := ⟨v1.heap.size, 1, none⟩) (by simp)).trans (by simp)
  have B1 : Hid (Below w.heap.size w t1) := A1.out.trans (hb.mono A1.out.size)
  clear hb
  go_wp2_with fail
  refine (last_none t1 a len cap rs kVER (H.out.below B1.out) hl o2).mono ?_
  rintro e v2 ⟨rfl, hb⟩
  have B2 : Hid (Below w.heap.size w (v2.alloc (.cells #[.string ⟨#[]⟩, .string ⟨#[]⟩, .bool false, .bool false] 41))) := (B1.out.trans (hb.mono B1.out.size)).alloc (Nat.le_trans B1.out.size hb.size) _
  clear hb
  go_wp2_with fail
  refine (last_some (v2.alloc (.cells #[.string ⟨#[]⟩, .string ⟨#[]⟩, .bool false, .bool false] 41)) a len cap rs kCON (H.out.below B2.out) hl n3 l3 x3 false o3).mono ?_
  rintro e v3 ⟨rfl, hb⟩
  have B3 : Hid (Below w.heap.size w (v3.alloc (.cells #[.string n3, .string l3, .bool x3, .bool false] 41))) := (B2.out.trans (hb.mono B2.out.size)).alloc (Nat.le_trans B2.out.size hb.size) _
  clear hb
  go_wp2
  exact bodyPost_ret (v := .tuple #[.bool false, .string ⟨#[]⟩, .string ⟨#[]⟩]) (by simp [results, Tryf.results9, go_sem]) rfl ⟨rfl, B3.out⟩

set_option maxHeartbeats 1000000 in
theorem rest_TTN (h : RowsIn w a len rs) (hl : len ≤ 65536) (n1 l1 : ByteArray) (o1 : lastRow rs kURL = some ⟨n1, l1, false, false⟩) (n2 l2 : ByteArray) (o2 : lastRow rs kVER = some ⟨n2, l2, false, false⟩) (o3 : lastRow rs kCON = none) : Calls Tryf.prog 9 #[.slice a len cap] w (RestPost w (some (l1, l2))) := by
  have H : Hid (RowsIn w a len rs) := h
  clear h
  have B0 : Hid (Below w.heap.size w w) := Below.refl _ _
  go_enter Tryf.func9, Tryf.ntmps9
  go_wp2_with fail
  refine (last_some w a len cap rs kURL (H.out.below B0.out) hl n1 l1 false false o1).mono ?_
  rintro e v1 ⟨rfl, hb⟩
  have A1 : Hid (Below w.heap.size w (v1.alloc (.cells #[.string n1, .string l1, .bool false, .bool false] 41))) := (B0.out.trans (hb.mono B0.out.size)).alloc (Nat.le_trans B0.out.size hb.size) _
  clear hb
  go_wp2_with fail
  refine (isText (v1.alloc (.cells #[.string n1, .string l1, .bool false, .bool false] 41)) n1 l1 false false true rfl).mono ?_
  rintro e t1 ⟨rfl, hb⟩
  have q1 : t1.cell? ⟨v1.heap.size, 1, none⟩ = some (.string l1) := (hb.cell (p := ⟨v1.heap.size, 1, none⟩) (by simp)).trans (by simp)
  have B1 : Hid (Below w.heap.size w t1) := A1.out.trans (hb.mono A1.out.size)
  clear hb
  go_wp2_with fail
  refine (last_some t1 a len cap rs kVER (H.out.below B1.out) hl n2 l2 false false o2).mono ?_
  rintro e v2 ⟨rfl, hb⟩
  have A2 : Hid (Below w.heap.size w (v2.alloc (.cells #[.string n2, .string l2, .bool false, .bool false] 41))) := (B1.out.trans (hb.mono B1.out.size)).alloc (Nat.le_trans B1.out.size hb.size) _
  clear hb
  go_wp2_with fail
  refine (isText (v2.alloc (.cells #[.string n2, .string l2, .bool false, .bool false] 41)) n2 l2 false false true rfl).mono ?_
  rintro e t2 ⟨rfl, hb⟩
  have q2 : t2.cell? ⟨v2.heap.size, 1, none⟩ = some (.string l2) := (hb.cell (p := ⟨v2.heap.size, 1, none⟩) (by simp)).trans (by simp)
  have B2 : Hid (Below w.heap.size w t2) := A2.out.trans (hb.mono A2.out.size)
  clear hb
  go_wp2_with fail
  refine (last_none t2 a len cap rs kCON (H.out.below B2.out) hl o3).mono ?_
  rintro e v3 ⟨rfl, hb⟩
  have B3 : Hid (Below w.heap.size w (v3.alloc (.cells #[.string ⟨#[]⟩, .string ⟨#[]⟩, .bool false, .bool false] 41))) := (B2.out.trans (hb.mono B2.out.size)).alloc (Nat.le_trans B2.out.size hb.size) _
  clear hb
  go_wp2
  exact bodyPost_ret (v := .tuple #[.bool true, .string l1, .string l2]) (by simp [results, Tryf.results9, go_sem]) rfl ⟨rfl, B3.out⟩

set_option maxHeartbeats 1000000 in
theorem rest_TTA (h : RowsIn w a len rs) (hl : len ≤ 65536) (n1 l1 : ByteArray) (o1 : lastRow rs kURL = some ⟨n1, l1, false, false⟩) (n2 l2 : ByteArray) (o2 : lastRow rs kVER = some ⟨n2, l2, false, false⟩) (n3 l3 : ByteArray) (x3 : Bool) (o3 : lastRow rs kCON = some ⟨n3, l3, x3, true⟩) : Calls Tryf.prog 9 #[.slice a len cap] w (RestPost w (some (l1, l2))) := by
  have H : Hid (RowsIn w a len rs) := h
  clear h
  have B0 : Hid (Below w.heap.size w w) := Below.refl _ _
  go_enter Tryf.func9, Tryf.ntmps9
  go_wp2_with fail
  refine (last_some w a len cap rs kURL (H.out.below B0.out) hl n1 l1 false false o1).mono ?_
  rintro e v1 ⟨rfl, hb⟩
  have A1 : Hid (Below w.heap.size w (v1.alloc (.cells #[.string n1, .string l1, .bool false, .bool false] 41))) := (B0.out.trans (hb.mono B0.out.size)).alloc (Nat.le_trans B0.out.size hb.size) _
  clear hb
  go_wp2_with fail
  refine (isText (v1.alloc (.cells #[.string n1, .string l1, .bool false, .bool false] 41)) n1 l1 false false true rfl).mono ?_
  rintro e t1 ⟨rfl, hb⟩
  have q1 : t1.cell? ⟨v1.heap.size, 1, none⟩ = some (.string l1) := (hb.cell (p := ⟨v1.heap.size, 1, none⟩) (by simp)).trans (by simp)
  have B1 : Hid (Below w.heap.size w t1) := A1.out.trans (hb.mono A1.out.size)
  clear hb
  go_wp2_with fail
  refine (last_some t1 a len cap rs kVER (H.out.below B1.out) hl n2 l2 false false o2).mono ?_
  rintro e v2 ⟨rfl, hb⟩
  have A2 : Hid (Below w.heap.size w (v2.alloc (.cells #[.string n2, .string l2, .bool false, .bool false] 41))) := (B1.out.trans (hb.mono B1.out.size)).alloc (Nat.le_trans B1.out.size hb.size) _
  clear hb
  go_wp2_with fail
  refine (isText (v2.alloc (.cells #[.string n2, .string l2, .bool false, .bool false] 41)) n2 l2 false false true rfl).mono ?_
  rintro e t2 ⟨rfl, hb⟩
  have q2 : t2.cell? ⟨v2.heap.size, 1, none⟩ = some (.string l2) := (hb.cell (p := ⟨v2.heap.size, 1, none⟩) (by simp)).trans (by simp)
  have B2 : Hid (Below w.heap.size w t2) := A2.out.trans (hb.mono A2.out.size)
  clear hb
  go_wp2_with fail
  refine (last_some t2 a len cap rs kCON (H.out.below B2.out) hl n3 l3 x3 true o3).mono ?_
  rintro e v3 ⟨rfl, hb⟩
  have B3 : Hid (Below w.heap.size w (v3.alloc (.cells #[.string n3, .string l3, .bool x3, .bool true] 41))) := (B2.out.trans (hb.mono B2.out.size)).alloc (Nat.le_trans B2.out.size hb.size) _
  clear hb
  go_wp2
  exact bodyPost_ret (v := .tuple #[.bool true, .string l1, .string l2]) (by simp [results, Tryf.results9, go_sem]) rfl ⟨rfl, B3.out⟩

set_option maxHeartbeats 1000000 in
theorem rest_TTR (h : RowsIn w a len rs) (hl : len ≤ 65536) (n1 l1 : ByteArray) (o1 : lastRow rs kURL = some ⟨n1, l1, false, false⟩) (n2 l2 : ByteArray) (o2 : lastRow rs kVER = some ⟨n2, l2, false, false⟩) (n3 l3 : ByteArray) (x3 : Bool) (o3 : lastRow rs kCON = some ⟨n3, l3, x3, false⟩) : Calls Tryf.prog 9 #[.slice a len cap] w (RestPost w (none)) := by
  have H : Hid (RowsIn w a len rs) := h
  clear h
  have B0 : Hid (Below w.heap.size w w) := Below.refl _ _
  go_enter Tryf.func9, Tryf.ntmps9
  go_wp2_with fail
  refine (last_some w a len cap rs kURL (H.out.below B0.out) hl n1 l1 false false o1).mono ?_
  rintro e v1 ⟨rfl, hb⟩
  have A1 : Hid (Below w.heap.size w (v1.alloc (.cells #[.string n1, .string l1, .bool false, .bool false] 41))) := (B0.out.trans (hb.mono B0.out.size)).alloc (Nat.le_trans B0.out.size hb.size) _
  clear hb
  go_wp2_with fail
  refine (isText (v1.alloc (.cells #[.string n1, .string l1, .bool false, .bool false] 41)) n1 l1 false false true rfl).mono ?_
  rintro e t1 ⟨rfl, hb⟩
  have q1 : t1.cell? ⟨v1.heap.size, 1, none⟩ = some (.string l1) := (hb.cell (p := ⟨v1.heap.size, 1, none⟩) (by simp)).trans (by simp)
  have B1 : Hid (Below w.heap.size w t1) := A1.out.trans (hb.mono A1.out.size)
  clear hb
  go_wp2_with fail
  refine (last_some t1 a len cap rs kVER (H.out.below B1.out) hl n2 l2 false false o2).mono ?_
  rintro e v2 ⟨rfl, hb⟩
  have A2 : Hid (Below w.heap.size w (v2.alloc (.cells #[.string n2, .string l2, .bool false, .bool false] 41))) := (B1.out.trans (hb.mono B1.out.size)).alloc (Nat.le_trans B1.out.size hb.size) _
  clear hb
  go_wp2_with fail
  refine (isText (v2.alloc (.cells #[.string n2, .string l2, .bool false, .bool false] 41)) n2 l2 false false true rfl).mono ?_
  rintro e t2 ⟨rfl, hb⟩
  have q2 : t2.cell? ⟨v2.heap.size, 1, none⟩ = some (.string l2) := (hb.cell (p := ⟨v2.heap.size, 1, none⟩) (by simp)).trans (by simp)
  have B2 : Hid (Below w.heap.size w t2) := A2.out.trans (hb.mono A2.out.size)
  clear hb
  go_wp2_with fail
  refine (last_some t2 a len cap rs kCON (H.out.below B2.out) hl n3 l3 x3 false o3).mono ?_
  rintro e v3 ⟨rfl, hb⟩
  have B3 : Hid (Below w.heap.size w (v3.alloc (.cells #[.string n3, .string l3, .bool x3, .bool false] 41))) := (B2.out.trans (hb.mono B2.out.size)).alloc (Nat.le_trans B2.out.size hb.size) _
  clear hb
  go_wp2
  exact bodyPost_ret (v := .tuple #[.bool false, .string ⟨#[]⟩, .string ⟨#[]⟩]) (by simp [results, Tryf.results9, go_sem]) rfl ⟨rfl, B3.out⟩

theorem rest9 (h : RowsIn w a len rs) (hl : len ≤ 65536) : Calls Tryf.prog 9 #[.slice a len cap] w (RestPost w (restR rs)) := by
  unfold restR
  rcases txt3 (lastRow rs kURL) with ⟨o1, r1⟩ | ⟨n1, l1, o1, r1⟩ | ⟨n1, l1, x1, y1, o1, p1, r1⟩
  case inr.inr => rw [r1]; exact rest_B w a len cap rs h hl n1 l1 x1 y1 p1 o1
  all_goals
    rcases txt3 (lastRow rs kVER) with ⟨o2, r2⟩ | ⟨n2, l2, o2, r2⟩ | ⟨n2, l2, x2, y2, o2, p2, r2⟩
    case inr.inr =>
      rw [r1, r2]
      first
      | exact rest_NB w a len cap rs h hl o1 n2 l2 x2 y2 p2 o2
      | exact rest_TB w a len cap rs h hl n1 l1 o1 n2 l2 x2 y2 p2 o2
    all_goals
      rw [r1, r2]
      cases o3 : lastRow rs kCON with
      | none =>
        first
        | exact rest_NNN w a len cap rs h hl o1 o2 o3
        | exact rest_NTN w a len cap rs h hl o1 n2 l2 o2 o3
        | exact rest_TNN w a len cap rs h hl n1 l1 o1 o2 o3
        | exact rest_TTN w a len cap rs h hl n1 l1 o1 n2 l2 o2 o3
      | some r3 =>
        obtain ⟨n3, l3, x3, y3⟩ := r3
        cases y3
        · first
          | exact rest_NNR w a len cap rs h hl o1 o2 n3 l3 x3 o3
          | exact rest_NTR w a len cap rs h hl o1 n2 l2 o2 n3 l3 x3 o3
          | exact rest_TNR w a len cap rs h hl n1 l1 o1 o2 n3 l3 x3 o3
          | exact rest_TTR w a len cap rs h hl n1 l1 o1 n2 l2 o2 n3 l3 x3 o3
        · first
          | exact rest_NNA w a len cap rs h hl o1 o2 n3 l3 x3 o3
          | exact rest_NTA w a len cap rs h hl o1 n2 l2 o2 n3 l3 x3 o3
          | exact rest_TNA w a len cap rs h hl n1 l1 o1 o2 n3 l3 x3 o3
          | exact rest_TTA w a len cap rs h hl n1 l1 o1 n2 l2 o2 n3 l3 x3 o3
end
end Go.Proofs.Qxb6613562aFmt
