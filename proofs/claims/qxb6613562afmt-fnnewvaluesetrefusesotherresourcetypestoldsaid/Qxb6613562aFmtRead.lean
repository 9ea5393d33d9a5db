/-
  THE FUNCTIONS THAT READ THE ROWS, BY THEIR CONTRACTS: zzBytes (4), zzMemberBytes (5), zzLastRow (17), zzIsText (18).
-/
import Derived.Test.Qxb6613562aFmtPut
import Derived.Deep.QuietTactic
import Derived.BigQuiet
namespace Go.Proofs.Qxb6613562aFmt
open Go.RowKit Go.Extern.Stop Go.Stop Go.Extern

/-- One member row. -/
structure MRow where
  name : ByteArray
  value : ByteArray
  asB : Bool
  asA : Bool
def MRow.agg (r : MRow) : Value := .agg #[.string r.name, .string r.value, .bool r.asB, .bool r.asA]

/-- The row at offset 'o' of block 'b'. -/
structure RowAt (w : World) (b o : Nat) (r : MRow) : Prop where
  c0 : w.cell? ⟨b, o, none⟩ = some (.string r.name)
  c1 : w.cell? ⟨b, o + 1, none⟩ = some (.string r.value)
  c2 : w.cell? ⟨b, o + 2, none⟩ = some (.bool r.asB)
  c3 : w.cell? ⟨b, o + 3, none⟩ = some (.bool r.asA)
  z0 : r.name.size ≤ 9223372036854775807
  z1 : r.value.size ≤ 9223372036854775807

/-- The rows as they came in. -/
def RowsIn (w : World) (a : Option Addr) (len : Nat) (rs : List MRow) : Prop :=
  rs.length = len ∧ len ≤ 9223372036854775807 ∧ (0 < len → ∃ b off, a = some ⟨b, off, none⟩ ∧ b < w.heap.size ∧ ∀ j r, rs[j]? = some r → RowAt w b (off + j * 4) r)

theorem RowAt.below {w w' : World} {b o : Nat} {r : MRow} (h : RowAt w b o r) (hb : Below w.heap.size w w') (hl : b < w.heap.size) : RowAt w' b o r :=
  ⟨(hb.cell (p := ⟨b, o, none⟩) hl).trans h.c0, (hb.cell (p := ⟨b, o + 1, none⟩) hl).trans h.c1, (hb.cell (p := ⟨b, o + 2, none⟩) hl).trans h.c2, (hb.cell (p := ⟨b, o + 3, none⟩) hl).trans h.c3, h.z0, h.z1⟩
theorem RowsIn.below {w w' : World} {a : Option Addr} {len : Nat} {rs : List MRow} (h : RowsIn w a len rs) (hb : Below w.heap.size w w') : RowsIn w' a len rs := by
  refine ⟨h.1, h.2.1, fun hp => ?_⟩
  obtain ⟨b, off, h1, h2, h3⟩ := h.2.2 hp
  exact ⟨b, off, h1, Nat.lt_of_lt_of_le h2 hb.size, fun j r hj => (h3 j r hj).below hb h2⟩
theorem RowsIn.at {w : World} {a : Option Addr} {len : Nat} {rs : List MRow} (h : RowsIn w a len rs) {k : Nat} (hk : k < len) :
    ∃ b off r, a = some ⟨b, off, none⟩ ∧ rs[k]? = some r ∧ RowAt w b (off + k * 4) r := by
  obtain ⟨b, off, h1, _, h3⟩ := h.2.2 (by omega)
  have hr : k < rs.length := by rw [h.1]; exact hk
  exact ⟨b, off, rs[k], h1, by simp [hr], h3 k _ (by simp [hr])⟩

/-- Some answer, and nothing that was there is turned. -/
def SomeBool (w : World) (e : Ending) (w' : World) : Prop := (∃ b, e = .returned (.bool b)) ∧ w' = w
def SomeInt (w : World) (e : Ending) (w' : World) : Prop := (∃ n, e = .returned (.int .i64 n)) ∧ Below w.heap.size w w'

section
variable (w : World) (a : Option Addr) (len cap : Nat) (rs : List MRow)
set_option maxHeartbeats 2000000 in
theorem bytes4 (other : ByteArray) (h : RowsIn w a len rs) (ho : other.size ≤ 9223372036854775807) : Calls Tryf.prog 4 #[.slice a len cap, .string other] w (SomeBool w) := by
  have hll := h.2.1
  have H : Hid (RowsIn w a len rs) := h
  clear h
  by_cases hl : len ≤ 1048576
  case neg =>
    go_enter Tryf.func4, Tryf.ntmps4
    go_wp2
    go_ret
    exact ⟨⟨_, rfl⟩, rfl⟩
  go_enter Tryf.func4, Tryf.ntmps4
  go_wp2
  go_loop [5, 6] (fun t i => ∃ k n : Nat, k ≤ len ∧ i = .int .i64 k ∧ t = .int .i64 n ∧ n ≤ 1048576) (fun _ i => len - (intOf i).toNat)
  case atStart => exact ⟨0, len, Nat.zero_le _, rfl, by go_num, by omega⟩
  case round =>
    obtain ⟨k, n, hk, rfl, rfl, hn⟩ := hrel
    by_cases hlt : k < len
    · obtain ⟨b, off, r, rfl, hr, ⟨c0, c1, _, _, z0, z1⟩⟩ := H.out.at hlt
      obtain ⟨nm, vl, _, _⟩ := r
      simp only at c0 c1 z0 z1
      clear hr
      by_cases t1 : nm.size ≤ 1048576
      · by_cases t2 : n + nm.size ≤ 1048576
        · by_cases t3 : vl.size ≤ 1048576
          · by_cases t4 : n + nm.size + vl.size ≤ 1048576
            · go_wp2
              go_round
              case rel => exact ⟨k + 1, n + nm.size + vl.size, by omega, by go_num, by go_num, by omega⟩
              case measure => simp [intOf]; omega
            · go_wp2
              go_ret
              exact ⟨⟨_, rfl⟩, rfl⟩
          · go_wp2
            go_ret
            exact ⟨⟨_, rfl⟩, rfl⟩
        · go_wp2
          go_ret
          exact ⟨⟨_, rfl⟩, rfl⟩
      · go_wp2
        go_ret
        exact ⟨⟨_, rfl⟩, rfl⟩
    · by_cases t1 : other.size ≤ 1048576
      · by_cases t2 : n + other.size ≤ 1048576
        · go_wp2
          go_ret
          exact ⟨⟨_, rfl⟩, rfl⟩
        · go_wp2
          go_ret
          exact ⟨⟨_, rfl⟩, rfl⟩
      · go_wp2
        go_ret
        exact ⟨⟨_, rfl⟩, rfl⟩

set_option maxHeartbeats 2000000 in
theorem member5 (m : Nat) (h : RowsIn w a len rs) (hl : len ≤ 65536) (hm : m ≤ 1048576) : Calls Tryf.prog 5 #[.slice a len cap, .int .i64 m] w (SomeInt w) := by
  have H : Hid (RowsIn w a len rs) := h
  clear h
  go_enter Tryf.func5, Tryf.ntmps5
  go_wp2
  go_loopw [1, 5] (fun t i wr => ∃ k n : Nat, k ≤ len ∧ i = .int .i64 k ∧ t = .int .i64 n ∧ n ≤ 1048576 ∧ Below w.heap.size w wr) (fun _ i _ => len - (intOf i).toNat)
  case atStart => exact ⟨0, m, Nat.zero_le _, rfl, rfl, hm, Below.refl _ _⟩
  case round =>
    obtain ⟨k, n, hk, rfl, rfl, hn, hbel⟩ := hrel
    have HB : Hid (Below w.heap.size w wr) := hbel
    clear hbel
    by_cases hlt : k < len
    · obtain ⟨b, off, r, rfl, hr, ⟨c0, c1, _, _, z0, z1⟩⟩ := (H.out.below HB.out).at hlt
      obtain ⟨nm, vl, _, _⟩ := r
      simp only at c0 c1 z0 z1
      clear hr
      by_cases t1 : nm.size ≤ 1048576
      · by_cases t3 : vl.size ≤ 1048576
        · by_cases t4 : n + (40 + nm.size + vl.size) ≤ 1048576
          · go_wp2_with fail
            go_quiet (fail)
            go_wp2
            go_roundw
            case rel => exact ⟨k + 1, n + (40 + nm.size + vl.size), by omega, by go_num, by go_num, by omega, ⟨HB.out.os, HB.out.tape, HB.out.output, HB.out.size, HB.out.block⟩⟩
            case measure => simp [intOf]; omega
          · go_wp2_with fail
            go_quiet (fail)
            go_wp2
            go_ret
            exact ⟨⟨_, rfl⟩, ⟨HB.out.os, HB.out.tape, HB.out.output, HB.out.size, HB.out.block⟩⟩
        · go_wp2
          go_ret
          exact ⟨⟨_, rfl⟩, HB.out⟩
      · go_wp2
        go_ret
        exact ⟨⟨_, rfl⟩, HB.out⟩
    · go_wp2
      go_ret
      exact ⟨⟨_, rfl⟩, HB.out⟩

set_option maxHeartbeats 1000000 in
theorem isText18 (r : MRow) : Calls Tryf.prog 18 #[r.agg] w fun e w' => e = .returned (.bool (!r.asA && !r.asB)) ∧ Below w.heap.size w w' := by
  obtain ⟨nm, vl, x, y⟩ := r
  unfold MRow.agg
  cases y
  all_goals
    go_enter Tryf.func18, Tryf.ntmps18
    go_wp2
    go_ret
    exact ⟨rfl, (Below.refl _ _).alloc (Nat.le_refl _) _⟩
end
end Go.Proofs.Qxb6613562aFmt
