/-
  (*fields).get (14), (*fields).fail (15) BY THEIR CONTRACTS.
-/
import Derived.Test.Qxb6613560aFmtKeys
namespace Go.Proofs.Qxb6613560aFmt
open Go.RowKit Go.Extern.Stop Go.Stop Go.Extern

/-- An event line's fields at block F: its keys, the kinds of its values (block V), which were used (block U), the first error. -/
structure FieldsAt (w : World) (F V U : Nat) (kv : Value) (ks : List ByteArray) (kd : List Int) (us : List Bool) (er : Value) : Prop where
  blk : w.heap[F]? = some (.cells #[kv, .slice (some ⟨V, 0, none⟩) ks.length ks.length, .slice (some ⟨U, 0, none⟩) ks.length ks.length, er, .pointer none] 41 (0, 0))
  keys : KeysAt w kv ks
  vals : ∀ j, j < ks.length → w.cell? ⟨V, j * 2, none⟩ = some (.int .u8 (kd.getD j 0)) ∧ w.cell? ⟨V, j * 2 + 1, none⟩ = some (.string ⟨#[]⟩)
  used : w.heap[U]? = some (.cells (us.map Value.bool).toArray 4 (0, 0))
  vlt : V < w.heap.size
  vne : V ≠ U ∧ V ≠ F
  ulen : us.length = ks.length

theorem blk_lt {w : World} {k : Nat} {o : Obj} (h : w.heap[k]? = some o) : k < w.heap.size := (Array.getElem?_eq_some_iff.1 h).1

theorem KeysAt.alloc {w : World} {kv : Value} {ks : List ByteArray} (h : KeysAt w kv ks) (ob : Obj) : KeysAt (w.alloc ob) kv ks := by
  rcases h with h | ⟨K, c, h1, h2, h3⟩
  · exact Or.inl h
  · exact Or.inr ⟨K, c, h1, by simp; omega, fun j hj => by rw [World.cell?_alloc_lt _ _ _ h2]; exact h3 j hj⟩

theorem below_drewN {B : Nat} {w w' : World} (h : Below B w w') (n : Nat) : Below B w (w'.drewN n) := ⟨h.os, h.tape, h.output, h.size, h.block⟩

theorem below_set {B : Nat} {w w1 : World} (h : Below B w w1) (a : Addr) (v : Value) : Below B (w.setCell a v) (w1.setCell a v) := by
  refine ⟨h.os, h.tape, h.output, by simp; exact h.size, fun k hk => ?_⟩
  simp only [World.setCell, Array.getElem?_modify, h.block k hk]

set_option maxHeartbeats 1000000 in
theorem get_none (w : World) (F V U : Nat) (kv : Value) (ks : List ByteArray) (kd : List Int) (us : List Bool) (er : Value) (key : ByteArray) (hf : FieldsAt w F V U kv ks kd us er) (hfit : Fit ks) (hkey : key.size ≤ 9223372036854775807) (hi : idxOf ks key = none) :
    Calls Tryf.prog 14 #[.pointer (some ⟨F, 0, none⟩), .string key] w fun e w' => e = .returned (.tuple #[.agg #[.int .u8 0, .string ⟨#[]⟩], .bool false]) ∧ Below w.heap.size w w' := by
  have cF0 : w.cell? ⟨F, 0, none⟩ = some kv := by rw [cell_of_row _ _ _ _ _ _ hf.blk]; rfl
  have hF := blk_lt hf.blk
  have hF1 : F < w.heap.size + 1 := by omega
  have hK : ∀ a b : Obj, Hid (KeysAt ((w.alloc a).alloc b) kv ks) := fun a b => (hf.keys.alloc a).alloc b
  have HI : Hid (idxI ks key = -1) := idxI_none hi
  clear hf hi
  go_enter Tryf.func14, Tryf.ntmps14
  go_wp2_with (go_at_call 16; refine (index_clos ks key kv w.heap.size _ hfit hkey (by exact (hK _ _).out) (by simp)).mono ?_; rintro e w' ⟨rfl, n, rfl⟩; rw [HI.out])
  exact bodyPost_ret (v := .tuple #[.agg #[.int .u8 0, .string ⟨#[]⟩], .bool false]) (by simp [results, Tryf.results14, go_sem]) rfl ⟨rfl, Below.setCell (Below.setCell (below_drewN (((Below.refl _ w).alloc (Nat.le_refl _) _).alloc (by simp) _) _) (by simp) _) (by simp) _⟩

set_option maxHeartbeats 1000000 in
theorem get_some (w : World) (F V U : Nat) (kv : Value) (ks : List ByteArray) (kd : List Int) (us : List Bool) (er : Value) (key : ByteArray) (i : Nat) (hf : FieldsAt w F V U kv ks kd us er) (hfit : Fit ks) (hkey : key.size ≤ 9223372036854775807) (hi : idxOf ks key = some i) :
    Calls Tryf.prog 14 #[.pointer (some ⟨F, 0, none⟩), .string key] w fun e w' => e = .returned (.tuple #[.agg #[.int .u8 (kd.getD i 0), .string ⟨#[]⟩], .bool true]) ∧ Below w.heap.size (w.setCell ⟨U, i, none⟩ (.bool true)) w' := by
  have hil := idx_lt hi
  have hl := hfit.1
  obtain ⟨kk, hkk⟩ : ∃ kk, kk = kd.getD i 0 := ⟨_, rfl⟩
  rw [← hkk]
  have cF0 : w.cell? ⟨F, 0, none⟩ = some kv := by rw [cell_of_row _ _ _ _ _ _ hf.blk]; rfl
  have cF1 : w.cell? ⟨F, 1, none⟩ = some (.slice (some ⟨V, 0, none⟩) ks.length ks.length) := by rw [cell_of_row _ _ _ _ _ _ hf.blk]; rfl
  have cF2 : w.cell? ⟨F, 2, none⟩ = some (.slice (some ⟨U, 0, none⟩) ks.length ks.length) := by rw [cell_of_row _ _ _ _ _ _ hf.blk]; rfl
  obtain ⟨cV0, cV1⟩ := hf.vals i hil
  rw [← hkk] at cV0
  clear hkk
  obtain ⟨u, cU⟩ : ∃ u, w.cell? ⟨U, i, none⟩ = some u := by
    have := hf.ulen
    rw [cell_of_row _ _ _ _ _ _ hf.used]
    exact ⟨.bool us[i], by simp [show i < us.length by omega]⟩
  have fU : w.frozen? ⟨U, i, none⟩ = false := frozen_of_row _ _ _ _ _ hf.used
  have hF := blk_lt hf.blk
  have hU := blk_lt hf.used
  have hV := hf.vlt
  have hVU : ¬ V = U := hf.vne.1
  have hUV : ¬ U = V := fun e => hVU e.symm
  have hFU : ¬ F = U := fun e => by have h1 := hf.blk; have h2 := hf.used; rw [e, h2] at h1; simp at h1
  have hUF : ¬ U = F := fun e => hFU e.symm
  have hF1 : F < w.heap.size + 1 := by omega
  have hU1 : U < w.heap.size + 1 := by omega
  have hV1 : V < w.heap.size + 1 := by omega
  have hK : ∀ a b : Obj, Hid (KeysAt ((w.alloc a).alloc b) kv ks) := fun a b => (hf.keys.alloc a).alloc b
  have HI : Hid (idxI ks key = (i : Int)) := idxI_some hi
  clear hf hi
  go_enter Tryf.func14, Tryf.ntmps14
  go_wp2_with (go_at_call 16; refine (index_clos ks key kv w.heap.size _ hfit hkey (by exact (hK _ _).out) (by simp)).mono ?_; rintro e w' ⟨rfl, n, rfl⟩; rw [HI.out])
  refine bodyPost_ret (v := .tuple #[.agg #[.int .u8 kk, .string ⟨#[]⟩], .bool true]) (by simp [results, Tryf.results14, go_sem]) rfl ⟨rfl, ?_⟩
  refine Below.setCell (Below.setCell (below_set (below_drewN (((Below.refl _ w).alloc (Nat.le_refl _) _).alloc (by simp) _) _) _ _) (by simp) _) (by simp) _

theorem fail_set (F0 : Interp) (w : World) (F b : Nat) (key : ByteArray) (hF0 : F0.answers w.tape) (hc : w.cell? ⟨b, 0, none⟩ = some (.iface 9 (.string key))) (he : w.cell? ⟨F, 3, none⟩ = some .nilIface) (hfz : w.frozen? ⟨F, 3, none⟩ = false) :
    Calls Tryf.prog 15 #[.pointer (some ⟨F, 0, none⟩), .string ⟨#[37, 113, 32, 105, 115, 32, 110, 111, 116, 32, 116, 114, 117, 101, 32, 111, 114, 32, 102, 97, 108, 115, 101]⟩, .slice (some ⟨b, 0, none⟩) 1 1] w fun e w' =>
      e = .returned (.tuple #[]) ∧ ∃ p, Below w.heap.size (w.setCell ⟨F, 3, none⟩ (.iface 52 (.pointer (some p)))) w' := by
  have hFl := World.block_lt_of_cell? w _ he
  simp only at hFl
  go_enter Tryf.func15, Tryf.ntmps15
  go_wp2_with fail
  refine (errorf_any F0 key b _ hF0 hc).mono ?_
  rintro e w1 ⟨⟨p, rfl⟩, hb⟩
  have he1 : w1.cell? ⟨F, 3, none⟩ = some .nilIface := (hb.cell (p := ⟨F, 3, none⟩) hFl).trans he
  have hf1 : w1.frozen? ⟨F, 3, none⟩ = false := (hb.frozen (p := ⟨F, 3, none⟩) hFl).trans hfz
  have HB : Hid (Below w.heap.size (w.setCell ⟨F, 3, none⟩ (.iface 52 (.pointer (some p)))) (w1.setCell ⟨F, 3, none⟩ (.iface 52 (.pointer (some p))))) := below_set hb _ _
  clear hb
  go_wp2
  go_end0
  exact ⟨rfl, p, HB.out⟩

theorem fail_kept (w : World) (F b : Nat) (t : TypeId) (v : Value) (he : w.cell? ⟨F, 3, none⟩ = some (.iface t v)) :
    Calls Tryf.prog 15 #[.pointer (some ⟨F, 0, none⟩), .string ⟨#[37, 113, 32, 105, 115, 32, 110, 111, 116, 32, 116, 114, 117, 101, 32, 111, 114, 32, 102, 97, 108, 115, 101]⟩, .slice (some ⟨b, 0, none⟩) 1 1] w fun e w' =>
      e = .returned (.tuple #[]) ∧ w' = w := by
  go_enter Tryf.func15, Tryf.ntmps15
  go_wp2
  go_end0
  exact ⟨rfl, rfl⟩
end Go.Proofs.Qxb6613560aFmt
