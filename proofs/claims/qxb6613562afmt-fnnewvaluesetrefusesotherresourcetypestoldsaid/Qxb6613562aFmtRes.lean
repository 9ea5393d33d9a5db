/-
  zzResource (6) AND ZZmemberString (10) BY THEIR CONTRACTS.
-/
import Derived.Test.Qxb6613562aFmtRest
import Derived.Test.Qxb6613562aFmtNew
namespace Go.Proofs.Qxb6613562aFmt
open Go.RowKit Go.Extern.Stop Go.Stop Go.Extern

/-- The member that a row lays. -/
def RowFits (r : MRow) (u : Value) : Prop :=
  (r.asA = true ∧ ∃ a n c, u = .iface 37 (.slice a n c)) ∨ (r.asA = false ∧ r.asB = true ∧ u = .iface 4 (.bool true)) ∨ (r.asA = false ∧ r.asB = false ∧ u = .iface 9 (.string r.value))
def FitsO : Option MRow → Option Value → Prop
  | none, v => v = none
  | some r, v => ∃ u, v = some u ∧ RowFits r u
/-- The map holds what the rows lay. -/
def Fits (rs : List MRow) (f : ByteArray → Option Value) : Prop := ∀ key, FitsO (lastRow rs key) (f key)
theorem fits_nil : Fits [] (fun _ => none) := fun _ => rfl
theorem fits_step {rs : List MRow} {k : Nat} {r : MRow} {f : ByteArray → Option Value} {v : Value} (hf : Fits (rs.take k) f) (hr : rs[k]? = some r) (hv : RowFits r v) : Fits (rs.take (k + 1)) (upd f r.name v) := by
  intro key
  rw [take_snoc hr, lastRow_snoc]
  by_cases h : r.name = key
  · subst h
    rw [if_pos rfl, upd_same]
    exact ⟨v, rfl, hv⟩
  · rw [if_neg h, upd_other _ _ _ (Ne.symm h)]
    exact hf key

/-- What zzResource leaves. -/
def ResPost (w : World) (rs : List MRow) (e : Ending) (w' : World) : Prop :=
  ∃ f, e = .returned (.map (some w.heap.size)) ∧ MapAt w' w.heap.size f ∧ Fits rs f ∧ Below w.heap.size w w'

section
variable (w : World) (a : Option Addr) (len cap : Nat) (rs : List MRow)
set_option maxHeartbeats 4000000 in
theorem res6 (h : RowsIn w a len rs) (hl : len ≤ 65536) : Calls Tryf.prog 6 #[.slice a len cap] w (ResPost w rs) := by
  have HN := new11 w
  have H : Hid (RowsIn w a len rs) := h
  clear h
  go_enter Tryf.func6, Tryf.ntmps6
  go_wp2_with fail
  refine HN.mono ?_
  rintro e w1 ⟨rfl, hm, hb⟩
  clear HN
  go_wp2_with fail
  go_loopw [4] (fun i wr => ∃ k : Nat, ∃ f : ByteArray → Option Value, k ≤ len ∧ i = .int .i64 k ∧ MapAt wr w.heap.size f ∧ Fits (rs.take k) f ∧ Below w.heap.size w wr) (fun i _ => len - (intOf i).toNat)
  case atStart => exact ⟨0, fun _ => none, Nat.zero_le _, rfl, hm, fits_nil, hb⟩
  case round =>
    obtain ⟨k, f, hk, rfl, hmk, hfk, hbk⟩ := hrel
    clear hm hb
    have HM : Hid (MapAt wr w.heap.size f ∧ Fits (rs.take k) f ∧ Below w.heap.size w wr) := ⟨hmk, hfk, hbk⟩
    clear hmk hfk hbk
    by_cases hlt : k < len
    · obtain ⟨b, off, hab, hbl, hrows⟩ := H.out.2.2 (by omega)
      subst hab
      have hkr : k < rs.length := by rw [H.out.1]; exact hlt
      obtain ⟨r, hr⟩ : ∃ r, rs[k]? = some r := ⟨rs[k], by simp [hkr]⟩
      have hrow := (hrows k r hr).below HM.out.2.2 hbl
      have HR : Hid (rs[k]? = some r) := hr
      clear hrows hkr hr
      obtain ⟨nm, vl, x, y⟩ := r
      obtain ⟨c0, c1, c2, c3, z0, z1⟩ := hrow
      simp only at c0 c1 c2 c3 z0 z1
      have C : Hid (∀ w', Only w.heap.size wr w' → w'.cell? ⟨b, off + k * 4, none⟩ = some (.string nm) ∧ w'.cell? ⟨b, off + k * 4 + 1, none⟩ = some (.string vl)) := fun w' ho => ⟨ho.cell c0 (by show b ≠ _; omega), ho.cell c1 (by show b ≠ _; omega)⟩
      have OD : Hid (Only w.heap.size wr wr.drew) := Only.of_below (Below.refl _ _).drew
      have HD : Hid (MapAt wr.drew w.heap.size f) := HM.out.1
      cases y
      · cases x
        · go_wp2_with fail
          go_region_held3 (fun w' => w'.cell? ⟨b, off + k * 4, none⟩ = some (.string nm) ∧ w'.cell? ⟨b, off + k * 4 + 1, none⟩ = some (.string vl)) (first | exact C.out _ (Only.refl _ _) | exact C.out _ OD.out | exact HK2.out) (first | (go_at_call 7; refine Calls.mono (put7 _ w.heap.size f nm vl HD.out) ?_; rintro e w2 ⟨rfl, hm2, ho⟩; have HK2 : Hid (w2.cell? ⟨b, off + k * 4, none⟩ = some (.string nm) ∧ w2.cell? ⟨b, off + k * 4 + 1, none⟩ = some (.string vl)) := C.out _ (OD.out.trans ho); have HM2 : Hid (∃ f', MapAt w2 w.heap.size f' ∧ Fits (rs.take (k + 1)) f' ∧ Below w.heap.size w w2) := ⟨_, hm2, fits_step HM.out.2.1 HR.out (Or.inr (Or.inr ⟨rfl, rfl, rfl⟩)), HM.out.2.2.trans ((OD.out.trans ho).below (Nat.le_refl _) HM.out.2.2.size)⟩; clear hm2 ho))
          all_goals
            go_wp2
            go_roundw
            case rel =>
              obtain ⟨f', h1, h2, h3⟩ := HM2.out
              exact ⟨k + 1, f', by omega, by go_num, h1, h2, h3⟩
            case measure => simp [intOf]; omega
        · go_wp2_with fail
          refine (put13 wr w.heap.size f nm HM.out.1).mono ?_
          rintro e w2 ⟨rfl, hm2, ho⟩
          have HM2 : Hid (MapAt w2 w.heap.size (upd f nm (.iface 4 (.bool true))) ∧ Fits (rs.take (k + 1)) (upd f nm (.iface 4 (.bool true))) ∧ Below w.heap.size w w2) := ⟨hm2, fits_step HM.out.2.1 HR.out (Or.inr (Or.inl ⟨rfl, rfl, rfl⟩)), HM.out.2.2.trans (ho.below (Nat.le_refl _) HM.out.2.2.size)⟩
          clear hm2 ho
          go_wp2
          go_roundw
          case rel => exact ⟨k + 1, _, by omega, by go_num, HM2.out.1, HM2.out.2.1, HM2.out.2.2⟩
          case measure => simp [intOf]; omega
      · go_wp2_with fail
        go_region_held3 (fun w' => w'.cell? ⟨b, off + k * 4, none⟩ = some (.string nm) ∧ w'.cell? ⟨b, off + k * 4 + 1, none⟩ = some (.string vl)) (first | exact C.out _ (Only.refl _ _) | exact C.out _ OD.out | exact HK2.out) (first | (go_at_call 12; refine Calls.mono (put12 _ w.heap.size f nm vl HD.out) ?_; rintro e w2 ⟨rfl, hm2, ho⟩; have HK2 : Hid (w2.cell? ⟨b, off + k * 4, none⟩ = some (.string nm) ∧ w2.cell? ⟨b, off + k * 4 + 1, none⟩ = some (.string vl)) := C.out _ (OD.out.trans ho); have HM2 : Hid (∃ f', MapAt w2 w.heap.size f' ∧ Fits (rs.take (k + 1)) f' ∧ Below w.heap.size w w2) := ⟨_, hm2, fits_step HM.out.2.1 HR.out (Or.inl ⟨rfl, _, _, _, rfl⟩), HM.out.2.2.trans ((OD.out.trans ho).below (Nat.le_refl _) HM.out.2.2.size)⟩; clear hm2 ho))
        all_goals
          go_wp2
          go_roundw
          case rel =>
            obtain ⟨f', h1, h2, h3⟩ := HM2.out
            exact ⟨k + 1, f', by omega, by go_num, h1, h2, h3⟩
          case measure => simp [intOf]; omega
    · obtain rfl : k = len := by omega
      have HE : Hid (Fits rs f) := by
        have := HM.out.2.1
        rw [List.take_of_length_le (by rw [H.out.1]; exact Nat.le_refl _)] at this
        exact this
      go_wp2
      go_ret
      exact ⟨f, rfl, HM.out.1, HE.out, HM.out.2.2⟩
end

section
attribute [local go_sem] ta9_str
theorem member10 (w : World) (M : Nat) (g : ByteArray → Option Value) (h : MapAt w M g) (s : ByteArray) (hs : g kRT = some (.iface 9 (.string s))) : Calls Tryf.prog 10 #[.map (some M), .string kRT] w fun e w' => e = .returned (.tuple #[.string s, .bool true]) ∧ w' = w := by
  have hl := run_look h Tryf.underlying25 Tryf.underlying9 zero20 kRT
  rw [hs] at hl
  clear h hs
  go_enter Tryf.func10, Tryf.ntmps10
  go_wp2
  exact bodyPost_ret (v := .tuple #[.string s, .bool true]) (by simp [results, Tryf.results10, go_sem]) rfl ⟨rfl, rfl⟩
end

theorem ne_url : kURL ≠ kRT := by decide
theorem ne_ver : kVER ≠ kRT := by decide
theorem ne_con : kCON ≠ kRT := by decide

theorem fits_shape {rs : List MRow} {f : ByteArray → Option Value} (h : Fits rs f) (v : ByteArray) (k : ByteArray) : Shape ((upd f kRT (.iface 9 (.string v)) k).getD .nilIface) := by
  by_cases hk : k = kRT
  · subst hk
    rw [upd_same]
    exact Or.inr (Or.inl ⟨v, rfl⟩)
  · rw [upd_other _ _ _ hk]
    have := h k
    cases ho : lastRow rs k with
    | none => rw [ho] at this; rw [show f k = none from this]; exact Or.inl rfl
    | some r =>
      rw [ho] at this
      obtain ⟨u, hu, hr⟩ := this
      rw [hu]
      rcases hr with ⟨_, a, n, c, rfl⟩ | ⟨_, _, rfl⟩ | ⟨_, _, rfl⟩
      · exact Or.inr (Or.inr (Or.inr ⟨a, n, c, rfl⟩))
      · exact Or.inr (Or.inr (Or.inl rfl))
      · exact Or.inr (Or.inl ⟨_, rfl⟩)

theorem fits_txt {rs : List MRow} {f : ByteArray → Option Value} (h : Fits rs f) (k : ByteArray) : txt ((f k).getD .nilIface) = txtR (lastRow rs k) := by
  have := h k
  cases ho : lastRow rs k with
  | none => rw [ho] at this; rw [show f k = none from this]; rfl
  | some r =>
    rw [ho] at this
    obtain ⟨u, hu, hr⟩ := this
    rw [hu]
    rcases hr with ⟨h1, a, n, c, rfl⟩ | ⟨h1, h2, rfl⟩ | ⟨h1, h2, rfl⟩
    · simp [txtR, h1, txt]
    · simp [txtR, h1, h2, txt]
    · simp [txtR, h1, h2, txt]

theorem fits_rest {rs : List MRow} {f : ByteArray → Option Value} (h : Fits rs f) (v : ByteArray) : restOf (upd f kRT (.iface 9 (.string v))) = restR rs := by
  unfold restOf restR
  rw [upd_other _ _ _ ne_url, upd_other _ _ _ ne_ver, upd_other _ _ _ ne_con, fits_txt h kURL, fits_txt h kVER]
  congr 1
  funext u
  congr 1
  funext v'
  have := h kCON
  cases ho : lastRow rs kCON with
  | none => rw [ho] at this; rw [show f kCON = none from this]; rfl
  | some r =>
    rw [ho] at this
    obtain ⟨u, hu, hr⟩ := this
    rw [hu]
    rcases hr with ⟨h1, a, n, c, rfl⟩ | ⟨h1, h2, rfl⟩ | ⟨h1, h2, rfl⟩
    · simp [h1]
    · simp [h1]
    · simp [h1]
end Go.Proofs.Qxb6613562aFmt
