/- encode at the map that the export builds, and the export whole. Conditions: at most 4096 keys of at most 2 to the 20 bytes; the tables lie as the row lists them. -/
import Derived.Test.YtdkccihoecpcaaaGreatFmtObjW
import Derived.Test.YtdkccihoecpcaaaGreatFmtJmS
namespace Go.Proofs.YtdkccihoecpcaaaGreatFmt
open Go.RowKit Go.Maps Go.WideMaps Go
theorem tab_up {B C : Nat} {w : World} (h : Tab B w) (h1 : B ≤ C) (h2 : C ≤ w.heap.size) : Tab C w := by
  obtain ⟨h3, g, hg, hgB, _⟩ := h
  exact ⟨h3, g, hg, Nat.lt_of_lt_of_le hgB h1, h2⟩
set_option maxRecDepth 100000 in
set_option maxHeartbeats 1600000 in
theorem zzObj (ao : Option Addr) (cap : Nat) (ks : List ByteArray) (w : World) (hs : StrsArg w ao cap ks) (hl : ks.length ≤ 4096) (hk : ∀ k, (gets ks k).size ≤ 1048576) (hU : U8 w.heap.size w) (htab : Tab w.heap.size w) :
    Calls Tryz.prog 23 #[.slice ao ks.length cap] w (fun e w' => ∃ S, Rising S ∧ (∀ x i, (x, i) ∈ S ↔ LastAt ks ks.length x i) ∧ e = .returned (.string ⟨(objT S).toArray⟩) ∧ Below w.heap.size w w') := by
  have hmm := run_makeMapN
  have Hs := Lib.hid hs
  have Hk := Lib.hid hk
  have HU := Lib.hid (And.intro hU htab)
  clear hs hk hU htab
  generalize hn : ks.length = n at *
  have HN := Lib.hid hn
  clear hn
  go_enter Tryz.func23, Tryz.ntmps23
  go_wp2

  go_loopw [11] (fun i wr => ∃ k : Nat, k ≤ n ∧ i = .int .i64 k ∧ Hid (wr.ownsMap Tryz.prog 9 anyInt w.heap.size k (Dm ks k) ∧ Below w.heap.size w wr)) (fun i _ => n - (intOf i).toNat)
  case atStart => exact ⟨0, Nat.zero_le _, rfl, Lib.hid ⟨World.ownsMap_made _ _ _ _, (Below.refl _ _).alloc (Nat.le_refl _) _⟩⟩
  case round =>
    obtain ⟨k, hk, rfl, HO⟩ := hrel
    by_cases hlt : k < n
    · obtain ⟨b, off, rfl, hc0⟩ := Hs.out.at' k (by rw [HN.out]; exact hlt)
      have hc : wr.cell? ⟨b, off + k, none⟩ = some (.string (gets ks k)) := cellO_below HO.out.2 (Nat.le_refl _) hc0
      have hkey : keyOf Tryz.prog 9 (.string (gets ks k)) = some (kL (gets ks k)) := keyOf_string_mk Tryz.underlying9 (by have := Hk.out k; unfold maxLen; omega)
      have HX := Lib.hid (show Dm ks (k + 1) = (Dm ks k).put (kL (gets ks k)) (.lit (.int .i64 (k : Int))) from rfl)
      generalize gets ks k = x at *
      clear hc0
      go_wp2_with (at_mapUpdate; refine wpList_mapUpdate_own _ rfl _ _ _ 58 rfl 9 20 lawK Tryz.underlying58 _ w.heap.size k _ rfl HO.out.1 (by unfold maxLen; omega) _ _ _ rfl rfl hkey _ [] (anyInt_mk _) ?_)
      intro w1 hown1 hgrow1
      have R1 := Lib.hid (show w1.ownsMap Tryz.prog 9 anyInt w.heap.size (k + 1) (Dm ks (k + 1)) ∧ Below w.heap.size w w1 from ⟨HX.out ▸ hown1, HO.out.2.grown hgrow1 HO.out.2.size (fun j hj => by cases hj; exact Nat.le_refl _)⟩)
      clear hown1 hgrow1
      go_wp2
      go_roundw
      case rel => exact ⟨k + 1, by omega, by go_num, R1⟩
      case measure => simp [intOf]; omega
    · obtain rfl : k = n := by omega
      go_wp2_with fail
      have hzs : (Tryz.zeroCells66).size = 65 := by kernel_rfl
      have HB1 := Lib.hid (((Below.refl wr.heap.size wr).alloc (Nat.le_refl _) (.cells #[.pointer none, .slice none 0 0] 61)).alloc (by simp) (.cells (Tryz.zeroCells66.setIfInBounds 0 (.iface 59 (.pointer (some ⟨wr.heap.size, 0, none⟩)))) 66))
      have hge := HO.out.2.size
      refine (encS_map (st_newS wr (Tryz.zeroCells66.setIfInBounds 0 (.iface 59 (.pointer (some ⟨wr.heap.size, 0, none⟩)))) (by simp [hzs]) (by simp [hzs])) w.heap.size k k ks ((HO.out.1.alloc _).alloc _) hl Hk.out (u8_below (u8_at (u8_below HU.out.1 HO.out.2)) HB1.out) (tab_below (tab_up (tab_below HU.out.2 HO.out.2) hge (Nat.le_refl _)) HB1.out)).mono ?_
      rintro e w1 ⟨S, hr, hm, rfl, hS, hF⟩
      have HS := Lib.hid (And.intro hS (And.intro hr hm))
      have HB := Lib.hid (HO.out.2.trans (Below.mono (HB1.out.trans hF.below) hge))
      clear hS hF hr hm hzs
      go_wp2_with (go_at_call 34; refine (Tryz.Builder_String_any_k wr.heap.size wr.heap.size (objT S) _ HS.out.1.bld HS.out.1.lew).mono ?_; rintro e w2 ⟨rfl, _, hb2, _⟩)
      go_ret
      exact ⟨S, HS.out.2.1, HS.out.2.2, rfl, HB.out.trans (Below.mono hb2 hge)⟩
end Go.Proofs.YtdkccihoecpcaaaGreatFmt
