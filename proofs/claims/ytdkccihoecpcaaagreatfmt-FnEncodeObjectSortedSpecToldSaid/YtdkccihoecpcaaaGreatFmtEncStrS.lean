/- The escape of a string, as the encoder writes it. Conditions: at most 1048576 bytes; the decoder's tables lie as the row lists them. -/
import Derived.Test.YtdkccihoecpcaaaGreatFmtBldS
import Derived.Test.YtdkccihoecpcaaaGreatFmtU8
import Derived.Test.YtdkccihoecpcaaaGreatFmtEscK
namespace Go.Proofs.YtdkccihoecpcaaaGreatFmt
open Go.RowKit Go
set_option maxRecDepth 100000 in
set_option maxHeartbeats 60000000 in
theorem encStrS {B b eb : Nat} {l : List UInt8} {w : World} (h : StS B b eb l w) (s : ByteArray) (hs : s.size ≤ 1048576) (hl : l.length ≤ 1099511627776) (hU : U8 B w) :
    Calls Tryz.prog 45 #[.pointer (some ⟨eb, 0, none⟩), .string s] w (WrS B b eb (l ++ quo s) (.tuple #[]) w) := by
  have c0 := h.c0
  have H1 := Lib.hid (wbS h 34 (by omega))
  have HU := Lib.hid hU
  clear h hU
  go_enter Tryz.func45, Tryz.ntmps45
  go_wp2_with (go_at_call 283; refine H1.out.mono ?_; rintro e w1 ⟨rfl, hS, hF⟩; have HS := Lib.hid (And.intro hS hF); clear hS hF)
  clear c0 H1
  go_loopw [4, 5] (fun st i wr => ∃ (a k : Nat) (out : List UInt8), a ≤ k ∧ k ≤ s.size ∧ st = .int .i64 (a : Int) ∧ i = .int .i64 (k : Int) ∧ Hid (Due s l a k out) ∧ Hid (StS B b eb out wr ∧ Fr B b eb w wr)) (fun _ i _ => s.size - (intOf i).toNat)
  case atStart => exact ⟨0, 0, _, Nat.le_refl _, Nat.zero_le _, rfl, rfl, Lib.hid (due_start s l), HS⟩
  case round =>
    clear HS
    obtain ⟨a, k, out, hak, hk, rfl, rfl, HD, HS⟩ := hrel
    have c0 := HS.out.1.c0
    have hsub := sub_len s a k hak hk
    have hdl := due_len HD.out
    have HL0 := Lib.hid (show out.length + 100 ≤ 140737488355328 from by omega)
    have HL1 := Lib.hid (show out.length + (s.extract a k).data.toList.length + 100 ≤ 140737488355328 from by
      unfold sub at hsub
      omega)
    have HW1 := Lib.hid (show out.length + (s.extract a k).size ≤ 140737488355328 from by
      unfold sub at hsub
      rw [Lib.size_eq, hsub]
      omega)
    clear hsub hdl
    by_cases hlt : k < s.size
    · have hbl := byte_lt s k
      by_cases ha : (s.get! k).toNat < 128
      · have hg := get!_at s k hlt
        by_cases hpl : 32 ≤ s[k].toNat ∧ s[k].toNat ≤ 126 ∧ s[k].toNat ≠ 34 ∧ s[k].toNat ≠ 92
        · as_aux_lemma =>
            obtain ⟨p1, p2, p3, p4⟩ := hpl
            have HX := Lib.hid (due_keep HD.out hlt ha (by rw [hg]; exact escB_plain _ p1 (by omega) p3 p4))
            have q1 : (32 : Int) ≤ (s[k].toNat : Int) := by omega
            have q2 : (s[k].toNat : Int) ≤ 126 := by omega
            have q3 : ((s[k].toNat : Int) != 34) = true := by rw [bne_iff_ne]; omega
            have q4 : ((s[k].toNat : Int) != 92) = true := by rw [bne_iff_ne]; omega
            clear ha hg hbl p3 p4 p1 p2
            go_wp2
            go_roundw
            case rel => exact ⟨a, k + 1, out, by omega, by omega, rfl, by go_num, HX, HS⟩
            case measure => simp [intOf]; omega
        have hg2 : s.get! k = s[k] := hg
        by_cases e34 : s[k].toNat = 34
        · have e0 : escB (s.get! k) = [92, 34] := by rw [u8_eq hlt 34 e34]; rfl
          have HX := Lib.hid (show Due s l (k + 1) (k + 1) (out ++ (s.extract a k).data.toList ++ [92, 34]) from by have e := due_esc HD.out hlt ha; rw [e0] at e; simpa [sub] using e)
          have HY := Lib.hid (show a = k → Due s l (k + 1) (k + 1) (out ++ [92, 34]) from fun ek => by subst ek; have e := due_esc HD.out hlt ha; rw [e0, sub_self] at e; simpa using e)
          clear ha hg hbl e0 hpl hg2
          by_cases hlk : a < k
          · clear HY
            go_wp2_with fail
            go_region_with (go_at_call 284; refine (wsFromS HS.out.1 HS.out.2 (s.extract a k) HW1.out _ (by first | exact Below.refl _ _ | exact ⟨rfl, rfl, rfl, Nat.le_refl _, fun _ _ => rfl⟩)).mono ?_; rintro e w1 ⟨rfl, hS1, hF1⟩; have chS1 := hS1.c0)
            all_goals as_aux_lemma =>
              all_goals (have HS1 := Lib.hid (And.intro hS1 hF1); clear hS1 hF1)
              all_goals go_wp2_with fail
              all_goals (go_at_call 284; refine (wsFromS HS1.out.1 HS1.out.2 ⟨#[92, 34]⟩ (by have h := HL1.out; have hz : (⟨#[92, 34]⟩ : ByteArray).size = 2 := rfl; rw [hz]; (try simp at h ⊢); omega) _ (by first | exact Below.refl _ _ | exact ⟨rfl, rfl, rfl, Nat.le_refl _, fun _ _ => rfl⟩)).mono ?_; rintro e w2 ⟨rfl, hS2, hF2⟩; have chS2 := hS2.c0)
              all_goals (have HS2 := Lib.hid (And.intro hS2 hF2); clear hS2 hF2)
              all_goals go_wp2
              all_goals go_roundw
              all_goals first | exact ⟨k + 1, k + 1, _, Nat.le_refl _, by omega, by go_num, by go_num, HX, HS2⟩ | (simp [intOf]; omega)
          · as_aux_lemma =>
              obtain rfl : k = a := by omega
              have HY' := Lib.hid (HY.out rfl)
              clear HY HX
              go_wp2_with fail
              (go_at_call 284; refine (wsFromS HS.out.1 HS.out.2 ⟨#[92, 34]⟩ (by have h := HL0.out; have hz : (⟨#[92, 34]⟩ : ByteArray).size = 2 := rfl; rw [hz]; (try simp at h ⊢); omega) _ (by first | exact Below.refl _ _ | exact ⟨rfl, rfl, rfl, Nat.le_refl _, fun _ _ => rfl⟩)).mono ?_; rintro e w2 ⟨rfl, hS2, hF2⟩; have chS2 := hS2.c0)
              (have HS2 := Lib.hid (And.intro hS2 hF2); clear hS2 hF2)
              go_wp2
              all_goals go_roundw
              all_goals first | exact ⟨k + 1, k + 1, _, Nat.le_refl _, by omega, by go_num, by go_num, HY', HS2⟩ | (simp [intOf]; omega)
        have n34 : ((s[k].toNat : Int) == 34) = false := by rw [beq_eq_false_iff_ne]; omega
        by_cases e92 : s[k].toNat = 92
        · have e0 : escB (s.get! k) = [92, 92] := by rw [u8_eq hlt 92 e92]; rfl
          have HX := Lib.hid (show Due s l (k + 1) (k + 1) (out ++ (s.extract a k).data.toList ++ [92, 92]) from by have e := due_esc HD.out hlt ha; rw [e0] at e; simpa [sub] using e)
          have HY := Lib.hid (show a = k → Due s l (k + 1) (k + 1) (out ++ [92, 92]) from fun ek => by subst ek; have e := due_esc HD.out hlt ha; rw [e0, sub_self] at e; simpa using e)
          clear ha hg hbl e0 hpl hg2 e34 n34
          by_cases hlk : a < k
          · clear HY
            go_wp2_with fail
            go_region_with (go_at_call 284; refine (wsFromS HS.out.1 HS.out.2 (s.extract a k) HW1.out _ (by first | exact Below.refl _ _ | exact ⟨rfl, rfl, rfl, Nat.le_refl _, fun _ _ => rfl⟩)).mono ?_; rintro e w1 ⟨rfl, hS1, hF1⟩; have chS1 := hS1.c0)
            all_goals as_aux_lemma =>
              all_goals (have HS1 := Lib.hid (And.intro hS1 hF1); clear hS1 hF1)
              all_goals go_wp2_with fail
              all_goals (go_at_call 284; refine (wsFromS HS1.out.1 HS1.out.2 ⟨#[92, 92]⟩ (by have h := HL1.out; have hz : (⟨#[92, 92]⟩ : ByteArray).size = 2 := rfl; rw [hz]; (try simp at h ⊢); omega) _ (by first | exact Below.refl _ _ | exact ⟨rfl, rfl, rfl, Nat.le_refl _, fun _ _ => rfl⟩)).mono ?_; rintro e w2 ⟨rfl, hS2, hF2⟩; have chS2 := hS2.c0)
              all_goals (have HS2 := Lib.hid (And.intro hS2 hF2); clear hS2 hF2)
              all_goals go_wp2
              all_goals go_roundw
              all_goals first | exact ⟨k + 1, k + 1, _, Nat.le_refl _, by omega, by go_num, by go_num, HX, HS2⟩ | (simp [intOf]; omega)
          · as_aux_lemma =>
              obtain rfl : k = a := by omega
              have HY' := Lib.hid (HY.out rfl)
              clear HY HX
              go_wp2_with fail
              (go_at_call 284; refine (wsFromS HS.out.1 HS.out.2 ⟨#[92, 92]⟩ (by have h := HL0.out; have hz : (⟨#[92, 92]⟩ : ByteArray).size = 2 := rfl; rw [hz]; (try simp at h ⊢); omega) _ (by first | exact Below.refl _ _ | exact ⟨rfl, rfl, rfl, Nat.le_refl _, fun _ _ => rfl⟩)).mono ?_; rintro e w2 ⟨rfl, hS2, hF2⟩; have chS2 := hS2.c0)
              (have HS2 := Lib.hid (And.intro hS2 hF2); clear hS2 hF2)
              go_wp2
              all_goals go_roundw
              all_goals first | exact ⟨k + 1, k + 1, _, Nat.le_refl _, by omega, by go_num, by go_num, HY', HS2⟩ | (simp [intOf]; omega)
        have n92 : ((s[k].toNat : Int) == 92) = false := by rw [beq_eq_false_iff_ne]; omega
        by_cases e8 : s[k].toNat = 8
        · have e0 : escB (s.get! k) = [92, 98] := by rw [u8_eq hlt 8 e8]; rfl
          have HX := Lib.hid (show Due s l (k + 1) (k + 1) (out ++ (s.extract a k).data.toList ++ [92, 98]) from by have e := due_esc HD.out hlt ha; rw [e0] at e; simpa [sub] using e)
          have HY := Lib.hid (show a = k → Due s l (k + 1) (k + 1) (out ++ [92, 98]) from fun ek => by subst ek; have e := due_esc HD.out hlt ha; rw [e0, sub_self] at e; simpa using e)
          clear ha hg hbl e0 hpl hg2 e34 n34 e92 n92
          by_cases hlk : a < k
          · clear HY
            go_wp2_with fail
            go_region_with (go_at_call 284; refine (wsFromS HS.out.1 HS.out.2 (s.extract a k) HW1.out _ (by first | exact Below.refl _ _ | exact ⟨rfl, rfl, rfl, Nat.le_refl _, fun _ _ => rfl⟩)).mono ?_; rintro e w1 ⟨rfl, hS1, hF1⟩; have chS1 := hS1.c0)
            all_goals as_aux_lemma =>
              all_goals (have HS1 := Lib.hid (And.intro hS1 hF1); clear hS1 hF1)
              all_goals go_wp2_with fail
              all_goals (go_at_call 284; refine (wsFromS HS1.out.1 HS1.out.2 ⟨#[92, 98]⟩ (by have h := HL1.out; have hz : (⟨#[92, 98]⟩ : ByteArray).size = 2 := rfl; rw [hz]; (try simp at h ⊢); omega) _ (by first | exact Below.refl _ _ | exact ⟨rfl, rfl, rfl, Nat.le_refl _, fun _ _ => rfl⟩)).mono ?_; rintro e w2 ⟨rfl, hS2, hF2⟩; have chS2 := hS2.c0)
              all_goals (have HS2 := Lib.hid (And.intro hS2 hF2); clear hS2 hF2)
              all_goals go_wp2
              all_goals go_roundw
              all_goals first | exact ⟨k + 1, k + 1, _, Nat.le_refl _, by omega, by go_num, by go_num, HX, HS2⟩ | (simp [intOf]; omega)
          · as_aux_lemma =>
              obtain rfl : k = a := by omega
              have HY' := Lib.hid (HY.out rfl)
              clear HY HX
              go_wp2_with fail
              (go_at_call 284; refine (wsFromS HS.out.1 HS.out.2 ⟨#[92, 98]⟩ (by have h := HL0.out; have hz : (⟨#[92, 98]⟩ : ByteArray).size = 2 := rfl; rw [hz]; (try simp at h ⊢); omega) _ (by first | exact Below.refl _ _ | exact ⟨rfl, rfl, rfl, Nat.le_refl _, fun _ _ => rfl⟩)).mono ?_; rintro e w2 ⟨rfl, hS2, hF2⟩; have chS2 := hS2.c0)
              (have HS2 := Lib.hid (And.intro hS2 hF2); clear hS2 hF2)
              go_wp2
              all_goals go_roundw
              all_goals first | exact ⟨k + 1, k + 1, _, Nat.le_refl _, by omega, by go_num, by go_num, HY', HS2⟩ | (simp [intOf]; omega)
        have n8 : ((s[k].toNat : Int) == 8) = false := by rw [beq_eq_false_iff_ne]; omega
        by_cases e12 : s[k].toNat = 12
        · have e0 : escB (s.get! k) = [92, 102] := by rw [u8_eq hlt 12 e12]; rfl
          have HX := Lib.hid (show Due s l (k + 1) (k + 1) (out ++ (s.extract a k).data.toList ++ [92, 102]) from by have e := due_esc HD.out hlt ha; rw [e0] at e; simpa [sub] using e)
          have HY := Lib.hid (show a = k → Due s l (k + 1) (k + 1) (out ++ [92, 102]) from fun ek => by subst ek; have e := due_esc HD.out hlt ha; rw [e0, sub_self] at e; simpa using e)
          clear ha hg hbl e0 hpl hg2 e34 n34 e92 n92 e8 n8
          by_cases hlk : a < k
          · clear HY
            go_wp2_with fail
            go_region_with (go_at_call 284; refine (wsFromS HS.out.1 HS.out.2 (s.extract a k) HW1.out _ (by first | exact Below.refl _ _ | exact ⟨rfl, rfl, rfl, Nat.le_refl _, fun _ _ => rfl⟩)).mono ?_; rintro e w1 ⟨rfl, hS1, hF1⟩; have chS1 := hS1.c0)
            all_goals as_aux_lemma =>
              all_goals (have HS1 := Lib.hid (And.intro hS1 hF1); clear hS1 hF1)
              all_goals go_wp2_with fail
              all_goals (go_at_call 284; refine (wsFromS HS1.out.1 HS1.out.2 ⟨#[92, 102]⟩ (by have h := HL1.out; have hz : (⟨#[92, 102]⟩ : ByteArray).size = 2 := rfl; rw [hz]; (try simp at h ⊢); omega) _ (by first | exact Below.refl _ _ | exact ⟨rfl, rfl, rfl, Nat.le_refl _, fun _ _ => rfl⟩)).mono ?_; rintro e w2 ⟨rfl, hS2, hF2⟩; have chS2 := hS2.c0)
              all_goals (have HS2 := Lib.hid (And.intro hS2 hF2); clear hS2 hF2)
              all_goals go_wp2
              all_goals go_roundw
              all_goals first | exact ⟨k + 1, k + 1, _, Nat.le_refl _, by omega, by go_num, by go_num, HX, HS2⟩ | (simp [intOf]; omega)
          · as_aux_lemma =>
              obtain rfl : k = a := by omega
              have HY' := Lib.hid (HY.out rfl)
              clear HY HX
              go_wp2_with fail
              (go_at_call 284; refine (wsFromS HS.out.1 HS.out.2 ⟨#[92, 102]⟩ (by have h := HL0.out; have hz : (⟨#[92, 102]⟩ : ByteArray).size = 2 := rfl; rw [hz]; (try simp at h ⊢); omega) _ (by first | exact Below.refl _ _ | exact ⟨rfl, rfl, rfl, Nat.le_refl _, fun _ _ => rfl⟩)).mono ?_; rintro e w2 ⟨rfl, hS2, hF2⟩; have chS2 := hS2.c0)
              (have HS2 := Lib.hid (And.intro hS2 hF2); clear hS2 hF2)
              go_wp2
              all_goals go_roundw
              all_goals first | exact ⟨k + 1, k + 1, _, Nat.le_refl _, by omega, by go_num, by go_num, HY', HS2⟩ | (simp [intOf]; omega)
        have n12 : ((s[k].toNat : Int) == 12) = false := by rw [beq_eq_false_iff_ne]; omega
        by_cases e10 : s[k].toNat = 10
        · have e0 : escB (s.get! k) = [92, 110] := by rw [u8_eq hlt 10 e10]; rfl
          have HX := Lib.hid (show Due s l (k + 1) (k + 1) (out ++ (s.extract a k).data.toList ++ [92, 110]) from by have e := due_esc HD.out hlt ha; rw [e0] at e; simpa [sub] using e)
          have HY := Lib.hid (show a = k → Due s l (k + 1) (k + 1) (out ++ [92, 110]) from fun ek => by subst ek; have e := due_esc HD.out hlt ha; rw [e0, sub_self] at e; simpa using e)
          clear ha hg hbl e0 hpl hg2 e34 n34 e92 n92 e8 n8 e12 n12
          by_cases hlk : a < k
          · clear HY
            go_wp2_with fail
            go_region_with (go_at_call 284; refine (wsFromS HS.out.1 HS.out.2 (s.extract a k) HW1.out _ (by first | exact Below.refl _ _ | exact ⟨rfl, rfl, rfl, Nat.le_refl _, fun _ _ => rfl⟩)).mono ?_; rintro e w1 ⟨rfl, hS1, hF1⟩; have chS1 := hS1.c0)
            all_goals as_aux_lemma =>
              all_goals (have HS1 := Lib.hid (And.intro hS1 hF1); clear hS1 hF1)
              all_goals go_wp2_with fail
              all_goals (go_at_call 284; refine (wsFromS HS1.out.1 HS1.out.2 ⟨#[92, 110]⟩ (by have h := HL1.out; have hz : (⟨#[92, 110]⟩ : ByteArray).size = 2 := rfl; rw [hz]; (try simp at h ⊢); omega) _ (by first | exact Below.refl _ _ | exact ⟨rfl, rfl, rfl, Nat.le_refl _, fun _ _ => rfl⟩)).mono ?_; rintro e w2 ⟨rfl, hS2, hF2⟩; have chS2 := hS2.c0)
              all_goals (have HS2 := Lib.hid (And.intro hS2 hF2); clear hS2 hF2)
              all_goals go_wp2
              all_goals go_roundw
              all_goals first | exact ⟨k + 1, k + 1, _, Nat.le_refl _, by omega, by go_num, by go_num, HX, HS2⟩ | (simp [intOf]; omega)
          · as_aux_lemma =>
              obtain rfl : k = a := by omega
              have HY' := Lib.hid (HY.out rfl)
              clear HY HX
              go_wp2_with fail
              (go_at_call 284; refine (wsFromS HS.out.1 HS.out.2 ⟨#[92, 110]⟩ (by have h := HL0.out; have hz : (⟨#[92, 110]⟩ : ByteArray).size = 2 := rfl; rw [hz]; (try simp at h ⊢); omega) _ (by first | exact Below.refl _ _ | exact ⟨rfl, rfl, rfl, Nat.le_refl _, fun _ _ => rfl⟩)).mono ?_; rintro e w2 ⟨rfl, hS2, hF2⟩; have chS2 := hS2.c0)
              (have HS2 := Lib.hid (And.intro hS2 hF2); clear hS2 hF2)
              go_wp2
              all_goals go_roundw
              all_goals first | exact ⟨k + 1, k + 1, _, Nat.le_refl _, by omega, by go_num, by go_num, HY', HS2⟩ | (simp [intOf]; omega)
        have n10 : ((s[k].toNat : Int) == 10) = false := by rw [beq_eq_false_iff_ne]; omega
        by_cases e13 : s[k].toNat = 13
        · have e0 : escB (s.get! k) = [92, 114] := by rw [u8_eq hlt 13 e13]; rfl
          have HX := Lib.hid (show Due s l (k + 1) (k + 1) (out ++ (s.extract a k).data.toList ++ [92, 114]) from by have e := due_esc HD.out hlt ha; rw [e0] at e; simpa [sub] using e)
          have HY := Lib.hid (show a = k → Due s l (k + 1) (k + 1) (out ++ [92, 114]) from fun ek => by subst ek; have e := due_esc HD.out hlt ha; rw [e0, sub_self] at e; simpa using e)
          clear ha hg hbl e0 hpl hg2 e34 n34 e92 n92 e8 n8 e12 n12 e10 n10
          by_cases hlk : a < k
          · clear HY
            go_wp2_with fail
            go_region_with (go_at_call 284; refine (wsFromS HS.out.1 HS.out.2 (s.extract a k) HW1.out _ (by first | exact Below.refl _ _ | exact ⟨rfl, rfl, rfl, Nat.le_refl _, fun _ _ => rfl⟩)).mono ?_; rintro e w1 ⟨rfl, hS1, hF1⟩; have chS1 := hS1.c0)
            all_goals as_aux_lemma =>
              all_goals (have HS1 := Lib.hid (And.intro hS1 hF1); clear hS1 hF1)
              all_goals go_wp2_with fail
              all_goals (go_at_call 284; refine (wsFromS HS1.out.1 HS1.out.2 ⟨#[92, 114]⟩ (by have h := HL1.out; have hz : (⟨#[92, 114]⟩ : ByteArray).size = 2 := rfl; rw [hz]; (try simp at h ⊢); omega) _ (by first | exact Below.refl _ _ | exact ⟨rfl, rfl, rfl, Nat.le_refl _, fun _ _ => rfl⟩)).mono ?_; rintro e w2 ⟨rfl, hS2, hF2⟩; have chS2 := hS2.c0)
              all_goals (have HS2 := Lib.hid (And.intro hS2 hF2); clear hS2 hF2)
              all_goals go_wp2
              all_goals go_roundw
              all_goals first | exact ⟨k + 1, k + 1, _, Nat.le_refl _, by omega, by go_num, by go_num, HX, HS2⟩ | (simp [intOf]; omega)
          · as_aux_lemma =>
              obtain rfl : k = a := by omega
              have HY' := Lib.hid (HY.out rfl)
              clear HY HX
              go_wp2_with fail
              (go_at_call 284; refine (wsFromS HS.out.1 HS.out.2 ⟨#[92, 114]⟩ (by have h := HL0.out; have hz : (⟨#[92, 114]⟩ : ByteArray).size = 2 := rfl; rw [hz]; (try simp at h ⊢); omega) _ (by first | exact Below.refl _ _ | exact ⟨rfl, rfl, rfl, Nat.le_refl _, fun _ _ => rfl⟩)).mono ?_; rintro e w2 ⟨rfl, hS2, hF2⟩; have chS2 := hS2.c0)
              (have HS2 := Lib.hid (And.intro hS2 hF2); clear hS2 hF2)
              go_wp2
              all_goals go_roundw
              all_goals first | exact ⟨k + 1, k + 1, _, Nat.le_refl _, by omega, by go_num, by go_num, HY', HS2⟩ | (simp [intOf]; omega)
        have n13 : ((s[k].toNat : Int) == 13) = false := by rw [beq_eq_false_iff_ne]; omega
        by_cases e9 : s[k].toNat = 9
        · have e0 : escB (s.get! k) = [92, 116] := by rw [u8_eq hlt 9 e9]; rfl
          have HX := Lib.hid (show Due s l (k + 1) (k + 1) (out ++ (s.extract a k).data.toList ++ [92, 116]) from by have e := due_esc HD.out hlt ha; rw [e0] at e; simpa [sub] using e)
          have HY := Lib.hid (show a = k → Due s l (k + 1) (k + 1) (out ++ [92, 116]) from fun ek => by subst ek; have e := due_esc HD.out hlt ha; rw [e0, sub_self] at e; simpa using e)
          clear ha hg hbl e0 hpl hg2 e34 n34 e92 n92 e8 n8 e12 n12 e10 n10 e13 n13
          by_cases hlk : a < k
          · clear HY
            go_wp2_with fail
            go_region_with (go_at_call 284; refine (wsFromS HS.out.1 HS.out.2 (s.extract a k) HW1.out _ (by first | exact Below.refl _ _ | exact ⟨rfl, rfl, rfl, Nat.le_refl _, fun _ _ => rfl⟩)).mono ?_; rintro e w1 ⟨rfl, hS1, hF1⟩; have chS1 := hS1.c0)
            all_goals as_aux_lemma =>
              all_goals (have HS1 := Lib.hid (And.intro hS1 hF1); clear hS1 hF1)
              all_goals go_wp2_with fail
              all_goals (go_at_call 284; refine (wsFromS HS1.out.1 HS1.out.2 ⟨#[92, 116]⟩ (by have h := HL1.out; have hz : (⟨#[92, 116]⟩ : ByteArray).size = 2 := rfl; rw [hz]; (try simp at h ⊢); omega) _ (by first | exact Below.refl _ _ | exact ⟨rfl, rfl, rfl, Nat.le_refl _, fun _ _ => rfl⟩)).mono ?_; rintro e w2 ⟨rfl, hS2, hF2⟩; have chS2 := hS2.c0)
              all_goals (have HS2 := Lib.hid (And.intro hS2 hF2); clear hS2 hF2)
              all_goals go_wp2
              all_goals go_roundw
              all_goals first | exact ⟨k + 1, k + 1, _, Nat.le_refl _, by omega, by go_num, by go_num, HX, HS2⟩ | (simp [intOf]; omega)
          · as_aux_lemma =>
              obtain rfl : k = a := by omega
              have HY' := Lib.hid (HY.out rfl)
              clear HY HX
              go_wp2_with fail
              (go_at_call 284; refine (wsFromS HS.out.1 HS.out.2 ⟨#[92, 116]⟩ (by have h := HL0.out; have hz : (⟨#[92, 116]⟩ : ByteArray).size = 2 := rfl; rw [hz]; (try simp at h ⊢); omega) _ (by first | exact Below.refl _ _ | exact ⟨rfl, rfl, rfl, Nat.le_refl _, fun _ _ => rfl⟩)).mono ?_; rintro e w2 ⟨rfl, hS2, hF2⟩; have chS2 := hS2.c0)
              (have HS2 := Lib.hid (And.intro hS2 hF2); clear hS2 hF2)
              go_wp2
              all_goals go_roundw
              all_goals first | exact ⟨k + 1, k + 1, _, Nat.le_refl _, by omega, by go_num, by go_num, HY', HS2⟩ | (simp [intOf]; omega)
        have n9 : ((s[k].toNat : Int) == 9) = false := by rw [beq_eq_false_iff_ne]; omega
        have hctl : s[k].toNat < 32 ∨ s[k].toNat = 127 := by rw [hg] at ha; omega
        have e0 : escB (s.get! k) = [92, 117, 48, 48, hx (s[k].toNat / 16), hx (s[k].toNat % 16)] := by
          rcases hctl with h1 | h1
          · rw [hg]; exact escB_ctl s[k] h1 e8 e12 e10 e13 e9
          · rw [u8_eq hlt 127 h1]; rw [h1]; rfl
        have HX := Lib.hid (show Due s l (k + 1) (k + 1) (out ++ (s.extract a k).data.toList ++ [92, 117, 48, 48] ++ [hx (s[k].toNat / 16)] ++ [hx (s[k].toNat % 16)]) from by have e := due_esc HD.out hlt ha; rw [e0] at e; simpa [sub] using e)
        have HY := Lib.hid (show a = k → Due s l (k + 1) (k + 1) (out ++ [92, 117, 48, 48] ++ [hx (s[k].toNat / 16)] ++ [hx (s[k].toNat % 16)]) from fun ek => by subst ek; have e := due_esc HD.out hlt ha; rw [e0, sub_self] at e; simpa using e)
        have q1 : (s[k].toNat : Int) < 128 := by rw [hg] at ha; omega
        have q0 : (s[k].toNat : Int) < 32 ∨ (126 : Int) < (s[k].toNat : Int) := by omega
        clear ha hg hbl e0 hpl hg2 hctl e34 e92 e8 e12 e10 e13 e9
        obtain ⟨y1, hy1⟩ : ∃ y, y = s[k].toNat / 16 := ⟨_, rfl⟩
        obtain ⟨y2, hy2⟩ : ∃ y, y = s[k].toNat % 16 := ⟨_, rfl⟩
        have hi1 := hexS_run y1 (by omega)
        have hi2 := hexS_run y2 (by omega)
        have hv1 : (s[k].toNat : Int) / 16 = (y1 : Int) := by omega
        have hv2 : (s[k].toNat : Int) % 16 = (y2 : Int) := by omega
        have hv3 : bits .and .u8 (s[k].toNat : Int) 15 = (y2 : Int) := by rw [hy2]; exact and15 _ (by omega)
        have hv4 : (s[k].toNat : Int).tmod 16 = (y2 : Int) := by rw [Int.tmod_eq_emod_of_nonneg (by omega)]; omega
        rw [← hy1, ← hy2] at HX HY
        clear hy1 hy2
        rcases q0 with q0 | q0
        · by_cases hlk : a < k
          · clear HY
            go_wp2_with fail
            go_region_with (go_at_call 284; refine (wsFromS HS.out.1 HS.out.2 (s.extract a k) HW1.out _ (by first | exact Below.refl _ _ | exact ⟨rfl, rfl, rfl, Nat.le_refl _, fun _ _ => rfl⟩)).mono ?_; rintro e w1 ⟨rfl, hS1, hF1⟩; have chS1 := hS1.c0)
            all_goals (have HS1 := Lib.hid (And.intro hS1 hF1); clear hS1 hF1)
            all_goals go_wp2_with fail
            all_goals (go_at_call 284; refine (wsFromS HS1.out.1 HS1.out.2 ⟨#[92, 117, 48, 48]⟩ (by have h := HL1.out; have hz : (⟨#[92, 117, 48, 48]⟩ : ByteArray).size = 4 := rfl; rw [hz]; (try simp at h ⊢); omega) _ (by first | exact Below.refl _ _ | exact ⟨rfl, rfl, rfl, Nat.le_refl _, fun _ _ => rfl⟩)).mono ?_; rintro e w2 ⟨rfl, hS2, hF2⟩; have chS2 := hS2.c0)
            all_goals (have HS2 := Lib.hid (And.intro hS2 hF2); clear hS2 hF2)
            all_goals go_wp2_with fail
            all_goals go_region_with (go_at_call 283; refine (wbFromS HS2.out.1 HS2.out.2 (hx y1) (by have h := HL1.out; (try simp at h ⊢); omega) _ (by first | exact Below.refl _ _ | exact ⟨rfl, rfl, rfl, Nat.le_refl _, fun _ _ => rfl⟩)).mono ?_; rintro e w3 ⟨rfl, hS3, hF3⟩; have chS3 := hS3.c0)
            all_goals (have HS3 := Lib.hid (And.intro hS3 hF3); clear hS3 hF3)
            all_goals go_wp2_with fail
            all_goals go_region_with (go_at_call 283; refine (wbFromS HS3.out.1 HS3.out.2 (hx y2) (by have h := HL1.out; (try simp at h ⊢); omega) _ (by first | exact Below.refl _ _ | exact ⟨rfl, rfl, rfl, Nat.le_refl _, fun _ _ => rfl⟩)).mono ?_; rintro e w4 ⟨rfl, hS4, hF4⟩; have chS4 := hS4.c0)
            all_goals as_aux_lemma =>
              all_goals (have HS4 := Lib.hid (And.intro hS4 hF4); clear hS4 hF4)
              all_goals go_wp2
              all_goals go_roundw
              all_goals first | exact ⟨k + 1, k + 1, _, Nat.le_refl _, by omega, by go_num, by go_num, HX, HS4⟩ | (simp [intOf]; omega)
          · obtain rfl : k = a := by omega
            have HY' := Lib.hid (HY.out rfl)
            clear HY HX
            go_wp2_with fail
            (go_at_call 284; refine (wsFromS HS.out.1 HS.out.2 ⟨#[92, 117, 48, 48]⟩ (by have h := HL0.out; have hz : (⟨#[92, 117, 48, 48]⟩ : ByteArray).size = 4 := rfl; rw [hz]; (try simp at h ⊢); omega) _ (by first | exact Below.refl _ _ | exact ⟨rfl, rfl, rfl, Nat.le_refl _, fun _ _ => rfl⟩)).mono ?_; rintro e w2 ⟨rfl, hS2, hF2⟩; have chS2 := hS2.c0)
            (have HS2 := Lib.hid (And.intro hS2 hF2); clear hS2 hF2)
            go_wp2_with fail
            go_region_with (go_at_call 283; refine (wbFromS HS2.out.1 HS2.out.2 (hx y1) (by have h := HL0.out; (try simp at h ⊢); omega) _ (by first | exact Below.refl _ _ | exact ⟨rfl, rfl, rfl, Nat.le_refl _, fun _ _ => rfl⟩)).mono ?_; rintro e w3 ⟨rfl, hS3, hF3⟩; have chS3 := hS3.c0)
            all_goals (have HS3 := Lib.hid (And.intro hS3 hF3); clear hS3 hF3)
            all_goals go_wp2_with fail
            all_goals go_region_with (go_at_call 283; refine (wbFromS HS3.out.1 HS3.out.2 (hx y2) (by have h := HL0.out; (try simp at h ⊢); omega) _ (by first | exact Below.refl _ _ | exact ⟨rfl, rfl, rfl, Nat.le_refl _, fun _ _ => rfl⟩)).mono ?_; rintro e w4 ⟨rfl, hS4, hF4⟩; have chS4 := hS4.c0)
            all_goals as_aux_lemma =>
              all_goals (have HS4 := Lib.hid (And.intro hS4 hF4); clear hS4 hF4)
              all_goals go_wp2
              all_goals go_roundw
              all_goals first | exact ⟨k + 1, k + 1, _, Nat.le_refl _, by omega, by go_num, by go_num, HY', HS4⟩ | (simp [intOf]; omega)
        · by_cases hlk : a < k
          · clear HY
            go_wp2_with fail
            go_region_with (go_at_call 284; refine (wsFromS HS.out.1 HS.out.2 (s.extract a k) HW1.out _ (by first | exact Below.refl _ _ | exact ⟨rfl, rfl, rfl, Nat.le_refl _, fun _ _ => rfl⟩)).mono ?_; rintro e w1 ⟨rfl, hS1, hF1⟩; have chS1 := hS1.c0)
            all_goals (have HS1 := Lib.hid (And.intro hS1 hF1); clear hS1 hF1)
            all_goals go_wp2_with fail
            all_goals (go_at_call 284; refine (wsFromS HS1.out.1 HS1.out.2 ⟨#[92, 117, 48, 48]⟩ (by have h := HL1.out; have hz : (⟨#[92, 117, 48, 48]⟩ : ByteArray).size = 4 := rfl; rw [hz]; (try simp at h ⊢); omega) _ (by first | exact Below.refl _ _ | exact ⟨rfl, rfl, rfl, Nat.le_refl _, fun _ _ => rfl⟩)).mono ?_; rintro e w2 ⟨rfl, hS2, hF2⟩; have chS2 := hS2.c0)
            all_goals (have HS2 := Lib.hid (And.intro hS2 hF2); clear hS2 hF2)
            all_goals go_wp2_with fail
            all_goals go_region_with (go_at_call 283; refine (wbFromS HS2.out.1 HS2.out.2 (hx y1) (by have h := HL1.out; (try simp at h ⊢); omega) _ (by first | exact Below.refl _ _ | exact ⟨rfl, rfl, rfl, Nat.le_refl _, fun _ _ => rfl⟩)).mono ?_; rintro e w3 ⟨rfl, hS3, hF3⟩; have chS3 := hS3.c0)
            all_goals (have HS3 := Lib.hid (And.intro hS3 hF3); clear hS3 hF3)
            all_goals go_wp2_with fail
            all_goals go_region_with (go_at_call 283; refine (wbFromS HS3.out.1 HS3.out.2 (hx y2) (by have h := HL1.out; (try simp at h ⊢); omega) _ (by first | exact Below.refl _ _ | exact ⟨rfl, rfl, rfl, Nat.le_refl _, fun _ _ => rfl⟩)).mono ?_; rintro e w4 ⟨rfl, hS4, hF4⟩; have chS4 := hS4.c0)
            all_goals as_aux_lemma =>
              all_goals (have HS4 := Lib.hid (And.intro hS4 hF4); clear hS4 hF4)
              all_goals go_wp2
              all_goals go_roundw
              all_goals first | exact ⟨k + 1, k + 1, _, Nat.le_refl _, by omega, by go_num, by go_num, HX, HS4⟩ | (simp [intOf]; omega)
          · obtain rfl : k = a := by omega
            have HY' := Lib.hid (HY.out rfl)
            clear HY HX
            go_wp2_with fail
            (go_at_call 284; refine (wsFromS HS.out.1 HS.out.2 ⟨#[92, 117, 48, 48]⟩ (by have h := HL0.out; have hz : (⟨#[92, 117, 48, 48]⟩ : ByteArray).size = 4 := rfl; rw [hz]; (try simp at h ⊢); omega) _ (by first | exact Below.refl _ _ | exact ⟨rfl, rfl, rfl, Nat.le_refl _, fun _ _ => rfl⟩)).mono ?_; rintro e w2 ⟨rfl, hS2, hF2⟩; have chS2 := hS2.c0)
            (have HS2 := Lib.hid (And.intro hS2 hF2); clear hS2 hF2)
            go_wp2_with fail
            go_region_with (go_at_call 283; refine (wbFromS HS2.out.1 HS2.out.2 (hx y1) (by have h := HL0.out; (try simp at h ⊢); omega) _ (by first | exact Below.refl _ _ | exact ⟨rfl, rfl, rfl, Nat.le_refl _, fun _ _ => rfl⟩)).mono ?_; rintro e w3 ⟨rfl, hS3, hF3⟩; have chS3 := hS3.c0)
            all_goals (have HS3 := Lib.hid (And.intro hS3 hF3); clear hS3 hF3)
            all_goals go_wp2_with fail
            all_goals go_region_with (go_at_call 283; refine (wbFromS HS3.out.1 HS3.out.2 (hx y2) (by have h := HL0.out; (try simp at h ⊢); omega) _ (by first | exact Below.refl _ _ | exact ⟨rfl, rfl, rfl, Nat.le_refl _, fun _ _ => rfl⟩)).mono ?_; rintro e w4 ⟨rfl, hS4, hF4⟩; have chS4 := hS4.c0)
            all_goals as_aux_lemma =>
              all_goals (have HS4 := Lib.hid (And.intro hS4 hF4); clear hS4 hF4)
              all_goals go_wp2
              all_goals go_roundw
              all_goals first | exact ⟨k + 1, k + 1, _, Nat.le_refl _, by omega, by go_num, by go_num, HY', HS4⟩ | (simp [intOf]; omega)
      · have hge : 128 ≤ (s.get! k).toNat := by omega
        have hg := get!_at s k hlt
        have i128 : (128 : Int) ≤ (s[k].toNat : Int) := by rw [← hg]; omega
        have HDec := Lib.hid (decode_any s k hlt B _ (u8_below HU.out HS.out.2.below))
        have hc := wid_cases s k hlt hge
        by_cases hw : wid s k = 1
        · obtain ⟨_, hr⟩ : wid s k = 1 ∧ (Utf8.decode s k).1 = 65533 := by omega
          rw [hw, hr] at HDec
          have HX := Lib.hid (show Due s l (k + 1) (k + 1) (out ++ (s.extract a k).data.toList ++ [92, 117, 102, 102, 102, 100]) from by have e := due_bad HD.out hlt hge hw; simpa [sub] using e)
          have HY := Lib.hid (show a = k → Due s l (k + 1) (k + 1) (out ++ [92, 117, 102, 102, 102, 100]) from fun ek => by subst ek; have e := due_bad HD.out hlt hge hw; rw [sub_self] at e; simpa using e)
          clear hw hr hc hg hge ha hbl
          by_cases hlk : a < k
          · clear HY
            go_wp2_with (go_at_call 57; refine HDec.out.mono ?_; rintro e w1 ⟨rfl, hb1⟩; have HS1 := Lib.hid (show StS B b eb out w1 ∧ Fr B b eb w w1 from ⟨(HS.out.1.grown hb1).1, HS.out.2.trans (HS.out.1.grown hb1).2⟩); clear hb1; have c1 := HS1.out.1.c0)
            go_region_with (go_at_call 284; refine (wsFromS HS1.out.1 HS1.out.2 (s.extract a k) HW1.out _ (by first | exact Below.refl _ _ | exact ⟨rfl, rfl, rfl, Nat.le_refl _, fun _ _ => rfl⟩)).mono ?_; rintro e w2 ⟨rfl, hS2, hF2⟩; have chS2 := hS2.c0)
            all_goals as_aux_lemma =>
              all_goals (have HS2 := Lib.hid (And.intro hS2 hF2); clear hS2 hF2)
              all_goals go_wp2_with fail
              all_goals (go_at_call 284; refine (wsFromS HS2.out.1 HS2.out.2 ⟨#[92, 117, 102, 102, 102, 100]⟩ (by have h := HL1.out; have hz : (⟨#[92, 117, 102, 102, 102, 100]⟩ : ByteArray).size = 6 := rfl; rw [hz]; (try simp at h ⊢); omega) _ (by first | exact Below.refl _ _ | exact ⟨rfl, rfl, rfl, Nat.le_refl _, fun _ _ => rfl⟩)).mono ?_; rintro e w3 ⟨rfl, hS3, hF3⟩; have chS3 := hS3.c0)
              all_goals (have HS3 := Lib.hid (And.intro hS3 hF3); clear hS3 hF3)
              all_goals go_wp2
              all_goals go_roundw
              all_goals first | exact ⟨k + 1, k + 1, _, Nat.le_refl _, by omega, by go_num, by go_num, HX, HS3⟩ | (simp [intOf]; omega)
          · as_aux_lemma =>
              obtain rfl : k = a := by omega
              have HY' := Lib.hid (HY.out rfl)
              clear HY HX
              go_wp2_with (go_at_call 57; refine HDec.out.mono ?_; rintro e w1 ⟨rfl, hb1⟩; have HS1 := Lib.hid (show StS B b eb out w1 ∧ Fr B b eb w w1 from ⟨(HS.out.1.grown hb1).1, HS.out.2.trans (HS.out.1.grown hb1).2⟩); clear hb1; have c1 := HS1.out.1.c0)
              (go_at_call 284; refine (wsFromS HS1.out.1 HS1.out.2 ⟨#[92, 117, 102, 102, 102, 100]⟩ (by have h := HL0.out; have hz : (⟨#[92, 117, 102, 102, 102, 100]⟩ : ByteArray).size = 6 := rfl; rw [hz]; (try simp at h ⊢); omega) _ (by first | exact Below.refl _ _ | exact ⟨rfl, rfl, rfl, Nat.le_refl _, fun _ _ => rfl⟩)).mono ?_; rintro e w3 ⟨rfl, hS3, hF3⟩; have chS3 := hS3.c0)
              have HS3 := Lib.hid (And.intro hS3 hF3)
              clear hS3 hF3
              go_wp2
              go_roundw
              all_goals first | exact ⟨k + 1, k + 1, _, Nat.le_refl _, by omega, by go_num, by go_num, HY', HS3⟩ | (simp [intOf]; omega)
        · as_aux_lemma =>
            have HX := Lib.hid (due_good HD.out hlt hge hw)
            obtain ⟨n, hn⟩ : ∃ n, n = wid s k := ⟨_, rfl⟩
            obtain ⟨r, hr⟩ : ∃ r, r = (Utf8.decode s k).1 := ⟨_, rfl⟩
            rw [← hn] at HX HDec hc hw
            rw [← hr] at HDec
            have m1 : 2 ≤ n := by omega
            have m2 : k + n ≤ s.size := by omega
            have n1 : ((n : Int) == 1) = false := by rw [beq_eq_false_iff_ne]; omega
            clear hw hc hg hge ha hbl hn hr
            by_cases er : r = 65533
            · have er2 : ((r : Int) == 65533) = true := by rw [er]; rfl
              clear er
              go_wp2_with (go_at_call 57; refine HDec.out.mono ?_; rintro e w1 ⟨rfl, hb1⟩; have HS1 := Lib.hid (show StS B b eb out w1 ∧ Fr B b eb w w1 from ⟨(HS.out.1.grown hb1).1, HS.out.2.trans (HS.out.1.grown hb1).2⟩); clear hb1)
              go_roundw
              case rel => exact ⟨a, k + n, out, by omega, m2, rfl, by go_num, HX, HS1⟩
              case measure => simp [intOf]; omega
            · have er2 : ((r : Int) == 65533) = false := by rw [beq_eq_false_iff_ne]; omega
              clear er
              go_wp2_with (go_at_call 57; refine HDec.out.mono ?_; rintro e w1 ⟨rfl, hb1⟩; have HS1 := Lib.hid (show StS B b eb out w1 ∧ Fr B b eb w w1 from ⟨(HS.out.1.grown hb1).1, HS.out.2.trans (HS.out.1.grown hb1).2⟩); clear hb1)
              go_roundw
              case rel => exact ⟨a, k + n, out, by omega, m2, rfl, by go_num, HX, HS1⟩
              case measure => simp [intOf]; omega
    · obtain rfl : k = s.size := by omega
      have HX := Lib.hid (show out ++ (s.extract a s.size).data.toList ++ [34] = l ++ quo s from due_end HD.out)
      have HY := Lib.hid (show a = s.size → out ++ [34] = l ++ quo s from fun ek => by have e := due_end HD.out; rw [ek, sub_self] at e; simpa using e)
      by_cases hlk : a < s.size
      · clear HY
        go_wp2_with fail
        go_region_with (go_at_call 284; refine (wsFromS HS.out.1 HS.out.2 (s.extract a s.size) HW1.out _ (by first | exact Below.refl _ _ | exact ⟨rfl, rfl, rfl, Nat.le_refl _, fun _ _ => rfl⟩)).mono ?_; rintro e w1 ⟨rfl, hS1, hF1⟩; have chS1 := hS1.c0)
        all_goals as_aux_lemma =>
          all_goals (have HS1 := Lib.hid (And.intro hS1 hF1); clear hS1 hF1)
          all_goals go_wp2_with fail
          all_goals (go_at_call 283; refine (wbFromS HS1.out.1 HS1.out.2 34 (by have h := HL1.out; (try simp at h ⊢); omega) _ (by first | exact Below.refl _ _ | exact ⟨rfl, rfl, rfl, Nat.le_refl _, fun _ _ => rfl⟩)).mono ?_; rintro e w2 ⟨rfl, hS2, hF2⟩; have chS2 := hS2.c0)
          all_goals (have HS2 := Lib.hid (And.intro hS2 hF2); clear hS2 hF2)
          all_goals go_wp2
          all_goals go_end0
          all_goals exact ⟨rfl, by rw [← HX.out]; exact HS2.out.1, HS2.out.2⟩
      · as_aux_lemma =>
          obtain rfl : a = s.size := by omega
          have HY' := Lib.hid (HY.out rfl)
          clear HY HX
          go_wp2_with fail
          (go_at_call 283; refine (wbFromS HS.out.1 HS.out.2 34 (by have h := HL0.out; (try simp at h ⊢); omega) _ (by first | exact Below.refl _ _ | exact ⟨rfl, rfl, rfl, Nat.le_refl _, fun _ _ => rfl⟩)).mono ?_; rintro e w2 ⟨rfl, hS2, hF2⟩; have chS2 := hS2.c0)
          have HS2 := Lib.hid (And.intro hS2 hF2)
          clear hS2 hF2
          go_wp2
          go_end0
          exact ⟨rfl, by rw [← HY'.out]; exact HS2.out.1, HS2.out.2⟩
end Go.Proofs.YtdkccihoecpcaaaGreatFmt
