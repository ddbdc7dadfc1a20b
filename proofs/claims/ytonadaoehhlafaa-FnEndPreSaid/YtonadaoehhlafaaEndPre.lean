/- The walk of hasEndPre: it tells whether one of four closing tags stands in a line. Condition: the line has at most 2000 bytes, and no tag begins within an open one. -/
import Derived.Test.YtonadaoehhlafaaPre
namespace Go.Proofs.Ytonadaoehhlafaa.W
open Go.RowKit Go.PlainAid

set_option maxHeartbeats 4000000 in
set_option maxRecDepth 100000 in
theorem hasEndPre_c (s : ByteArray) (hs : s.size ≤ 2000) (ha : ApartTo s s.size) (w : World) :
    Calls Try.prog 55 #[.string s] w fun e w1 => e = .returned (.bool (endsB s)) ∧ Below w.heap.size w w1 := by
  have hb := get_bt s
  replace ha := Lib.hid ha
  have hmk : ∀ w, (Instr.makeSlice 45 (.int .i64 0) (.int .i64 8)).run Try.prog w = .ok (.slice (some ⟨w.heap.size, 0, none⟩) 0 8) (w.alloc (.cells #[.int .u8 0, .int .u8 0, .int .u8 0, .int .u8 0, .int .u8 0, .int .u8 0, .int .u8 0, .int .u8 0] 5)) := fun _ => by kernel_rfl
  go_enter Try.func55, Try.ntmps55
  go_wp2
  go_loopw [3] (fun i wr => ∃ k : Nat, k ≤ s.size + 1 ∧ i = .int .i64 k ∧ Hid (NoneTo s k) ∧ Below w.heap.size w wr) (fun i _ => s.size + 1 - (intOf i).toNat)
  case atStart => exact ⟨0, Nat.zero_le _, rfl, fun p hp => by omega, Below.refl _ _⟩
  case round =>
    obtain ⟨k, hk, rfl, hN, hB⟩ := hrel
    have hz := hB.size
    by_cases hlt : k < s.size
    · by_cases htag : bt s k = 60 ∧ k + 1 < s.size ∧ bt s (k + 1) = 47
      · obtain ⟨t1, t2, t3⟩ := htag
        have t1' : (bt s k == 60) = true := by simp [t1]
        have t3' : (bt s (k + 1) == 47) = true := by simp [t3]
        replace t1 := Lib.hid t1
        replace t3 := Lib.hid t3
        go_wp2_with fail
        clear t1' t3'
        obtain ⟨wo, rfl⟩ : ∃ wo : World, wo = wr := ⟨_, rfl⟩
        go_loopw [4, 3] (fun v i wr2 => ∃ (j : Nat) (a : Option Addr) (cap : Nat) (L : List UInt8), v = .slice a L.length cap ∧ i = .int .i64 (k + 2 + j : Nat) ∧ L.length ≤ j ∧ j ≤ L.length ∧ Hid (L = seg s (k + 2) j ∧ ∀ t, t < j → smallB (bt s (k + 2 + t)) = true) ∧ k + 2 + j ≤ s.size ∧ j ≤ 8 ∧ OwnB wr2 w.heap.size (.slice a L.length cap) L ∧ Below w.heap.size w wr2) (fun _ i _ => s.size + 1 - (intOf i).toNat)
        case atStart => exact ⟨0, _, _, [], rfl, by go_num, Nat.le_refl _, Nat.le_refl _, ⟨rfl, fun t ht => by omega⟩, by omega, by omega, OwnB.made _ 8 (by omega) (by unfold maxLen; omega) rfl, hB.alloc (by omega) _⟩
        case round =>
          clear hB
          obtain ⟨j, a, cap, L, rfl, rfl, hl1, hl2, hL, hq, hj8, hO, hBr⟩ := hrel
          obtain ⟨wr2, hwr2⟩ : ∃ wr2 : World, wr2 = wr := ⟨_, rfl⟩
          subst hwr2
          have hz2 := hBr.size
          have b0 := bt_nonneg s (k + 2 + j)
          have b1 := bt_le s (k + 2 + j)
          by_cases hgo : k + 2 + j < s.size ∧ L.length < 8
          · obtain ⟨hgo1, hgo2⟩ := hgo
            by_cases hcap : 65 ≤ bt s (k + 2 + j) ∧ bt s (k + 2 + j) ≤ 90
            · have hl := Lib.hid (lowI_cap hcap)
              have hsm : Hid (smallB (bt s (k + 2 + j)) = true) := (smallB_iff _).2 (by rw [lowI_cap hcap]; omega)
              obtain ⟨c0, c1⟩ := hcap
              go_wp2_with (at_builtin; refine append_byte rfl _ _ rfl w.heap.size _ L rfl (hO.alloc _) ⟨wr2.heap.size, 0, none⟩ (bt s (k + 2 + j) + 32) (by omega) (by omega) rfl (by rw [World.cell?_alloc_at _ _ _ _ rfl]; rfl) (by omega) (by simp; omega) ?_)
              intro v' w1 hown hgrow
              have hB' : Below w.heap.size w w1 := (hBr.alloc (by omega) _).grown hgrow (by simp; omega) (fun j hj => (hO.lt j hj).1)
              have hL' : Hid (L ++ [UInt8.ofNat (bt s (k + 2 + j) + 32).toNat] = seg s (k + 2) (j + 1) ∧ ∀ t, t < j + 1 → smallB (bt s (k + 2 + t)) = true) := by
                refine ⟨by rw [seg, ← hL.out.1, hl.out], fun t ht => ?_⟩
                by_cases e : t = j
                · subst e; exact hsm.out
                · exact hL.out.2 t (by omega)
              have hlen : (L ++ [UInt8.ofNat (bt s (k + 2 + j) + 32).toNat]).length = L.length + 1 := by simp
              obtain ⟨M, hM⟩ : ∃ M, M = L ++ [UInt8.ofNat (bt s (k + 2 + j) + 32).toNat] := ⟨_, rfl⟩
              rw [← hM] at hown hL' hlen
              obtain ⟨a', cap', rfl⟩ := hown.val
              have hlen1 : M.length ≤ j + 1 := by omega
              have hlen2 : j + 1 ≤ M.length := by omega
              replace hM := Lib.hid hM
              clear hgrow hO hBr hlen
              go_wp2
              go_roundw
              case rel => exact ⟨j + 1, a', cap', M, rfl, by go_num, hlen1, hlen2, hL', by omega, by omega, hown, hB'⟩
              case measure => simp [intOf]; omega
            · have hl := Lib.hid (lowI_not hcap)
              by_cases hsl : 97 ≤ bt s (k + 2 + j) ∧ bt s (k + 2 + j) ≤ 122
              · have hsm : Hid (smallB (bt s (k + 2 + j)) = true) := (smallB_iff _).2 (by rw [lowI_not hcap]; exact hsl)
                obtain ⟨c0, c1⟩ := hsl
                clear hcap
                go_wp2_with (at_builtin; refine append_byte rfl _ _ rfl w.heap.size _ L rfl (hO.alloc _) ⟨wr2.heap.size, 0, none⟩ (bt s (k + 2 + j)) (by omega) (by omega) rfl (by rw [World.cell?_alloc_at _ _ _ _ rfl]; rfl) (by omega) (by simp; omega) ?_)
                intro v' w1 hown hgrow
                have hB' : Below w.heap.size w w1 := (hBr.alloc (by omega) _).grown hgrow (by simp; omega) (fun j hj => (hO.lt j hj).1)
                have hL' : Hid (L ++ [UInt8.ofNat (bt s (k + 2 + j)).toNat] = seg s (k + 2) (j + 1) ∧ ∀ t, t < j + 1 → smallB (bt s (k + 2 + t)) = true) := by
                  refine ⟨by rw [seg, ← hL.out.1, hl.out], fun t ht => ?_⟩
                  by_cases e : t = j
                  · subst e; exact hsm.out
                  · exact hL.out.2 t (by omega)
                have hlen : (L ++ [UInt8.ofNat (bt s (k + 2 + j)).toNat]).length = L.length + 1 := by simp
                obtain ⟨M, hM⟩ : ∃ M, M = L ++ [UInt8.ofNat (bt s (k + 2 + j)).toNat] := ⟨_, rfl⟩
                rw [← hM] at hown hL' hlen
                obtain ⟨a', cap', rfl⟩ := hown.val
                have hlen1 : M.length ≤ j + 1 := by omega
                have hlen2 : j + 1 ≤ M.length := by omega
                replace hM := Lib.hid hM
                clear hgrow hO hBr hlen
                go_wp2
                go_roundw
                case rel => exact ⟨j + 1, a', cap', M, rfl, by go_num, hlen1, hlen2, hL', by omega, by omega, hown, hB'⟩
                case measure => simp [intOf]; omega
              · have hsm : Hid (smallB (bt s (k + 2 + j)) = false) := by
                  show smallB (bt s (k + 2 + j)) = false
                  cases h : smallB (bt s (k + 2 + j))
                  · rfl
                  · rw [smallB_iff, lowI_not hcap] at h; exact absurd h hsl
                rcases Int.lt_or_le (bt s (k + 2 + j)) 65 with c65 | c65
                · clear hcap hsl
                  have hG : Hid (Gathered s k j) := ⟨t1.out, t3.out, hq, hj8, hL.out.2, .inr (.inr hsm.out)⟩
                  have hcv := hO.str
                  have hend : k + 2 + j < s.size := hgo1
                  by_cases hgt : bt s (k + 2 + j) = 62
                  · have hgt1 : (bt s (k + 2 + j) == 62) = true := by simp [hgt]
                    replace hgt := Lib.hid hgt
                    by_cases hmem : L ∈ names
                    · have hf : Hid (endsB s = true) := ends_found hG.out hend hgt.out (by rw [← hL.out.1]; exact hmem)
                      simp only [names, List.mem_cons, List.not_mem_nil, or_false] at hmem
                      rcases hmem with h | h | h | h
                      · have e0 : (L == [112, 114, 101]) = true := by simp [h]
                        replace h := Lib.hid h
                        go_wp2
                        go_ret
                        exact ⟨retBool hf.out.symm, hBr⟩
                      · have e0 : (L == [112, 114, 101]) = false := by simp [h]
                        have e1 : (L == [115, 99, 114, 105, 112, 116]) = true := by simp [h]
                        replace h := Lib.hid h
                        go_wp2
                        go_ret
                        exact ⟨retBool hf.out.symm, hBr⟩
                      · have e0 : (L == [112, 114, 101]) = false := by simp [h]
                        have e1 : (L == [115, 99, 114, 105, 112, 116]) = false := by simp [h]
                        have e2 : (L == [115, 116, 121, 108, 101]) = true := by simp [h]
                        replace h := Lib.hid h
                        go_wp2
                        go_ret
                        exact ⟨retBool hf.out.symm, hBr⟩
                      · have e0 : (L == [112, 114, 101]) = false := by simp [h]
                        have e1 : (L == [115, 99, 114, 105, 112, 116]) = false := by simp [h]
                        have e2 : (L == [115, 116, 121, 108, 101]) = false := by simp [h]
                        have e3 : (L == [116, 101, 120, 116, 97, 114, 101, 97]) = true := by simp [h]
                        replace h := Lib.hid h
                        go_wp2
                        go_ret
                        exact ⟨retBool hf.out.symm, hBr⟩
                    · have e0 : (L == [112, 114, 101]) = false := by simp only [beq_eq_false_iff_ne]; intro h; exact hmem (by simp [names, h])
                      have e1 : (L == [115, 99, 114, 105, 112, 116]) = false := by simp only [beq_eq_false_iff_ne]; intro h; exact hmem (by simp [names, h])
                      have e2 : (L == [115, 116, 121, 108, 101]) = false := by simp only [beq_eq_false_iff_ne]; intro h; exact hmem (by simp [names, h])
                      have e3 : (L == [116, 101, 120, 116, 97, 114, 101, 97]) = false := by simp only [beq_eq_false_iff_ne]; intro h; exact hmem (by simp [names, h])
                      replace hmem := Lib.hid hmem
                      have hn : Hid (NoneTo s (k + 2 + j + 1)) := noneTo_past hN.out hG.out ha.out (fun h => hmem.out (by rw [hL.out.1]; exact h.2.2))
                      go_wp2
                      go_roundw
                      case rel => exact ⟨k + 2 + j + 1, by omega, by go_num, hn, hBr⟩
                      case measure => simp [intOf]; omega
                  · have hgt1 : (bt s (k + 2 + j) == 62) = false := by simpa using hgt
                    replace hgt := Lib.hid hgt
                    have hn : Hid (NoneTo s (k + 2 + j + 1)) := noneTo_past hN.out hG.out ha.out (fun h => hgt.out h.2.1)
                    go_wp2
                    go_roundw
                    case rel => exact ⟨k + 2 + j + 1, by omega, by go_num, hn, hBr⟩
                    case measure => simp [intOf]; omega
                · rcases Int.lt_or_le (bt s (k + 2 + j)) 97 with c97 | c97
                  · have c90 : 90 < bt s (k + 2 + j) := by omega
                    clear hcap hsl
                    have hG : Hid (Gathered s k j) := ⟨t1.out, t3.out, hq, hj8, hL.out.2, .inr (.inr hsm.out)⟩
                    have hcv := hO.str
                    have hend : k + 2 + j < s.size := hgo1
                    have hgt1 : (bt s (k + 2 + j) == 62) = false := by simp; omega
                    have hn : Hid (NoneTo s (k + 2 + j + 1)) := noneTo_past hN.out hG.out ha.out (fun h => absurd h.2.1 (by omega))
                    go_wp2
                    go_roundw
                    case rel => exact ⟨k + 2 + j + 1, by omega, by go_num, hn, hBr⟩
                    case measure => simp [intOf]; omega
                  · have c122 : 122 < bt s (k + 2 + j) := by omega
                    clear hcap hsl
                    have hG : Hid (Gathered s k j) := ⟨t1.out, t3.out, hq, hj8, hL.out.2, .inr (.inr hsm.out)⟩
                    have hcv := hO.str
                    have hend : k + 2 + j < s.size := hgo1
                    have hgt1 : (bt s (k + 2 + j) == 62) = false := by simp; omega
                    have hn : Hid (NoneTo s (k + 2 + j + 1)) := noneTo_past hN.out hG.out ha.out (fun h => absurd h.2.1 (by omega))
                    go_wp2
                    go_roundw
                    case rel => exact ⟨k + 2 + j + 1, by omega, by go_num, hn, hBr⟩
                    case measure => simp [intOf]; omega
          · by_cases hge : k + 2 + j < s.size
            · have h8 : 8 ≤ L.length := by
                by_cases c : L.length < 8
                · exact absurd ⟨hge, c⟩ hgo
                · omega
              clear hgo
              have hG : Hid (Gathered s k j) := ⟨t1.out, t3.out, hq, hj8, hL.out.2, .inr (.inl (by omega))⟩
              have hcv := hO.str
              have hend : k + 2 + j < s.size := hge
              by_cases hgt : bt s (k + 2 + j) = 62
              · have hgt1 : (bt s (k + 2 + j) == 62) = true := by simp [hgt]
                replace hgt := Lib.hid hgt
                by_cases hmem : L ∈ names
                · have hf : Hid (endsB s = true) := ends_found hG.out hend hgt.out (by rw [← hL.out.1]; exact hmem)
                  simp only [names, List.mem_cons, List.not_mem_nil, or_false] at hmem
                  rcases hmem with h | h | h | h
                  · have e0 : (L == [112, 114, 101]) = true := by simp [h]
                    replace h := Lib.hid h
                    go_wp2
                    go_ret
                    exact ⟨retBool hf.out.symm, hBr⟩
                  · have e0 : (L == [112, 114, 101]) = false := by simp [h]
                    have e1 : (L == [115, 99, 114, 105, 112, 116]) = true := by simp [h]
                    replace h := Lib.hid h
                    go_wp2
                    go_ret
                    exact ⟨retBool hf.out.symm, hBr⟩
                  · have e0 : (L == [112, 114, 101]) = false := by simp [h]
                    have e1 : (L == [115, 99, 114, 105, 112, 116]) = false := by simp [h]
                    have e2 : (L == [115, 116, 121, 108, 101]) = true := by simp [h]
                    replace h := Lib.hid h
                    go_wp2
                    go_ret
                    exact ⟨retBool hf.out.symm, hBr⟩
                  · have e0 : (L == [112, 114, 101]) = false := by simp [h]
                    have e1 : (L == [115, 99, 114, 105, 112, 116]) = false := by simp [h]
                    have e2 : (L == [115, 116, 121, 108, 101]) = false := by simp [h]
                    have e3 : (L == [116, 101, 120, 116, 97, 114, 101, 97]) = true := by simp [h]
                    replace h := Lib.hid h
                    go_wp2
                    go_ret
                    exact ⟨retBool hf.out.symm, hBr⟩
                · have e0 : (L == [112, 114, 101]) = false := by simp only [beq_eq_false_iff_ne]; intro h; exact hmem (by simp [names, h])
                  have e1 : (L == [115, 99, 114, 105, 112, 116]) = false := by simp only [beq_eq_false_iff_ne]; intro h; exact hmem (by simp [names, h])
                  have e2 : (L == [115, 116, 121, 108, 101]) = false := by simp only [beq_eq_false_iff_ne]; intro h; exact hmem (by simp [names, h])
                  have e3 : (L == [116, 101, 120, 116, 97, 114, 101, 97]) = false := by simp only [beq_eq_false_iff_ne]; intro h; exact hmem (by simp [names, h])
                  replace hmem := Lib.hid hmem
                  have hn : Hid (NoneTo s (k + 2 + j + 1)) := noneTo_past hN.out hG.out ha.out (fun h => hmem.out (by rw [hL.out.1]; exact h.2.2))
                  go_wp2
                  go_roundw
                  case rel => exact ⟨k + 2 + j + 1, by omega, by go_num, hn, hBr⟩
                  case measure => simp [intOf]; omega
              · have hgt1 : (bt s (k + 2 + j) == 62) = false := by simpa using hgt
                replace hgt := Lib.hid hgt
                have hn : Hid (NoneTo s (k + 2 + j + 1)) := noneTo_past hN.out hG.out ha.out (fun h => hgt.out h.2.1)
                go_wp2
                go_roundw
                case rel => exact ⟨k + 2 + j + 1, by omega, by go_num, hn, hBr⟩
                case measure => simp [intOf]; omega
            · clear hgo
              have hG : Hid (Gathered s k j) := ⟨t1.out, t3.out, hq, hj8, hL.out.2, .inl (by omega)⟩
              have hcv := hO.str
              have hn : Hid (NoneTo s (k + 2 + j + 1)) := noneTo_past hN.out hG.out ha.out (fun h => absurd h.1 (by omega))
              go_wp2
              go_roundw
              case rel => exact ⟨k + 2 + j + 1, by omega, by go_num, hn, hBr⟩
              case measure => simp [intOf]; omega
      · have hn : Hid (NoneTo s (k + 1)) := noneTo_skip hN.out htag
        by_cases c60 : bt s k = 60
        · have c60' : (bt s k == 60) = true := by simp [c60]
          by_cases c1 : k + 1 < s.size
          · have c47 : (bt s (k + 1) == 47) = false := by
              simp only [beq_eq_false_iff_ne]
              exact fun c => htag ⟨c60, c1, c⟩
            clear htag c60
            go_wp2
            go_roundw
            case rel => exact ⟨k + 1, by omega, by go_num, hn, hB⟩
            case measure => simp [intOf]; omega
          · clear htag c60
            go_wp2
            go_roundw
            case rel => exact ⟨k + 1, by omega, by go_num, hn, hB⟩
            case measure => simp [intOf]; omega
        · have c60' : (bt s k == 60) = false := by simpa using c60
          clear htag c60
          go_wp2
          go_roundw
          case rel => exact ⟨k + 1, by omega, by go_num, hn, hB⟩
          case measure => simp [intOf]; omega
    · have hf : Hid (endsB s = false) := noneTo_end hN.out (by omega)
      go_wp2
      go_ret
      exact ⟨retBool hf.out.symm, hB⟩
theorem hasEndPre_z (s : ByteArray) (hs : s.size ≤ 2000) (ha : ApartTo s s.size) (w : World) :
    Calls Try.prog 40 #[.string s] w fun e w1 => e = .returned (.bool (endsB s)) ∧ Below w.heap.size w w1 := by
  replace ha := Lib.hid ha
  go_enter Try.func40, Try.ntmps40
  go_wp2_with (go_at_call 55; refine (hasEndPre_c s hs ha.out _).mono ?_; rintro e w1 ⟨rfl, hB⟩)
  go_ret
  exact ⟨rfl, hB⟩
theorem hasEndPre_i (s : ByteArray) (hs : s.size ≤ 2000) (ha : ApartTo s s.size) (w : World) :
    Calls Try.prog 24 #[.string s] w fun e w1 => e = .returned (.bool (endsB s)) ∧ Below w.heap.size w w1 := by
  replace ha := Lib.hid ha
  go_enter Try.func24, Try.ntmps24
  go_wp2_with (go_at_call 40; refine (hasEndPre_z s hs ha.out _).mono ?_; rintro e w1 ⟨rfl, hB⟩)
  go_ret
  exact ⟨rfl, hB⟩
end Go.Proofs.Ytonadaoehhlafaa.W
