/- prefixIsLessThan of internal/strconv. Part 6 of 51 of the proof that FnMultiPointBody returns true for every text and every type of coordinates, where the listed variables hold what the text of the program lays. -/
import Derived.Test.YtlckfiflfkbofaaGreatDoorM04
import Derived.Test.YtlckfiflfkbofaaGreatDoorM05
set_option linter.all false

/- prefixIsLessThan of internal/strconv. -/
namespace Go.Proofs.YtlckfiflfkbofaaGreatDoor
open Go.RowKit

theorem drop_at (s : ByteArray) (i : Nat) (h : i < s.size) : s.data.toList.drop i = s[i] :: s.data.toList.drop (i + 1) := by
  rw [List.drop_eq_getElem_cons (by simpa using h)]; rfl

theorem dd2 {w : World} {a b : Nat} : ∃ k, (w.drewN a).drewN b = w.drewN k := ⟨_, World.drewN_drewN ..⟩
theorem dd3 {w : World} {a b c : Nat} : ∃ k, ((w.drewN a).drewN b).drewN c = w.drewN k := ⟨a + (b + c), by rw [World.drewN_drewN, World.drewN_drewN]⟩

set_option maxHeartbeats 400000 in
set_option maxRecDepth 100000 in
theorem plt_calls (b nd cap : Nat) (d : Nat → Int) (s : ByteArray) (w : World) (hs : s.size ≤ 60) (hn : nd ≤ 800) (hc : ∀ i, i < nd → w.cell? ⟨b, i, none⟩ = some (.int .u8 (d i))) :
    Calls Tryz.prog 160 #[.slice (some ⟨b, 0, none⟩) nd cap, .string s] w fun e w' => e = .returned (.bool (Dp.plt d nd 0 s.data.toList)) ∧ ∃ m, w' = w.drewN m := by
  have HC := Lib.hid hc
  clear hc
  go_enter Tryz.func160, Tryz.ntmps160
  go_wp2
  go_loopw [5, 4] (fun v5 _ wr => ∃ i : Nat, i ≤ s.size ∧ v5 = .int .i64 (i : Int) ∧ (∃ m, wr = w.drewN m) ∧ Hid (Dp.plt d nd i (s.data.toList.drop i) = Dp.plt d nd 0 s.data.toList)) (fun v5 _ _ => s.size - (intOf v5).toNat)
  case atStart => exact ⟨0, by omega, rfl, ⟨0, rfl⟩, Lib.hid rfl⟩
  case round =>
    obtain ⟨i, hi, rfl, ⟨m, rfl⟩, ht⟩ := hrel
    by_cases hlt : i < s.size
    · have hdr := Lib.hid (drop_at s i hlt)
      have hlt' : (i : Int) < (s.size : Int) := by omega
      by_cases hnd : nd ≤ i
      · have hnd' : (nd : Int) ≤ i := by omega
        go_wp2
        go_ret
        refine ⟨?_, m, rfl⟩
        rw [← ht.out, hdr.out, Dp.plt, if_pos hnd]; rfl
      · have cd := HC.out i (by omega)
        have hnd' : (i : Int) < nd := by omega
        by_cases he : d i = (s[i].toNat : Int)
        · have hb : (d i != (s[i].toNat : Int)) = false := by simpa using he
          have HE := Lib.hid he
          clear he
          go_wp2
          go_quiet (fail)
          go_wp2
          go_roundw
          case rel =>
            refine ⟨i + 1, by omega, by go_num, ⟨_, rfl⟩, ?_⟩
            have := ht.out
            rw [hdr.out, Dp.plt, if_neg hnd, if_pos HE.out] at this
            exact Lib.hid this
          case measure => simp [intOf]; omega
        · have hb : (d i != (s[i].toNat : Int)) = true := by simpa using he
          have HE := Lib.hid he
          clear he
          go_wp2
          go_quiet (fail)
          go_wp2
          go_quiet (fail)
          go_wp2
          go_ret
          refine ⟨?_, dd3⟩
          rw [← ht.out, hdr.out, Dp.plt, if_neg hnd, if_neg HE.out]; rfl
    · have hlt' : (s.size : Int) ≤ i := by omega
      go_wp2
      go_ret
      refine ⟨?_, m, rfl⟩
      rw [← ht.out, List.drop_of_length_le (by simp; omega)]; rfl

end Go.Proofs.YtlckfiflfkbofaaGreatDoor
