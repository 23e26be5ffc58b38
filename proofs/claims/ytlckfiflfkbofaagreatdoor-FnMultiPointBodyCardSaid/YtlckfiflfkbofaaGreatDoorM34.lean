/- pBody. Part 34 of 51 of the proof that FnMultiPointBody returns true for every text and every type of coordinates, where the listed variables hold what the text of the program lays. -/
import Derived.Test.YtlckfiflfkbofaaGreatDoorM30
import Derived.Test.YtlckfiflfkbofaaGreatDoorM33
set_option linter.all false

/- pBody. -/
namespace Go.Proofs.YtlckfiflfkbofaaGreatDoor
open Go.RowKit

def okB (c : List Tok) : Bool := match c with
  | [t] => isE t
  | _ => decide (1 < c.length)
def strB (l : List UInt8) : ByteArray := ⟨l.toArray⟩
theorem strB_list (l : List UInt8) : (strB l).data.toList = l := rfl
theorem strB_of {s : ByteArray} {l : List UInt8} (h : s.data.toList = l) : s = strB l := by
  subst h; rfl

/-- What pBody answers. -/
def PboP (l : List Tok) (e : Ending) : Prop :=
  match brk 0 l with
  | some c => e = .returned (.tuple #[.string (strB (joinT c)), .bool (okB c)])
  | none => e = .returned (.tuple #[.string ⟨#[]⟩, .bool false])

theorem joinT_snoc (l : List Tok) (k : Tok) : joinT (l ++ [k]) = joinT l ++ (k.s.data.toList ++ [32]) := by simp [joinT]

theorem okB_long {c : List Tok} (h : 1 < c.length) : okB c = true := by
  match c, h with
  | _ :: _ :: _, _ => simp [okB]

/-- The loop's state at the i-th token. -/
def PbR (l : List Tok) (i : Nat) (v2 v4 : Value) : Prop := ∃ (d : Int) (s : ByteArray), v4 = .int .i64 d ∧ v2 = .string s ∧ d ≤ i ∧ -(i : Int) ≤ d ∧ s.size ≤ i * 3001 ∧ s.data.toList = joinT (l.take i) ∧ brk 0 l = (brk d (l.drop i)).map (l.take i ++ ·)

set_option maxRecDepth 100000 in
set_option maxHeartbeats 3200000 in
theorem pbo_calls (w : World) (v : Value) (B : Nat) (l : List Tok) (ho : w.ownsRow B 9 1 v l.length (strs l)) (ht : ∀ k ∈ l, Tg k) (hl : l.length ≤ 10000) :
    Calls Tryz.prog 7 #[v] w fun e w' => PboP l e ∧ w = w' := by
  have hcc : ∀ i k, l[i]? = some k → ∃ g, v.ownBlock = some g ∧ g < w.heap.size ∧ w.cell? ⟨g, i, none⟩ = some (.string k.s) := by
    intro i k hk
    rcases ho.2 with ⟨_, h0⟩ | ⟨g, cap, cur, rfl, hb, hg, _⟩
    · have := (List.getElem?_eq_some_iff.1 hk).1; omega
    · have := ho.cells (g := g) rfl i (.string k.s) (by simp [strs, hk])
      have hadd : (⟨g, 0, none⟩ : Addr).add i = ⟨g, i, none⟩ := by unfold Addr.add; split <;> simp_all
      rw [hadd] at this
      exact ⟨g, rfl, (Array.getElem?_eq_some_iff.1 hg).1, this⟩
  have hform : ∃ a cap, v = .slice a l.length cap ∧ ∀ g, v.ownBlock = some g → a = some ⟨g, 0, none⟩ := by
    rcases ho.2 with ⟨rfl, h0⟩ | ⟨g, cap, cur, rfl, _⟩
    · exact ⟨none, 0, by rw [h0], fun g hg => by cases hg⟩
    · exact ⟨_, cap, rfl, fun g' hg' => by cases hg'; rfl⟩
  obtain ⟨a, cap, hv, hva⟩ := hform
  obtain ⟨n, hn⟩ : ∃ n, n = l.length := ⟨_, rfl⟩
  have HCC := Lib.hid hcc
  have HVA := Lib.hid hva
  have HT := Lib.hid ht
  subst hv
  rw [← hn] at hl HCC HVA ⊢
  have HN := Lib.hid hn
  clear hcc hva ht hn ho
  go_enter Tryz.func7, Tryz.ntmps7
  go_wp2_with (fail)
  go_loopw [2, 4, 9] (fun v2 v4 v9 wr => ∃ i : Nat, i ≤ n ∧ v9 = .int .i64 (i : Int) ∧ Hid (PbR l i v2 v4) ∧ wr = w) (fun _ _ v9 _ => n - (match v9 with | .int _ i => i.toNat | _ => 0))
  case atStart => exact ⟨0, Nat.zero_le _, rfl, Lib.hid ⟨0, ⟨#[]⟩, rfl, rfl, by omega, by omega, by show 0 ≤ _; omega, rfl, by simp⟩, rfl⟩
  case round =>
    obtain ⟨i, hin, rfl, hR, rfl⟩ := hrel
    obtain ⟨d, s, rfl, rfl, hd2, hd3, hsz, hs0, hq0⟩ := hR.out
    have hs := Lib.hid hs0
    have hq := Lib.hid hq0
    clear hR hs0 hq0
    by_cases hlt : i < n
    · have hlt' : (i : Int) < n := by omega
      obtain ⟨k, hk⟩ : ∃ k, l[i]? = some k := ⟨_, List.getElem?_eq_getElem (by have := HN.out; omega)⟩
      obtain ⟨g, hgv, hg, c0⟩ := HCC.out i k hk
      obtain rfl := HVA.out g hgv
      have hkt := HT.out k (List.mem_of_getElem? hk)
      have hks := hkt.sz
      have hi3 : i * 3001 ≤ 10000 * 3001 := Nat.mul_le_mul_right _ (by omega)
      have hlen1 : ¬ 9223372036854775807 < k.s.size + (⟨#[32]⟩ : ByteArray).size := by have h2 : (⟨#[32]⟩ : ByteArray).size = 1 := rfl; omega
      have hlen2 : ¬ 9223372036854775807 < s.size + (k.s ++ (⟨#[32]⟩ : ByteArray)).size := by
        have h1 : (k.s ++ (⟨#[32]⟩ : ByteArray)).size = k.s.size + (⟨#[32]⟩ : ByteArray).size := ByteArray.size_append
        have h2 : (⟨#[32]⟩ : ByteArray).size = 1 := rfl
        omega
      have hsl : Hid ((s ++ (k.s ++ (⟨#[32]⟩ : ByteArray))).data.toList = joinT (l.take (i + 1))) := by
        show _ = _
        rw [List.take_add_one, hk]
        simp only [Option.toList_some, joinT_snoc, ← hs.out, ByteArray.data_append, Array.toList_append]
      have hsz2 : (s ++ (k.s ++ (⟨#[32]⟩ : ByteArray))).size ≤ (i + 1) * 3001 := by
        have h1 : (s ++ (k.s ++ (⟨#[32]⟩ : ByteArray))).size = s.size + (k.s ++ (⟨#[32]⟩ : ByteArray)).size := ByteArray.size_append
        have h2 : (k.s ++ (⟨#[32]⟩ : ByteArray)).size = k.s.size + (⟨#[32]⟩ : ByteArray).size := ByteArray.size_append
        have h3 : (⟨#[32]⟩ : ByteArray).size = 1 := rfl
        omega
      have hdr : l.drop i = k :: l.drop (i + 1) := by
        have hlt2 : i < l.length := (List.getElem?_eq_some_iff.1 hk).1
        rw [List.drop_eq_getElem_cons hlt2]
        congr 1
        rw [List.getElem?_eq_getElem hlt2] at hk
        exact Option.some.inj hk
      have htk : l.take (i + 1) = l.take i ++ [k] := by rw [List.take_add_one, hk]; rfl
      have hq' := hq.out
      rw [hdr] at hq'
      have hb1 : IntKind.i64.wrap ((i : Int) + 1) = (i : Int) + 1 := IntWalk.i64_in _ (by omega)
      have hb2 : IntKind.i64.wrap (d + 1) = d + 1 := IntWalk.i64_in _ (by omega)
      have hb3 : IntKind.i64.wrap (d - 1) = d - 1 := IntWalk.i64_in _ (by omega)
      -- what the token's own text says
      have h40 : (k.s.toList == [40]) = (k.k == 40) := by
        by_cases h : k.k = 40
        · rw [hkt.sign (x := 40) (by omega) h, h]; rfl
        · have e := hkt.nsign (x := 40) (by omega) h
          have e' : (k.s.toList == [40]) = false := e
          rw [e']; simp [h]
      have h41 : (k.s.toList == [41]) = (k.k == 41) := by
        by_cases h : k.k = 41
        · rw [hkt.sign (x := 41) (by omega) h, h]; rfl
        · have e := hkt.nsign (x := 41) (by omega) h
          have e' : (k.s.toList == [41]) = false := e
          rw [e']; simp [h]
      have hE : (k.s.toList == [69, 77, 80, 84, 89]) = isE k := by
        cases hE : isE k with
        | true => rw [(isE_iff hkt).1 hE]; rfl
        | false => exact nE_iff hkt hE
      obtain ⟨d', hd'⟩ : ∃ d', d' = d + tD k := ⟨_, rfl⟩
      have hcase : (k.k = 40 ∧ d' = d + 1) ∨ (k.k ≠ 40 ∧ k.k = 41 ∧ d' = d - 1) ∨ (k.k ≠ 40 ∧ k.k ≠ 41 ∧ d' = d) := by
        by_cases h1 : k.k = 40
        · left; exact ⟨h1, by rw [hd']; simp [tD, h1]⟩
        · by_cases h2 : k.k = 41
          · right; left; exact ⟨h1, h2, by rw [hd']; simp [tD, h2]; omega⟩
          · right; right; exact ⟨h1, h2, by rw [hd']; simp [tD, h1, h2]⟩
      have hfin0 : d' = 0 → Hid (PboP l (.returned (.tuple #[.string (s ++ (k.s ++ (⟨#[32]⟩ : ByteArray))), .bool (if 0 < i then true else isE k)]))) := by
        intro h0
        show PboP l _
        have hb : brk 0 l = some (l.take (i + 1)) := by
          rw [hq', htk]
          simp only [brk, ← hd', h0, if_true, Option.map_some]
        unfold PboP
        rw [hb, strB_of hsl.out]
        simp only
        congr 4
        by_cases hi0 : 0 < i
        · rw [if_pos hi0, okB_long (by have := HN.out; rw [List.length_take]; omega)]
        · have : i = 0 := by omega
          subst this
          rw [if_neg (by omega), htk]
          rfl
      have hmore : d' ≠ 0 → Hid (brk 0 l = (brk d' (l.drop (i + 1))).map (l.take (i + 1) ++ ·)) := by
        intro h0
        show _ = _
        rw [hq', htk]
        simp only [brk, ← hd', if_neg h0, Option.map_map]
        congr 1
        funext y
        simp
      have HF := Lib.hid hfin0
      have HM := Lib.hid hmore
      clear hq hq' hdr htk hs HCC HVA HT HN hk hkt hd' hfin0 hmore hgv
      by_cases h0 : d' = 0
      · have hF := HF.out h0
        clear HF HM
        by_cases hi0 : 0 < i
        · rw [if_pos hi0] at hF
          have hi0' : decide ((i : Int) > 0) = true := decide_eq_true (by omega)
          rcases hcase with ⟨h1, h2⟩ | ⟨h1, h3, h2⟩ | ⟨h1, h3, h2⟩
          · have hz : (d + 1 == 0) = true := by simp; omega
            have hz' : d + 1 = 0 := by omega
            rw [h1] at h40 h41
            go_wp2_with (fail)
            go_ret2
            exact ⟨hF.out, rfl⟩
          · have hz : (d - 1 == 0) = true := by simp; omega
            have hz' : d - 1 = 0 := by omega
            rw [h3] at h40 h41
            go_wp2_with (fail)
            go_ret2
            exact ⟨hF.out, rfl⟩
          · have hz : (d == 0) = true := by simp; omega
            have hz' : d = 0 := by omega
            have e1 : (k.k == 40) = false := by simp [h1]
            have e2 : (k.k == 41) = false := by simp [h3]
            rw [e1] at h40
            rw [e2] at h41
            go_wp2_with (fail)
            go_ret2
            exact ⟨hF.out, rfl⟩
        · rw [if_neg hi0] at hF
          have hi0' : decide ((i : Int) > 0) = false := decide_eq_false (by omega)
          rcases hcase with ⟨h1, h2⟩ | ⟨h1, h3, h2⟩ | ⟨h1, h3, h2⟩
          · have hz : (d + 1 == 0) = true := by simp; omega
            have hz' : d + 1 = 0 := by omega
            rw [h1] at h40 h41
            go_wp2_with (fail)
            go_ret2
            exact ⟨hF.out, rfl⟩
          · have hz : (d - 1 == 0) = true := by simp; omega
            have hz' : d - 1 = 0 := by omega
            rw [h3] at h40 h41
            go_wp2_with (fail)
            go_ret2
            exact ⟨hF.out, rfl⟩
          · have hz : (d == 0) = true := by simp; omega
            have hz' : d = 0 := by omega
            have e1 : (k.k == 40) = false := by simp [h1]
            have e2 : (k.k == 41) = false := by simp [h3]
            rw [e1] at h40
            rw [e2] at h41
            go_wp2_with (fail)
            go_ret2
            exact ⟨hF.out, rfl⟩
      · have hM := HM.out h0
        clear HF HM
        have hzz : True := trivial
        rcases hcase with ⟨h1, h2⟩ | ⟨h1, h3, h2⟩ | ⟨h1, h3, h2⟩
        · have hz : (d + 1 == 0) = false := by simp; omega
          have hz' : ¬ d + 1 = 0 := by omega
          rw [h1] at h40 h41
          go_wp2_with (fail)
          go_roundw
          case rel => exact ⟨i + 1, by omega, int_eq (by omega), Lib.hid ⟨d + 1, _, rfl, rfl, by omega, by omega, hsz2, hsl.out, by rw [← h2]; exact hM.out⟩, by first | rfl | trivial⟩
          case measure => simp only []; omega
        · have hz : (d - 1 == 0) = false := by simp; omega
          have hz' : ¬ d - 1 = 0 := by omega
          rw [h3] at h40 h41
          go_wp2_with (fail)
          go_roundw
          case rel => exact ⟨i + 1, by omega, int_eq (by omega), Lib.hid ⟨d - 1, _, rfl, rfl, by omega, by omega, hsz2, hsl.out, by rw [← h2]; exact hM.out⟩, by first | rfl | trivial⟩
          case measure => simp only []; omega
        · have hz : (d == 0) = false := by simp; omega
          have hz' : ¬ d = 0 := by omega
          have e1 : (k.k == 40) = false := by simp [h1]
          have e2 : (k.k == 41) = false := by simp [h3]
          rw [e1] at h40
          rw [e2] at h41
          go_wp2_with (fail)
          go_roundw
          case rel => exact ⟨i + 1, by omega, int_eq (by omega), Lib.hid ⟨d, _, rfl, rfl, by omega, by omega, hsz2, hsl.out, by rw [← h2]; exact hM.out⟩, by first | rfl | trivial⟩
          case measure => simp only []; omega
    · have hlt' : ¬ (i : Int) < n := by omega
      have hB : Hid (brk 0 l = none) := by
        show _ = _
        rw [hq.out, List.drop_of_length_le (by have := HN.out; omega)]
        rfl
      clear hq hs HCC HVA HT HN
      go_wp2_with (fail)
      all_goals go_ret2
      all_goals refine ⟨?_, rfl⟩
      unfold PboP
      rw [hB.out]
      rfl
end Go.Proofs.YtlckfiflfkbofaaGreatDoor
