/- The scanner's next where its buffer is used up: within a token. The scanner's next, its ways joined: from one character of the text to the one behind it. scanIdentifier and Peek. Peek: the character ahead. The scanner's digits. The scanner's digits behind a leading 0, where digits from 8 on are noted in a variable. scanNumber, at decimals that have no 0 ahead of another digit. Part 24 of 51 of the proof that FnMultiPointBody returns true for every text and every type of coordinates, where the listed variables hold what the text of the program lays. -/
import Derived.LaidEql
import Derived.Deep.DeepCutAuto
import Derived.Deep.CutBlock
import Derived.Test.YtlckfiflfkbofaaGreatDoorM22
import Derived.Test.YtlckfiflfkbofaaGreatDoorM23
set_option linter.all false

/- The scanner's next where its buffer is used up: within a token. -/
namespace Go.Proofs.YtlckfiflfkbofaaGreatDoor
open Go.RowKit

set_option maxRecDepth 100000 in
set_option maxHeartbeats 3200000 in
theorem nxr_some_data (w : World) (a : Nat) (B b : Nat) (t : ByteArray) (s : SS) (h : Sc w B b t s) (o : Ok t s) (k : TK t s (some a)) (hA : Asc t) (hz : t.size ≤ 3000) (hsp : s.sp = s.se) (hFs : Fst w) (hB : 19 ≤ B) (hlc : s.lc = 1) (hmore : s.off + s.se < t.size) :
    Calls Tryz.prog 75 #[.pointer (some ⟨b, 0, none⟩)] w fun e w' => e = .returned (.int .i32 (chA t (s.off + s.sp))) ∧ NxP B b t (some a) s w w' := by
  have hBb := h.Bb
  have c1 := h.c_sp
  have hse := o.se
  have c2 := h.sb (j := s.sp) (by omega)
  have hst := o.st
  rw [← hsp] at hst
  rw [hst] at c2
  have c3 := h.c_se
  rw [← hsp] at c3
  obtain ⟨j, hj1, hj2, hj3, hj4, hj5⟩ := k
  have hj6 : j < s.sp := hj3 hlc
  clear hj3
  have c4 := h.c_tp
  rw [hj1] at c4
  have hspl : s.sp < 1025 := by omega
  have hsl := fun W => slice_buf W b s.sp s.sp (Nat.le_refl _) (by omega) hspl
  have hoff : s.off ≤ 3000 := by have := o.sz; omega
  have hwo : IntKind.i64.wrap ((s.off : Int) + s.sp) = (s.off : Int) + s.sp := IntWalk.i64_in _ (by omega)
  have hsl0 := fun W => slice_buf0 W b
  have hcp := fun W => copy_none W b s.sp
  have HSP := Lib.hid hsp
  clear hsp hst
  have hx := hA (s.off + s.sp) (by have := o.rd; have := HSP.out; omega)
  obtain ⟨X, hX⟩ : ∃ X : Nat, chA t (s.off + s.sp) = X := ⟨(chA t (s.off + s.sp)).toNat, by omega⟩
  rw [hX] at hx ⊢
  obtain ⟨hx1, hx2⟩ := hx
  have hX0 : 0 < X := by omega
  have hX1 : X < 128 := by omega
  have HX := Lib.hid hX
  clear hX hx1 hx2
  go_enter Tryz.func75, Tryz.ntmps75
  go_wp2_with (fail)
  go_quiet (fail)
  obtain ⟨nqa, hnqa⟩ : ∃ k, k = nq := ⟨_, rfl⟩
  rw [← hnqa]
  clear hnqa nq
  go_wp2_with (fail)
  refine wp_loop_rounds 2 ?_
  rw [rounds_succ]
  go_wp2_with (fail)
  have hw4 : IntKind.i64.wrap ((s.sp : Int) + 4) = (s.sp : Int) + 4 := IntWalk.i64_in _ (by omega)
  have hd : decide ((s.sp : Int) < (s.sp : Int) + 4) = true := decide_eq_true (by omega)
  go_quiet ((go_at_call 92; exact fr_empty_q2 _ _ _ _ _))
  obtain ⟨nqb, hnqb⟩ : ∃ k, k = nq := ⟨_, rfl⟩
  rw [← hnqb]
  clear hnqb nq
  go_wp2_with (fail)
  generalize hV : w.drewN _ = V0
  have h5 : Sc V0 B b t s := by rw [← hV]; exact h.drewN _
  have hF5 : Fr B b s.r w V0 := by rw [← hV]; exact (Fr.refl _ _ _ _).drewN _
  clear hV c1 c2 c3 c4
  have c1 := h5.c_sp
  have c4 := h5.c_tp
  rw [hj1] at c4
  have z4 := h5.fz 1036
  have hlen : ((t.data.toList.drop (s.off + j)).take (s.sp - j)).length = s.sp - j := by
    rw [List.length_take, List.length_drop, Array.length_toList]
    have : t.data.size = t.size := rfl
    have := o.sz; have := HSP.out; omega
  have hbl : s.bs.length ≤ 3000 := by
    rw [hj5, List.length_take, List.length_drop, Array.length_toList]
    have : t.data.size = t.size := rfl
    omega
  have hwr := wr_calls' 104 s.R B b 1033 (1 + j) (Lib.byteCells s.bs) (Lib.byteCells ((t.data.toList.drop (s.off + j)).take (s.sp - j))) (s.sp - j) (1025 - j) V0.drew rfl rfl h5.drew.buf h5.BW (Lib.byteCells_one _)
    (by rw [Lib.byteCells_length]; exact hlen) (by omega) (by
      intro i v hi
      have hil : i < s.sp - j := by have := (List.getElem?_eq_some_iff.1 hi).1; rw [Lib.byteCells_length, hlen] at this; exact this
      unfold Lib.byteCells at hi
      rw [List.getElem?_map, List.getElem?_take_of_lt hil, List.getElem?_drop, Array.getElem?_toList] at hi
      unfold SS.R
      rw [if_pos (by omega), Nat.add_assoc, SS.f_sb _ (by omega), o.sb _ (by have := HSP.out; omega)]
      have hlt : s.off + (j + i) < t.size := by have := o.sz; have := HSP.out; omega
      unfold chA
      rw [dif_pos hlt]
      have e : t.data[s.off + j + i]? = some t[s.off + (j + i)] := by rw [Nat.add_assoc, Array.getElem?_eq_getElem (show s.off + (j + i) < t.data.size from hlt)]; rfl
      rw [e] at hi
      exact hi) (Lib.byteCells_one _) (by rw [Lib.byteCells_length]; omega) (by omega)
  have hsl6 := fun W => slice_buf W b j s.sp (by omega) (by omega) (by omega)
  go_cut [4] from 20 to 167 (fun s4 wx => s4 = .int .i64 1 ∧ WrP s.R B b (Lib.byteCells s.bs ++ Lib.byteCells ((t.data.toList.drop (s.off + j)).take (s.sp - j))) V0.drew wx)
  case first =>
    go_region_with ((go_at_call 86; refine Calls.mono hwr ?_; intro e W5 hh; obtain ⟨rfl, hP⟩ := hh))
    all_goals (go_wp2_with (fail); go_meet; exact ⟨rfl, hP⟩)
  obtain ⟨rfl, hP⟩ := hcut
  obtain ⟨b1, b2, b3⟩ := hP
  rw [← Lib.byteCells_append] at b1
  obtain ⟨s0, hs0⟩ : ∃ s0, s0 = ({ s with bs := s.bs ++ (t.data.toList.drop (s.off + j)).take (s.sp - j) } : SS) := ⟨_, rfl⟩
  have h6 : Sc wc B b t s0 := by
    rw [hs0]
    exact ⟨b1, b3 _ _ h5.drew.rdr (fun e => h5.rb (Option.some.inj e)) (fun c fz e => by cases e), h5.rB, Nat.le_trans h5.BW b2.size⟩
  have hF6 : Fr B b s.r w wc := hF5.drew.trans (Fr.of_kept b2 b3)
  have z6 := h6.fz 1036
  have c6 := h6.c_tp
  clear c1 c4 z4 hwr b1 b2 b3
  go_wp2_with (fail)
  generalize hV : wc.setCell ⟨b, 1036, none⟩ _ = V
  obtain ⟨s1, hs1⟩ : ∃ s1, s1 = ({ s0 with tp := 0 } : SS) := ⟨_, rfl⟩
  have h7 : Sc V B b t s1 := by rw [← hV, hs1]; exact h6.put_tp 0
  have hF7 : Fr B b s.r w V := by rw [← hV]; exact hF6.setCell (p := ⟨b, 1036, none⟩) (Or.inl rfl) hBb _
  have p1 : s1.sp = s.sp := by rw [hs1, hs0]
  have p2 : s1.se = s.se := by rw [hs1, hs0]
  have p3 : s1.off = s.off := by rw [hs1, hs0]
  have p4 : s1.r = s.r ∧ s1.rd = s.rd ∧ s1.te = s.te ∧ s1.ch = s.ch ∧ s1.er = s.er ∧ s1.pk = s.pk ∧ s1.lc = s.lc := by rw [hs1, hs0]; exact ⟨rfl, rfl, rfl, rfl, rfl, rfl, rfl⟩
  have p5 : s1.sb = s.sb := by rw [hs1, hs0]
  have kk : ∀ s4 : SS, s4.tp = s1.tp → s4.bs = s1.bs → s4.off = s.off + s.sp → TK0 t s4 (some a) := by
    intro s4 e1 e2 e3
    rw [hs1] at e1 e2
    rw [hs0] at e2
    refine ⟨0, e1, Nat.zero_le _, by omega, ?_⟩
    rw [e2, e3]
    show s.bs ++ _ = _
    rw [hj5, show s.off + s.sp + 0 - a = (s.off + j - a) + (s.sp - j) by omega, List.take_add, List.drop_drop, show a + (s.off + j - a) = s.off + j by omega]
  clear hs1 hs0 hV z6 c6 h6 hF6 hF5 h5 hlen hbl hj5 hsl6
  have c1 := h7.c_sp
  have c3 := h7.c_se
  have c5 := h7.c_off
  have z5 := h7.fz 1028
  have c6 := h7.c 0 (by omega) (by omega)
  rw [show s1.f 0 = .iface 123 (.pointer (some ⟨s1.r, 0, none⟩)) from rfl] at c6
  rw [p1] at c1
  rw [p2, ← HSP.out] at c3
  rw [p3] at c5
  have HRR := Lib.hid p4.1
  have HRD : Hid (s1.rd = s.off + s.sp) := Lib.hid (by rw [p4.2.1, o.rd, HSP.out])
  have P4 := Lib.hid p4
  have KK := Lib.hid kk
  clear p4 kk
  clear p1 p2 p3 p5
  go_region
  go_wp2_with (fail)
  go_region
  go_wp2_with (fail)
  go_quiet (fail)
  go_wp2_with (fail)
  generalize hW : World.drewN (World.drew (World.drew (World.setCell V ⟨b, 1028, none⟩ (.int .i64 ((s.off : Int) + s.sp))))) nq = W
  have es : ((s.off + s.sp : Nat) : Int) = (s.off : Int) + s.sp := by simp
  have h10 : Sc W B b t { s1 with off := s.off + s.sp } := by
    have h8 := ((h7.put_off (s.off + s.sp)).drew.drew).drewN nq
    rw [es] at h8
    rw [← hW]; exact h8
  have hF10 : Fr B b s.r w W := by
    rw [← hW]
    exact ((hF7.setCell (p := ⟨b, 1028, none⟩) (Or.inl rfl) hBb _).drew.drew).drewN _
  clear hW c1 c3 c5 c6 z5 h7
  have c6 := h10.c 0 (by omega) (by omega)
  rw [show ({ s1 with off := s.off + s.sp } : SS).f 0 = .iface 123 (.pointer (some ⟨s1.r, 0, none⟩)) from rfl] at c6
  have hsl2 := fun W => slice_buf W b 0 1024 (by omega) (by omega) (by omega)
  have hm := meth_read ⟨s1.r, 0, none⟩
  obtain ⟨n, hn⟩ : ∃ n, n = min (t.size - s1.rd) 1024 := ⟨_, rfl⟩
  have hn1 : 0 < n := by have := HSP.out; have := HRD.out; omega
  have hn2 : n ≤ 1024 := by omega
  have hn3 : s1.rd + n ≤ t.size := by have := HSP.out; have := HRD.out; omega
  have hrd : ∀ c, Calls Tryz.prog 189 #[.pointer (some ⟨s1.r, 0, none⟩), .slice (some ⟨b, 1, none⟩) 1024 c] W.drew _ := fun c => rd_data W.drew B b c n t { s1 with off := s.off + s.sp } h10.drew hz (by have := HSP.out; have := HRD.out; show s1.rd < t.size; omega) hn
  clear hn
  go_region_with ((go_at_call 189; refine (hrd _).mono ?_; rintro e W2 ⟨rfl, hP⟩))
  obtain ⟨hF2, sb', hsb', h2⟩ := hP
  have hF2 : Fr B b s1.r W.drew W2 := hF2
  rw [HRR.out] at hF2
  clear hrd c6 h10
  generalize hs2 : ({ ({ s1 with off := s.off + s.sp } : SS) with sb := sb', pr := -1, rd := ({ s1 with off := s.off + s.sp } : SS).rd + n } : SS) = s2 at h2
  have d1 := h2.c_sp
  have d2 := h2.c_se
  have y1 := h2.fz 1026
  have y2 := h2.fz 1027
  go_wp2_with (fail)
  generalize hW3 : World.setCell (W2.setCell ⟨b, 1026, none⟩ _) ⟨b, 1027, none⟩ _ = W3
  have h3 : Sc W3 B b t { s2 with sp := 0, se := n } := by
    have h9 := (h2.put_sp 0).put_se n
    rw [show ((0 : Nat) : Int) = 0 from rfl] at h9
    rw [← hW3]; exact h9
  have hF3 : Fr B b s.r w W3 := by
    rw [← hW3]
    exact ((hF10.trans (Fr.drew (Fr.refl B b s.r W) |>.trans hF2)).setCell (p := ⟨b, 1026, none⟩) (Or.inl rfl) hBb _).setCell (p := ⟨b, 1027, none⟩) (Or.inl rfl) hBb _
  clear hW3 d1 d2 y1 y2 h2
  have d2 := h3.c_se
  have d3 := h3.sb (j := n) (by omega)
  have y3 := h3.fz (1 + n)
  go_region
  have h4 := h3.put_sb n (by omega) 128
  have hF4 := hF3.setCell (p := ⟨b, 1 + n, none⟩) (Or.inl rfl) hBb (.int .u8 128)
  generalize hW4 : W3.setCell ⟨b, 1 + n, none⟩ (.int .u8 128) = W4 at *
  clear hW4 d2 d3 y3 h3
  generalize hs4 : ({ ({ s2 with sp := 0, se := n } : SS) with sb := _ } : SS) = s4 at h4
  have q1 : s4.sp = 0 := by rw [← hs4]
  have q2 : s4.se = n := by rw [← hs4]
  have q3 : s4.off = s.off + s.sp := by rw [← hs4, ← hs2]
  have q4 : ∀ j, j < n → s4.sb j = chA t (s.off + s.sp + j) := by
    intro j hj
    rw [← hs4]
    show (if j = n then 128 else s2.sb j) = _
    rw [if_neg (by omega), ← hs2]
    show sb' j = _
    rw [hsb' j hj]
    show chA t (s1.rd + j) = _
    rw [HRD.out]
  have q5 : s4.sb n = 128 := by rw [← hs4]; show (if n = n then 128 else _) = _; rw [if_pos rfl]
  have q6 : s4.rd = s.off + s.sp + n := by rw [← hs4, ← hs2]; show s1.rd + n = _; rw [HRD.out]
  have q7 : s4.r = s.r ∧ s4.te = s.te ∧ s4.ch = s.ch ∧ s4.er = s.er ∧ s4.pk = s.pk := by
    obtain ⟨r1, r2, r3, r4, r5, r6, r7⟩ := P4.out
    rw [← hs4, ← hs2]; exact ⟨r1, r3, r4, r5, r6⟩
  have k4 : TK0 t s4 (some a) := by
    refine KK.out s4 ?_ ?_ q3
    · rw [← hs4, ← hs2]
    · rw [← hs4, ← hs2]
  clear hs4 hs2 hsb'
  have e1 := h4.c_sp
  have e2 := h4.c_se
  rw [q1] at e1
  rw [q2] at e2
  have e4 : W4.cell? ⟨b, 1, none⟩ = some (.int .u8 (X : Int)) := by
    have a := h4.sb (j := 0) (by omega)
    rw [q4 0 (by omega)] at a
    simp only [Nat.add_zero] at a
    rw [HX.out] at a
    exact a
  go_wp2_with (fail)
  rw [rounds_succ]
  go_wp2_with (fail)
  have o4 : Ok0 t s4 := ⟨by omega, by omega, by omega, by have := HRD.out; have := HSP.out; omega, by rw [q2, q3]; exact q4, by rw [q2]; exact q5⟩
  have hP4 : s4.off + s4.sp = s.off + s.sp := by omega
  have hq4 := q7
  have e5 := h4.c_lc
  have e6 := h4.c_col
  have e7 := h4.c_line
  have e8 := h4.c_lll
  have v1 := h4.fz 1026
  have v2 := h4.fz 1032
  have v3 := h4.fz 1030
  have v4 := h4.fz 1029
  have v5 := h4.fz 1031
  have hFs4 : Fst W4 := fun i hi => hF4.keep.cell (hFs i hi) (by show ¬ B ≤ 3; omega)
  have hfr := fun (k j : Nat) (c : Nat) => fr_ascii_q W4 k j b 1 n c X hn1 hX1 e4 hFs4
  have hsl4 : ∀ W, (Instr.sliceAt 87 (.pointer (some ⟨b, 1, none⟩)) (some (.int .i64 0)) (some (.int .i64 (n : Int))) none).run Tryz.prog W = .ok (.slice (some ⟨b, 1, none⟩) n 1025) W := fun W => slice_buf W b 0 n (Nat.zero_le _) (by omega) (by omega)
  have g0 : ((X : Int) == 0) = false := by simp; omega
  have g1 : ((0 + 1 : Nat) : Int) = 1 := rfl
  have hs1 : ((s4.sp + 1 : Nat) : Int) = 1 := by rw [q1]; rfl
  have hsl5 : s4.sp < s4.se := by omega
  clear q1 q2 q3 q4 q5 q6 q7 hFs hFs4 hsl hsl0 hsl2 hm hcp hwo hn3
  have hB := hBb
  have hw40 : IntKind.i64.wrap 4 = 4 := by decide
  by_cases hn4 : n < 4
  · have hd4 : (n : Int) < 4 := by omega
    go_quiet ((go_at_call 92; exact hfr _ _ _))
    by_cases h10 : X = 10
    · subst h10
      go_wp2_with (fail)
      go_quiet (fail)
      go_wp2_with (fail)
      go_ret
      refine ⟨rfl, NxP.of (fast_post (line := wrap64 (s4.line + 1)) (col := 0) (lll := wrap64 (s4.col + 1)) o4 k4 hsl5 ?_ ?_) hP4 hq4 hF4⟩
      · have h' := fun k => ((((((h4.drewN k).put_sp (s4.sp + 1)).put_lc 1).put_col (wrap64 (s4.col + 1))).put_line (wrap64 (s4.line + 1))).put_lll (wrap64 (s4.col + 1))).put_col 0
        simp only [hs1] at h'
        exact h' _
      · exact ((((((Fr.refl B b _ W4).drewN _).setCell (p := ⟨b, 1026, none⟩) (Or.inl rfl) hB _).setCell (p := ⟨b, 1032, none⟩) (Or.inl rfl) hB _).setCell (p := ⟨b, 1030, none⟩) (Or.inl rfl) hB _).setCell (p := ⟨b, 1029, none⟩) (Or.inl rfl) hB _).setCell (p := ⟨b, 1031, none⟩) (Or.inl rfl) hB _ |>.setCell (p := ⟨b, 1030, none⟩) (Or.inl rfl) hB _
    · have g10 : ((X : Int) == 10) = false := by simp; omega
      go_wp2_with (fail)
      go_quiet (fail)
      go_wp2_with (fail)
      go_ret
      refine ⟨rfl, NxP.of (fast_post (line := s4.line) (col := wrap64 (s4.col + 1)) (lll := s4.lll) o4 k4 hsl5 ?_ ?_) hP4 hq4 hF4⟩
      · have h' := fun k => (((h4.drewN k).put_sp (s4.sp + 1)).put_lc 1).put_col (wrap64 (s4.col + 1))
        simp only [hs1] at h'
        exact h' _
      · exact ((((Fr.refl B b _ W4).drewN _).setCell (p := ⟨b, 1026, none⟩) (Or.inl rfl) hB _).setCell (p := ⟨b, 1032, none⟩) (Or.inl rfl) hB _).setCell (p := ⟨b, 1030, none⟩) (Or.inl rfl) hB _
  · have hd4 : ¬ (n : Int) < 4 := by omega
    go_quiet (fail)
    by_cases h10 : X = 10
    · subst h10
      go_wp2_with (fail)
      go_quiet (fail)
      go_wp2_with (fail)
      go_ret
      refine ⟨rfl, NxP.of (fast_post (line := wrap64 (s4.line + 1)) (col := 0) (lll := wrap64 (s4.col + 1)) o4 k4 hsl5 ?_ ?_) hP4 hq4 hF4⟩
      · have h' := fun k => ((((((h4.drewN k).put_sp (s4.sp + 1)).put_lc 1).put_col (wrap64 (s4.col + 1))).put_line (wrap64 (s4.line + 1))).put_lll (wrap64 (s4.col + 1))).put_col 0
        simp only [hs1] at h'
        exact h' _
      · exact ((((((Fr.refl B b _ W4).drewN _).setCell (p := ⟨b, 1026, none⟩) (Or.inl rfl) hB _).setCell (p := ⟨b, 1032, none⟩) (Or.inl rfl) hB _).setCell (p := ⟨b, 1030, none⟩) (Or.inl rfl) hB _).setCell (p := ⟨b, 1029, none⟩) (Or.inl rfl) hB _).setCell (p := ⟨b, 1031, none⟩) (Or.inl rfl) hB _ |>.setCell (p := ⟨b, 1030, none⟩) (Or.inl rfl) hB _
    · have g10 : ((X : Int) == 10) = false := by simp; omega
      go_wp2_with (fail)
      go_quiet (fail)
      go_wp2_with (fail)
      go_ret
      refine ⟨rfl, NxP.of (fast_post (line := s4.line) (col := wrap64 (s4.col + 1)) (lll := s4.lll) o4 k4 hsl5 ?_ ?_) hP4 hq4 hF4⟩
      · have h' := fun k => (((h4.drewN k).put_sp (s4.sp + 1)).put_lc 1).put_col (wrap64 (s4.col + 1))
        simp only [hs1] at h'
        exact h' _
      · exact ((((Fr.refl B b _ W4).drewN _).setCell (p := ⟨b, 1026, none⟩) (Or.inl rfl) hB _).setCell (p := ⟨b, 1032, none⟩) (Or.inl rfl) hB _).setCell (p := ⟨b, 1030, none⟩) (Or.inl rfl) hB _

end Go.Proofs.YtlckfiflfkbofaaGreatDoor

/- The scanner's next, its ways joined: from one character of the text to the one behind it. -/
namespace Go.Proofs.YtlckfiflfkbofaaGreatDoor
open Go.RowKit

/-- The scanner, told apart from its buffer. -/
structure Gs where
  P : Nat
  lc : Nat
  tk : Option Nat
  te : Option Nat
  ch : Int
  er : Value
  pk : ByteArray

structure Sx (w : World) (B b r : Nat) (t : ByteArray) (g : Gs) (s : SS) : Prop where
  sc : Sc w B b t s
  ok : Ok t s
  tk : TK t s g.tk
  P : s.off + s.sp = g.P
  lc : s.lc = g.lc
  te : ∀ e : Nat, g.te = some e → (s.off : Int) + s.te = e
  ch : s.ch = g.ch
  er : s.er = g.er
  pk : s.pk = g.pk
  r : s.r = r

/-- The tables and bounds that next wants. -/
structure En (w : World) (B : Nat) (t : ByteArray) : Prop where
  fst : Fst w
  eof : ∃ ke : Addr, w.cell? ⟨2, 0, none⟩ = some (.iface 209 (.pointer (some ke)))
  asc : Asc t
  hz : t.size ≤ 3000
  hB : 19 ≤ B

theorem En.keep {w w' : World} {B : Nat} {t : ByteArray} (h : En w B t) (k : Keep (fun k => B ≤ k) w w') : En w' B t := by
  obtain ⟨ke, hk⟩ := h.eof
  exact ⟨fun i hi => k.cell (h.fst i hi) (by have := h.hB; show ¬ B ≤ 3; omega), ⟨ke, k.cell hk (by have := h.hB; show ¬ B ≤ 2; omega)⟩, h.asc, h.hz, h.hB⟩

/-- The scanner with the text's character i ahead of it. -/
def Sa (w : World) (B b r : Nat) (t : ByteArray) (i : Nat) (g : Gs) : Prop := ∃ s, Sx w B b r t { g with P := min (i + 1) t.size, lc := if i < t.size then 1 else 0, te := none } s

theorem nx_calls (w : World) (B b r : Nat) (t : ByteArray) (g : Gs) (s : SS) (hE : En w B t) (h : Sx w B b r t g s) (hlc : g.tk ≠ none → g.lc = 1) :
    Calls Tryz.prog 75 #[.pointer (some ⟨b, 0, none⟩)] w fun e w' => e = .returned (.int .i32 (chA t g.P)) ∧ Sa w' B b r t g.P g ∧ Fr B b r w w' := by
  have fin : ∀ w', NxP B b t g.tk s w w' → Sa w' B b r t g.P g ∧ Fr B b r w w' := by
    rintro w' ⟨s', h1, h2, h3, h4, h5, h6, h7, h8, h9, h10, h11⟩
    rw [h.P] at h4 h5
    rw [h.r] at h11
    exact ⟨⟨s', h1, h2, h3, h4, h5, fun e he => by simp at he, h8.trans h.ch, h9.trans h.er, h10.trans h.pk, h6.trans h.r⟩, h11⟩
  rw [← h.P]
  by_cases hf : s.sp < s.se
  · exact (nx_fast w B b t s g.tk h.sc h.ok h.tk hE.asc hf).mono fun e w' ⟨a, c⟩ => ⟨a, by rw [h.P]; exact fin w' c⟩
  · have hsp : s.sp = s.se := by have := h.ok.sp; omega
    obtain ⟨ke, he⟩ := hE.eof
    have htk := h.tk
    cases hg : g.tk with
    | none =>
      rw [hg] at htk fin
      by_cases hm : s.off + s.se < t.size
      · exact (nxr_none_data w B b t s h.sc h.ok htk hE.asc hE.hz hsp hm hE.fst hE.hB).mono fun e w' ⟨a, c⟩ => ⟨a, by rw [h.P]; exact fin w' c⟩
      · exact (nxr_none_eof w B b t s h.sc h.ok htk hE.asc hE.hz hsp hE.fst hE.hB (by omega) ke he).mono fun e w' ⟨a, c⟩ => ⟨a, by rw [h.P]; exact fin w' c⟩
    | some a =>
      rw [hg] at htk fin
      have hl : s.lc = 1 := h.lc.trans (hlc (by rw [hg]; simp))
      by_cases hm : s.off + s.se < t.size
      · exact (nxr_some_data w a B b t s h.sc h.ok htk hE.asc hE.hz hsp hE.fst hE.hB hl hm).mono fun e w' ⟨a, c⟩ => ⟨a, by rw [h.P]; exact fin w' c⟩
      · exact (nxr_some_eof w a B b t s h.sc h.ok htk hE.asc hE.hz hsp hE.fst hE.hB hl (by omega) ke he).mono fun e w' ⟨a, c⟩ => ⟨a, by rw [h.P]; exact fin w' c⟩

/-- One step on. -/
theorem nx_at (w : World) (B b r : Nat) (t : ByteArray) (i : Nat) (g : Gs) (hE : En w B t) (h : Sa w B b r t i g) (hi : i < t.size) :
    Calls Tryz.prog 75 #[.pointer (some ⟨b, 0, none⟩)] w fun e w' => e = .returned (.int .i32 (chA t (i + 1))) ∧ Sa w' B b r t (i + 1) g ∧ Fr B b r w w' := by
  obtain ⟨s, hs⟩ := h
  have := nx_calls w B b r t _ s hE hs (fun _ => if_pos hi)
  have e : min (i + 1) t.size = i + 1 := by omega
  dsimp only at this
  rw [e] at this
  exact this

theorem chA_lo {t : ByteArray} (hA : Asc t) (i : Nat) : -1 ≤ chA t i ∧ chA t i < 128 := by
  by_cases h : i < t.size
  · have := hA i h; omega
  · unfold chA; rw [dif_neg h]; omega

end Go.Proofs.YtlckfiflfkbofaaGreatDoor

/- scanIdentifier and Peek. -/
namespace Go.Proofs.YtlckfiflfkbofaaGreatDoor
open Go.RowKit

theorem chA_eof {t : ByteArray} {i : Nat} (h : t.size ≤ i) : chA t i = -1 := by unfold chA; rw [dif_neg (by omega)]

theorem id_at {w : World} {B b r : Nat} {t : ByteArray} {k : Nat} {g : Gs} (h : Sa w B b r t k g) (x i : Int) (h1 : -1 ≤ x) (h2 : x < 128) :
    Calls Tryz.prog 77 #[.pointer (some ⟨b, 0, none⟩), .int .i32 x, .int .i64 i] w fun e w' => e = .returned (.bool (identB x i)) ∧ w = w' := by
  obtain ⟨s, hs⟩ := h
  exact ident_run w B b t s x i hs.sc h1 h2

set_option maxRecDepth 100000 in
set_option maxHeartbeats 1600000 in
/-- A word of n letters from i on. -/
theorem id_calls (w : World) (B b r : Nat) (t : ByteArray) (i n : Nat) (g : Gs) (hE : En w B t) (h : Sa w B b r t i g) (hn : 0 < n) (hi : i + n ≤ t.size) (hL : ∀ j, j < n → isL (chA t (i + j)) = true)
    (hX : isL (chA t (i + n)) = false ∧ isD (chA t (i + n)) = false ∧ (chA t (i + n) == 95) = false) :
    Calls Tryz.prog 78 #[.pointer (some ⟨b, 0, none⟩)] w fun e w' => e = .returned (.int .i32 (chA t (i + n))) ∧ Sa w' B b r t (i + n) g ∧ Fr B b r w w' := by
  have n0 := nx_at w B b r t i g hE h (by omega)
  obtain ⟨R, hR⟩ : ∃ R : World → Prop, ∀ w', (Sa w' B b r t (i + n) g ∧ Fr B b r w w') = R w' := ⟨_, fun _ => rfl⟩
  have hRe := Lib.hid hR
  suffices hs : Calls Tryz.prog 78 #[.pointer (some ⟨b, 0, none⟩)] w fun e w' => e = .returned (.int .i32 (chA t (i + n))) ∧ R w' from hs.mono fun e w' ⟨a, c⟩ => ⟨a, by rw [hR]; exact c⟩
  clear hR
  have HL := Lib.hid hL
  have HX := Lib.hid hX
  have HI := Lib.hid hi
  obtain ⟨X, hXe⟩ : ∃ X, X = chA t (i + n) := ⟨_, rfl⟩
  rw [← hXe]
  have HXe := Lib.hid hXe
  clear hXe hL hX hi h
  go_enter Tryz.func78, Tryz.ntmps78
  go_wp2_with (go_at_call 75; refine n0.mono ?_; rintro e w1 ⟨rfl, hS, hF⟩; refine Hid.out ?_)
  refine Lib.hid ?_
  go_wp2_with (fail)
  go_loopg [3, 4] (n - 1) (fun kq s3 s4 wx => ∃ j : Nat, 1 ≤ j ∧ j ≤ n ∧ kq = n - j ∧ s3 = .int .i32 (chA t (i + j)) ∧ s4 = .int .i64 (j : Int) ∧ Sa wx B b r t (i + j) g ∧ Fr B b r w wx)
  case atStart => exact ⟨1, by omega, by have := HI.out; omega, rfl, rfl, rfl, hS, hF⟩
  case round =>
    obtain ⟨j, j1, j2, hk, rfl, rfl, hSj, hFj⟩ := hrel
    have hEj := hE.keep hFj.keep
    have hlo := chA_lo hE.asc (i + j)
    have hid := id_at hSj (chA t (i + j)) (j : Int) hlo.1 hlo.2
    have hi2 : i + n ≤ 3000 := Nat.le_trans HI.out hE.hz
    by_cases hjn : j < n
    · have hb : identB (chA t (i + j)) (j : Int) = true := by unfold identB; rw [HL.out j hjn]; simp
      rw [hb] at hid
      have nx := nx_at wr B b r t (i + j) g hEj hSj (by have := HI.out; omega)
      rw [Nat.add_assoc] at nx
      clear hb hlo
      go_wp2_with (first | (go_at_call 77; refine hid.mono ?_; rintro e w' ⟨rfl, rfl⟩) | (go_at_call 75; refine nx.mono ?_; rintro e w2 ⟨rfl, hS2, hF2⟩))
      go_roundg (n - (j + 1))
      case measure => omega
      case rel => exact ⟨j + 1, by omega, by omega, rfl, rfl, by simp, hS2, hFj.trans hF2⟩
    · have hjn : j = n := by omega
      subst hjn
      obtain ⟨x1, x2, x3⟩ := HX.out
      have hb : identB (chA t (i + j)) (j : Int) = false := by unfold identB; rw [x1, x2, x3]; rfl
      rw [hb] at hid
      rw [← HXe.out] at hid ⊢
      clear hb hlo x1 x2 x3
      go_wp2_with (first | (go_at_call 77; refine hid.mono ?_; rintro e w' ⟨rfl, rfl⟩))
      go_ret
      refine ⟨rfl, ?_⟩
      rw [← hRe.out]
      exact ⟨hSj, hFj⟩

end Go.Proofs.YtlckfiflfkbofaaGreatDoor

/- Peek: the character ahead. -/
namespace Go.Proofs.YtlckfiflfkbofaaGreatDoor
open Go.RowKit

section
variable {w : World} {B b r : Nat} {t : ByteArray} {g : Gs} {s : SS} {i : Nat}
theorem Sx.put_ch (h : Sx w B b r t g s) (x : Int) : Sx (w.setCell ⟨b, 1038, none⟩ (.int .i32 x)) B b r t { g with ch := x } { s with ch := x } :=
  ⟨h.sc.put_ch x, ⟨⟨h.ok.se, h.ok.sp, h.ok.rd, h.ok.sz, h.ok.sb, h.ok.st⟩, h.ok.lc1, h.ok.lc⟩, by
    have := h.tk
    cases hk : g.tk with
    | none => rw [hk] at this; exact this
    | some a => rw [hk] at this; exact this, h.P, h.lc, h.te, rfl, h.er, h.pk, h.r⟩
theorem Sa.put_ch (h : Sa w B b r t i g) (x : Int) : Sa (w.setCell ⟨b, 1038, none⟩ (.int .i32 x)) B b r t i { g with ch := x } := by
  obtain ⟨s, hs⟩ := h
  exact ⟨_, hs.put_ch x⟩
theorem Sa.Bb (h : Sa w B b r t i g) : B ≤ b := by obtain ⟨s, hs⟩ := h; exact hs.sc.Bb
theorem Sa.c_ch (h : Sa w B b r t i g) : w.cell? ⟨b, 1038, none⟩ = some (.int .i32 g.ch) := by
  obtain ⟨s, hs⟩ := h
  rw [hs.sc.c_ch, show s.ch = g.ch from hs.ch]
theorem Sa.fz (h : Sa w B b r t i g) (k : Nat) : w.frozen? ⟨b, k, none⟩ = false := by obtain ⟨s, hs⟩ := h; exact hs.sc.fz k
end

set_option maxRecDepth 100000 in
set_option maxHeartbeats 1600000 in
theorem pk_first (w : World) (B b r : Nat) (t : ByteArray) (g : Gs) (s : SS) (hE : En w B t) (h : Sx w B b r t g s) (hP : g.P = 0) (hch : g.ch = -2) (htk : g.tk = none) :
    Calls Tryz.prog 74 #[.pointer (some ⟨b, 0, none⟩)] w fun e w' => e = .returned (.int .i32 (chA t 0)) ∧ Sa w' B b r t 0 { g with ch := chA t 0 } ∧ Fr B b r w w' := by
  have c := h.sc.c_ch
  rw [h.ch, hch] at c
  have nx := nx_calls w B b r t g s hE h (fun hk => absurd htk hk)
  rw [hP] at nx
  have hlo := chA_lo hE.asc 0
  have hB := h.sc.Bb
  have h65 : (chA t 0 == 65279) = false := by simp; omega
  obtain ⟨R, hR⟩ : ∃ R : World → Prop, ∀ w', (Sa w' B b r t 0 { g with ch := chA t 0 } ∧ Fr B b r w w') = R w' := ⟨_, fun _ => rfl⟩
  have hRe := Lib.hid hR
  suffices hs : Calls Tryz.prog 74 #[.pointer (some ⟨b, 0, none⟩)] w fun e w' => e = .returned (.int .i32 (chA t 0)) ∧ R w' from hs.mono fun e w' ⟨a, c⟩ => ⟨a, by rw [hR]; exact c⟩
  clear hR hch hP htk h hlo
  generalize hx : chA t 0 = x at *
  go_enter Tryz.func74, Tryz.ntmps74
  go_wp2_with (go_at_call 75; refine nx.mono ?_; rintro e w1 ⟨rfl, hS, hF⟩; refine Hid.out ?_)
  refine Lib.hid ?_
  have c1 := hS.c_ch
  have z1 := hS.fz 1038
  go_wp2_with (fail)
  go_ret
  refine ⟨rfl, ?_⟩
  rw [← hRe.out]
  exact ⟨hS.put_ch x, hF.setCell (p := ⟨b, 1038, none⟩) (Or.inl rfl) hB _⟩

set_option maxRecDepth 100000 in
theorem pk_later (w : World) (B b : Nat) (t : ByteArray) (s : SS) (h : Sc w B b t s) (hch : s.ch ≠ -2) :
    Calls Tryz.prog 74 #[.pointer (some ⟨b, 0, none⟩)] w fun e w' => e = .returned (.int .i32 s.ch) ∧ w = w' := by
  have c := h.c_ch
  have e1 : (s.ch == -2) = false := by simpa using hch
  go_enter Tryz.func74, Tryz.ntmps74
  go_wp2_with (fail)
  go_ret
  exact ⟨rfl, rfl⟩

end Go.Proofs.YtlckfiflfkbofaaGreatDoor

/- The scanner's digits. -/
namespace Go.Proofs.YtlckfiflfkbofaaGreatDoor
open Go.RowKit

def sepN (n : Nat) : Int := if n = 0 then 0 else 1
theorem sep_or (n : Nat) : Go.bits .or .i64 (sepN n) 1 = sepN (n + 1) := by
  unfold sepN; by_cases h : n = 0
  · rw [if_pos h, if_neg (by omega)]; decide
  · rw [if_neg h, if_neg (by omega)]; decide

theorem or_eq_tt (x : Int) (h : (x == 95) = false) : (x == 95) = false := h

set_option maxRecDepth 100000 in
set_option maxHeartbeats 1600000 in
/-- n digits from i on, in base 10. -/
theorem dg10 (w : World) (B b r : Nat) (t : ByteArray) (i n : Nat) (g : Gs) (iv : Value) (hE : En w B t) (h : Sa w B b r t i g) (hi : i + n ≤ t.size) (hL : ∀ j, j < n → isD (chA t (i + j)) = true)
    (hX : isD (chA t (i + n)) = false ∧ (chA t (i + n) == 95) = false) :
    Calls Tryz.prog 96 #[.pointer (some ⟨b, 0, none⟩), .int .i32 (chA t i), .int .i64 10, iv] w fun e w' => e = .returned (.tuple #[.int .i32 (chA t (i + n)), .int .i64 (sepN n)]) ∧ Sa w' B b r t (i + n) g ∧ Fr B b r w w' := by
  obtain ⟨R, hR⟩ : ∃ R : World → Prop, ∀ w', (Sa w' B b r t (i + n) g ∧ Fr B b r w w') = R w' := ⟨_, fun _ => rfl⟩
  have hRe := Lib.hid hR
  suffices hs : Calls Tryz.prog 96 #[.pointer (some ⟨b, 0, none⟩), .int .i32 (chA t i), .int .i64 10, iv] w fun e w' => e = .returned (.tuple #[.int .i32 (chA t (i + n)), .int .i64 (sepN n)]) ∧ R w' from hs.mono fun e w' ⟨a, c⟩ => ⟨a, by rw [hR]; exact c⟩
  clear hR
  have HL := Lib.hid hL
  have HX := Lib.hid hX
  have HI := Lib.hid hi
  obtain ⟨X, hXe⟩ : ∃ X, X = chA t (i + n) := ⟨_, rfl⟩
  rw [← hXe]
  have HXe := Lib.hid hXe
  clear hXe hL hX hi
  obtain ⟨Y, hY⟩ : ∃ Y, Y = sepN n := ⟨_, rfl⟩
  rw [← hY]
  have HY := Lib.hid hY
  clear hY
  go_enter Tryz.func96, Tryz.ntmps96
  go_wp2_with (fail)
  go_loopg [8, 9] n (fun kq s8 s9 wx => ∃ j : Nat, j ≤ n ∧ kq = n - j ∧ s8 = .int .i32 (chA t (i + j)) ∧ s9 = .int .i64 (sepN j) ∧ Sa wx B b r t (i + j) g ∧ Fr B b r w wx)
  case atStart => exact ⟨0, by omega, rfl, rfl, rfl, h, Fr.refl _ _ _ _⟩
  case round =>
    obtain ⟨j, j2, hk, rfl, rfl, hSj, hFj⟩ := hrel
    have hEj := hE.keep hFj.keep
    have hd := fun w => dec_run (chA t (i + j)) w
    by_cases hjn : j < n
    · have hb := HL.out j hjn
      rw [hb] at hd
      have nx := nx_at wr B b r t (i + j) g hEj hSj (by have := HI.out; omega)
      rw [Nat.add_assoc] at nx
      have hso := sep_or j
      have hr : 48 ≤ chA t (i + j) ∧ chA t (i + j) ≤ 57 := by unfold isD at hb; simpa using hb
      obtain ⟨r1, r2⟩ := hr
      generalize sepN j = y at *
      generalize hx : chA t (i + j) = x at *
      have e95 : (x == 95) = false := by simp; omega
      have e58 : decide (x ≥ 58) = false := decide_eq_false (by omega)
      clear hx hb
      go_wp2_with (first | (go_at_call 79; refine (hd _).mono ?_; rintro e w' ⟨rfl, rfl⟩) | (go_at_call 75; refine nx.mono ?_; rintro e w2 ⟨rfl, hS2, hF2⟩))
      go_roundg (n - (j + 1))
      case measure => omega
      case rel => exact ⟨j + 1, by omega, rfl, rfl, rfl, hS2, hFj.trans hF2⟩
    · have hjn : j = n := by omega
      subst hjn
      obtain ⟨x1, x2⟩ := HX.out
      rw [x1] at hd
      rw [← HXe.out] at hd x2 ⊢
      rw [← HY.out]
      clear x1
      go_wp2_with (first | (go_at_call 79; refine (hd _).mono ?_; rintro e w' ⟨rfl, rfl⟩))
      go_ret2
      refine ⟨rfl, ?_⟩
      rw [← hRe.out]
      exact ⟨hSj, hFj⟩

end Go.Proofs.YtlckfiflfkbofaaGreatDoor

/- The scanner's digits behind a leading 0, where digits from 8 on are noted in a variable. -/
namespace Go.Proofs.YtlckfiflfkbofaaGreatDoor
open Go.RowKit

/-- A variable of the caller's, a rune in block v. -/
def IsV (w : World) (v : Nat) : Prop := ∃ z : Int, w.heap[v]? = some (.cells #[.int .i32 z] 21 (0, 0))

/-- As Fr, but block v may turn too. -/
structure Frx (B b r v : Nat) (w w' : World) : Prop where
  bel : Below B w w'
  oth : ∀ k o, w.heap[k]? = some o → k ≠ b → k ≠ r → k ≠ v → (∀ c fz, o ≠ .cells c 5 fz) → w'.heap[k]? = some o

section
variable {B b r v : Nat} {w w' w'' : World}
theorem Frx.refl (B b r v : Nat) (w : World) : Frx B b r v w w := ⟨Below.refl _ _, fun _ _ h _ _ _ _ => h⟩
theorem Frx.trans (h : Frx B b r v w w') (k : Frx B b r v w' w'') : Frx B b r v w w'' :=
  ⟨h.bel.trans k.bel, fun i o hi hb hr hv ho => k.oth i o (h.oth i o hi hb hr hv ho) hb hr hv ho⟩
theorem Fr.x (h : Fr B b r w w') : Frx B b r v w w' := ⟨h.bel, fun k o hk hb hr _ ho => h.oth k o hk hb hr ho⟩
theorem Frx.setV (h : Frx B b r v w w') (hB : B ≤ v) (x : Value) : Frx B b r v w (w'.setCell ⟨v, 0, none⟩ x) :=
  ⟨h.bel.setCell hB x, fun k o hk hb hr hv ho => by rw [Below.heap_setCell _ _ _ _ hv]; exact h.oth k o hk hb hr hv ho⟩
theorem Frx.keep (h : Frx B b r v w w') : Keep (fun k => B ≤ k) w w' := ⟨h.bel.os, h.bel.tape, h.bel.output, h.bel.size, fun k hk hs => h.bel.block k (by omega)⟩
/-- A block made behind w. -/
theorem Frx.fr (h : Frx B b r v w w') (hv : w.heap.size ≤ v) : Fr B b r w w' := ⟨h.bel, fun k o hk hb hr ho => h.oth k o hk hb hr (by have := (Array.getElem?_eq_some_iff.1 hk).1; omega) ho⟩

theorem IsV.fr (h : IsV w v) (k : Fr B b r w w') (hb : v ≠ b) (hr : v ≠ r) : IsV w' v := by
  obtain ⟨z, hz⟩ := h
  exact ⟨z, k.oth v _ hz hb hr (fun c fz e => by cases e)⟩
theorem IsV.set (h : IsV w v) (x : Int) : IsV (w.setCell ⟨v, 0, none⟩ (.int .i32 x)) v := by
  obtain ⟨z, hz⟩ := h
  exact ⟨x, Lib.heap_setCell_same (i := 0) hz _⟩

theorem Sc.setV {t : ByteArray} {s : SS} (h : Sc w B b t s) (hv : IsV w v) (hb : v ≠ b) (hr : v ≠ s.r) (x : Value) : Sc (w.setCell ⟨v, 0, none⟩ x) B b t s := by
  obtain ⟨z, hz⟩ := hv
  exact ⟨buf_other (r := v) h.buf (fun k hk => Below.heap_setCell _ _ _ _ hk) hb (fun c fz e => by rw [hz] at e; cases e), by rw [Below.heap_setCell _ _ _ _ (Ne.symm hr)]; exact h.rdr, h.rB, by simpa [World.setCell] using h.BW⟩
theorem Sa.setV {t : ByteArray} {i : Nat} {g : Gs} (h : Sa w B b r t i g) (hv : IsV w v) (hb : v ≠ b) (hr : v ≠ r) (x : Value) : Sa (w.setCell ⟨v, 0, none⟩ x) B b r t i g := by
  obtain ⟨s, hs⟩ := h
  exact ⟨s, hs.sc.setV hv hb (by rw [hs.r]; exact hr) x, hs.ok, hs.tk, hs.P, hs.lc, hs.te, hs.ch, hs.er, hs.pk, hs.r⟩
end

set_option maxRecDepth 100000 in
set_option maxHeartbeats 1600000 in
/-- n digits from i on, noted in v from '8' on. -/
theorem dg8 (w : World) (B b r v : Nat) (t : ByteArray) (i n : Nat) (g : Gs) (hE : En w B t) (h : Sa w B b r t i g) (hv : IsV w v) (hvB : B ≤ v) (hvb : v ≠ b) (hvr : v ≠ r) (hi : i + n ≤ t.size) (hL : ∀ j, j < n → isD (chA t (i + j)) = true)
    (hX : isD (chA t (i + n)) = false ∧ (chA t (i + n) == 95) = false) :
    Calls Tryz.prog 96 #[.pointer (some ⟨b, 0, none⟩), .int .i32 (chA t i), .int .i64 8, .pointer (some ⟨v, 0, none⟩)] w fun e w' => e = .returned (.tuple #[.int .i32 (chA t (i + n)), .int .i64 (sepN n)]) ∧ Sa w' B b r t (i + n) g ∧ IsV w' v ∧ Frx B b r v w w' := by
  obtain ⟨R, hR⟩ : ∃ R : World → Prop, ∀ w', (Sa w' B b r t (i + n) g ∧ IsV w' v ∧ Frx B b r v w w') = R w' := ⟨_, fun _ => rfl⟩
  have hRe := Lib.hid hR
  suffices hs : Calls Tryz.prog 96 #[.pointer (some ⟨b, 0, none⟩), .int .i32 (chA t i), .int .i64 8, .pointer (some ⟨v, 0, none⟩)] w fun e w' => e = .returned (.tuple #[.int .i32 (chA t (i + n)), .int .i64 (sepN n)]) ∧ R w' from hs.mono fun e w' ⟨a, c⟩ => ⟨a, by rw [hR]; exact c⟩
  clear hR
  have HL := Lib.hid hL
  have HX := Lib.hid hX
  have HI := Lib.hid hi
  obtain ⟨X, hXe⟩ : ∃ X, X = chA t (i + n) := ⟨_, rfl⟩
  rw [← hXe]
  have HXe := Lib.hid hXe
  clear hXe hL hX hi
  obtain ⟨Y, hY⟩ : ∃ Y, Y = sepN n := ⟨_, rfl⟩
  rw [← hY]
  have HY := Lib.hid hY
  clear hY
  go_enter Tryz.func96, Tryz.ntmps96
  go_wp2_with (fail)
  go_loopg [8, 9] n (fun kq s8 s9 wx => ∃ j : Nat, j ≤ n ∧ kq = n - j ∧ s8 = .int .i32 (chA t (i + j)) ∧ s9 = .int .i64 (sepN j) ∧ Sa wx B b r t (i + j) g ∧ IsV wx v ∧ Frx B b r v w wx)
  case atStart => exact ⟨0, by omega, rfl, rfl, rfl, h, hv, Frx.refl _ _ _ _ _⟩
  case round =>
    obtain ⟨j, j2, hk, rfl, rfl, hSj, hVj, hFj⟩ := hrel
    have hEj := hE.keep hFj.keep
    have hd := fun w => dec_run (chA t (i + j)) w
    by_cases hjn : j < n
    · have hb := HL.out j hjn
      rw [hb] at hd
      have hso := sep_or j
      have hjt : i + j < t.size := by have := HI.out; omega
      have hr : 48 ≤ chA t (i + j) ∧ chA t (i + j) ≤ 57 := by unfold isD at hb; simpa using hb
      obtain ⟨r1, r2⟩ := hr
      generalize sepN j = y at *
      generalize hx : chA t (i + j) = x at *
      have e95 : (x == 95) = false := by simp; omega
      by_cases h56 : x ≥ 56
      · have e56 : decide (x ≥ 56) = true := decide_eq_true h56
        obtain ⟨z, hz⟩ := id hVj
        have cz : wr.cell? ⟨v, 0, none⟩ = some (.int .i32 z) := by rw [Lib.cell_of_heap hz]; rfl
        have fz : wr.frozen? ⟨v, 0, none⟩ = false := Lib.frozen_of_heap hz 0
        by_cases hz0 : z = 0
        · subst hz0
          have nx := nx_at (wr.setCell ⟨v, 0, none⟩ (.int .i32 x)) B b r t (i + j) g (hE.keep (hFj.setV hvB _).keep) (hSj.setV hVj hvb hvr _) hjt
          rw [Nat.add_assoc] at nx
          clear hx hb hz
          go_wp2_with (first | (go_at_call 79; refine (hd _).mono ?_; rintro e w' ⟨rfl, rfl⟩) | (go_at_call 75; refine nx.mono ?_; rintro e w2 ⟨rfl, hS2, hF2⟩))
          go_roundg (n - (j + 1))
          case measure => omega
          case rel => exact ⟨j + 1, by omega, rfl, rfl, rfl, hS2, (hVj.set x).fr hF2 hvb hvr, (hFj.setV hvB _).trans hF2.x⟩
        · have ez : (z == 0) = false := by simpa using hz0
          have nx := nx_at wr B b r t (i + j) g hEj hSj hjt
          rw [Nat.add_assoc] at nx
          clear hx hb hz
          go_wp2_with (first | (go_at_call 79; refine (hd _).mono ?_; rintro e w' ⟨rfl, rfl⟩) | (go_at_call 75; refine nx.mono ?_; rintro e w2 ⟨rfl, hS2, hF2⟩))
          go_roundg (n - (j + 1))
          case measure => omega
          case rel => exact ⟨j + 1, by omega, rfl, rfl, rfl, hS2, hVj.fr hF2 hvb hvr, hFj.trans hF2.x⟩
      · have e56 : decide (x ≥ 56) = false := decide_eq_false h56
        have nx := nx_at wr B b r t (i + j) g hEj hSj hjt
        rw [Nat.add_assoc] at nx
        clear hx hb
        go_wp2_with (first | (go_at_call 79; refine (hd _).mono ?_; rintro e w' ⟨rfl, rfl⟩) | (go_at_call 75; refine nx.mono ?_; rintro e w2 ⟨rfl, hS2, hF2⟩))
        go_roundg (n - (j + 1))
        case measure => omega
        case rel => exact ⟨j + 1, by omega, rfl, rfl, rfl, hS2, hVj.fr hF2 hvb hvr, hFj.trans hF2.x⟩
    · have hjn : j = n := by omega
      subst hjn
      obtain ⟨x1, x2⟩ := HX.out
      rw [x1] at hd
      rw [← HXe.out] at hd x2 ⊢
      rw [← HY.out]
      clear x1
      go_wp2_with (first | (go_at_call 79; refine (hd _).mono ?_; rintro e w' ⟨rfl, rfl⟩))
      go_ret2
      refine ⟨rfl, ?_⟩
      rw [← hRe.out]
      exact ⟨hSj, hVj, hFj⟩

end Go.Proofs.YtlckfiflfkbofaaGreatDoor

/- scanNumber, at decimals that have no 0 ahead of another digit. -/
namespace Go.Proofs.YtlckfiflfkbofaaGreatDoor
open Go.RowKit

theorem Sa.old {w w' : World} {B b r : Nat} {t : ByteArray} {i : Nat} {g : Gs} (h : Sa w B b r t i g) (k : Below w.heap.size w w') : Sa w' B b r t i g := by
  obtain ⟨s, hs⟩ := h
  exact ⟨s, hs.sc.old k, hs.ok, hs.tk, hs.P, hs.lc, hs.te, hs.ch, hs.er, hs.pk, hs.r⟩
theorem Sa.BW {w : World} {B b r : Nat} {t : ByteArray} {i : Nat} {g : Gs} (h : Sa w B b r t i g) : B ≤ w.heap.size := by obtain ⟨s, hs⟩ := h; exact hs.sc.BW
theorem Sa.blt {w : World} {B b r : Nat} {t : ByteArray} {i : Nat} {g : Gs} (h : Sa w B b r t i g) : b < w.heap.size := by obtain ⟨s, hs⟩ := h; exact hs.sc.lt
theorem Sa.rlt {w : World} {B b r : Nat} {t : ByteArray} {i : Nat} {g : Gs} (h : Sa w B b r t i g) : r < w.heap.size := by obtain ⟨s, hs⟩ := h; rw [← hs.r]; exact hs.sc.rlt
theorem Sa.mode {w : World} {B b r : Nat} {t : ByteArray} {i : Nat} {g : Gs} (h : Sa w B b r t i g) : w.cell? ⟨b, 1041, none⟩ = some (.int .u64 28) := by
  obtain ⟨s, hs⟩ := h; exact hs.sc.c 1041 (by omega) (by omega)

def IsV0 (w : World) (v : Nat) : Prop := w.heap[v]? = some (.cells #[.int .i32 0] 21 (0, 0))
theorem IsV0.v {w : World} {v : Nat} (h : IsV0 w v) : IsV w v := ⟨0, h⟩
theorem IsV0.fr {w w' : World} {B b r v : Nat} (h : IsV0 w v) (k : Fr B b r w w') (hb : v ≠ b) (hr : v ≠ r) : IsV0 w' v := k.oth v _ h hb hr (fun c fz e => by cases e)

set_option maxRecDepth 100000 in
/-- No digit in base 8. -/
theorem dg8_none (w : World) (b : Nat) (x : Int) (iv : Value) (hX : isD x = false ∧ (x == 95) = false) :
    Calls Tryz.prog 96 #[.pointer (some ⟨b, 0, none⟩), .int .i32 x, .int .i64 8, iv] w fun e w' => e = .returned (.tuple #[.int .i32 x, .int .i64 0]) ∧ w = w' := by
  have hd := fun w => dec_run x w
  rw [hX.1] at hd
  have h2 := hX.2
  go_enter Tryz.func96, Tryz.ntmps96
  go_wp2_with (fail)
  refine wp_loop_rounds 1 ?_
  rw [rounds_succ]
  go_wp2_with (first | (go_at_call 79; refine (hd _).mono ?_; rintro e w' ⟨rfl, rfl⟩))
  go_ret2
  exact ⟨rfl, rfl⟩

/-- What stands behind a mantissa that ends at m: nothing of a number's, or an exponent up to e. -/
def ExpT (t : ByteArray) (m e : Nat) : Prop :=
  (e = m ∧ (lowA (chA t m) == 101) = false ∧ (lowA (chA t m) == 112) = false) ∨
  (∃ q, (lowA (chA t m) == 101) = true ∧ m < t.size ∧ q < e ∧ e ≤ t.size ∧ (∀ j, j < e - q → isD (chA t (q + j)) = true) ∧ isD (chA t e) = false ∧ (chA t e == 95) = false ∧
    ((q = m + 1 ∧ (chA t (m + 1) == 43) = false ∧ (chA t (m + 1) == 45) = false) ∨ (q = m + 2 ∧ (chA t (m + 1) == 43 ∨ ((chA t (m + 1) == 43) = false ∧ chA t (m + 1) == 45)))))

def SnP (B b r : Nat) (t : ByteArray) (e : Nat) (g : Gs) (w w' : World) : Prop := Sa w' B b r t e g ∧ Fr B b r w w'

def Dg8P (B b r v : Nat) (t : ByteArray) (k : Nat) (g : Gs) (w w' : World) : Prop := Sa w' B b r t k g ∧ IsV w' v ∧ Frx B b r v w w'
theorem dg8' (w : World) (B b r v : Nat) (t : ByteArray) (i m : Nat) (g : Gs) (hE : En w B t) (h : Sa w B b r t i g) (hv : IsV w v) (hvB : B ≤ v) (hvb : v ≠ b) (hvr : v ≠ r) (him : i ≤ m) (hi : m ≤ t.size) (hL : ∀ j, j < m - i → isD (chA t (i + j)) = true)
    (hX : isD (chA t m) = false ∧ (chA t m == 95) = false) :
    Calls Tryz.prog 96 #[.pointer (some ⟨b, 0, none⟩), .int .i32 (chA t i), .int .i64 8, .pointer (some ⟨v, 0, none⟩)] w fun e w' => e = .returned (.tuple #[.int .i32 (chA t m), .int .i64 (sepN (m - i))]) ∧ Dg8P B b r v t m g w w' := by
  have h8 := dg8 w B b r v t i (m - i) g hE h hv hvB hvb hvr (by omega) hL (by rw [show i + (m - i) = m by omega]; exact hX)
  rw [show i + (m - i) = m by omega] at h8
  exact h8

theorem or_sep1 (n : Nat) : Go.bits .or .i64 1 (sepN n) = 1 := by unfold sepN; split <;> decide

def numTok (x : Int) : Prop := x = -3 ∨ x = -4

set_option maxRecDepth 100000 in
set_option maxHeartbeats 3200000 in
theorem sn_a (w : World) (B b r : Nat) (t : ByteArray) (i m e : Nat) (g : Gs) (hE : En w B t) (h : Sa w B b r t i g) (hi : i < m) (hm : m ≤ t.size) (hD : ∀ j, j < m - i → isD (chA t (i + j)) = true) (hM : isD (chA t m) = false ∧ (chA t m == 95) = false) (hX : ExpT t m e) :
    Calls Tryz.prog 80 #[.pointer (some ⟨b, 0, none⟩), .int .i32 (chA t i), .bool true] w fun en w' => ∃ k : Int, en = .returned (.tuple #[.int .i32 k, .int .i32 (chA t e)]) ∧ numTok k ∧ SnP B b r t e g w w' := by
  obtain ⟨v, hv⟩ : ∃ v, v = w.heap.size := ⟨_, rfl⟩
  have hvs : w.heap.size ≤ v := by omega
  have hvb : v ≠ b := by have := h.blt; omega
  have hvr : v ≠ r := by have := h.rlt; omega
  have hvB : B ≤ v := by have := h.BW; omega
  have hal : Below w.heap.size w (w.alloc (.cells #[.int .i32 0] 21)) := (Below.refl _ w).alloc (Nat.le_refl _) _
  have hF0 : Frx B b r v w (w.alloc (.cells #[.int .i32 0] 21)) := (Fr.of_below hal h.BW).x
  have hS0 := h.old hal
  have hE0 := hE.keep hF0.keep
  have hV0 : IsV0 (w.alloc (.cells #[.int .i32 0] 21)) v := by rw [hv]; exact heap_alloc_new w _
  subst hv
  generalize hw0 : w.alloc (.cells #[.int .i32 0] 21) = w0 at hF0 hS0 hE0 hV0
  have d1 := dg10 w0 B b r t i (m - i) g (.pointer (some ⟨w.heap.size, 0, none⟩)) hE0 hS0 (by omega) (fun j hj => hD j (by omega)) (by rw [show i + (m - i) = m by omega]; exact hM)
  rw [show i + (m - i) = m by omega, show sepN (m - i) = 1 by unfold sepN; rw [if_neg (by omega)], ← hw0] at d1
  have or0 : Go.bits .or .i64 0 1 = 1 := by decide
  have HW0 := Lib.hid hw0
  clear hw0
  go_enter Tryz.func80, Tryz.ntmps80
  go_wp2_with (first | (go_at_call 96; refine d1.mono ?_; rintro e' WM ⟨rfl, hSF⟩; refine Hid.out ?_))
  refine Lib.hid ?_
  obtain ⟨hS, hF1⟩ := hSF
  rw [HW0.out] at hF1
  have hV := hV0.fr hF1 hvb hvr
  have hVV := hV.v
  have hF := hF0.trans hF1.x
  have hEm := hE.keep hF.keep
  have hlow := fun w => lower_run (chA t m) w
  have cm := hS.mode
  have or1 : Go.bits .or .i64 1 1 = 1 := by decide
  have and2 : Go.bits .and .i64 1 2 = 0 := by decide
  have and1' : Go.bits .and .i64 1 1 = 1 := by decide
  have and16 : Go.bits .and .u64 28 16 = 16 := by decide
  rcases hX with ⟨rfl, hx1, hx2⟩ | ⟨q, hx1, hx2, hx3, hx4, hx5, hx6, hx7, hx8⟩
  · go_wp2_with (go_at_call 95; refine (hlow _).mono ?_; rintro e w' ⟨rfl, rfl⟩)
    go_ret2
    exact ⟨_, rfl, Or.inr rfl, hS, hF.fr hvs⟩
  · have hq := beq_iff_eq.1 hx1
    rw [hq] at hlow
    clear hq hx1
    have nx := nx_at WM B b r t m g hEm hS hx2
    go_wp2_with (first | (go_at_call 95; refine (hlow _).mono ?_; rintro en w' ⟨rfl, rfl⟩) | (go_at_call 75; refine nx.mono ?_; rintro en W2 ⟨rfl, hS2, hF2⟩; refine Hid.out ?_))
    refine Lib.hid ?_
    have hE2 := hEm.keep hF2.keep
    rcases hx8 with ⟨rfl, s1, s2⟩ | ⟨rfl, s1⟩
    · have dg := dg10 W2 B b r t (m + 1) (e - (m + 1)) g (.pointer none) hE2 hS2 (by omega) hx5 (by rw [show m + 1 + (e - (m + 1)) = e by omega]; exact ⟨hx6, hx7⟩)
      rw [show m + 1 + (e - (m + 1)) = e by omega, show sepN (e - (m + 1)) = 1 by unfold sepN; rw [if_neg (by omega)]] at dg
      go_wp2_with (first | (go_at_call 96; refine dg.mono ?_; rintro e' W3 ⟨rfl, hS3, hF3⟩))
      go_ret2
      exact ⟨_, rfl, Or.inr rfl, hS3, (hF.trans (hF2.trans hF3).x).fr hvs⟩
    · have hm2 : m + 1 < t.size := by omega
      have nx2 := nx_at W2 B b r t (m + 1) g hE2 hS2 hm2
      rcases s1 with s1 | ⟨s0, s1⟩
      · go_wp2_with (first | (go_at_call 75; refine nx2.mono ?_; rintro e' W3 ⟨rfl, hS3, hF3⟩; refine Hid.out ?_))
        refine Lib.hid ?_
        have dg := dg10 W3 B b r t (m + 2) (e - (m + 2)) g (.pointer none) (hE2.keep hF3.keep) hS3 (by omega) hx5 (by rw [show m + 2 + (e - (m + 2)) = e by omega]; exact ⟨hx6, hx7⟩)
        rw [show m + 2 + (e - (m + 2)) = e by omega, show sepN (e - (m + 2)) = 1 by unfold sepN; rw [if_neg (by omega)]] at dg
        go_wp2_with (first | (go_at_call 96; refine dg.mono ?_; rintro e' W4 ⟨rfl, hS4, hF4⟩))
        go_ret2
        exact ⟨_, rfl, Or.inr rfl, hS4, (hF.trans ((hF2.trans hF3).trans hF4).x).fr hvs⟩
      · go_wp2_with (first | (go_at_call 75; refine nx2.mono ?_; rintro e' W3 ⟨rfl, hS3, hF3⟩; refine Hid.out ?_))
        refine Lib.hid ?_
        have dg := dg10 W3 B b r t (m + 2) (e - (m + 2)) g (.pointer none) (hE2.keep hF3.keep) hS3 (by omega) hx5 (by rw [show m + 2 + (e - (m + 2)) = e by omega]; exact ⟨hx6, hx7⟩)
        rw [show m + 2 + (e - (m + 2)) = e by omega, show sepN (e - (m + 2)) = 1 by unfold sepN; rw [if_neg (by omega)]] at dg
        go_wp2_with (first | (go_at_call 96; refine dg.mono ?_; rintro e' W4 ⟨rfl, hS4, hF4⟩))
        go_ret2
        exact ⟨_, rfl, Or.inr rfl, hS4, (hF.trans ((hF2.trans hF3).trans hF4).x).fr hvs⟩

set_option maxRecDepth 100000 in
set_option maxHeartbeats 3200000 in
theorem sn_b1 (w : World) (B b r : Nat) (t : ByteArray) (i m e : Nat) (g : Gs) (hE : En w B t) (h : Sa w B b r t i g) (hi : i < m) (hm : m ≤ t.size) (hD : ∀ j, j < m - i → isD (chA t (i + j)) = true) (hM : isD (chA t m) = false ∧ (chA t m == 95) = false) (h48 : (chA t i == 48) = false) (h46 : (chA t m == 46) = false) (hX : ExpT t m e) :
    Calls Tryz.prog 80 #[.pointer (some ⟨b, 0, none⟩), .int .i32 (chA t i), .bool false] w fun en w' => ∃ k : Int, en = .returned (.tuple #[.int .i32 k, .int .i32 (chA t e)]) ∧ numTok k ∧ SnP B b r t e g w w' := by
  obtain ⟨v, hv⟩ : ∃ v, v = w.heap.size := ⟨_, rfl⟩
  have hvs : w.heap.size ≤ v := by omega
  have hvb : v ≠ b := by have := h.blt; omega
  have hvr : v ≠ r := by have := h.rlt; omega
  have hvB : B ≤ v := by have := h.BW; omega
  have hal : Below w.heap.size w (w.alloc (.cells #[.int .i32 0] 21)) := (Below.refl _ w).alloc (Nat.le_refl _) _
  have hF0 : Frx B b r v w (w.alloc (.cells #[.int .i32 0] 21)) := (Fr.of_below hal h.BW).x
  have hS0 := h.old hal
  have hE0 := hE.keep hF0.keep
  have hV0 : IsV0 (w.alloc (.cells #[.int .i32 0] 21)) v := by rw [hv]; exact heap_alloc_new w _
  subst hv
  generalize hw0 : w.alloc (.cells #[.int .i32 0] 21) = w0 at hF0 hS0 hE0 hV0
  have d1 := dg10 w0 B b r t i (m - i) g (.pointer (some ⟨w.heap.size, 0, none⟩)) hE0 hS0 (by omega) (fun j hj => hD j (by omega)) (by rw [show i + (m - i) = m by omega]; exact hM)
  rw [show i + (m - i) = m by omega, show sepN (m - i) = 1 by unfold sepN; rw [if_neg (by omega)], ← hw0] at d1
  have or0 : Go.bits .or .i64 0 1 = 1 := by decide
  have HW0 := Lib.hid hw0
  clear hw0
  go_enter Tryz.func80, Tryz.ntmps80
  go_wp2_with (first | (go_at_call 96; refine d1.mono ?_; rintro e' WM ⟨rfl, hSF⟩; refine Hid.out ?_))
  refine Lib.hid ?_
  obtain ⟨hS, hF1⟩ := hSF
  rw [HW0.out] at hF1
  have hV := hV0.fr hF1 hvb hvr
  have hVV := hV.v
  have hF := hF0.trans hF1.x
  have hEm := hE.keep hF.keep
  have hlow := fun w => lower_run (chA t m) w
  have cm := hS.mode
  have cv : WM.cell? ⟨w.heap.size, 0, none⟩ = some (.int .i32 0) := by rw [Lib.cell_of_heap hV]; rfl
  have or1 : Go.bits .or .i64 1 1 = 1 := by decide
  have and2 : Go.bits .and .i64 1 2 = 0 := by decide
  have and1' : Go.bits .and .i64 1 1 = 1 := by decide
  have and16 : Go.bits .and .u64 28 16 = 16 := by decide
  rcases hX with ⟨rfl, hx1, hx2⟩ | ⟨q, hx1, hx2, hx3, hx4, hx5, hx6, hx7, hx8⟩
  · go_wp2_with (go_at_call 95; refine (hlow _).mono ?_; rintro e w' ⟨rfl, rfl⟩)
    go_ret2
    exact ⟨_, rfl, Or.inl rfl, hS, hF.fr hvs⟩
  · have hq := beq_iff_eq.1 hx1
    rw [hq] at hlow
    clear hq hx1
    have nx := nx_at WM B b r t m g hEm hS hx2
    go_wp2_with (first | (go_at_call 95; refine (hlow _).mono ?_; rintro en w' ⟨rfl, rfl⟩) | (go_at_call 75; refine nx.mono ?_; rintro en W2 ⟨rfl, hS2, hF2⟩; refine Hid.out ?_))
    refine Lib.hid ?_
    have hE2 := hEm.keep hF2.keep
    rcases hx8 with ⟨rfl, s1, s2⟩ | ⟨rfl, s1⟩
    · have dg := dg10 W2 B b r t (m + 1) (e - (m + 1)) g (.pointer none) hE2 hS2 (by omega) hx5 (by rw [show m + 1 + (e - (m + 1)) = e by omega]; exact ⟨hx6, hx7⟩)
      rw [show m + 1 + (e - (m + 1)) = e by omega, show sepN (e - (m + 1)) = 1 by unfold sepN; rw [if_neg (by omega)]] at dg
      go_wp2_with (first | (go_at_call 96; refine dg.mono ?_; rintro e' W3 ⟨rfl, hS3, hF3⟩))
      go_ret2
      exact ⟨_, rfl, Or.inr rfl, hS3, (hF.trans (hF2.trans hF3).x).fr hvs⟩
    · have hm2 : m + 1 < t.size := by omega
      have nx2 := nx_at W2 B b r t (m + 1) g hE2 hS2 hm2
      rcases s1 with s1 | ⟨s0, s1⟩
      · go_wp2_with (first | (go_at_call 75; refine nx2.mono ?_; rintro e' W3 ⟨rfl, hS3, hF3⟩; refine Hid.out ?_))
        refine Lib.hid ?_
        have dg := dg10 W3 B b r t (m + 2) (e - (m + 2)) g (.pointer none) (hE2.keep hF3.keep) hS3 (by omega) hx5 (by rw [show m + 2 + (e - (m + 2)) = e by omega]; exact ⟨hx6, hx7⟩)
        rw [show m + 2 + (e - (m + 2)) = e by omega, show sepN (e - (m + 2)) = 1 by unfold sepN; rw [if_neg (by omega)]] at dg
        go_wp2_with (first | (go_at_call 96; refine dg.mono ?_; rintro e' W4 ⟨rfl, hS4, hF4⟩))
        go_ret2
        exact ⟨_, rfl, Or.inr rfl, hS4, (hF.trans ((hF2.trans hF3).trans hF4).x).fr hvs⟩
      · go_wp2_with (first | (go_at_call 75; refine nx2.mono ?_; rintro e' W3 ⟨rfl, hS3, hF3⟩; refine Hid.out ?_))
        refine Lib.hid ?_
        have dg := dg10 W3 B b r t (m + 2) (e - (m + 2)) g (.pointer none) (hE2.keep hF3.keep) hS3 (by omega) hx5 (by rw [show m + 2 + (e - (m + 2)) = e by omega]; exact ⟨hx6, hx7⟩)
        rw [show m + 2 + (e - (m + 2)) = e by omega, show sepN (e - (m + 2)) = 1 by unfold sepN; rw [if_neg (by omega)]] at dg
        go_wp2_with (first | (go_at_call 96; refine dg.mono ?_; rintro e' W4 ⟨rfl, hS4, hF4⟩))
        go_ret2
        exact ⟨_, rfl, Or.inr rfl, hS4, (hF.trans ((hF2.trans hF3).trans hF4).x).fr hvs⟩

set_option maxRecDepth 100000 in
set_option maxHeartbeats 3200000 in
theorem sn_b2 (w : World) (B b r : Nat) (t : ByteArray) (i m e : Nat) (g : Gs) (hE : En w B t) (h : Sa w B b r t i g) (p : Nat) (hi : i < p) (hpm : p < m) (hm : m ≤ t.size) (hD : ∀ j, j < p - i → isD (chA t (i + j)) = true) (hp : chA t p = 46) (hD2 : ∀ j, j < m - (p + 1) → isD (chA t (p + 1 + j)) = true) (hM : isD (chA t m) = false ∧ (chA t m == 95) = false) (h48 : (chA t i == 48) = false) (hX : ExpT t m e) :
    Calls Tryz.prog 80 #[.pointer (some ⟨b, 0, none⟩), .int .i32 (chA t i), .bool false] w fun en w' => ∃ k : Int, en = .returned (.tuple #[.int .i32 k, .int .i32 (chA t e)]) ∧ numTok k ∧ SnP B b r t e g w w' := by
  obtain ⟨v, hv⟩ : ∃ v, v = w.heap.size := ⟨_, rfl⟩
  have hvs : w.heap.size ≤ v := by omega
  have hvb : v ≠ b := by have := h.blt; omega
  have hvr : v ≠ r := by have := h.rlt; omega
  have hvB : B ≤ v := by have := h.BW; omega
  have hal : Below w.heap.size w (w.alloc (.cells #[.int .i32 0] 21)) := (Below.refl _ w).alloc (Nat.le_refl _) _
  have hF0 : Frx B b r v w (w.alloc (.cells #[.int .i32 0] 21)) := (Fr.of_below hal h.BW).x
  have hS0 := h.old hal
  have hE0 := hE.keep hF0.keep
  have hV0 : IsV0 (w.alloc (.cells #[.int .i32 0] 21)) v := by rw [hv]; exact heap_alloc_new w _
  subst hv
  generalize hw0 : w.alloc (.cells #[.int .i32 0] 21) = w0 at hF0 hS0 hE0 hV0
  have d1 := dg10 w0 B b r t i (p - i) g (.pointer (some ⟨w.heap.size, 0, none⟩)) hE0 hS0 (by omega) (fun j hj => hD j (by omega)) (by rw [show i + (p - i) = p by omega, hp]; decide)
  rw [show i + (p - i) = p by omega, hp, show sepN (p - i) = 1 by unfold sepN; rw [if_neg (by omega)], ← hw0] at d1
  have or0 : Go.bits .or .i64 0 1 = 1 := by decide
  have ors := or_sep1 (m - (p + 1))
  have and16 : Go.bits .and .u64 28 16 = 16 := by decide
  have HW0 := Lib.hid hw0
  clear hw0
  go_enter Tryz.func80, Tryz.ntmps80
  go_wp2_with (first | (go_at_call 96; refine d1.mono ?_; rintro e' W1 ⟨rfl, hSF⟩; refine Hid.out ?_))
  refine Lib.hid ?_
  obtain ⟨hS1, hF1⟩ := hSF
  rw [HW0.out] at hF1
  have cm1 := hS1.mode
  have hE1 := hE0.keep hF1.keep
  have nx := nx_at W1 B b r t p g hE1 hS1 (by omega)
  go_wp2_with (first | (go_at_call 75; refine nx.mono ?_; rintro e' W2 ⟨rfl, hSF⟩; refine Hid.out ?_))
  refine Lib.hid ?_
  obtain ⟨hS2, hF2⟩ := hSF
  have d2 := dg10 W2 B b r t (p + 1) (m - (p + 1)) g (.pointer (some ⟨w.heap.size, 0, none⟩)) (hE1.keep hF2.keep) hS2 (by omega) (fun j hj => hD2 j (by omega)) (by rw [show p + 1 + (m - (p + 1)) = m by omega]; exact hM)
  rw [show p + 1 + (m - (p + 1)) = m by omega] at d2
  go_wp2_with (first | (go_at_call 96; refine d2.mono ?_; rintro e' WM ⟨rfl, hSF⟩; refine Hid.out ?_))
  refine Lib.hid ?_
  obtain ⟨hS, hF3⟩ := hSF
  have hV := ((hV0.fr hF1 hvb hvr).fr hF2 hvb hvr).fr hF3 hvb hvr
  have hVV := hV.v
  have hF := hF0.trans ((hF1.trans hF2).trans hF3).x
  have hEm := hE.keep hF.keep
  have hlow := fun w => lower_run (chA t m) w
  have cm := hS.mode
  have or1 : Go.bits .or .i64 1 1 = 1 := by decide
  have and2 : Go.bits .and .i64 1 2 = 0 := by decide
  have and1' : Go.bits .and .i64 1 1 = 1 := by decide
  have and16 : Go.bits .and .u64 28 16 = 16 := by decide
  rcases hX with ⟨rfl, hx1, hx2⟩ | ⟨q, hx1, hx2, hx3, hx4, hx5, hx6, hx7, hx8⟩
  · go_wp2_with (go_at_call 95; refine (hlow _).mono ?_; rintro e w' ⟨rfl, rfl⟩)
    go_ret2
    exact ⟨_, rfl, Or.inr rfl, hS, hF.fr hvs⟩
  · have hq := beq_iff_eq.1 hx1
    rw [hq] at hlow
    clear hq hx1
    have nx := nx_at WM B b r t m g hEm hS hx2
    go_wp2_with (first | (go_at_call 95; refine (hlow _).mono ?_; rintro en w' ⟨rfl, rfl⟩) | (go_at_call 75; refine nx.mono ?_; rintro en W2 ⟨rfl, hS2, hF2⟩; refine Hid.out ?_))
    refine Lib.hid ?_
    have hE2 := hEm.keep hF2.keep
    rcases hx8 with ⟨rfl, s1, s2⟩ | ⟨rfl, s1⟩
    · have dg := dg10 W2 B b r t (m + 1) (e - (m + 1)) g (.pointer none) hE2 hS2 (by omega) hx5 (by rw [show m + 1 + (e - (m + 1)) = e by omega]; exact ⟨hx6, hx7⟩)
      rw [show m + 1 + (e - (m + 1)) = e by omega, show sepN (e - (m + 1)) = 1 by unfold sepN; rw [if_neg (by omega)]] at dg
      go_wp2_with (first | (go_at_call 96; refine dg.mono ?_; rintro e' W3 ⟨rfl, hS3, hF3⟩))
      go_ret2
      exact ⟨_, rfl, Or.inr rfl, hS3, (hF.trans (hF2.trans hF3).x).fr hvs⟩
    · have hm2 : m + 1 < t.size := by omega
      have nx2 := nx_at W2 B b r t (m + 1) g hE2 hS2 hm2
      rcases s1 with s1 | ⟨s0, s1⟩
      · go_wp2_with (first | (go_at_call 75; refine nx2.mono ?_; rintro e' W3 ⟨rfl, hS3, hF3⟩; refine Hid.out ?_))
        refine Lib.hid ?_
        have dg := dg10 W3 B b r t (m + 2) (e - (m + 2)) g (.pointer none) (hE2.keep hF3.keep) hS3 (by omega) hx5 (by rw [show m + 2 + (e - (m + 2)) = e by omega]; exact ⟨hx6, hx7⟩)
        rw [show m + 2 + (e - (m + 2)) = e by omega, show sepN (e - (m + 2)) = 1 by unfold sepN; rw [if_neg (by omega)]] at dg
        go_wp2_with (first | (go_at_call 96; refine dg.mono ?_; rintro e' W4 ⟨rfl, hS4, hF4⟩))
        go_ret2
        exact ⟨_, rfl, Or.inr rfl, hS4, (hF.trans ((hF2.trans hF3).trans hF4).x).fr hvs⟩
      · go_wp2_with (first | (go_at_call 75; refine nx2.mono ?_; rintro e' W3 ⟨rfl, hS3, hF3⟩; refine Hid.out ?_))
        refine Lib.hid ?_
        have dg := dg10 W3 B b r t (m + 2) (e - (m + 2)) g (.pointer none) (hE2.keep hF3.keep) hS3 (by omega) hx5 (by rw [show m + 2 + (e - (m + 2)) = e by omega]; exact ⟨hx6, hx7⟩)
        rw [show m + 2 + (e - (m + 2)) = e by omega, show sepN (e - (m + 2)) = 1 by unfold sepN; rw [if_neg (by omega)]] at dg
        go_wp2_with (first | (go_at_call 96; refine dg.mono ?_; rintro e' W4 ⟨rfl, hS4, hF4⟩))
        go_ret2
        exact ⟨_, rfl, Or.inr rfl, hS4, (hF.trans ((hF2.trans hF3).trans hF4).x).fr hvs⟩

end Go.Proofs.YtlckfiflfkbofaaGreatDoor
