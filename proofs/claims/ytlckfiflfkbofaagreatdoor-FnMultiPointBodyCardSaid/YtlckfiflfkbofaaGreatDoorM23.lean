/- The scanner's next where its buffer is used up: the end of the text. The scanner's next where its buffer is used up: within a token, the end of the text. Part 23 of 51 of the proof that FnMultiPointBody returns true for every text and every type of coordinates, where the listed variables hold what the text of the program lays. -/
import Derived.LaidEql
import Derived.Deep.DeepCutAuto
import Derived.Deep.CutBlock
import Derived.Test.YtlckfiflfkbofaaGreatDoorM22
set_option linter.all false

/- The scanner's next where its buffer is used up: the end of the text. -/
namespace Go.Proofs.YtlckfiflfkbofaaGreatDoor
open Go.RowKit

def WrP (R : Nat → Option Value) (B b : Nat) (bs : List Value) (w w' : World) : Prop := LibA.IsBuffer 104 R 5 B b 1033 bs w' ∧ Below B w w' ∧ Lib.OthersKept 5 (some b) w w'
theorem wr_calls' (T : TypeId) (R : Nat → Option Value) (B b q o : Nat) (bs cs : List Value) (n c : Nat) (w : World) (hT : T = 104) (hq : q = 1033) (h : LibA.IsBuffer T R 5 B b q bs w) (hBw : B ≤ w.heap.size) (h1 : ∀ v ∈ bs, v.oneCell' = true)
    (hn : cs.length = n) (ho : o + n ≤ q) (hsrc : ∀ j v, cs[j]? = some v → R (o + j) = some v) (h1c : ∀ v ∈ cs, v.oneCell' = true) (hlim : bs.length + n ≤ 140737488355328) (hn0 : 0 < n) :
    Calls Tryz.prog 86 #[.pointer (some ⟨b, q, none⟩), .slice (some ⟨b, o, none⟩) n c] w fun e w' => e = .returned (.tuple #[.int .i64 n, .nilIface]) ∧ WrP R B b (bs ++ cs) w w' := by
  subst hT; subst hq
  exact wr_calls 104 R B b 1033 o bs cs n c w h hBw h1 hn ho hsrc h1c hlim hn0

theorem neq_same (W : World) (a : Addr) : (binOp .neq 43 (.iface 209 (.pointer (some a))) (.iface 209 (.pointer (some a)))).run Tryz.prog W = .ok (.bool false) W := by
  have k1 : (Tryz.prog.info? 209).map (·.comparable) = some true := by kernel_rfl
  have k2 : (Tryz.prog.info? 211).isSome = true := by kernel_rfl
  obtain ⟨i, hi, hc⟩ := Option.map_eq_some_iff.1 k1
  obtain ⟨j, hj⟩ := Option.isSome_iff_exists.1 k2
  have h := run_equalIn_iface_ptr_same (P := Tryz.prog) W 9998 a Tryz.underlying43 Tryz.underlying209 hi hc hj
  simp only [binOp]
  simp [Op.equal, Op.maxDepth, h]

def DrwN (w w' : World) : Prop := ∃ n m, w' = (w.drewN n).drewN m
theorem rd_end' (w : World) (B b c : Nat) (t : ByteArray) (s : SS) (h : Sc w B b t s) (hrd : t.size ≤ s.rd) (ev : Value) (he : w.cell? ⟨2, 0, none⟩ = some ev) :
    Calls Tryz.prog 189 #[.pointer (some ⟨s.r, 0, none⟩), .slice (some ⟨b, 1, none⟩) 1024 c] w fun e w' => e = .returned (.tuple #[.int .i64 0, ev]) ∧ DrwN w w' := rd_end w B b c t s h hrd ev he

set_option maxRecDepth 100000 in
set_option maxHeartbeats 3200000 in
theorem nxr_none_eof (w : World) (B b : Nat) (t : ByteArray) (s : SS) (h : Sc w B b t s) (o : Ok t s) (k : TK t s none) (hA : Asc t) (hz : t.size ≤ 3000) (hsp : s.sp = s.se) (hFs : Fst w) (hB : 19 ≤ B) (hmore : t.size ≤ s.off + s.se) (ke : Addr) (he : w.cell? ⟨2, 0, none⟩ = some (.iface 209 (.pointer (some ke)))) :
    Calls Tryz.prog 75 #[.pointer (some ⟨b, 0, none⟩)] w fun e w' => e = .returned (.int .i32 (chA t (s.off + s.sp))) ∧ NxP B b t none s w w' := by
  have hBb := h.Bb
  have c1 := h.c_sp
  have hse := o.se
  have c2 := h.sb (j := s.sp) (by omega)
  have hst := o.st
  rw [← hsp] at hst
  rw [hst] at c2
  have c3 := h.c_se
  rw [← hsp] at c3
  have c4 := h.c_tp
  rw [show s.tp = -1 from k] at c4
  have hspl : s.sp < 1025 := by omega
  have hsl := fun W => slice_buf W b s.sp s.sp (Nat.le_refl _) (by omega) hspl
  have hoff : s.off ≤ 3000 := by have := o.sz; omega
  have hwo : IntKind.i64.wrap ((s.off : Int) + s.sp) = (s.off : Int) + s.sp := IntWalk.i64_in _ (by omega)
  have hsl0 := fun W => slice_buf0 W b
  have hcp := fun W => copy_none W b s.sp
  have HSP := Lib.hid hsp
  clear hsp hst
  have hx : chA t (s.off + s.sp) = -1 := by unfold chA; rw [dif_neg (by have := HSP.out; omega)]
  rw [hx]
  clear hx
  go_enter Tryz.func75, Tryz.ntmps75
  go_wp2_with (fail)
  go_quiet (fail)
  obtain ⟨nqa, hnqa⟩ : ∃ k, k = nq := ⟨_, rfl⟩
  rw [← hnqa]
  clear hnqa nq
  go_wp2_with (fail)
  refine wp_loop_rounds 2 ?_
  rw [rounds_succ]
  go_wp2_with (fail)
  have hw4 : IntKind.i64.wrap ((s.sp : Int) + 4) = (s.sp : Int) + 4 := IntWalk.i64_in _ (by omega)
  have hd : decide ((s.sp : Int) < (s.sp : Int) + 4) = true := decide_eq_true (by omega)
  go_quiet ((go_at_call 92; exact fr_empty_q2 _ _ _ _ _))
  obtain ⟨nqb, hnqb⟩ : ∃ k, k = nq := ⟨_, rfl⟩
  rw [← hnqb]
  clear hnqb nq
  go_wp2_with (fail)
  generalize hV : w.drewN _ = V
  have h7 : Sc V B b t s := by rw [← hV]; exact h.drewN _
  have hF7 : Fr B b s.r w V := by rw [← hV]; exact (Fr.refl _ _ _ _).drewN _
  obtain ⟨s1, hs1⟩ : ∃ s1, s1 = s := ⟨_, rfl⟩
  rw [← hs1] at h7
  have p1 : s1.sp = s.sp := by rw [hs1]
  have p2 : s1.se = s.se := by rw [hs1]
  have p3 : s1.off = s.off := by rw [hs1]
  have p4 : s1.r = s.r ∧ s1.rd = s.rd ∧ s1.te = s.te ∧ s1.ch = s.ch ∧ s1.er = s.er ∧ s1.pk = s.pk ∧ s1.lc = s.lc := by rw [hs1]; exact ⟨rfl, rfl, rfl, rfl, rfl, rfl, rfl⟩
  have p5 : s1.sb = s.sb := by rw [hs1]
  have kk : ∀ s4 : SS, s4.tp = s1.tp → s4.bs = s1.bs → s4.off = s.off + s.sp → TK0 t s4 none := by intro s4 e1 _ _; rw [hs1] at e1; exact e1.trans k
  clear hs1 hV c1 c2 c3 c4
  have c1 := h7.c_sp
  have c3 := h7.c_se
  have c5 := h7.c_off
  have z5 := h7.fz 1028
  have c6 := h7.c 0 (by omega) (by omega)
  rw [show s1.f 0 = .iface 123 (.pointer (some ⟨s1.r, 0, none⟩)) from rfl] at c6
  rw [p1] at c1
  rw [p2, ← HSP.out] at c3
  rw [p3] at c5
  have HRR := Lib.hid p4.1
  have HRD : Hid (s1.rd = s.off + s.sp) := Lib.hid (by rw [p4.2.1, o.rd, HSP.out])
  have P4 := Lib.hid p4
  have KK := Lib.hid kk
  clear p4 kk
  clear p1 p2 p3 p5
  go_region
  go_wp2_with (fail)
  go_region
  go_wp2_with (fail)
  go_quiet (fail)
  go_wp2_with (fail)
  generalize hW : World.drewN (World.drew (World.drew (World.setCell V ⟨b, 1028, none⟩ (.int .i64 ((s.off : Int) + s.sp))))) nq = W
  have es : ((s.off + s.sp : Nat) : Int) = (s.off : Int) + s.sp := by simp
  have h10 : Sc W B b t { s1 with off := s.off + s.sp } := by
    have h8 := ((h7.put_off (s.off + s.sp)).drew.drew).drewN nq
    rw [es] at h8
    rw [← hW]; exact h8
  have hF10 : Fr B b s.r w W := by
    rw [← hW]
    exact ((hF7.setCell (p := ⟨b, 1028, none⟩) (Or.inl rfl) hBb _).drew.drew).drewN _
  clear hW c1 c3 c5 c6 z5 h7
  have c6 := h10.c 0 (by omega) (by omega)
  rw [show ({ s1 with off := s.off + s.sp } : SS).f 0 = .iface 123 (.pointer (some ⟨s1.r, 0, none⟩)) from rfl] at c6
  have hsl2 := fun W => slice_buf W b 0 1024 (by omega) (by omega) (by omega)
  have hm := meth_read ⟨s1.r, 0, none⟩
  have hrd : ∀ c, Calls Tryz.prog 189 #[.pointer (some ⟨s1.r, 0, none⟩), .slice (some ⟨b, 1, none⟩) 1024 c] W.drew _ := fun c => rd_end' W.drew B b c t { s1 with off := s.off + s.sp } h10.drew (by have := HSP.out; have := HRD.out; show t.size ≤ s1.rd; omega) (.iface 209 (.pointer (some ke))) (hF10.keep.cell he (by show ¬ B ≤ 2; omega))
  go_region_with ((go_at_call 189; refine (hrd _).mono ?_; rintro e W2 ⟨rfl, hP⟩))
  obtain ⟨m1, m2, hW2⟩ := hP
  have h2 : Sc W2 B b t { s1 with off := s.off + s.sp } := by rw [hW2]; exact (h10.drew.drewN _).drewN _
  have hF2 : Fr B b s.r w W2 := by rw [hW2]; exact (hF10.drew.drewN _).drewN _
  clear hrd c6 h10 hW2 hF10
  generalize hs2 : ({ s1 with off := s.off + s.sp } : SS) = s2 at h2
  have d1 := h2.c_sp
  have d2 := h2.c_se
  have y1 := h2.fz 1026
  have y2 := h2.fz 1027
  go_wp2_with (fail)
  generalize hW3 : World.setCell (W2.setCell ⟨b, 1026, none⟩ _) ⟨b, 1027, none⟩ _ = W3
  have h3 : Sc W3 B b t { s2 with sp := 0, se := 0 } := by
    have h9 := (h2.put_sp 0).put_se 0
    rw [show ((0 : Nat) : Int) = 0 from rfl] at h9
    rw [← hW3]; exact h9
  have hF3 : Fr B b s.r w W3 := by
    rw [← hW3]
    exact (hF2.setCell (p := ⟨b, 1026, none⟩) (Or.inl rfl) hBb _).setCell (p := ⟨b, 1027, none⟩) (Or.inl rfl) hBb _
  clear hW3 d1 d2 y1 y2 h2
  have d2 := h3.c_se
  rw [show ({ s2 with sp := 0, se := 0 } : SS).se = 0 from rfl, show ((0 : Nat) : Int) = 0 from rfl] at d2
  have d3 := h3.sb (j := 0) (by omega)
  have d3 : W3.cell? ⟨b, 1, none⟩ = some (.int .u8 (s2.sb 0)) := d3
  have y3 : W3.frozen? ⟨b, 1, none⟩ = false := h3.fz 1
  go_region
  have h4 := h3.put_sb 0 (by omega) 128
  have hF4 := hF3.setCell (p := ⟨b, 1, none⟩) (Or.inl rfl) hBb (.int .u8 128)
  rw [show (1 + 0 : Nat) = 1 from rfl] at h4
  generalize hW4 : W3.setCell ⟨b, 1, none⟩ (.int .u8 128) = W4 at *
  clear hW4 d2 d3 y3 h3
  generalize hs4 : ({ ({ s2 with sp := 0, se := 0 } : SS) with sb := _ } : SS) = s4 at h4
  have q1 : s4.sp = 0 := by rw [← hs4]
  have q2 : s4.se = 0 := by rw [← hs4]
  have q3 : s4.off = s.off + s.sp := by rw [← hs4, ← hs2]
  have q5 : s4.sb 0 = 128 := by rw [← hs4]; rfl
  have q6 : s4.rd = s.off + s.sp := by rw [← hs4, ← hs2]; exact HRD.out
  have q7 : s4.r = s.r ∧ s4.te = s.te ∧ s4.ch = s.ch ∧ s4.er = s.er ∧ s4.pk = s.pk ∧ s4.lc = s.lc := by
    obtain ⟨r1, r2, r3, r4, r5, r6, r7⟩ := P4.out
    rw [← hs4, ← hs2]; exact ⟨r1, r3, r4, r5, r6, r7⟩
  have k4 : TK0 t s4 none := by
    refine KK.out s4 ?_ ?_ q3
    · rw [← hs4, ← hs2]
    · rw [← hs4, ← hs2]
  clear hs4 hs2
  have he4 : W4.cell? ⟨2, 0, none⟩ = some (.iface 209 (.pointer (some ke))) := hF4.keep.cell he (by show ¬ B ≤ 2; omega)
  have e1 := h4.c_se
  rw [q2, show ((0 : Nat) : Int) = 0 from rfl] at e1
  have e2 := h4.c_lc
  have e3 := h4.c_col
  have v1 := h4.fz 1032
  have v2 := h4.fz 1030
  have hlc1 : s4.lc ≤ 1 := by rw [q7.2.2.2.2.2]; exact o.lc1
  have hPE : s.off + s.sp = t.size := by have := o.sz; have := HSP.out; omega
  have fin : ∀ w' col, Sc w' B b t { s4 with col := col, lc := 0 } → Fr B b s.r W4 w' → NxP B b t none s w w' := by
    intro w' col hS hFr
    refine ⟨_, hS, ⟨⟨by show s4.se ≤ 1024; omega, by show s4.sp ≤ s4.se; omega, by show s4.rd = s4.off + s4.se; omega, by show s4.off + s4.se ≤ t.size; omega, fun j hj => absurd hj (by show ¬ j < s4.se; omega), by show s4.sb s4.se = 128; rw [q2]; exact q5⟩, Nat.zero_le _, Nat.zero_le _⟩, ?_, ?_, ?_, q7.1, q7.2.1, q7.2.2.1, q7.2.2.2.1, q7.2.2.2.2.1, hF4.trans hFr⟩
    · exact k4
    · show s4.off + s4.sp = _; omega
    · rw [if_neg (by omega)]
  have FIN := Lib.hid fin
  have hB := hBb
  have hq1 := q7.1
  clear fin q1 q2 q3 q5 q6 q7 KK P4 k4 hPE
  have hne := fun W => neq_same W ke
  by_cases hl : s4.lc = 0
  · have d1 : decide ((s4.lc : Int) > 0) = false := decide_eq_false (by omega)
    go_wp2_with (fail)
    go_ret
    refine ⟨rfl, FIN.out _ s4.col ?_ ?_⟩
    · exact (h4.put_lc 0).drew
    · exact ((Fr.refl B b _ W4).setCell (p := ⟨b, 1032, none⟩) (Or.inl rfl) hB _).drew
  · have d1 : decide ((s4.lc : Int) > 0) = true := decide_eq_true (by omega)
    go_wp2_with (fail)
    go_ret
    refine ⟨rfl, FIN.out _ (wrap64 (s4.col + 1)) ?_ ?_⟩
    · exact ((h4.put_col _).put_lc 0).drew
    · exact (((Fr.refl B b _ W4).setCell (p := ⟨b, 1030, none⟩) (Or.inl rfl) hB _).setCell (p := ⟨b, 1032, none⟩) (Or.inl rfl) hB _).drew

end Go.Proofs.YtlckfiflfkbofaaGreatDoor

/- The scanner's next where its buffer is used up: within a token, the end of the text. -/
namespace Go.Proofs.YtlckfiflfkbofaaGreatDoor
open Go.RowKit

set_option maxRecDepth 100000 in
set_option maxHeartbeats 3200000 in
theorem nxr_some_eof (w : World) (a : Nat) (B b : Nat) (t : ByteArray) (s : SS) (h : Sc w B b t s) (o : Ok t s) (k : TK t s (some a)) (hA : Asc t) (hz : t.size ≤ 3000) (hsp : s.sp = s.se) (hFs : Fst w) (hB : 19 ≤ B) (hlc : s.lc = 1) (hmore : t.size ≤ s.off + s.se) (ke : Addr) (he : w.cell? ⟨2, 0, none⟩ = some (.iface 209 (.pointer (some ke)))) :
    Calls Tryz.prog 75 #[.pointer (some ⟨b, 0, none⟩)] w fun e w' => e = .returned (.int .i32 (chA t (s.off + s.sp))) ∧ NxP B b t (some a) s w w' := by
  have hBb := h.Bb
  have c1 := h.c_sp
  have hse := o.se
  have c2 := h.sb (j := s.sp) (by omega)
  have hst := o.st
  rw [← hsp] at hst
  rw [hst] at c2
  have c3 := h.c_se
  rw [← hsp] at c3
  obtain ⟨j, hj1, hj2, hj3, hj4, hj5⟩ := k
  have hj6 : j < s.sp := hj3 hlc
  clear hj3
  have c4 := h.c_tp
  rw [hj1] at c4
  have hspl : s.sp < 1025 := by omega
  have hsl := fun W => slice_buf W b s.sp s.sp (Nat.le_refl _) (by omega) hspl
  have hoff : s.off ≤ 3000 := by have := o.sz; omega
  have hwo : IntKind.i64.wrap ((s.off : Int) + s.sp) = (s.off : Int) + s.sp := IntWalk.i64_in _ (by omega)
  have hsl0 := fun W => slice_buf0 W b
  have hcp := fun W => copy_none W b s.sp
  have HSP := Lib.hid hsp
  clear hsp hst
  have hx : chA t (s.off + s.sp) = -1 := by unfold chA; rw [dif_neg (by have := HSP.out; omega)]
  rw [hx]
  clear hx
  go_enter Tryz.func75, Tryz.ntmps75
  go_wp2_with (fail)
  go_quiet (fail)
  obtain ⟨nqa, hnqa⟩ : ∃ k, k = nq := ⟨_, rfl⟩
  rw [← hnqa]
  clear hnqa nq
  go_wp2_with (fail)
  refine wp_loop_rounds 2 ?_
  rw [rounds_succ]
  go_wp2_with (fail)
  have hw4 : IntKind.i64.wrap ((s.sp : Int) + 4) = (s.sp : Int) + 4 := IntWalk.i64_in _ (by omega)
  have hd : decide ((s.sp : Int) < (s.sp : Int) + 4) = true := decide_eq_true (by omega)
  go_quiet ((go_at_call 92; exact fr_empty_q2 _ _ _ _ _))
  obtain ⟨nqb, hnqb⟩ : ∃ k, k = nq := ⟨_, rfl⟩
  rw [← hnqb]
  clear hnqb nq
  go_wp2_with (fail)
  generalize hV : w.drewN _ = V0
  have h5 : Sc V0 B b t s := by rw [← hV]; exact h.drewN _
  have hF5 : Fr B b s.r w V0 := by rw [← hV]; exact (Fr.refl _ _ _ _).drewN _
  clear hV c1 c2 c3 c4
  have c1 := h5.c_sp
  have c4 := h5.c_tp
  rw [hj1] at c4
  have z4 := h5.fz 1036
  have hlen : ((t.data.toList.drop (s.off + j)).take (s.sp - j)).length = s.sp - j := by
    rw [List.length_take, List.length_drop, Array.length_toList]
    have : t.data.size = t.size := rfl
    have := o.sz; have := HSP.out; omega
  have hbl : s.bs.length ≤ 3000 := by
    rw [hj5, List.length_take, List.length_drop, Array.length_toList]
    have : t.data.size = t.size := rfl
    omega
  have hwr := wr_calls' 104 s.R B b 1033 (1 + j) (Lib.byteCells s.bs) (Lib.byteCells ((t.data.toList.drop (s.off + j)).take (s.sp - j))) (s.sp - j) (1025 - j) V0.drew rfl rfl h5.drew.buf h5.BW (Lib.byteCells_one _)
    (by rw [Lib.byteCells_length]; exact hlen) (by omega) (by
      intro i v hi
      have hil : i < s.sp - j := by have := (List.getElem?_eq_some_iff.1 hi).1; rw [Lib.byteCells_length, hlen] at this; exact this
      unfold Lib.byteCells at hi
      rw [List.getElem?_map, List.getElem?_take_of_lt hil, List.getElem?_drop, Array.getElem?_toList] at hi
      unfold SS.R
      rw [if_pos (by omega), Nat.add_assoc, SS.f_sb _ (by omega), o.sb _ (by have := HSP.out; omega)]
      have hlt : s.off + (j + i) < t.size := by have := o.sz; have := HSP.out; omega
      unfold chA
      rw [dif_pos hlt]
      have e : t.data[s.off + j + i]? = some t[s.off + (j + i)] := by rw [Nat.add_assoc, Array.getElem?_eq_getElem (show s.off + (j + i) < t.data.size from hlt)]; rfl
      rw [e] at hi
      exact hi) (Lib.byteCells_one _) (by rw [Lib.byteCells_length]; omega) (by omega)
  have hsl6 := fun W => slice_buf W b j s.sp (by omega) (by omega) (by omega)
  go_cut [4] from 20 to 167 (fun s4 wx => s4 = .int .i64 1 ∧ WrP s.R B b (Lib.byteCells s.bs ++ Lib.byteCells ((t.data.toList.drop (s.off + j)).take (s.sp - j))) V0.drew wx)
  case first =>
    go_region_with ((go_at_call 86; refine Calls.mono hwr ?_; intro e W5 hh; obtain ⟨rfl, hP⟩ := hh))
    all_goals (go_wp2_with (fail); go_meet; exact ⟨rfl, hP⟩)
  obtain ⟨rfl, hP⟩ := hcut
  obtain ⟨b1, b2, b3⟩ := hP
  rw [← Lib.byteCells_append] at b1
  obtain ⟨s0, hs0⟩ : ∃ s0, s0 = ({ s with bs := s.bs ++ (t.data.toList.drop (s.off + j)).take (s.sp - j) } : SS) := ⟨_, rfl⟩
  have h6 : Sc wc B b t s0 := by
    rw [hs0]
    exact ⟨b1, b3 _ _ h5.drew.rdr (fun e => h5.rb (Option.some.inj e)) (fun c fz e => by cases e), h5.rB, Nat.le_trans h5.BW b2.size⟩
  have hF6 : Fr B b s.r w wc := hF5.drew.trans (Fr.of_kept b2 b3)
  have z6 := h6.fz 1036
  have c6 := h6.c_tp
  clear c1 c4 z4 hwr b1 b2 b3
  go_wp2_with (fail)
  generalize hV : wc.setCell ⟨b, 1036, none⟩ _ = V
  obtain ⟨s1, hs1⟩ : ∃ s1, s1 = ({ s0 with tp := 0 } : SS) := ⟨_, rfl⟩
  have h7 : Sc V B b t s1 := by rw [← hV, hs1]; exact h6.put_tp 0
  have hF7 : Fr B b s.r w V := by rw [← hV]; exact hF6.setCell (p := ⟨b, 1036, none⟩) (Or.inl rfl) hBb _
  have p1 : s1.sp = s.sp := by rw [hs1, hs0]
  have p2 : s1.se = s.se := by rw [hs1, hs0]
  have p3 : s1.off = s.off := by rw [hs1, hs0]
  have p4 : s1.r = s.r ∧ s1.rd = s.rd ∧ s1.te = s.te ∧ s1.ch = s.ch ∧ s1.er = s.er ∧ s1.pk = s.pk ∧ s1.lc = s.lc := by rw [hs1, hs0]; exact ⟨rfl, rfl, rfl, rfl, rfl, rfl, rfl⟩
  have p5 : s1.sb = s.sb := by rw [hs1, hs0]
  have kk : ∀ s4 : SS, s4.tp = s1.tp → s4.bs = s1.bs → s4.off = s.off + s.sp → TK0 t s4 (some a) := by
    intro s4 e1 e2 e3
    rw [hs1] at e1 e2
    rw [hs0] at e2
    refine ⟨0, e1, Nat.zero_le _, by omega, ?_⟩
    rw [e2, e3]
    show s.bs ++ _ = _
    rw [hj5, show s.off + s.sp + 0 - a = (s.off + j - a) + (s.sp - j) by omega, List.take_add, List.drop_drop, show a + (s.off + j - a) = s.off + j by omega]
  clear hs1 hs0 hV z6 c6 h6 hF6 hF5 h5 hlen hbl hj5 hsl6
  have c1 := h7.c_sp
  have c3 := h7.c_se
  have c5 := h7.c_off
  have z5 := h7.fz 1028
  have c6 := h7.c 0 (by omega) (by omega)
  rw [show s1.f 0 = .iface 123 (.pointer (some ⟨s1.r, 0, none⟩)) from rfl] at c6
  rw [p1] at c1
  rw [p2, ← HSP.out] at c3
  rw [p3] at c5
  have HRR := Lib.hid p4.1
  have HRD : Hid (s1.rd = s.off + s.sp) := Lib.hid (by rw [p4.2.1, o.rd, HSP.out])
  have P4 := Lib.hid p4
  have KK := Lib.hid kk
  clear p4 kk
  clear p1 p2 p3 p5
  go_region
  go_wp2_with (fail)
  go_region
  go_wp2_with (fail)
  go_quiet (fail)
  go_wp2_with (fail)
  generalize hW : World.drewN (World.drew (World.drew (World.setCell V ⟨b, 1028, none⟩ (.int .i64 ((s.off : Int) + s.sp))))) nq = W
  have es : ((s.off + s.sp : Nat) : Int) = (s.off : Int) + s.sp := by simp
  have h10 : Sc W B b t { s1 with off := s.off + s.sp } := by
    have h8 := ((h7.put_off (s.off + s.sp)).drew.drew).drewN nq
    rw [es] at h8
    rw [← hW]; exact h8
  have hF10 : Fr B b s.r w W := by
    rw [← hW]
    exact ((hF7.setCell (p := ⟨b, 1028, none⟩) (Or.inl rfl) hBb _).drew.drew).drewN _
  clear hW c1 c3 c5 c6 z5 h7
  have c6 := h10.c 0 (by omega) (by omega)
  rw [show ({ s1 with off := s.off + s.sp } : SS).f 0 = .iface 123 (.pointer (some ⟨s1.r, 0, none⟩)) from rfl] at c6
  have hsl2 := fun W => slice_buf W b 0 1024 (by omega) (by omega) (by omega)
  have hm := meth_read ⟨s1.r, 0, none⟩
  have hrd : ∀ c, Calls Tryz.prog 189 #[.pointer (some ⟨s1.r, 0, none⟩), .slice (some ⟨b, 1, none⟩) 1024 c] W.drew _ := fun c => rd_end' W.drew B b c t { s1 with off := s.off + s.sp } h10.drew (by have := HSP.out; have := HRD.out; show t.size ≤ s1.rd; omega) (.iface 209 (.pointer (some ke))) (hF10.keep.cell he (by show ¬ B ≤ 2; omega))
  go_region_with ((go_at_call 189; refine (hrd _).mono ?_; rintro e W2 ⟨rfl, hP⟩))
  obtain ⟨m1, m2, hW2⟩ := hP
  have h2 : Sc W2 B b t { s1 with off := s.off + s.sp } := by rw [hW2]; exact (h10.drew.drewN _).drewN _
  have hF2 : Fr B b s.r w W2 := by rw [hW2]; exact (hF10.drew.drewN _).drewN _
  clear hrd c6 h10 hW2 hF10
  generalize hs2 : ({ s1 with off := s.off + s.sp } : SS) = s2 at h2
  have d1 := h2.c_sp
  have d2 := h2.c_se
  have y1 := h2.fz 1026
  have y2 := h2.fz 1027
  go_wp2_with (fail)
  generalize hW3 : World.setCell (W2.setCell ⟨b, 1026, none⟩ _) ⟨b, 1027, none⟩ _ = W3
  have h3 : Sc W3 B b t { s2 with sp := 0, se := 0 } := by
    have h9 := (h2.put_sp 0).put_se 0
    rw [show ((0 : Nat) : Int) = 0 from rfl] at h9
    rw [← hW3]; exact h9
  have hF3 : Fr B b s.r w W3 := by
    rw [← hW3]
    exact (hF2.setCell (p := ⟨b, 1026, none⟩) (Or.inl rfl) hBb _).setCell (p := ⟨b, 1027, none⟩) (Or.inl rfl) hBb _
  clear hW3 d1 d2 y1 y2 h2
  have d2 := h3.c_se
  rw [show ({ s2 with sp := 0, se := 0 } : SS).se = 0 from rfl, show ((0 : Nat) : Int) = 0 from rfl] at d2
  have d3 := h3.sb (j := 0) (by omega)
  have d3 : W3.cell? ⟨b, 1, none⟩ = some (.int .u8 (s2.sb 0)) := d3
  have y3 : W3.frozen? ⟨b, 1, none⟩ = false := h3.fz 1
  go_region
  have h4 := h3.put_sb 0 (by omega) 128
  have hF4 := hF3.setCell (p := ⟨b, 1, none⟩) (Or.inl rfl) hBb (.int .u8 128)
  rw [show (1 + 0 : Nat) = 1 from rfl] at h4
  generalize hW4 : W3.setCell ⟨b, 1, none⟩ (.int .u8 128) = W4 at *
  clear hW4 d2 d3 y3 h3
  generalize hs4 : ({ ({ s2 with sp := 0, se := 0 } : SS) with sb := _ } : SS) = s4 at h4
  have q1 : s4.sp = 0 := by rw [← hs4]
  have q2 : s4.se = 0 := by rw [← hs4]
  have q3 : s4.off = s.off + s.sp := by rw [← hs4, ← hs2]
  have q5 : s4.sb 0 = 128 := by rw [← hs4]; rfl
  have q6 : s4.rd = s.off + s.sp := by rw [← hs4, ← hs2]; exact HRD.out
  have q7 : s4.r = s.r ∧ s4.te = s.te ∧ s4.ch = s.ch ∧ s4.er = s.er ∧ s4.pk = s.pk ∧ s4.lc = s.lc := by
    obtain ⟨r1, r2, r3, r4, r5, r6, r7⟩ := P4.out
    rw [← hs4, ← hs2]; exact ⟨r1, r3, r4, r5, r6, r7⟩
  have k4 : TK0 t s4 (some a) := by
    refine KK.out s4 ?_ ?_ q3
    · rw [← hs4, ← hs2]
    · rw [← hs4, ← hs2]
  clear hs4 hs2
  have he4 : W4.cell? ⟨2, 0, none⟩ = some (.iface 209 (.pointer (some ke))) := hF4.keep.cell he (by show ¬ B ≤ 2; omega)
  have e1 := h4.c_se
  rw [q2, show ((0 : Nat) : Int) = 0 from rfl] at e1
  have e2 := h4.c_lc
  have e3 := h4.c_col
  have v1 := h4.fz 1032
  have v2 := h4.fz 1030
  have hlc1 : s4.lc ≤ 1 := by rw [q7.2.2.2.2.2]; exact o.lc1
  have hPE : s.off + s.sp = t.size := by have := o.sz; have := HSP.out; omega
  have fin : ∀ w' col, Sc w' B b t { s4 with col := col, lc := 0 } → Fr B b s.r W4 w' → NxP B b t (some a) s w w' := by
    intro w' col hS hFr
    refine ⟨_, hS, ⟨⟨by show s4.se ≤ 1024; omega, by show s4.sp ≤ s4.se; omega, by show s4.rd = s4.off + s4.se; omega, by show s4.off + s4.se ≤ t.size; omega, fun j hj => absurd hj (by show ¬ j < s4.se; omega), by show s4.sb s4.se = 128; rw [q2]; exact q5⟩, Nat.zero_le _, Nat.zero_le _⟩, ?_, ?_, ?_, q7.1, q7.2.1, q7.2.2.1, q7.2.2.2.1, q7.2.2.2.2.1, hF4.trans hFr⟩
    · obtain ⟨i, i1, i2, i3, i4⟩ := k4; exact ⟨i, i1, i2, fun h => absurd h (by show ¬ 0 = 1; omega), i3, i4⟩
    · show s4.off + s4.sp = _; omega
    · rw [if_neg (by omega)]
  have FIN := Lib.hid fin
  have hB := hBb
  have hq1 := q7.1
  clear fin q1 q2 q3 q5 q6 q7 KK P4 k4 hPE
  have hne := fun W => neq_same W ke
  by_cases hl : s4.lc = 0
  · have d1 : decide ((s4.lc : Int) > 0) = false := decide_eq_false (by omega)
    go_wp2_with (fail)
    go_ret
    refine ⟨rfl, FIN.out _ s4.col ?_ ?_⟩
    · exact (h4.put_lc 0).drew
    · exact ((Fr.refl B b _ W4).setCell (p := ⟨b, 1032, none⟩) (Or.inl rfl) hB _).drew
  · have d1 : decide ((s4.lc : Int) > 0) = true := decide_eq_true (by omega)
    go_wp2_with (fail)
    go_ret
    refine ⟨rfl, FIN.out _ (wrap64 (s4.col + 1)) ?_ ?_⟩
    · exact ((h4.put_col _).put_lc 0).drew
    · exact (((Fr.refl B b _ W4).setCell (p := ⟨b, 1030, none⟩) (Or.inl rfl) hB _).setCell (p := ⟨b, 1032, none⟩) (Or.inl rfl) hB _).drew

end Go.Proofs.YtlckfiflfkbofaaGreatDoor
