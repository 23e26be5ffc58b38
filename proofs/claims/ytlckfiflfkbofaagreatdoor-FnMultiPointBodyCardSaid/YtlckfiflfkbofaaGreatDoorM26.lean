/- Scan at the end of the text. TokenText. Part 26 of 51 of the proof that FnMultiPointBody returns true for every text and every type of coordinates, where the listed variables hold what the text of the program lays. -/
import Derived.Deep.DeepCutAuto
import Derived.Deep.CutBlock
import Derived.Test.YtlckfiflfkbofaaGreatDoorM25
set_option linter.all false

/- Scan at the end of the text. -/
namespace Go.Proofs.YtlckfiflfkbofaaGreatDoor
open Go.RowKit

set_option maxRecDepth 100000 in
set_option maxHeartbeats 3200000 in
theorem scan_eof (w : World) (B b r : Nat) (t : ByteArray) (i a : Nat) (er : Value) (pk : ByteArray) (hE : En w B t) (h : At0 w B b r t i er pk) (hia : i ≤ a) (hat : a ≤ t.size)
    (hW : ∀ j, i ≤ j → j < a → isW (chA t j) = true) (hX : isW (chA t a) = false) (hT : t.size ≤ a) :
    Calls Tryz.prog 69 #[.pointer (some ⟨b, 0, none⟩)] w fun en w' => en = .returned (.int .i32 (-1)) ∧ Fr B b r w w' := by
  have pk0 := peek0 w B b r t i er pk hE h
  go_enter Tryz.func69, Tryz.ntmps69
  go_wp2_with (fail)
  go_step3
  go_wp2_with (first | (go_at_call 74; refine pk0.mono ?_; rintro e' W1 ⟨rfl, hSF⟩; refine Hid.out ?_))
  refine Lib.hid ?_
  obtain ⟨⟨tk, te, s, hs⟩, hF1⟩ := hSF
  have c1 := hs.sc.c_tp
  have z1 := hs.sc.fz 1036
  have c2 := hs.sc.c_pl
  have z2 := hs.sc.fz 1046
  go_wp2_with (fail)
  go_step3
  go_wp2_with (fail)
  have hs2 := ((hs.put_tp0).put_pl 0).sa
  have hF2 := (hF1.setCell (p := ⟨b, 1036, none⟩) (Or.inl rfl) hs.sc.Bb (.int .i64 (-1))).setCell (p := ⟨b, 1046, none⟩) (Or.inl rfl) hs.sc.Bb (.int .i64 0)
  generalize World.setCell (W1.setCell ⟨b, 1036, none⟩ (.int .i64 (-1))) ⟨b, 1046, none⟩ (.int .i64 0) = W2 at *
  clear hs c1 c2 z1 z2
  go_loopg [3] (a - i) (fun kq s3 wx => ∃ j : Nat, i + j ≤ a ∧ kq = a - i - j ∧ s3 = .int .i32 (chA t (i + j)) ∧ Sa wx B b r t (i + j) ⟨0, 0, none, none, chA t i, er, pk⟩ ∧ Fr B b r w wx)
  case atStart => exact ⟨0, by omega, by omega, rfl, hs2, hF2⟩
  case round =>
    obtain ⟨j, j1, hk, rfl, hSj, hFj⟩ := hrel
    have cw := hSj.ws
    have hlo := chA_lo hE.asc (i + j)
    have hws := ws_is hlo.1 hlo.2
    by_cases hj : i + j < a
    · rw [hW (i + j) (by omega) hj] at hws
      have nx := nx_at wr B b r t (i + j) _ (hE.keep hFj.keep) hSj (by omega)
      rw [Nat.add_assoc] at nx
      clear hlo
      go_wp2_with (first | (go_at_call 75; refine nx.mono ?_; rintro e' w2 ⟨rfl, hS3, hF3⟩))
      go_roundg (a - i - (j + 1))
      case measure => omega
      case rel => exact ⟨j + 1, by omega, rfl, rfl, hS3, hFj.trans hF3⟩
    · have hja : i + j = a := by omega
      rw [hja] at hws hSj ⊢
      rw [hX] at hws
      clear hlo j1 hk hja
      have HW := Lib.hid hW
      have HX := Lib.hid hX
      clear hW hX
      obtain ⟨s, hs⟩ := hSj
      have rs := rs_calls wr B b t s hs.sc
      go_wp2_with (first | (go_at_call 76; refine rs.mono ?_; rintro e' W3 ⟨rfl, hSF⟩; refine Hid.out ?_))
      refine Lib.hid ?_
      obtain ⟨hS3, hF3⟩ := hSF
      have hsp : s.sp ≤ 1024 := Nat.le_trans hs.ok.sp hs.ok.se
      have hlc : s.lc ≤ 1 := hs.ok.lc1
      have hlcs : s.lc ≤ s.sp := hs.ok.lc
      have hoff : s.off ≤ 3000 := by have := hs.ok.sz; have := hE.hz; omega
      have HS := Lib.hid hs
      have hBb := hs.sc.Bb
      clear hs
      generalize hs3 : ({ s with bs := [] } : SS) = s3 at hS3
      have q1 : s3.sp = s.sp := by rw [← hs3]
      have q2 : s3.lc = s.lc := by rw [← hs3]
      have q3 : s3.off = s.off := by rw [← hs3]
      have HS3 := Lib.hid hs3
      clear hs3
      have c1 := hS3.c_sp
      rw [q1] at c1
      have c2 := hS3.c_lc
      rw [q2] at c2
      have c3 := hS3.c_tp
      have z3 := hS3.fz 1036
      go_wp2_with (fail)
      go_region
      obtain ⟨k, hk⟩ : ∃ k : Nat, (k : Int) = (s.sp : Int) - s.lc := ⟨s.sp - s.lc, by omega⟩
      rw [← hk]
      have hS4 := (hS3.put_tp (k : Int)).drew
      have hF4 := ((Fr.refl B b s.r W3).setCell (p := ⟨b, 1036, none⟩) (Or.inl rfl) hBb (.int .i64 (k : Int))).drew
      generalize World.drew (World.setCell W3 ⟨b, 1036, none⟩ (.int .i64 (k : Int))) = W4 at *
      have hkl : k ≤ 1024 := by omega
      have HK := Lib.hid hk
      clear hk c1 c2 c3 z3
      have c1 := hS4.c_off
      rw [show ({ s3 with tp := (k : Int) } : SS).off = s.off from q3] at c1
      have c2 : W4.cell? ⟨b, 1036, none⟩ = some (.int .i64 (k : Int)) := hS4.c_tp
      have c3 := hS4.c_po
      have z3 := hS4.fz 1045
      go_wp2_with (fail)
      go_region
      have es : ((s.off : Int) + k) = ((s.off : Int) + k) := rfl
      have hS5 := (hS4.put_po ((s.off : Int) + k)).drew
      have hF5 := (hF4.setCell (p := ⟨b, 1045, none⟩) (Or.inl rfl) hBb (.int .i64 ((s.off : Int) + k))).drew
      generalize World.drew (World.setCell W4 ⟨b, 1045, none⟩ (.int .i64 ((s.off : Int) + k))) = W5 at *
      generalize hs5 : ({ ({ s3 with tp := (k : Int) } : SS) with po := (s.off : Int) + k } : SS) = s5 at hS5
      have HS5 := Lib.hid hs5
      clear hs5 es c1 c2 c3 z3 hS4
      have c1 := hS5.c_col
      go_upto_if 58 with (fail)
      go_cut [2] (fun s2 wx => s2 = .int .i32 0 ∧ (∃ pl pc, Sc wx B b t { s5 with pl := pl, pc := pc }) ∧ Fr B b s.r W5 wx)
      case first =>
       as_aux_lemma =>
        have c2 := hS5.c_line
        have c3 := hS5.c_lll
        have c4 := hS5.c_pl
        have c5 := hS5.c_pc
        have z1 := hS5.fz 1046
        have z2 := hS5.fz 1047
        by_cases hc : s5.col > 0
        · go_wp2_with (fail)
          go_meet
          exact ⟨rfl, ⟨_, _, (hS5.put_pl _).put_pc _⟩, ((Fr.refl B b s.r W5).setCell (p := ⟨b, 1046, none⟩) (Or.inl rfl) hBb _).setCell (p := ⟨b, 1047, none⟩) (Or.inl rfl) hBb _⟩
        · go_wp2_with (fail)
          go_meet
          exact ⟨rfl, ⟨_, _, (hS5.put_pl _).put_pc _⟩, ((Fr.refl B b s.r W5).setCell (p := ⟨b, 1046, none⟩) (Or.inl rfl) hBb _).setCell (p := ⟨b, 1047, none⟩) (Or.inl rfl) hBb _⟩
      obtain ⟨rfl, ⟨pl, pc, hS6⟩, hF6⟩ := hcut
      have hA : Sa wc B b r t a ⟨0, 0, some a, none, chA t i, er, pk⟩ := by
        have hs := HS.out
        have h3 := HS3.out
        have h5 := HS5.out
        have hkk := HK.out
        refine ⟨_, hS6, ?_, ?_, ?_, ?_, fun e he => by simp at he, ?_, ?_, ?_, ?_⟩
        · rw [← h5, ← h3]; exact ⟨⟨hs.ok.se, hs.ok.sp, hs.ok.rd, hs.ok.sz, hs.ok.sb, hs.ok.st⟩, hs.ok.lc1, hs.ok.lc⟩
        · have hP := hs.P
          have hl := hs.lc
          rw [← h5, ← h3]
          refine ⟨k, rfl, by show k ≤ s.sp; omega, fun e1 => by have e1 : s.lc = 1 := e1; show k < s.sp; omega, ?_, ?_⟩
          · show a ≤ s.off + k
            dsimp only at hP hl
            split at hl <;> omega
          · show ([] : List UInt8) = _
            have : s.off + k - a = 0 := by
              dsimp only at hP hl
              split at hl <;> omega
            show [] = List.take (s.off + k - a) _
            rw [this]; rfl
        · rw [← h5, ← h3]; exact hs.P
        · rw [← h5, ← h3]; exact hs.lc
        · rw [← h5, ← h3]; exact hs.ch
        · rw [← h5, ← h3]; exact hs.er
        · rw [← h5, ← h3]; exact hs.pk
        · rw [← h5, ← h3]; exact hs.r
      have hsr : s.r = r := HS.out.r
      have hFw : Fr B b r w wc := by
        rw [hsr] at hF3 hF5 hF6
        exact ((hFj.trans hF3).trans hF5).trans hF6
      clear hF1 hF2 hFj hF3 hF4 hF5 hF6 hS5 hS6 hsr hkl hsp hlc hlcs hoff cw hws HS HS3 HS5 HK q1 q2 q3 c1 rs
      have hEc := hE.keep hFw.keep
      have hlo := chA_lo hE.asc a
      have hid := id_at hA (chA t a) 0 hlo.1 hlo.2
      have hde := fun W => dec_run (chA t a) W
      have cm := hA.mode
      have hc : chA t a = -1 := chA_eof (by omega)
      go_upto_block 2 with (fail)
      go_cut [3, 4] (fun s3 s4 wx => s3 = .int .i32 (-1) ∧ s4 = .int .i32 (-1) ∧ wx = wc)
      case first =>
       as_aux_lemma =>
        rw [hc] at hid hde ⊢
        rw [show identB (-1) 0 = false by decide] at hid
        rw [show isD (-1) = false by decide] at hde
        clear hc
        go_wp2_with (first | (go_at_call 77; refine hid.mono ?_; rintro e' w' ⟨rfl, rfl⟩) | (go_at_call 79; refine (hde _).mono ?_; rintro e' w' ⟨rfl, rfl⟩))
        go_meet
        exact ⟨rfl, rfl, rfl⟩
      obtain ⟨rfl, rfl, hW7⟩ := hcut
      subst hW7
      obtain ⟨s7, hs7⟩ := hA
      have hsp : s7.sp ≤ 1024 := Nat.le_trans hs7.ok.sp hs7.ok.se
      have hlc : s7.lc ≤ 1 := hs7.ok.lc1
      have c1 := hs7.sc.c_sp
      have c2 := hs7.sc.c_lc
      have c3 := hs7.sc.c_te
      have z3 := hs7.sc.fz 1037
      have hB7 := hs7.sc.Bb
      have c4 := hs7.sc.c_ch
      have z4 := hs7.sc.fz 1038
      clear hs7
      go_wp2_with (fail)
      go_region
      go_wp2_with (fail)
      rw [Exit.noGoto_ret]
      go_ret
      exact ⟨rfl, (hFw.setCell (p := ⟨b, 1037, none⟩) (Or.inl rfl) hB7 _).setCell (p := ⟨b, 1038, none⟩) (Or.inl rfl) hB7 _ |>.drew⟩

end Go.Proofs.YtlckfiflfkbofaaGreatDoor

/- TokenText. -/
namespace Go.Proofs.YtlckfiflfkbofaaGreatDoor
open Go.RowKit

set_option maxRecDepth 100000 in
set_option maxHeartbeats 1600000 in
/-- No byte is written. -/
theorem wr_zero (R : Nat → Option Value) (B b : Nat) (a : Addr) (bs : List Value) (c : Nat) (w : World) (h : LibA.IsBuffer 104 R 5 B b 1033 bs w) :
    Calls Tryz.prog 86 #[.pointer (some ⟨b, 1033, none⟩), .slice (some a) 0 c] w fun e w' => e = .returned (.tuple #[.int .i64 0, .nilIface]) ∧ WrP R B b bs w w' := by
  obtain ⟨hB, v0, lr, hbk, -, -⟩ := id h
  have c2 : w.cell? ⟨b, 1035, none⟩ = some (.int .i8 lr) := hbk.c2
  have f2 : w.frozen? ⟨b, 1035, none⟩ = false := hbk.f 1035
  have h' : LibA.IsBuffer 104 R 5 B b 1033 bs (w.setCell ⟨b, 1035, none⟩ (.int .i8 0)) := h.setLast 0
  have hbel0 : Below B w (w.setCell ⟨b, 1035, none⟩ (.int .i8 0)) := (Below.refl B w).setCell (p := ⟨b, 1035, none⟩) hB _
  have hk0 : Lib.OthersKept 5 (some b) w (w.setCell ⟨b, 1035, none⟩ (.int .i8 0)) := (Lib.OthersKept.refl _ _ w).setCell ⟨b, 1035, none⟩ rfl _
  have hce : ∀ d dLen dCap W, (Builtin.copy_ #[88, 88] 3 #[.slice d dLen dCap, .slice (some a) 0 c]).run Tryz.prog W = .ok (goInt 0) W := fun d dLen dCap W => run_copy_none W 88 88 3 5 d (some a) dLen dCap 0 c Tryz.underlying88 info5 (by simp)
  have tg := fun W hW => Tryz.Buffer_tryGrow_at 104 R B b 1033 0 bs W hW
  clear hbk v0
  go_enter Tryz.func86, Tryz.ntmps86
  go_wp2_with (first | (go_at_call 101; refine (tg _ h').mono ?_; refine Hid.out ?_))
  refine Lib.hid ?_
  rintro e W1 (⟨rfl, xs, hxl, hI, hbel, hk, hg⟩ | ⟨rfl, rfl, hnr⟩)
  · clear h' c2 f2 tg
    have hx0 : xs = [] := List.eq_nil_of_length_eq_zero hxl
    subst hx0
    rw [List.append_nil] at hI
    have hI' := Lib.hid hI
    obtain ⟨-, lr2, hc⟩ := hI.cases
    rcases hc with ⟨hb0, hbk2⟩ | ⟨g, cap, cur, hbk2, -, -, hnc, hcm, -, -, -⟩
    · subst hb0
      have d0 : W1.cell? ⟨b, 1033, none⟩ = some (.slice none 0 0) := hbk2.c0
      go_wp2_with (fail)
      all_goals (go_ret2; exact ⟨rfl, hI'.out, hbel0.trans hbel, hk0.trans hk⟩)
    · have d0 : W1.cell? ⟨b, 1033, none⟩ = some (.slice (some ⟨g, 0, none⟩) bs.length cap) := hbk2.c0
      unfold maxLen at hcm
      go_wp2_with (fail)
      all_goals (go_ret2; exact ⟨rfl, hI'.out, hbel0.trans hbel, hk0.trans hk⟩)
  · obtain ⟨_, _, _, _, hlt⟩ := hnr
    omega

theorem wr_any (R : Nat → Option Value) (B b o : Nat) (bs cs : List Value) (n c : Nat) (w : World) (h : LibA.IsBuffer 104 R 5 B b 1033 bs w) (hBw : B ≤ w.heap.size) (h1 : ∀ v ∈ bs, v.oneCell' = true)
    (hn : cs.length = n) (ho : o + n ≤ 1033) (hsrc : ∀ j v, cs[j]? = some v → R (o + j) = some v) (h1c : ∀ v ∈ cs, v.oneCell' = true) (hlim : bs.length + n ≤ 140737488355328) :
    Calls Tryz.prog 86 #[.pointer (some ⟨b, 1033, none⟩), .slice (some ⟨b, o, none⟩) n c] w fun e w' => e = .returned (.tuple #[.int .i64 n, .nilIface]) ∧ WrP R B b (bs ++ cs) w w' := by
  by_cases h0 : n = 0
  · subst h0
    have : cs = [] := List.eq_nil_of_length_eq_zero hn
    subst this
    rw [List.append_nil]
    exact wr_zero R B b _ bs c w h
  · exact wr_calls' 104 R B b 1033 o bs cs n c w rfl rfl h hBw h1 hn ho hsrc h1c hlim (by omega)

/-- Behind a token. -/
def AtE' (w : World) (B b r : Nat) (t : ByteArray) (a e : Nat) (er : Value) (pk : ByteArray) : Prop :=
  ∃ s, Sx w B b r t ⟨min (e + 1) t.size, if e < t.size then 1 else 0, some a, some e, chA t e, er, pk⟩ s

def tokS (t : ByteArray) (a e : Nat) : ByteArray := ⟨((t.data.toList.drop a).take (e - a)).toArray⟩

set_option maxRecDepth 100000 in
set_option maxHeartbeats 3200000 in
theorem tt_calls (w : World) (B b r : Nat) (t : ByteArray) (a e : Nat) (er : Value) (pk : ByteArray) (hE : En w B t) (h : AtE' w B b r t a e er pk) (hae : a ≤ e) (het : e ≤ t.size) :
    Calls Tryz.prog 70 #[.pointer (some ⟨b, 0, none⟩)] w fun en w' => en = .returned (.string (tokS t a e)) ∧ AtE' w' B b r t a e er pk ∧ Fr B b r w w' := by
  obtain ⟨s, hs⟩ := h
  obtain ⟨k, k1, k2, k3, k4, k5⟩ := hs.tk
  have hP := hs.P
  have hl := hs.lc
  have hte := hs.te e rfl
  dsimp only at hP hl
  obtain ⟨m, hm⟩ : ∃ m : Nat, s.te = (m : Int) ∧ s.off + m = e := ⟨e - s.off, by split at hl <;> omega, by split at hl <;> omega⟩
  obtain ⟨m1, m2⟩ := hm
  have km : k ≤ m := by split at hl <;> omega
  have mse : m ≤ s.se := by have := hs.ok.sp; split at hl <;> omega
  have hse := hs.ok.se
  have c1 := hs.sc.c_tp
  rw [k1] at c1
  have c2 := hs.sc.c_te
  rw [m1] at c2
  have hln := fun W hW => Tryz.Buffer_Len_at 104 s.R B b 1033 (Lib.byteCells s.bs) W hW
  have hsl := fun W => slice_buf W b k m km (by omega) (by omega)
  have hlen : ((t.data.toList.drop (s.off + k)).take (m - k)).length = m - k := by
    rw [List.length_take, List.length_drop, Array.length_toList]
    have : t.data.size = t.size := rfl
    omega
  have hbytes : ∀ i, i < m - k → s.sb (k + i) = ((((t.data.toList.drop (s.off + k)).take (m - k)).getD i 0).toNat : Int) := by
    intro i hi
    rw [hs.ok.sb _ (by omega)]
    have hlt : s.off + (k + i) < t.size := by omega
    unfold chA
    rw [dif_pos hlt, List.getD_eq_getElem?_getD, List.getElem?_take_of_lt hi, List.getElem?_drop, Array.getElem?_toList]
    have e1 : t.data[s.off + k + i]? = some t[s.off + (k + i)] := by rw [Nat.add_assoc, Array.getElem?_eq_getElem (show s.off + (k + i) < t.data.size from hlt)]; rfl
    rw [e1]; rfl
  have hcat : s.bs ++ (t.data.toList.drop (s.off + k)).take (m - k) = (t.data.toList.drop a).take (e - a) := by
    rw [k5, show e - a = (s.off + k - a) + (m - k) by omega, List.take_add, List.drop_drop, show a + (s.off + k - a) = s.off + k by omega]
  have hBb := hs.sc.Bb
  have HS := Lib.hid hs
  have hS := hs.sc
  have KT := Lib.hid k1
  have MT := Lib.hid m1
  clear hs k1 m1 hte
  by_cases hb0 : s.bs = []
  · rw [hb0, List.nil_append] at hcat
    have hconv := fun W hc => run_convert_bytes_back (P := Tryz.prog) W 88 9 5 ⟨b, 1 + k, none⟩ (1025 - k) ((t.data.toList.drop (s.off + k)).take (m - k)) Tryz.underlying88 Tryz.underlying5 Tryz.underlying9 hc
    have hcv := hconv w (by
      intro j hj
      rw [hlen] at hj
      rw [Addr.add_lit, Nat.add_assoc, hS.sb (by omega), hbytes j hj, List.getD_eq_getElem?_getD, List.getElem?_eq_getElem (by rw [hlen]; exact hj)]; rfl)
    rw [hlen] at hcv
    have hts : (⟨((t.data.toList.drop (s.off + k)).take (m - k)).toArray⟩ : ByteArray) = tokS t a e := by unfold tokS; rw [hcat]
    rw [hts] at hcv
    have hcv' : ∀ n, (convert 88 9 (.slice (some ⟨b, 1 + k, none⟩) (m - k) (1025 - k))).run Tryz.prog (w.drewN n) = .ok (.string (tokS t a e)) (w.drewN n) := by
      intro n
      have := hconv (w.drewN n) (by
        intro j hj
        rw [hlen] at hj
        rw [Addr.add_lit, Nat.add_assoc]
        show w.cell? _ = _
        rw [hS.sb (by omega), hbytes j hj, List.getD_eq_getElem?_getD, List.getElem?_eq_getElem (by rw [hlen]; exact hj)]; rfl)
      rw [hlen, hts] at this
      exact this
    generalize tokS t a e = RS at *
    have hk0 : ¬ ((m : Int) < k) := by omega
    have hbuf := hS.buf
    rw [hb0] at hbuf hln
    clear hcat hbytes hlen hconv hts hb0 k5
    go_enter Tryz.func70, Tryz.ntmps70
    go_wp2_with (fail)
    go_quiet (fail)
    go_wp2_with (first | (go_at_call 85; refine (hln _ (hbuf.drewN _)).mono ?_; rintro e' w' ⟨rfl, n2, rfl⟩))
    go_quiet (fail)
    go_wp2_with (fail)
    go_ret
    have hs := HS.out
    exact ⟨rfl, ⟨s, (hs.sc.drewN _).drewN _, hs.ok, hs.tk, hs.P, hs.lc, hs.te, hs.ch, hs.er, hs.pk, hs.r⟩, ((Fr.refl _ _ _ _).drewN _).drewN _⟩
  · have hbl : 0 < s.bs.length := by cases hq : s.bs with
      | nil => exact absurd hq hb0
      | cons x y => simp
    have hbm : s.bs.length ≤ 3000 := by
      rw [k5, List.length_take, List.length_drop, Array.length_toList]
      have : t.data.size = t.size := rfl
      have := hE.hz
      omega
    obtain ⟨Q, hQ⟩ : ∃ Q : Int, Q = ((Lib.byteCells s.bs).length : Int) := ⟨_, rfl⟩
    rw [← hQ] at hln
    have hne : (Q == 0) = false := by rw [hQ, Lib.byteCells_length]; simp; omega
    clear hQ
    have hwr := fun W (hW : LibA.IsBuffer 104 s.R 5 B b 1033 (Lib.byteCells s.bs) W) hBW => wr_any s.R B b (1 + k) (Lib.byteCells s.bs) (Lib.byteCells ((t.data.toList.drop (s.off + k)).take (m - k))) (m - k) (1025 - k) W hW hBW (Lib.byteCells_one _)
      (by rw [Lib.byteCells_length]; exact hlen) (by omega) (by
        intro j v hj
        have hjl : j < m - k := by have := (List.getElem?_eq_some_iff.1 hj).1; rw [Lib.byteCells_length, hlen] at this; exact this
        unfold Lib.byteCells at hj
        rw [List.getElem?_map, List.getElem?_eq_getElem (by rw [hlen]; exact hjl)] at hj
        unfold SS.R
        rw [if_pos (by omega), Nat.add_assoc, SS.f_sb _ (by omega), hbytes j hjl, List.getD_eq_getElem?_getD, List.getElem?_eq_getElem (by rw [hlen]; exact hjl)]
        exact hj) (Lib.byteCells_one _) (by rw [Lib.byteCells_length]; omega)
    have hk0 : ¬ ((m : Int) < k) := by omega
    generalize hL : (t.data.toList.drop (s.off + k)).take (m - k) = L at *
    have HCAT := Lib.hid hcat
    have hbuf := hS.buf
    clear hcat hbytes hlen
    go_enter Tryz.func70, Tryz.ntmps70
    go_wp2_with (fail)
    go_quiet (fail)
    go_wp2_with (first | (go_at_call 85; refine (hln _ (hbuf.drewN _)).mono ?_; rintro e' w' ⟨rfl, n2, rfl⟩))
    generalize hV : w.drewN _ = V
    have hSV : Sc V B b t s := by rw [← hV]; exact hS.drewN _
    have hFV : Fr B b r w V := by rw [← hV]; exact (Fr.refl _ _ _ _).drewN _
    clear hV
    have hwr1 := hwr V.drew hSV.drew.buf hSV.BW
    have c3 : V.cell? ⟨b, 1036, none⟩ = some (.int .i64 (k : Int)) := by have := hSV.c_tp; rw [KT.out] at this; exact this
    have c4 : V.cell? ⟨b, 1037, none⟩ = some (.int .i64 (m : Int)) := by have := hSV.c_te; rw [MT.out] at this; exact this
    clear hwr c1 c2 hbuf hln
    go_cut [2] from 3 to 68 (fun s2 wx => s2 = .string ⟨#[]⟩ ∧ WrP s.R B b (Lib.byteCells s.bs ++ Lib.byteCells L) V.drew wx)
    case first =>
      go_region_with ((go_at_call 86; refine Calls.mono hwr1 ?_; intro e W5 hh; obtain ⟨rfl, hP⟩ := hh))
      all_goals (go_wp2_with (fail); go_meet; exact ⟨rfl, hP⟩)
    obtain ⟨rfl, b1, b2, b3⟩ := hcut
    rw [← Lib.byteCells_append, HCAT.out] at b1
    have hs := HS.out
    obtain ⟨s6, hs6⟩ : ∃ s6, s6 = ({ s with bs := (t.data.toList.drop a).take (e - a) } : SS) := ⟨_, rfl⟩
    have h6 : Sc wc B b t s6 := by
      rw [hs6]
      exact ⟨b1, b3 _ _ hSV.drew.rdr (fun e => hSV.rb (Option.some.inj e)) (fun c fz e => by cases e), hSV.rB, Nat.le_trans hSV.BW b2.size⟩
    have hF6 : Fr B b r w wc := hFV.drew.trans (Fr.of_kept b2 b3)
    have d1 := h6.c_te
    rw [show s6.te = m by rw [hs6]; exact MT.out] at d1
    have d2 := h6.c_tp
    have z2 := h6.fz 1036
    have h7 := h6.put_tp (m : Int)
    have hF7 := hF6.setCell (p := ⟨b, 1036, none⟩) (Or.inl rfl) hBb (.int .i64 (m : Int))
    have hst := Tryz.Buffer_String_at 104 ({ s6 with tp := (m : Int) } : SS).R B b 1033 ((t.data.toList.drop a).take (e - a)) _ (by have := h7.buf; rw [show ({ s6 with tp := (m : Int) } : SS).bs = (t.data.toList.drop a).take (e - a) by rw [hs6]] at this; exact this)
    have hst : Calls Tryz.prog 87 #[.pointer (some ⟨b, 1033, none⟩)] (wc.setCell ⟨b, 1036, none⟩ (.int .i64 (m : Int))) fun en w' => en = .returned (.string (tokS t a e)) ∧ ∃ n, w' = (wc.setCell ⟨b, 1036, none⟩ (.int .i64 (m : Int))).drewN n := hst
    have HS6 := Lib.hid hs6
    clear hs hs6 b1 b2 b3 c3 c4 hSV hFV hwr1
    go_wp2_with (first | (go_at_call 87; refine hst.mono ?_; rintro e' w' ⟨rfl, n3, rfl⟩))
    go_ret
    have hs := HS.out
    have h66 := HS6.out
    refine ⟨rfl, ⟨_, h7.drewN _, ?_, ?_, ?_, ?_, ?_, ?_, ?_, ?_, ?_⟩, hF7.drewN _⟩
    · rw [h66]; exact ⟨⟨hs.ok.se, hs.ok.sp, hs.ok.rd, hs.ok.sz, hs.ok.sb, hs.ok.st⟩, hs.ok.lc1, hs.ok.lc⟩
    · rw [h66]
      refine ⟨m, rfl, ?_, ?_, ?_, ?_⟩
      · show m ≤ s.sp; split at hl <;> omega
      · intro e1; have e1 : s.lc = 1 := e1; show m < s.sp; split at hl <;> omega
      · show a ≤ s.off + m; omega
      · show (t.data.toList.drop a).take (e - a) = (t.data.toList.drop a).take (s.off + m - a); rw [m2]
    · rw [h66]; exact hs.P
    · rw [h66]; exact hs.lc
    · rw [h66]; exact hs.te
    · rw [h66]; exact hs.ch
    · rw [h66]; exact hs.er
    · rw [h66]; exact hs.pk
    · rw [h66]; exact hs.r

end Go.Proofs.YtlckfiflfkbofaaGreatDoor
