/- The zero values of the scanner's, the lexer's and the parser's blocks. Scanner.Init, strings.NewReader. The building of the lexer's and the parser's values out of great parts. Part 47 of 51 of the proof that FnMultiPointBody returns true for every text and every type of coordinates, where the listed variables hold what the text of the program lays. -/
import Derived.Deep.WholeRow
import Derived.Test.YtlckfiflfkbofaaGreatDoorM28
set_option linter.all false

/- The zero values of the scanner's, the lexer's and the parser's blocks. -/
namespace Go.Proofs.YtlckfiflfkbofaaGreatDoor
open Go.RowKit

def zf (i : Nat) : Value :=
  if i = 0 then .nilIface
  else if i ≤ 1025 then .int .u8 0
  else if i ≤ 1032 then .int .i64 0
  else if i = 1033 then .slice none 0 0
  else if i = 1034 then .int .i64 0
  else if i = 1035 then .int .i8 0
  else if i ≤ 1037 then .int .i64 0
  else if i = 1038 then .int .i32 0
  else if i = 1039 then .nilFunc
  else if i = 1040 then .int .i64 0
  else if i ≤ 1042 then .int .u64 0
  else if i = 1043 then .nilFunc
  else if i = 1044 then .string ⟨#[]⟩
  else if i ≤ 1047 then .int .i64 0
  else .string ⟨#[]⟩
def zA (n : Nat) : Array Value := ((List.range n).map zf).toArray

set_option maxRecDepth 100000 in
theorem z99 : (Tryz.prog.info? 99).map (fun i => (i.zero, i.size)) = some (some (.agg (zA 1048)), 1048) := by kernel_rfl
set_option maxRecDepth 100000 in
theorem z101 : (Tryz.prog.info? 101).map (fun i => (i.zero, i.size)) = some (some (.agg (zA 1049)), 1049) := by kernel_rfl
set_option maxRecDepth 100000 in
theorem z104 : (Tryz.prog.info? 104).map (fun i => (i.zero, i.size)) = some (some (.agg (zA 1049)), 1049) := by kernel_rfl

end Go.Proofs.YtlckfiflfkbofaaGreatDoor

/- Scanner.Init, strings.NewReader. -/
namespace Go.Proofs.YtlckfiflfkbofaaGreatDoor
open Go.RowKit

/-- Block b's cells read as f says. -/
def BF (w : World) (b n : Nat) (ty : TypeId) (f : Nat → Value) : Prop := ∃ C : Array Value, w.heap[b]? = some (.cells C ty (0, 0)) ∧ C.size = n ∧ ∀ i, i < n → C[i]? = some (f i)
theorem BF.set {w : World} {b n : Nat} {ty : TypeId} {f : Nat → Value} (h : BF w b n ty f) (i : Nat) (v : Value) : BF (w.setCell ⟨b, i, none⟩ v) b n ty (fun j => if j = i then v else f j) := by
  obtain ⟨C, h1, h2, h3⟩ := h
  refine ⟨_, Lib.heap_setCell_same (i := i) h1 v, by simpa using h2, fun j hj => ?_⟩
  by_cases e : j = i
  · subst e
    simp [h2, hj]
  · rw [Array.getElem?_setIfInBounds_ne (fun e2 => e e2.symm)]
    simp only [if_neg e]
    exact h3 j hj
theorem BF.of_eq {w : World} {b n : Nat} {ty : TypeId} {f g : Nat → Value} (h : BF w b n ty f) (hg : ∀ i, i < n → f i = g i) : BF w b n ty g := by
  obtain ⟨C, h1, h2, h3⟩ := h
  exact ⟨C, h1, h2, fun i hi => by rw [← hg i hi]; exact h3 i hi⟩
theorem BF.cell {w : World} {b n : Nat} {ty : TypeId} {f : Nat → Value} (h : BF w b n ty f) {i : Nat} (hi : i < n) : w.cell? ⟨b, i, none⟩ = some (f i) ∧ w.frozen? ⟨b, i, none⟩ = false := by
  obtain ⟨C, h1, h2, h3⟩ := h
  exact ⟨by simp only [World.cell?, h1]; exact h3 i hi, Lib.frozen_of_heap h1 i⟩
theorem zA_get {n i : Nat} (h : i < n) : (zA n)[i]? = some (zf i) := by
  simp [zA, h]
theorem zA_size (n : Nat) : (zA n).size = n := by simp [zA]

theorem nr_calls (s : ByteArray) (w : World) : Calls Tryz.prog 60 #[.string s] w fun e w' => e = .returned (.pointer (some ⟨w.heap.size, 0, none⟩)) ∧ w' = w.alloc (.cells #[.string s, .int .i64 0, .int .i64 (-1)] 135) := by
  go_enter Tryz.func60, Tryz.ntmps60
  go_wp2_with (fail)
  go_ret
  exact ⟨rfl, rfl⟩

/-- The scanner's cells behind Init. -/
def iniF (r : Nat) (j : Nat) : Value :=
  if j = 0 then .iface 123 (.pointer (some ⟨r, 0, none⟩)) else if j = 1 then .int .u8 128 else if j = 1029 then .int .i64 1 else if j = 1036 then .int .i64 (-1) else if j = 1038 then .int .i32 (-2)
  else if j = 1041 then .int .u64 1012 else if j = 1042 then .int .u64 4294977024 else zf j

set_option maxRecDepth 100000 in
set_option maxHeartbeats 3200000 in
theorem ini_calls (w : World) (b r : Nat) (h : BF w b 1048 99 zf) : Calls Tryz.prog 59 #[.pointer (some ⟨b, 0, none⟩), .iface 123 (.pointer (some ⟨r, 0, none⟩))] w fun e w' => e = .returned (.pointer (some ⟨b, 0, none⟩)) ∧ BF w' b 1048 99 (iniF r) ∧ Keep (At1 b) w w' := by
  have hB := Lib.hid h
  obtain ⟨c0, f0⟩ := h.cell (i := 0) (by omega)
  obtain ⟨c1, f1⟩ := h.cell (i := 1) (by omega)
  obtain ⟨c2, f2⟩ := h.cell (i := 1026) (by omega)
  obtain ⟨c3, f3⟩ := h.cell (i := 1027) (by omega)
  obtain ⟨c4, f4⟩ := h.cell (i := 1028) (by omega)
  obtain ⟨c5, f5⟩ := h.cell (i := 1029) (by omega)
  obtain ⟨c6, f6⟩ := h.cell (i := 1030) (by omega)
  obtain ⟨c7, f7⟩ := h.cell (i := 1031) (by omega)
  obtain ⟨c8, f8⟩ := h.cell (i := 1032) (by omega)
  obtain ⟨c9, f9⟩ := h.cell (i := 1036) (by omega)
  obtain ⟨c10, f10⟩ := h.cell (i := 1038) (by omega)
  obtain ⟨c11, f11⟩ := h.cell (i := 1039) (by omega)
  obtain ⟨c12, f12⟩ := h.cell (i := 1040) (by omega)
  obtain ⟨c13, f13⟩ := h.cell (i := 1041) (by omega)
  obtain ⟨c14, f14⟩ := h.cell (i := 1042) (by omega)
  obtain ⟨c15, f15⟩ := h.cell (i := 1046) (by omega)
  clear h
  go_enter Tryz.func59, Tryz.ntmps59
  go_wp2_with (fail)
  go_ret
  refine ⟨rfl, BF.of_eq ((((((((((((((((hB.out.set 0 (.iface 123 (.pointer (some ⟨r, 0, none⟩)))).set 1 (.int .u8 128)).set 1026 (.int .i64 0)).set 1027 (.int .i64 0)).set 1028 (.int .i64 0)).set 1029 (.int .i64 1)).set 1030 (.int .i64 0)).set 1031 (.int .i64 0)).set 1032 (.int .i64 0)).set 1036 (.int .i64 (-1))).set 1038 (.int .i32 (-2))).set 1039 (.nilFunc)).set 1040 (.int .i64 0)).set 1041 (.int .u64 1012)).set 1042 (.int .u64 4294977024)).set 1046 (.int .i64 0)) ?_, (((((((((((((((((Keep.refl (At1 b) w).setCell (p := ⟨b, 0, none⟩) (Or.inr rfl) (.iface 123 (.pointer (some ⟨r, 0, none⟩)))).setCell (p := ⟨b, 1, none⟩) (Or.inr rfl) (.int .u8 128)).setCell (p := ⟨b, 1026, none⟩) (Or.inr rfl) (.int .i64 0)).setCell (p := ⟨b, 1027, none⟩) (Or.inr rfl) (.int .i64 0)).setCell (p := ⟨b, 1028, none⟩) (Or.inr rfl) (.int .i64 0)).setCell (p := ⟨b, 1029, none⟩) (Or.inr rfl) (.int .i64 1)).setCell (p := ⟨b, 1030, none⟩) (Or.inr rfl) (.int .i64 0)).setCell (p := ⟨b, 1031, none⟩) (Or.inr rfl) (.int .i64 0)).setCell (p := ⟨b, 1032, none⟩) (Or.inr rfl) (.int .i64 0)).setCell (p := ⟨b, 1036, none⟩) (Or.inr rfl) (.int .i64 (-1))).setCell (p := ⟨b, 1038, none⟩) (Or.inr rfl) (.int .i32 (-2))).setCell (p := ⟨b, 1039, none⟩) (Or.inr rfl) (.nilFunc)).setCell (p := ⟨b, 1040, none⟩) (Or.inr rfl) (.int .i64 0)).setCell (p := ⟨b, 1041, none⟩) (Or.inr rfl) (.int .u64 1012)).setCell (p := ⟨b, 1042, none⟩) (Or.inr rfl) (.int .u64 4294977024)).setCell (p := ⟨b, 1046, none⟩) (Or.inr rfl) (.int .i64 0))⟩
  intro j hj
  by_cases e0 : j = 0
  · subst e0; simp [iniF, zf]
  by_cases e1 : j = 1
  · subst e1; simp [iniF, zf]
  by_cases e1026 : j = 1026
  · subst e1026; simp [iniF, zf]
  by_cases e1027 : j = 1027
  · subst e1027; simp [iniF, zf]
  by_cases e1028 : j = 1028
  · subst e1028; simp [iniF, zf]
  by_cases e1029 : j = 1029
  · subst e1029; simp [iniF, zf]
  by_cases e1030 : j = 1030
  · subst e1030; simp [iniF, zf]
  by_cases e1031 : j = 1031
  · subst e1031; simp [iniF, zf]
  by_cases e1032 : j = 1032
  · subst e1032; simp [iniF, zf]
  by_cases e1036 : j = 1036
  · subst e1036; simp [iniF, zf]
  by_cases e1038 : j = 1038
  · subst e1038; simp [iniF, zf]
  by_cases e1039 : j = 1039
  · subst e1039; simp [iniF, zf]
  by_cases e1040 : j = 1040
  · subst e1040; simp [iniF, zf]
  by_cases e1041 : j = 1041
  · subst e1041; simp [iniF, zf]
  by_cases e1042 : j = 1042
  · subst e1042; simp [iniF, zf]
  by_cases e1046 : j = 1046
  · subst e1046; simp [iniF, zf]
  simp only [if_neg e0, if_neg e1, if_neg e1026, if_neg e1027, if_neg e1028, if_neg e1029, if_neg e1030, if_neg e1031, if_neg e1032, if_neg e1036, if_neg e1038, if_neg e1039, if_neg e1040, if_neg e1041, if_neg e1042, if_neg e1046, iniF]

end Go.Proofs.YtlckfiflfkbofaaGreatDoor

/- The building of the lexer's and the parser's values out of great parts. -/
namespace Go.Proofs.YtlckfiflfkbofaaGreatDoor
open Go.RowKit

theorem fold_set : ∀ (l : List Value) (k : Nat) (Z : Array Value), k + l.length ≤ Z.size → ((l.zipIdx k).foldl (fun cs p => cs.setIfInBounds (0 + p.2) p.1) Z).size = Z.size ∧
    ∀ i, ((l.zipIdx k).foldl (fun cs p => cs.setIfInBounds (0 + p.2) p.1) Z)[i]? = if k ≤ i ∧ i < k + l.length then l[i - k]? else Z[i]? := by
  intro l
  induction l with
  | nil => intro k Z _; exact ⟨rfl, fun i => by simp; omega⟩
  | cons a l ih =>
    intro k Z h
    simp only [List.length_cons] at h
    simp only [List.zipIdx_cons, List.foldl_cons, Nat.zero_add]
    have := ih (k + 1) (Z.setIfInBounds k a) (by simp; omega)
    simp only [Nat.zero_add] at this
    refine ⟨by rw [this.1]; simp, fun i => ?_⟩
    rw [this.2 i]
    by_cases hi : i = k
    · subst hi
      rw [if_neg (by omega), if_pos (by simp), Nat.sub_self]
      have : i < Z.size := by omega
      simp [this]
    · by_cases h2 : k + 1 ≤ i ∧ i < k + 1 + l.length
      · rw [if_pos h2, if_pos (by simp only [List.length_cons]; omega), show i - k = (i - (k + 1)) + 1 by omega, List.getElem?_cons_succ]
      · rw [if_neg h2, if_neg (by simp only [List.length_cons]; omega), Array.getElem?_setIfInBounds_ne (fun e => hi e.symm)]

/-- One great part laid into a value. -/
theorem fill_one (C Z : Array Value) (places : Nat → Option (Nat × Nat)) (h0 : places 0 = some (0, C.size)) (h : C.size ≤ Z.size) : ∃ X, Instr.fill places Z [(0, .agg C)] = some X ∧ X.size = Z.size ∧ ∀ i, X[i]? = if i < C.size then C[i]? else Z[i]? := by
  have hf := fold_set C.toList 0 Z (by simpa using h)
  refine ⟨(C.toList.zipIdx 0).foldl (fun cs p => cs.setIfInBounds (0 + p.2) p.1) Z, ?_, ?_, ?_⟩
  · have hc : (Value.agg C).cells = C := rfl
    simp only [Instr.fill, h0]
    rw [if_neg (show ¬ ((decide ((Value.agg C).cells.size ≠ C.size) || decide (0 + (Value.agg C).cells.size > Z.size)) = true) by rw [hc]; simp; omega)]
    rw [hc]
    congr 1
    rw [← Array.foldl_toList, Array.toList_zipIdx]
  · exact hf.1
  · intro i
    rw [hf.2 i]
    by_cases hi : i < C.size
    · rw [if_pos (by simp; exact hi), if_pos hi]; simp
    · rw [if_neg (by simp; omega), if_neg hi]


theorem fill_at (P : Program) (t : TypeId) (it : TypeInfo) (Z : Array Value) (fs : Array Field) (places : List (Nat × Nat)) (C : Array Value) (hi : P.info? t = some it) (hz : it.zero = some (.agg Z)) (hu : P.underlying t = some (.struct fs))
    (hp : fs.toList.mapM (fun f => (P.info? f.type).map fun i => (f.offset, i.size)) = some places) : P.built t [(0, .agg C)] = Instr.fill (places.toArray[·]?) Z [(0, .agg C)] := by
  simp only [Program.built, hi, hu, hz, hp]
  rfl

set_option maxRecDepth 100000 in
theorem pl101 : (Tryz.prog.underlying 101).bind (fun d => match d with | .struct fs => fs.toList.mapM (fun f => (Tryz.prog.info? f.type).map fun i => (f.offset, i.size)) | _ => none) = some [(0, 1048), (1048, 1)] := by kernel_rfl
set_option maxRecDepth 100000 in
theorem pl104 : (Tryz.prog.underlying 104).bind (fun d => match d with | .struct fs => fs.toList.mapM (fun f => (Tryz.prog.info? f.type).map fun i => (f.offset, i.size)) | _ => none) = some [(0, 1049)] := by kernel_rfl

/-- A great part as the first field. -/
theorem built_one {t n N : Nat} (Z : Array Value) (hz : (Tryz.prog.info? t).map (fun i => (i.zero, i.size)) = some (some (.agg Z), N)) {rest : List (Nat × Nat)}
    (hp : (Tryz.prog.underlying t).bind (fun d => match d with | .struct fs => fs.toList.mapM (fun f => (Tryz.prog.info? f.type).map fun i => (f.offset, i.size)) | _ => none) = some ((0, n) :: rest)) (C : Array Value) (hC : C.size = n) (hn : n ≤ Z.size) :
    ∃ X, Tryz.prog.built t [(0, .agg C)] = some X ∧ X.size = Z.size ∧ ∀ i, X[i]? = if i < n then C[i]? else Z[i]? := by
  cases hi : Tryz.prog.info? t with
  | none => rw [hi] at hz; cases hz
  | some it =>
    rw [hi] at hz
    simp only [Option.map_some, Option.some.injEq, Prod.mk.injEq] at hz
    cases hu : Tryz.prog.underlying t with
    | none => rw [hu] at hp; cases hp
    | some d =>
      rw [hu] at hp
      cases d with
      | struct fs =>
        simp only [Option.bind_some] at hp
        rw [fill_at _ t it Z fs _ C hi hz.1 hu hp]
        subst hC
        exact fill_one C Z _ rfl hn
      | _ => cases hp
end Go.Proofs.YtlckfiflfkbofaaGreatDoor
