import Derived.Test.Qxb6628627aFmtWalk
namespace Go.Proofs.Qxb6628627aFmt
open Go.RowKit Go.Extern.Stop Go.Stop Go.Extern Go.Kit

/-- the line's text -/
def lineT (r d s a j t p : Int) : List UInt8 := [114, 101, 97, 100, 32] ++ Lib.itoa r ++ [32, 100, 105, 115, 99, 97, 114, 100, 101, 100, 32] ++ Lib.itoa d ++ [32, 115, 101, 110, 116, 32] ++ Lib.itoa s ++ [32, 97, 99, 107, 110, 111, 119, 108, 101, 100, 103, 101, 100, 32] ++ Lib.itoa a ++ [32, 114, 101, 106, 101, 99, 116, 101, 100, 32] ++ Lib.itoa j ++ [32, 114, 101, 116, 114, 105, 101, 100, 32] ++ Lib.itoa t ++ [32, 100, 114, 111, 112, 112, 101, 100, 32] ++ Lib.itoa p
/-- its end's text -/
def malT (m : Int) : List UInt8 := [32, 109, 97, 108, 102, 111, 114, 109, 101, 100, 32] ++ Lib.itoa m

theorem p_line : (FmtText.parse [114, 101, 97, 100, 32, 37, 100, 32, 100, 105, 115, 99, 97, 114, 100, 101, 100, 32, 37, 100, 32, 115, 101, 110, 116, 32, 37, 100, 32, 97, 99, 107, 110, 111, 119, 108, 101, 100, 103, 101, 100, 32, 37, 100, 32, 114, 101, 106, 101, 99, 116, 101, 100, 32, 37, 100, 32, 114, 101, 116, 114, 105, 101, 100, 32, 37, 100, 32, 100, 114, 111, 112, 112, 101, 100, 32, 37, 100]).map FmtText.glue = some [.lit [114, 101, 97, 100, 32], .verb {} 100, .lit [32, 100, 105, 115, 99, 97, 114, 100, 101, 100, 32], .verb {} 100, .lit [32, 115, 101, 110, 116, 32], .verb {} 100, .lit [32, 97, 99, 107, 110, 111, 119, 108, 101, 100, 103, 101, 100, 32], .verb {} 100, .lit [32, 114, 101, 106, 101, 99, 116, 101, 100, 32], .verb {} 100, .lit [32, 114, 101, 116, 114, 105, 101, 100, 32], .verb {} 100, .lit [32, 100, 114, 111, 112, 112, 101, 100, 32], .verb {} 100] := by rfl
theorem p_mal : (FmtText.parse [32, 109, 97, 108, 102, 111, 114, 109, 101, 100, 32, 37, 100]).map FmtText.glue = some [.lit [32, 109, 97, 108, 102, 111, 114, 109, 101, 100, 32], .verb {} 100] := by rfl

theorem line_text (r d s a j t p : Int) (hr : (Lit.int .i64 r).wf = true) (hd : (Lit.int .i64 d).wf = true) (hs : (Lit.int .i64 s).wf = true) (ha : (Lit.int .i64 a).wf = true) (hj : (Lit.int .i64 j).wf = true) (ht : (Lit.int .i64 t).wf = true) (hp : (Lit.int .i64 p).wf = true) :
    FmtText.text "fmt.Sprintf" (rdLine r d s a j t p) = some (lineT r d s a j t p) := by
  have o (n : Int) (hn : (Lit.int .i64 n).wf = true) := FmtText.operand_int_at (sh := shape2) (k := .i64) rfl rfl n hn
  rw [rdLine, FmtText.text_sprintf_glued p_line (FmtText.operands_cons (o r hr) (FmtText.operands_cons (o d hd) (FmtText.operands_cons (o s hs) (FmtText.operands_cons (o a ha) (FmtText.operands_cons (o j hj) (FmtText.operands_cons (o t ht) (FmtText.operands_cons (o p hp) FmtText.operands_nil)))))))]
  simp [FmtText.render, FmtText.printArg_d _ _ hr, FmtText.printArg_d _ _ hd, FmtText.printArg_d _ _ hs, FmtText.printArg_d _ _ ha, FmtText.printArg_d _ _ hj, FmtText.printArg_d _ _ ht, FmtText.printArg_d _ _ hp, lineT]

theorem mal_text (m : Int) (hm : (Lit.int .i64 m).wf = true) : FmtText.text "fmt.Sprintf" (rdMal m) = some (malT m) := by
  have o := FmtText.operand_int_at (sh := shape2) (k := .i64) rfl rfl m hm
  rw [rdMal, FmtText.text_sprintf_glued p_mal (FmtText.operands_cons o FmtText.operands_nil)]
  simp [FmtText.render, FmtText.printArg_d _ _ hm, malT]

theorem bytes_of_list {x : ByteArray} {l : List UInt8} (h : x.data.toList = l) : x = ⟨l.toArray⟩ := by subst h; rfl

theorem line_len (r d s a j t p : Int) (hr : (Lit.int .i64 r).wf = true) (hd : (Lit.int .i64 d).wf = true) (hs : (Lit.int .i64 s).wf = true) (ha : (Lit.int .i64 a).wf = true) (hj : (Lit.int .i64 j).wf = true) (ht : (Lit.int .i64 t).wf = true) (hp : (Lit.int .i64 p).wf = true) :
    (lineT r d s a j t p).length ≤ 500 := by
  have l1 := FmtText.itoa_length_le hr
  have l2 := FmtText.itoa_length_le hd
  have l3 := FmtText.itoa_length_le hs
  have l4 := FmtText.itoa_length_le ha
  have l5 := FmtText.itoa_length_le hj
  have l6 := FmtText.itoa_length_le ht
  have l7 := FmtText.itoa_length_le hp
  simp [lineT]; omega
theorem mal_len (m : Int) (hm : (Lit.int .i64 m).wf = true) : (malT m).length ≤ 100 := by
  have l1 := FmtText.itoa_length_le hm
  simp [malT]; omega

theorem line_told (F : Interp) (r d s a j t p : Int) (hr : (Lit.int .i64 r).wf = true) (hd : (Lit.int .i64 d).wf = true) (hs : (Lit.int .i64 s).wf = true) (ha : (Lit.int .i64 a).wf = true) (hj : (Lit.int .i64 j).wf = true) (ht : (Lit.int .i64 t).wf = true) (hp : (Lit.int .i64 p).wf = true) :
    FmtStop.textOf (F.told "fmt.Sprintf" (rdLine r d s a j t p) 0) = ⟨(lineT r d s a j t p).toArray⟩ :=
  bytes_of_list (by rw [textOf_list, told_string F (line_text r d s a j t p hr hd hs ha hj ht hp) (by have := line_len r d s a j t p hr hd hs ha hj ht hp; omega)])
theorem mal_told (F : Interp) (m : Int) (hm : (Lit.int .i64 m).wf = true) : FmtStop.textOf (F.told "fmt.Sprintf" (rdMal m) 0) = ⟨(malT m).toArray⟩ :=
  bytes_of_list (by rw [textOf_list, told_string F (mal_text m hm) (by have := mal_len m hm; omega)])

/-- String() without its end -/
theorem str_no (F : Interp) (r d s a j t p m : Int) (w : World) (hF : F.told.answers w.tape) (hr : (Lit.int .i64 r).wf = true) (hd : (Lit.int .i64 d).wf = true) (hs : (Lit.int .i64 s).wf = true) (ha : (Lit.int .i64 a).wf = true) (hj : (Lit.int .i64 j).wf = true) (ht : (Lit.int .i64 t).wf = true) (hp : (Lit.int .i64 p).wf = true) :
    Calls Tryf.prog 6 #[.agg (cnt r d s a j t p m false)] w fun e w' => e = .returned (.string ⟨(lineT r d s a j t p).toArray⟩) ∧ Below w.heap.size w w' := by
  refine (string_no F.told r d s a j t p m w hF).mono fun e w' h => ?_
  rw [line_told F r d s a j t p hr hd hs ha hj ht hp] at h
  exact h

/-- String() with its end -/
theorem str_yes (F : Interp) (r d s a j t p m : Int) (w : World) (hF : F.told.answers w.tape) (hr : (Lit.int .i64 r).wf = true) (hd : (Lit.int .i64 d).wf = true) (hs : (Lit.int .i64 s).wf = true) (ha : (Lit.int .i64 a).wf = true) (hj : (Lit.int .i64 j).wf = true) (ht : (Lit.int .i64 t).wf = true) (hp : (Lit.int .i64 p).wf = true) (hm : (Lit.int .i64 m).wf = true) :
    Calls Tryf.prog 6 #[.agg (cnt r d s a j t p m true)] w fun e w' => e = .returned (.string ⟨(lineT r d s a j t p ++ malT m).toArray⟩) ∧ Below w.heap.size w w' := by
  have h1 := line_told F r d s a j t p hr hd hs ha hj ht hp
  have h2 := mal_told F m hm
  have l1 := line_len r d s a j t p hr hd hs ha hj ht hp
  have l2 := mal_len m hm
  refine (string_yes F.told r d s a j t p m w hF ?_ ?_).mono fun e w' h => ?_
  · rw [h1]; show (lineT r d s a j t p).toArray.size ≤ 1000; simp; omega
  · rw [h2]; show (malT m).toArray.size ≤ 1000; simp; omega
  · rw [h1, h2, ByteArray.mk_append_mk] at h
    exact h
end Go.Proofs.Qxb6628627aFmt
