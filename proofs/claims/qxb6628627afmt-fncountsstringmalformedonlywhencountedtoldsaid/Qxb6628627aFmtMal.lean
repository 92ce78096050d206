import Derived.Test.Qxb6628627aFmtText
import Derived.Test.Qxb6628627aFmtParse
namespace Go.Proofs.Qxb6628627aFmt
open Go.RowKit Go.Extern.Stop Go.Stop Go.Extern Go.Kit

theorem pre_eq (lt : List UInt8) (m : Int) : (⟨(lt ++ malT m).toArray⟩ : ByteArray).extract 0 (lt.length + 11) = ⟨lt.toArray⟩ ++ ⟨#[32, 109, 97, 108, 102, 111, 114, 109, 101, 100, 32]⟩ := by
  have e : (⟨#[32, 109, 97, 108, 102, 111, 114, 109, 101, 100, 32]⟩ : ByteArray) = ⟨[32, 109, 97, 108, 102, 111, 114, 109, 101, 100, 32].toArray⟩ := rfl
  rw [e, ByteArray.mk_append_mk]
  refine bytes_of_list ?_
  simp [malT, List.take_append]
  exact List.take_of_length_le (by omega)
theorem rest_list (lt : List UInt8) (m : Int) : ((⟨(lt ++ malT m).toArray⟩ : ByteArray).extract (lt.length + 11) (lt.length + (malT m).length)).data.toList = Lib.itoa m := by
  simp [malT]
  exact List.take_of_length_le (by omega)
theorem mal_ge (m : Int) : 11 ≤ (malT m).length := by simp [malT]

theorem info23 : (Tryf.prog.info? 23).map (·.size) = some 9 := by kernel_rfl

theorem six (w : World) (o1 o2 o3 o4 o5 o6 : Obj) : Below w.heap.size w ((((((w.alloc o1).alloc o2).alloc o3).alloc o4).alloc o5).alloc o6) ∧
    ((((((w.alloc o1).alloc o2).alloc o3).alloc o4).alloc o5).alloc o6).heap[w.heap.size + 1 + 1 + 1]? = some o4 ∧ ((((((w.alloc o1).alloc o2).alloc o3).alloc o4).alloc o5).alloc o6).heap[w.heap.size + 1 + 1 + 1 + 1 + 1]? = some o6 ∧
    w.heap.size + 6 ≤ ((((((w.alloc o1).alloc o2).alloc o3).alloc o4).alloc o5).alloc o6).heap.size := by
  refine ⟨?_, ?_, ?_, by simp⟩
  · refine Below.alloc (Below.alloc (Below.alloc (Below.alloc (Below.alloc (Below.alloc (Below.refl _ _) (Nat.le_refl _) _) ?_ _) ?_ _) ?_ _) ?_ _) ?_ _ <;> simp only [World.size_alloc] <;> omega
  · rw [Below.heap_alloc _ _ _ (by simp only [World.size_alloc]; omega), Below.heap_alloc _ _ _ (by simp only [World.size_alloc]; omega)]
    have := heap_alloc_new (((w.alloc o1).alloc o2).alloc o3) o4
    simpa only [World.size_alloc] using this
  · have := heap_alloc_new (((((w.alloc o1).alloc o2).alloc o3).alloc o4).alloc o5) o6
    simpa only [World.size_alloc] using this

set_option maxHeartbeats 400000 in
theorem mal_any (F : Interp) (r d s a j t p m1 m2 : Int) (w : World) (hF : F.told.answers w.tape) (hr : (Lit.int .i64 r).wf = true) (hd : (Lit.int .i64 d).wf = true) (hs : (Lit.int .i64 s).wf = true) (ha : (Lit.int .i64 a).wf = true) (hj : (Lit.int .i64 j).wf = true) (ht : (Lit.int .i64 t).wf = true) (hp : (Lit.int .i64 p).wf = true) (hm1 : (Lit.int .i64 m1).wf = true) :
    Calls Tryf.prog 4 #[.int .i64 r, .int .i64 d, .int .i64 s, .int .i64 a, .int .i64 j, .int .i64 t, .int .i64 p, .int .i64 m1, .int .i64 m2] w fun e w' => e = .returned (.bool true) ∧ Below w.heap.size w w' := by
  go_enter Tryf.func4, Tryf.ntmps4
  go_wp2_with fail
  refine (new_any r d s a j t p m1 false _).mono ?_
  rintro e w' ⟨rfl, rfl⟩
  go_wp2_with fail
  refine (new_any r d s a j t p m2 false _).mono ?_
  rintro e w' ⟨rfl, rfl⟩
  go_wp2_with fail
  refine (new_any r d s a j t p m1 true _).mono ?_
  rintro e w' ⟨rfl, rfl⟩
  go_wp2_with fail
  have hF0 : F.told.answers ((((((w.alloc (.cells (cnt r d s a j t p m1 false) 23)).alloc (.cells (cnt r d s a j t p m1 false) 23)).alloc (.cells (cnt r d s a j t p m2 false) 23)).alloc (.cells (cnt r d s a j t p m2 false) 23)).alloc (.cells (cnt r d s a j t p m1 true) 23)).alloc (.cells (cnt r d s a j t p m1 true) 23)).tape := hF
  have h6 := six w (.cells (cnt r d s a j t p m1 false) 23) (.cells (cnt r d s a j t p m1 false) 23) (.cells (cnt r d s a j t p m2 false) 23) (.cells (cnt r d s a j t p m2 false) 23) (.cells (cnt r d s a j t p m1 true) 23) (.cells (cnt r d s a j t p m1 true) 23)
  generalize ((((((w.alloc (.cells (cnt r d s a j t p m1 false) 23)).alloc (.cells (cnt r d s a j t p m1 false) 23)).alloc (.cells (cnt r d s a j t p m2 false) 23)).alloc (.cells (cnt r d s a j t p m2 false) 23)).alloc (.cells (cnt r d s a j t p m1 true) 23)).alloc (.cells (cnt r d s a j t p m1 true) 23)) = W at hF0 h6 ⊢
  obtain ⟨b0, g1, g2, g3⟩ := h6
  have G1 : Hid _ := g1
  have G2 : Hid _ := g2
  clear g1 g2
  refine (str_no F r d s a j t p m1 W hF0 hr hd hs ha hj ht hp).mono ?_
  rintro e w1 ⟨rfl, hb⟩
  have b1 := b0.trans (hb.mono b0.size)
  have G1' : Hid _ := (hb.block _ (by omega)).trans G1.out
  have G2' : Hid _ := (hb.block _ (by omega)).trans G2.out
  have hF1 : F.told.answers w1.tape := by rw [hb.tape]; exact hF0
  have g3' : w.heap.size + 6 ≤ w1.heap.size := Nat.le_trans g3 hb.size
  clear hb G1 G2 g3 hF0 b0 W
  have I : Hid ((Tryf.prog.info? 23).map (·.size) = some 9) := info23
  go_wp2_with (refine wpList_load_row rfl 23 (.tmp 20) rfl (w.heap.size + 1 + 1 + 1) rfl 23 (cnt r d s a j t p m2 false) (0, 0) _ G1'.out Tryf.underlying23 rfl I.out ?_)
  refine (str_no F r d s a j t p m2 w1 hF1 hr hd hs ha hj ht hp).mono ?_
  rintro e w2 ⟨rfl, hb⟩
  have b2 := b1.trans (hb.mono b1.size)
  have G2 : Hid _ := (hb.block _ (by omega)).trans G2'.out
  have hF2 : F.told.answers w2.tape := by rw [hb.tape]; exact hF1
  clear hb G1' G2' g3' hF1 b1 w1
  go_wp2_with (refine wpList_load_row rfl 23 (.tmp 21) rfl (w.heap.size + 1 + 1 + 1 + 1 + 1) rfl 23 (cnt r d s a j t p m1 true) (0, 0) _ G2.out Tryf.underlying23 rfl I.out ?_)
  refine (str_yes F r d s a j t p m1 w2 hF2 hr hd hs ha hj ht hp hm1).mono ?_
  rintro e w3 ⟨rfl, hb⟩
  have b3 := b2.trans (hb.mono b2.size)
  clear hb G2 hF2 b2 w2 I
  have l1 := line_len r d s a j t p hr hd hs ha hj ht hp
  have l2 := mal_ge m1
  have l3 := mal_len m1 hm1
  generalize lineT r d s a j t p = lt at *
  have e1 : (((⟨(lt ++ malT m1).toArray⟩ : ByteArray).extract 0 (lt.length + 11)).toList == ((⟨lt.toArray⟩ : ByteArray) ++ ⟨#[32, 109, 97, 108, 102, 111, 114, 109, 101, 100, 32]⟩).toList) = true := by
    rw [pre_eq]; simp
  have P : Hid _ := rest_list lt m1
  go_wp2_with fail
  refine (parse_itoa _ m1 _ P.out hm1).mono ?_
  rintro e w4 ⟨rfl, rfl⟩
  go_wp2_with fail
  go_ret
  exact ⟨rfl, b3⟩
end Go.Proofs.Qxb6628627aFmt
