/- Part 53: Cfw, Cjn. -/
import Derived.Test.YtbmklgemmjgjfaaGreatT52
namespace Go.Proofs.YtbmklgemmjgjfaaGreat
open List (all_nil)
open Go.RowKit Go.Maps Tryz
set_option linter.unusedVariables false
set_option linter.unusedSimpArgs false
set_option maxRecDepth 100000
set_option maxHeartbeats 160000000
section
instance : Tsz Tryz.prog 45 1 false := ⟨by kernel_rfl, by kernel_rfl⟩
open Go.RowKit Go.Maps
set_option maxRecDepth 100000 in
set_option maxHeartbeats 40000000 in
/-- FnTreesConflict -/
theorem conflict_s {J : Gh} {x1 x2 : V6} {X1 X2 : IV} {one two : ByteArray} (h : LawH J x1 x2 X1 X2 one two) : Acts Tryz.prog 5 #[.agg #[.int .i64 x1.k, .int .i64 x1.n, .float .f64 x1.f, .string x1.s, .slice x1.a1 x1.n1 x1.c1, .slice x1.a2 x1.n2 x1.c2], .agg #[.int .i64 x2.k, .int .i64 x2.n, .float .f64 x2.f, .string x2.s, .slice x2.a1 x2.n1 x2.c1, .slice x2.a2 x2.n2 x2.c2], .string one, .string two] J [] [] fun r K L' R' => L' = [] ∧ R' = [] ∧ r = .bool true := by
  intro M I w W S
  have HT := Lib.hid h
  have hf1 := fits5_x h.v1 (by have := h.b1; omega)
  have hf2 := fits5_x h.v2 (by have := h.b2; omega)
  have hbr := bare_x h.v1
  have hz1 : ¬ (2147483647 : Int) < (one.size : Int) := by have := h.z1; omega
  have hz2 : ¬ (2147483647 : Int) < (two.size : Int) := by have := h.z2; omega
  have hn1 : ¬ 2147483647 < one.size := by have := h.z1; omega
  have hn2 : ¬ 2147483647 < two.size := by have := h.z2; omega
  simp only [V6.agg] at hf1 hf2 hbr
  clear h
  go_enter Tryz.func5, Tryz.ntmps5
  go_wp2_with (first | (refine wl_load S rfl rfl rfl ?_) | (refine wl_loadW S (by rfl) rfl rfl ?_) | (refine wl_bx S rfl rfl (by constructor) ?_; clear S; (first | ((fail_if_success (revert y1)); intro y1 W S) | intro y2 W S)))
  refine (hf1 _ S.out.inw).mono ?_
  rintro e9 W ⟨rfl, st9⟩
  replace S := Lib.hid (S.out.call st9)
  clear st9
  clear hf1
  go_wp2_with (first | (refine wl_load S rfl rfl rfl ?_) | (refine wl_loadW S (by rfl) rfl rfl ?_))
  refine (hf2 _ S.out.inw).mono ?_
  rintro e9 W ⟨rfl, st9⟩
  replace S := Lib.hid (S.out.call st9)
  clear st9
  clear hf2
  go_upto_region 4 with (first | (refine wl_load S rfl rfl rfl ?_) | (refine wl_loadW S (by rfl) rfl rfl ?_) | (refine wl_two (s1 := [.bool true, .bool false, .string one, .string ⟨#[118, 49]⟩, .int .i64 x1.k, .int .i64 x1.n, .float .f64 x1.f, .string x1.s, .slice x1.a1 x1.n1 x1.c1, .slice x1.a2 x1.n2 x1.c2]) (s2 := [.bool true, .bool false, .string two, .string ⟨#[118, 49]⟩, .int .i64 x2.k, .int .i64 x2.n, .float .f64 x2.f, .string x2.s, .slice x2.a1 x2.n1 x2.c1, .slice x2.a2 x2.n2 x2.c2]) S rfl rfl Tryz.underlying66 in86 rfl rfl ?_; clear S; intro sb W S))
  obtain ⟨K1, hle1, hk1, S1⟩ := S.out.freeze
  have HS := Lib.hid (And.intro hle1 hk1)
  clear S hle1 hk1 hbr
  have S := Lib.hid S1
  clear S1
  have hbr := bare_x (HT.out.v1.mono HS.out.1)
  simp only [V6.agg] at hbr
  by_cases h12 : one = two
  · have hq := seq_t h12
    clear hbr h12
    go_wp2_with (first | (refine wl_load S rfl rfl rfl ?_) | (refine wl_loadW S (by rfl) rfl rfl ?_))
    refine bodyPost_ret (results_tmp rfl _ _ _) rfl ?_
    exact ap (L := []) HS.out.1 ⟨rfl, rfl, rfl⟩ (show St _ _ _ _ _ _ _ from keep S)
  have hq := seq_f h12
  have HNE := Lib.hid h12
  clear h12
  go_wp2_with (first | (refine wl_load S rfl rfl rfl ?_) | (refine wl_loadW S (by rfl) rfl rfl ?_))
  refine (hbr _ S.out.inw).mono ?_
  rintro e9 W ⟨rfl, st9⟩
  replace S := Lib.hid (S.out.call st9)
  clear st9
  clear hbr
  cases hb : Q8c X1.tr with
  | true =>
    go_wp2_with (first | (refine wl_load S rfl rfl rfl ?_) | (refine wl_loadW S (by rfl) rfl rfl ?_))
    refine bodyPost_ret (results_tmp rfl _ _ _) rfl ?_
    exact ap (L := []) HS.out.1 ⟨rfl, rfl, rfl⟩ (show St _ _ _ _ _ _ _ from keep S)
  | false =>
  have HB := Lib.hid hb
  clear hb
  go_wp2_with (first | (refine wl_load S rfl rfl rfl ?_) | (refine wl_loadW S (by rfl) rfl rfl ?_))
  have hcall := fullTs_s (J := K1) (sb := sb) (n1 := one) (n2 := two) (HT.out.v1.mono HS.out.1) (HT.out.v2.mono HS.out.1) (by have := HT.out.b1; omega) (by have := HT.out.b2; omega) (fun i u hu => X2g HS.out.2 hu) (fun i u hu => steps_at2 HS.out.2 hu)
  refine Q0a S hcall ?_
  clear hcall S
  rintro r5 K5 L5 R5 W' hle5 ⟨rfl, rfl, b, rfl, hb5⟩ S
  have H5 := Lib.hid (And.intro (gT HS.out.1 hle5) (And.intro hle5 hb5))
  clear hle5 hb5
  simp only [List.nil_append] at S
  cases b with
  | false =>
    go_wp2_with (first | (refine wl_load S rfl rfl rfl ?_) | (refine wl_loadW S (by rfl) rfl rfl ?_))
    refine bodyPost_ret (results_tmp rfl _ _ _) rfl ?_
    exact ap (L := []) H5.out.1 ⟨rfl, rfl, rfl⟩ (show St _ _ _ _ _ _ _ from keep S)
  | true =>
  have HC := Lib.hid (LawT.of (H5.out.2.2 rfl).1 (H5.out.2.2 rfl).2.1 (H5.out.2.2 rfl).2.2 HB.out HNE.out)
  go_wp2_with (first | (refine wl_load S rfl rfl rfl ?_) | (refine wl_loadW S (by rfl) rfl rfl ?_))
  refine Q0x S [(y2, [.int .i64 x2.k, .int .i64 x2.n, .float .f64 x2.f, .string x2.s, .slice x2.a1 x2.n1 x2.c1, .slice x2.a2 x2.n2 x2.c2], .t 35), (y1, [.int .i64 x1.k, .int .i64 x1.n, .float .f64 x1.f, .string x1.s, .slice x1.a1 x1.n1 x1.c1, .slice x1.a2 x1.n2 x1.c2], .t 35)] [] [] [1, 2] 8 (by kernel_rfl) (by kernel_rfl) rfl (by kernel_rfl) fun W S => ?_
  (repeat (refine YS.step (v := ?_) ?_ ?_; rotate_left; (focus (first | exact Q1t rfl rfl rfl | (refine y_at rfl fun W hSw => ?_; go_simp; all_goals with_reducible rfl))); (try simp only [Act.put, List.setIfInBounds_toArray, List.set_cons_zero, List.set_cons_succ]))); refine YS.fin ?_; (try dsimp only)
  refine X8u (md := .any) [62, 65, 10, 61, 66, 67, 11] [(0, []), (3, [0]), (7, []), (4, [3]), (5, [4]), (6, [4]), (8, [5, 7]), (9, [6])] (G6 M I w y1 y2 K5 x1 x2 X1 one) 0 8 #[true, true, true, true, true, true, true, true, true, true] (by kernel_rfl) ?_ ?_ ?_ ?_
  · intro f x hf
    have e0 : f 0 = false := (hf 0).trans (by kernel_rfl)
    have e3 : f 3 = false := (hf 3).trans (by kernel_rfl)
    have e4 : f 4 = false := (hf 4).trans (by kernel_rfl)
    have e5 : f 5 = false := (hf 5).trans (by kernel_rfl)
    have e6 : f 6 = false := (hf 6).trans (by kernel_rfl)
    have e7 : f 7 = false := (hf 7).trans (by kernel_rfl)
    have e8 : f 8 = false := (hf 8).trans (by kernel_rfl)
    have e9 : f 9 = false := (hf 9).trans (by kernel_rfl)
    exact ⟨K5, [], by simpa using S, gR, fun _ => e8, fun h => (by rw [e0] at h; cases h), fun h => (by rw [e3] at h; cases h), fun h => (by rw [e4] at h; cases h), fun h => (by rw [e5] at h; cases h), fun h => (by rw [e6] at h; cases h), fun h => (by rw [e9] at h; cases h), .inl ⟨e7, rfl⟩⟩
  · rintro f x W ⟨K, L, S, hle, _⟩
    exact vw S hle
  · clear S
    intro d hd f x W hf hfn hG
    have hG0 := hG
    obtain ⟨K, L, S, hle, h8f, h0, h3, h4, h5, h6, h9, h7⟩ := hG
    simp only [List.mem_cons, List.not_mem_nil, or_false] at hd
    rcases hd with rfl | rfl | rfl | rfl | rfl | rfl | rfl | rfl
    · refine ⟨_, rfl, rfl, .inl ⟨62, rfl, rfl, fun KK hKK => ?_⟩⟩
      simp only [Q5o, List.foldl_cons, List.foldl_nil, Act.put, List.setIfInBounds_toArray, List.set_cons_zero, List.set_cons_succ]
      go_simp
      refine Q0a S (world0_s (J := K)) ?_
      rintro r5 K5 L5 R5 W' hle5 ⟨rfl, rfl, tb, x0, rfl, q1, q2⟩ S
      simp only [List.nil_append] at S
      refine hKK (.agg #[.slice (some ⟨tb, 0, none⟩) 2 2, .bool true, .string nmDe, .string ⟨#[]⟩, .slice none 0 0, .slice none 0 0, .string ⟨#[]⟩, .int .i64 x0.k, .int .i64 x0.n, .float .f64 x0.f, .string x0.s, .slice x0.a1 x0.n1 x0.c1, .slice x0.a2 x0.n2 x0.c2, .slice none 0 0, .slice none 0 0, .slice none 0 0, .slice none 0 0, .bool false, .bool false, .slice none 0 0, .string ⟨#[]⟩, .bool false]) _ _ (by simp only [Q5o, List.foldl_cons, List.foldl_nil, Act.put, List.setIfInBounds_toArray, List.set_cons_zero, List.set_cons_succ]) ⟨K5, L, S, gT hle hle5, (fun h => (by simpa using h8f (by simpa using h))), fun h => ⟨tb, x0, by simp, q1, q2⟩, fun h => (by obtain ⟨tb, a, r, e, q1, q2, q3⟩ := h3 (by simpa using h); exact ⟨tb, a, r, by simpa using e, q1.mono hle5, q2.mono hle5, q3⟩), fun h => (by obtain ⟨tb, a, r, e, q1, q2, q3⟩ := h4 (by simpa using h); exact ⟨tb, a, r, by simpa using e, q1.mono hle5, q2.mono hle5, q3⟩), fun h => (by obtain ⟨tb, a, r, e, q1, q2, q3⟩ := h5 (by simpa using h); exact ⟨tb, a, r, by simpa using e, q1.mono hle5, q2.mono hle5, q3⟩), fun h => (by have e := h6 (by simpa using h); simpa using e), fun h => (by have e := h9 (by simpa using h); simpa using e), h7.imp (fun ⟨h, e⟩ => ⟨by simpa using h, e⟩) (fun ⟨h, b, e, e2⟩ => ⟨by simpa using h, b, by simpa using e, e2.imp (fun ⟨h, e⟩ => ⟨by simpa using h, e⟩) (fun ⟨h, tb, a, r, e, q1, q2, q3⟩ => ⟨by simpa using h, tb, a, r, e, q1.mono hle5, q2.mono hle5, q3⟩)⟩)⟩
    · refine ⟨_, rfl, rfl, .inl ⟨65, rfl, rfl, fun KK hKK => ?_⟩⟩
      obtain ⟨tb, x0, e, q1, q2⟩ := h0 (by simpa using hf)
      simp only [Q5o, List.foldl_cons, List.foldl_nil, Act.put, List.setIfInBounds_toArray, List.set_cons_zero, List.set_cons_succ]
      rw [e]
      go_simp
      have hcall := run_s (c := 2) (v := v1B) q1 q2 (HT.out.v1.mono (gT H5.out.1 hle)) (HC.out.api1 HT.out.b1 HT.out.z1) (fun i u hu => (X2g HS.out.2 hu).mono (gT H5.out.2.1 hle)) (fun r hr => ⟨(Z5z HC.out.ha HC.out.ex HC.out.ma hr).1, (Z5z HC.out.ha HC.out.ex HC.out.ma hr).2.1⟩)
      refine Q0a S hcall ?_
      rintro r5 K5 L5 R5 W' hle5 ⟨rfl, rfl, a, r, rfl, q3, q4⟩ S
      simp only [List.nil_append] at S
      refine hKK (.tuple #[.agg #[.slice (some ⟨tb, 0, none⟩) 2 2, .bool true, .string nmDe, .string ⟨#[]⟩, .slice none 0 0, .slice none 0 0, .string ⟨#[]⟩, .int .i64 a.x.k, .int .i64 a.x.n, .float .f64 a.x.f, .string a.x.s, .slice a.x.a1 a.x.n1 a.x.c1, .slice a.x.a2 a.x.n2 a.x.c2, .slice a.ma a.mn a.mc, .slice none 0 0, .slice none 0 0, .slice none 0 0, .bool false, .bool false, .slice none 0 0, .string ⟨#[]⟩, .bool false], .bool true]) _ _ (by simp only [Q5o, List.foldl_cons, List.foldl_nil, Act.put, List.setIfInBounds_toArray, List.set_cons_zero, List.set_cons_succ]; rw [e]) ⟨K5, L, S, gT hle hle5, (fun h => (by simpa using h8f (by simpa using h))), fun h => (by obtain ⟨tb, x0, e, q1, q2⟩ := h0 (by simpa using h); exact ⟨tb, x0, by simpa using e, q1.mono hle5, q2.mono hle5⟩), fun h => ⟨tb, a, r, by simp, q1.mono hle5, q3, q4⟩, fun h => (by obtain ⟨tb, a, r, e, q1, q2, q3⟩ := h4 (by simpa using h); exact ⟨tb, a, r, by simpa using e, q1.mono hle5, q2.mono hle5, q3⟩), fun h => (by obtain ⟨tb, a, r, e, q1, q2, q3⟩ := h5 (by simpa using h); exact ⟨tb, a, r, by simpa using e, q1.mono hle5, q2.mono hle5, q3⟩), fun h => (by have e := h6 (by simpa using h); simpa using e), fun h => (by have e := h9 (by simpa using h); simpa using e), h7.imp (fun ⟨h, e⟩ => ⟨by simpa using h, e⟩) (fun ⟨h, b, e, e2⟩ => ⟨by simpa using h, b, by simpa using e, e2.imp (fun ⟨h, e⟩ => ⟨by simpa using h, e⟩) (fun ⟨h, tb, a, r, e, q1, q2, q3⟩ => ⟨by simpa using h, tb, a, r, e, q1.mono hle5, q2.mono hle5, q3⟩)⟩)⟩
    · refine ⟨_, rfl, rfl, .inl ⟨10, rfl, rfl, fun KK hKK => ?_⟩⟩
      simp only [Q5o, List.foldl_cons, List.foldl_nil, Act.put, List.setIfInBounds_toArray, List.set_cons_zero, List.set_cons_succ]
      refine Q3c S rfl ?_
      clear S; intro b W S
      have eL : L = [] := h7.elim (fun h => h.2) (fun h => absurd h.1 (by simp [hfn]))
      subst eL
      have hle5 := (gR (I:=K))
      refine hKK (.pointer (some ⟨b, 0, none⟩)) _ _ (by rw [Q5o]; rfl) ⟨K, [(b, [.slice none 0 0, .bool false, .string ⟨#[]⟩, .string ⟨#[]⟩, .slice none 0 0, .slice none 0 0, .string ⟨#[]⟩, .int .i64 0, .int .i64 0, .float .f64 0, .string ⟨#[]⟩, .slice none 0 0, .slice none 0 0, .slice none 0 0, .slice none 0 0, .slice none 0 0, .slice none 0 0, .bool false, .bool false, .slice none 0 0, .string ⟨#[]⟩, .bool false], .t 41)], S, hle, (fun h => absurd h (by simp)), fun h => (by obtain ⟨tb, x0, e, q1, q2⟩ := h0 (by simpa using h); exact ⟨tb, x0, by simpa using e, q1.mono hle5, q2.mono hle5⟩), fun h => (by obtain ⟨tb, a, r, e, q1, q2, q3⟩ := h3 (by simpa using h); exact ⟨tb, a, r, by simpa using e, q1.mono hle5, q2.mono hle5, q3⟩), fun h => (by obtain ⟨tb, a, r, e, q1, q2, q3⟩ := h4 (by simpa using h); exact ⟨tb, a, r, by simpa using e, q1.mono hle5, q2.mono hle5, q3⟩), fun h => (by obtain ⟨tb, a, r, e, q1, q2, q3⟩ := h5 (by simpa using h); exact ⟨tb, a, r, by simpa using e, q1.mono hle5, q2.mono hle5, q3⟩), fun h => (by have e := h6 (by simpa using h); simpa using e), fun h => (by have e := h9 (by simpa using h); simpa using e), .inr ⟨by simp, b, by simp, .inl ⟨by simpa using h8f hfn, rfl⟩⟩⟩
    · refine ⟨_, rfl, rfl, .inl ⟨61, rfl, rfl, fun KK hKK => ?_⟩⟩
      obtain ⟨tb, a, r, e, q1, q2, q3⟩ := h3 (by simpa using hf)
      have hle5 := (gR (I:=K))
      simp only [Q5o, List.foldl_cons, List.foldl_nil, Act.put, List.setIfInBounds_toArray, List.set_cons_zero, List.set_cons_succ]
      rw [e]
      refine Q2h (v := .tuple #[.agg #[.slice (some ⟨tb, 0, none⟩) 2 2, .bool true, .string nmDe, .string ⟨#[]⟩, .slice none 0 0, .slice none 0 0, .string ⟨#[]⟩, .int .i64 a.x.k, .int .i64 a.x.n, .float .f64 a.x.f, .string a.x.s, .slice a.x.a1 a.x.n1 a.x.c1, .slice a.x.a2 a.x.n2 a.x.c2, .slice a.ma a.mn a.mc, .slice none 0 0, .slice none 0 0, .slice none 0 0, .bool false, .bool false, .slice none 0 0, .string ⟨#[]⟩, .bool false], .bool true]) (by go_simp) ?_
      refine hKK (.tuple #[.agg #[.slice (some ⟨tb, 0, none⟩) 2 2, .bool true, .string nmDe, .string ⟨#[]⟩, .slice none 0 0, .slice none 0 0, .string ⟨#[]⟩, .int .i64 a.x.k, .int .i64 a.x.n, .float .f64 a.x.f, .string a.x.s, .slice a.x.a1 a.x.n1 a.x.c1, .slice a.x.a2 a.x.n2 a.x.c2, .slice a.ma a.mn a.mc, .slice none 0 0, .slice none 0 0, .slice none 0 0, .bool false, .bool false, .slice none 0 0, .string ⟨#[]⟩, .bool false], .bool true]) _ _ (by simp only [Q5o, List.foldl_cons, List.foldl_nil, Act.put, List.setIfInBounds_toArray, List.set_cons_zero, List.set_cons_succ]; rw [e]; rfl) ⟨K, L, S, hle, (fun h => (by simpa using h8f (by simpa using h))), fun h => (by obtain ⟨tb, x0, e, q1, q2⟩ := h0 (by simpa using h); exact ⟨tb, x0, by simpa using e, q1.mono hle5, q2.mono hle5⟩), fun h => (by obtain ⟨tb, a, r, e, q1, q2, q3⟩ := h3 (by simpa using h); exact ⟨tb, a, r, by simpa using e, q1.mono hle5, q2.mono hle5, q3⟩), fun h => ⟨tb, a, r, by simp, q1, q2, q3⟩, fun h => (by obtain ⟨tb, a, r, e, q1, q2, q3⟩ := h5 (by simpa using h); exact ⟨tb, a, r, by simpa using e, q1.mono hle5, q2.mono hle5, q3⟩), fun h => (by have e := h6 (by simpa using h); simpa using e), fun h => (by have e := h9 (by simpa using h); simpa using e), h7.imp (fun ⟨h, e⟩ => ⟨by simpa using h, e⟩) (fun ⟨h, b, e, e2⟩ => ⟨by simpa using h, b, by simpa using e, e2.imp (fun ⟨h, e⟩ => ⟨by simpa using h, e⟩) (fun ⟨h, tb, a, r, e, q1, q2, q3⟩ => ⟨by simpa using h, tb, a, r, e, q1.mono hle5, q2.mono hle5, q3⟩)⟩)⟩
    · exact g6_5x ⟨_, rfl, rfl, rfl, rfl⟩ (by rfl) hf hG0
    · exact g6_6x ⟨_, rfl, rfl, rfl, rfl⟩ (by rfl) hf hG0
    · exact g6_8x ⟨_, rfl, rfl, rfl, rfl⟩ (by rfl) (by rfl) hf hfn hG0
    · refine ⟨_, rfl, rfl, .inl ⟨11, rfl, rfl, fun KK hKK => ?_⟩⟩
      have e := h6 (by simpa using hf)
      have hle5 := (gR (I:=K))
      simp only [Q5o, List.foldl_cons, List.foldl_nil, Act.put, List.setIfInBounds_toArray, List.set_cons_zero, List.set_cons_succ]
      rw [e]
      refine Q2h (v := .bool true) (by go_simp) ?_
      refine hKK (.bool true) _ _ (by simp only [Q5o, List.foldl_cons, List.foldl_nil, Act.put, List.setIfInBounds_toArray, List.set_cons_zero, List.set_cons_succ]; rw [e]; rfl) ⟨K, L, S, hle, (fun h => (by simpa using h8f (by simpa using h))), fun h => (by obtain ⟨tb, x0, e, q1, q2⟩ := h0 (by simpa using h); exact ⟨tb, x0, by simpa using e, q1.mono hle5, q2.mono hle5⟩), fun h => (by obtain ⟨tb, a, r, e, q1, q2, q3⟩ := h3 (by simpa using h); exact ⟨tb, a, r, by simpa using e, q1.mono hle5, q2.mono hle5, q3⟩), fun h => (by obtain ⟨tb, a, r, e, q1, q2, q3⟩ := h4 (by simpa using h); exact ⟨tb, a, r, by simpa using e, q1.mono hle5, q2.mono hle5, q3⟩), fun h => (by obtain ⟨tb, a, r, e, q1, q2, q3⟩ := h5 (by simpa using h); exact ⟨tb, a, r, by simpa using e, q1.mono hle5, q2.mono hle5, q3⟩), fun h => (by have e := h6 (by simpa using h); simpa using e), fun h => (by simp), h7.imp (fun ⟨h, e⟩ => ⟨by simpa using h, e⟩) (fun ⟨h, b, e, e2⟩ => ⟨by simpa using h, b, by simpa using e, e2.imp (fun ⟨h, e⟩ => ⟨by simpa using h, e⟩) (fun ⟨h, tb, a, r, e, q1, q2, q3⟩ => ⟨by simpa using h, tb, a, r, e, q1.mono hle5, q2.mono hle5, q3⟩)⟩)⟩
  · clear S
    intro f x W hf hG
    obtain ⟨K, L, S, hle, h8f, h0, h3, h4, h5, h6, h9, h7⟩ := hG
    simp only [List.all_cons, List.all_nil, Bool.and_true, Bool.and_eq_true] at hf
    have e9 := h9 hf.2.2.2.2.2.2.2
    obtain ⟨b, e7, tb, a, r, rfl, q1, q2, q3⟩ : ∃ b, x 10 = .pointer (some ⟨b, 0, none⟩) ∧ ∃ tb a r, L = [(b, [.slice (some ⟨tb, 0, none⟩) 2 2, .bool true, .string nmDe, .string ⟨#[]⟩, .slice none 0 0, .slice none 0 0, .string ⟨#[]⟩, .int .i64 a.x.k, .int .i64 a.x.n, .float .f64 a.x.f, .string a.x.s, .slice a.x.a1 a.x.n1 a.x.c1, .slice a.x.a2 a.x.n2 a.x.c2, .slice a.ma a.mn a.mc, .slice none 0 0, .slice none 0 0, .slice none 0 0, .bool false, .bool false, .slice none 0 0, .string ⟨#[]⟩, .bool false], .t 41)] ∧ ISch K tb ∧ AnIs K v1B a r ∧ Q5x (.map []) X1.tr one false (fun _ => none) r := h7.elim (fun h => absurd h.1 (by rw [hf.2.2.1]; decide)) (fun ⟨_, b, e, h⟩ => ⟨b, e, h.elim (fun h => absurd h.1 (by rw [hf.2.2.2.2.2.2.1]; decide)) (fun h => h.2)⟩)
    simp only [List.cons_append, List.nil_append] at S
    have HW := Lib.hid (And.intro (gT H5.out.1 hle) (And.intro (gT H5.out.2.1 hle) (And.intro q1 (And.intro q2 q3))))
    clear h8f h0 h3 h4 h5 h6 h7 h9 q1 q2 q3 hf
    simp only [Q5o, List.foldl_cons, List.foldl_nil, Act.put, List.setIfInBounds_toArray, List.set_cons_zero, List.set_cons_succ]
    rw [e9, e7]
    clear e9 e7
    generalize x 62 = x62
    generalize x 65 = x65
    generalize x 61 = x61
    generalize x 66 = x66
    generalize x 67 = x67
    refine ends (by kernel_rfl) ?_
    go_upto_region 7 with (first | (refine wl_load S rfl rfl rfl ?_) | (refine wl_loadW S (by rfl) rfl rfl ?_))
    have hfo := Z5z HC.out.ha HC.out.ex HC.out.ma HW.out.2.2.2.2
    obtain ⟨hr1, hr2, hr3, f, hr4, hr5, hr6⟩ := hfo
    have hpm : f.all.Perm (Q0f X1.tr) := X8y hr5 (Q8x HC.out.ha) hr6
    have HV := Lib.hid (And.intro (show VIs K a.x X1.tr.iv by rw [← hr3]; exact HW.out.2.2.2.1.live) (And.intro (HT.out.v2.mono HW.out.1) (And.intro (show Q9d K v1B (.slice a.ma a.mn a.mc) [⟨one, true, f.all⟩] by rw [← hr4]; exact HW.out.2.2.2.1.ms) (HC.out.api2 HT.out.b1 HT.out.b2 HT.out.z1 HT.out.z2 hpm))))
    have HD := Lib.hid (HC.out.second hpm)
    clear hr1 hr2 hr3 hr4 hr5 hr6 hpm
    refine Q0x S [(b, [.slice (some ⟨tb, 0, none⟩) 2 2, .bool true, .string nmDe, .string ⟨#[]⟩, .slice none 0 0, .slice none 0 0, .string ⟨#[]⟩, .int .i64 a.x.k, .int .i64 a.x.n, .float .f64 a.x.f, .string a.x.s, .slice a.x.a1 a.x.n1 a.x.c1, .slice a.x.a2 a.x.n2 a.x.c2, .slice a.ma a.mn a.mc, .slice none 0 0, .slice none 0 0, .slice none 0 0, .bool false, .bool false, .slice none 0 0, .string ⟨#[]⟩, .bool false], .t 41), (y2, [.int .i64 x2.k, .int .i64 x2.n, .float .f64 x2.f, .string x2.s, .slice x2.a1 x2.n1 x2.c1, .slice x2.a2 x2.n2 x2.c2], .t 35), (y1, [.int .i64 x1.k, .int .i64 x1.n, .float .f64 x1.f, .string x1.s, .slice x1.a1 x1.n1 x1.c1, .slice x1.a2 x1.n2 x1.c2], .t 35)] [] [] [0, 1, 2, 4, 5, 6] 6 (by kernel_rfl) (by kernel_rfl) rfl (by kernel_rfl) fun W S => ?_
    (repeat (refine YS.step (v := ?_) ?_ ?_; rotate_left; (focus (first | exact Q1t rfl rfl rfl | (refine y_at rfl fun W hSw => ?_; go_simp; all_goals with_reducible rfl))); (try simp only [Act.put, List.setIfInBounds_toArray, List.set_cons_zero, List.set_cons_succ]))); refine YS.fin ?_; (try dsimp only)
    refine X8u (md := .any) [71, 75, 12, 13] [(3, []), (7, []), (8, []), (9, [])] (G7 M I w b y1 y2 tb a K x1 x2 X1.tr.iv.tr X2.tr two [⟨one, true, f.all⟩]) 2 4 #[true, true, true, true, true, true, true, true, true, true, false, false] (by kernel_rfl) ?_ ?_ ?_ ?_
    · intro f x hf
      have e3 : f 3 = false := (hf 3).trans (by kernel_rfl)
      have e7 : f 7 = false := (hf 7).trans (by kernel_rfl)
      have e8 : f 8 = false := (hf 8).trans (by kernel_rfl)
      have e9 : f 9 = false := (hf 9).trans (by kernel_rfl)
      exact ⟨K, 0, 0, by simpa [e8, e9] using S, gR, fun h => (by rw [e3] at h; cases h), fun h => (by rw [e7] at h; cases h), fun h => (by rw [e8] at h; cases h), fun h => (by rw [e9] at h; cases h)⟩
    · rintro f x W ⟨K, c, d, S, hle, _⟩
      refine vw S.out.dropL hle
    · clear S
      intro d hd f x W hf hfn hG
      simp only [List.mem_cons, List.not_mem_nil, or_false] at hd
      rcases hd with rfl | rfl | rfl | rfl
      · exact X8r (s := 71) ⟨_, rfl, rfl, rfl, rfl⟩ rfl fun o ho hd KK hKK => g7_3 HW.out.2.2.1 HV.out.1 HV.out.2.1 HV.out.2.2.1 HV.out.2.2.2 ho hd ((Z3e (by rfl)).trans (by rfl)) ((Z3e (by rfl)).trans (by rfl)) ((Z3e (by rfl)).trans (by rfl)) hG hKK
      · exact X8r (s := 75) ⟨_, rfl, rfl, rfl, rfl⟩ rfl fun o ho hd KK hKK => g7_7 HW.out.2.2.1 HV.out.1 HV.out.2.1 HV.out.2.2.1 HV.out.2.2.2 ho hd ((Z3e (by rfl)).trans (by rfl)) ((Z3e (by rfl)).trans (by rfl)) ((Z3e (by rfl)).trans (by rfl)) hG hKK
      · exact X8r (s := 12) ⟨_, rfl, rfl, rfl, rfl⟩ rfl fun o ho hd KK hKK => g7_8 ho hd hfn hG hKK
      · exact X8r (s := 13) ⟨_, rfl, rfl, rfl, rfl⟩ rfl fun o ho hd KK hKK => g7_9 ho hd hfn hG hKK
    · clear S
      intro fb x W hf hG
      obtain ⟨K7, c, d, S, hle7, h3, h7, h8, h9⟩ := hG
      simp only [List.all_cons, List.all_nil, Bool.and_true, Bool.and_eq_true] at hf
      obtain ⟨aF, rF, eF, uF1, uF2⟩ := h3 hf.1
      obtain ⟨aG, rG, eG, uG1, uG2⟩ := h7 hf.2.1
      have e8 := h8 hf.2.2.1
      have e9 := h9 hf.2.2.2
      rw [Q9k HC.out.ha] at uF2 uG2
      simp only [hf.2.2.1, hf.2.2.2, if_true, List.cons_append, List.nil_append] at S
      have hF := free_out HD.out uF2
      have hG := forced_out HD.out uG2
      obtain ⟨okF, caF, cnF, ccF, chF, xF, maF, mnF, mcF⟩ := aF
      obtain ⟨okG, caG, cnG, ccG, chG, xG, maG, mnG, mcG⟩ := aG
      have hok : okG = true := uG1.ok.trans hG.1
      subst hok
      have HF := Lib.hid (And.intro (uF1.ok.trans hF.1) (And.intro uF1.cs hF.2))
      have HG := Lib.hid (And.intro uG1 hG.2)
      have H7 := Lib.hid (And.intro (gT HW.out.1 hle7) hle7)
      clear h3 h7 h8 h9 hf hF hG uF1 uF2 uG1 uG2 hle7
      simp only [Q5o, List.foldl_cons, List.foldl_nil, Act.put, List.setIfInBounds_toArray, List.set_cons_zero, List.set_cons_succ]
      rw [eF, eG, e8, e9]
      unfold A10.agg
      clear eF eG e8 e9
      generalize x 62 = x62
      refine X7d [] 1 (i := 10) (by kernel_rfl) rfl (fun _ _ _ _ _ h => h) (by kernel_rfl) rfl (by kernel_rfl) fun KK hKK => ?_
      refine Q0y (sub := [.bool okF, .slice caF cnF ccF, .bool chF, .int .i64 xF.k, .int .i64 xF.n, .float .f64 xF.f, .string xF.s, .slice xF.a1 xF.n1 xF.c1, .slice xF.a2 xF.n2 xF.c2, .slice maF mnF mcF]) S rfl rfl rfl rfl ?_
      clear S; intro W S
      refine hKK.out _ _ (vw S H7.out.2) ?_
      clear hKK KK
      refine YS.fin ?_; (try dsimp only)
      refine X7d [] 0 (i := 11) (by kernel_rfl) rfl (fun _ _ _ _ _ h => h) (by kernel_rfl) rfl (by kernel_rfl) fun KK hKK => ?_
      refine Q0y (sub := [.bool true, .slice caG cnG ccG, .bool chG, .int .i64 xG.k, .int .i64 xG.n, .float .f64 xG.f, .string xG.s, .slice xG.a1 xG.n1 xG.c1, .slice xG.a2 xG.n2 xG.c2, .slice maG mnG mcG]) S rfl rfl rfl rfl ?_
      clear S; intro W S
      refine hKK.out _ _ (vw S H7.out.2) ?_
      clear hKK KK
      refine YS.fin ?_; (try dsimp only)
      refine ends (by kernel_rfl) ?_
      go_wp2_with (first | (refine wl_load S rfl rfl rfl ?_) | (refine wl_loadW S (by rfl) rfl rfl ?_) | (refine Q0q (t := 45) (e := 95) S (Q0b (by rfl) _) (by rfl) Tryz.underlying45 (by kernel_rfl) 2 ?_; clear S; (try clear W); intro ya W S) | (refine Q0q (t := 49) (e := 79) S (Q0b (by rfl) _) (by rfl) Tryz.underlying49 (by kernel_rfl) 1 ?_; clear S; (try clear W); intro yb W S))
      have hcall := Z6r (p := []) (pa := none) (pc := 0) (HT.out.v1.mono H7.out.1) (.inl ⟨rfl, rfl⟩) (by have := HT.out.b1; simp only [List.length_nil]; omega)
      simp only [V6.agg, List.length_nil, List.nil_append, List.map_id'] at hcall
      refine (hcall _ S.out.inw).mono ?_
      clear hcall
      rintro e9 W ⟨rv, K9, rfl, st9, hpt⟩
      have H9 := Lib.hid st9.le
      replace S := Lib.hid (S.out.call st9)
      clear st9
      obtain ⟨pa, pc, vs, rfl, _, _, hfl, hal⟩ := hpt
      have HP := Lib.hid (And.intro hfl hal)
      have hlen : (Q0f X1.tr).length < 2 ^ 30 := by have := Q8z X1.tr; have := HC.out.na; omega
      have HLN := Lib.hid hlen
      clear hfl hal hlen
      go_wp2_with fail
      replace S := Lib.front S [(d, [.bool true, .slice caG cnG ccG, .bool chG, .int .i64 xG.k, .int .i64 xG.n, .float .f64 xG.f, .string xG.s, .slice xG.a1 xG.n1 xG.c1, .slice xG.a2 xG.n2 xG.c2, .slice maG mnG mcG], .t 47), (c, [.bool okF, .slice caF cnF ccF, .bool chF, .int .i64 xF.k, .int .i64 xF.n, .float .f64 xF.f, .string xF.s, .slice xF.a1 xF.n1 xF.c1, .slice xF.a2 xF.n2 xF.c2, .slice maF mnF mcF], .t 47), (b, [.slice (some ⟨tb, 0, none⟩) 2 2, .bool true, .string nmDe, .string ⟨#[]⟩, .slice none 0 0, .slice none 0 0, .string ⟨#[]⟩, .int .i64 a.x.k, .int .i64 a.x.n, .float .f64 a.x.f, .string a.x.s, .slice a.x.a1 a.x.n1 a.x.c1, .slice a.x.a2 a.x.n2 a.x.c2, .slice a.ma a.mn a.mc, .slice none 0 0, .slice none 0 0, .slice none 0 0, .bool false, .bool false, .slice none 0 0, .string ⟨#[]⟩, .bool false], .t 41), (y2, [.int .i64 x2.k, .int .i64 x2.n, .float .f64 x2.f, .string x2.s, .slice x2.a1 x2.n1 x2.c1, .slice x2.a2 x2.n2 x2.c2], .t 35), (y1, [.int .i64 x1.k, .int .i64 x1.n, .float .f64 x1.f, .string x1.s, .slice x1.a1 x1.n1 x1.c1, .slice x1.a2 x1.n2 x1.c2], .t 35)] [⟨.slice (some ⟨ya, 0, none⟩) 0 0, 95, 2, 0, []⟩]
      go_loopg [14, 15, 81] (Q0f X1.tr).length (fun g s14 s15 s81 wr => ∃ (i n1 n2 : Nat) (K : Gh) (A1 A2 : Option Addr) (c1 c2 : Nat) (zs : List (ByteArray × Value)) (ls : List Value) (T : List Blk), s14 = .slice A1 n1 c1 ∧ s15 = .slice A2 n2 c2 ∧ s81 = .int .i64 (i : Nat) ∧ i ≤ (Q0f X1.tr).length ∧ g = (Q0f X1.tr).length - i ∧ Hid (St M I K w wr ((d, [.bool true, .slice caG cnG ccG, .bool chG, .int .i64 xG.k, .int .i64 xG.n, .float .f64 xG.f, .string xG.s, .slice xG.a1 xG.n1 xG.c1, .slice xG.a2 xG.n2 xG.c2, .slice maG mnG mcG], .t 47) :: (c, [.bool okF, .slice caF cnF ccF, .bool chF, .int .i64 xF.k, .int .i64 xF.n, .float .f64 xF.f, .string xF.s, .slice xF.a1 xF.n1 xF.c1, .slice xF.a2 xF.n2 xF.c2, .slice maF mnF mcF], .t 47) :: (b, [.slice (some ⟨tb, 0, none⟩) 2 2, .bool true, .string nmDe, .string ⟨#[]⟩, .slice none 0 0, .slice none 0 0, .string ⟨#[]⟩, .int .i64 a.x.k, .int .i64 a.x.n, .float .f64 a.x.f, .string a.x.s, .slice a.x.a1 a.x.n1 a.x.c1, .slice a.x.a2 a.x.n2 a.x.c2, .slice a.ma a.mn a.mc, .slice none 0 0, .slice none 0 0, .slice none 0 0, .bool false, .bool false, .slice none 0 0, .string ⟨#[]⟩, .bool false], .t 41) :: (y2, [.int .i64 x2.k, .int .i64 x2.n, .float .f64 x2.f, .string x2.s, .slice x2.a1 x2.n1 x2.c1, .slice x2.a2 x2.n2 x2.c2], .t 35) :: (y1, [.int .i64 x1.k, .int .i64 x1.n, .float .f64 x1.f, .string x1.s, .slice x1.a1 x1.n1 x1.c1, .slice x1.a2 x1.n2 x1.c2], .t 35) :: T) [⟨.slice A1 n1 c1, 95, 2, n1, zs.flatMap Q2w⟩, ⟨.slice A2 n2 c2, 79, 1, n2, ls⟩]) ∧ Hid (Lp K9 K X1.tr X2.tr one i n1 n2 zs ls))
      case atStart => exact ⟨0, 0, 0, K9, _, _, _, _, [], [], _, rfl, rfl, rfl, Nat.zero_le _, rfl, S, Lib.hid (Lp.start _ _ _ _)⟩
      case round =>
        clear S
        obtain ⟨i, n1, n2, K, A1, A2, c1, c2, zs, ls, T, rfl, rfl, rfl, hi1, hg, S, HL⟩ := hrel
        by_cases hlt : i < (Q0f X1.tr).length
        · obtain ⟨p, hp⟩ : ∃ p, (Q0f X1.tr)[i]? = some p := ⟨_, List.getElem?_eq_getElem hlt⟩
          obtain ⟨v, hv⟩ : ∃ v, vs[i]? = some v := ⟨_, List.getElem?_eq_getElem (by rw [HP.out.2.length]; exact hlt)⟩
          have hpi := HP.out.2.get hv hp
          have HPi := Lib.hid (hpi.mono HL.out.le)
          obtain ⟨qa, qc, rfl, _, _, _⟩ := hpi
          obtain ⟨b2, o2, rfl, hX0⟩ := flat_at1 HP.out.1 hv
          have hX := Lib.hid (hX0.mono HL.out.le)
          have hmp := List.mem_of_getElem? hp
          have hbd := HL.out.bound
          have hN1 : n1 + 1 < 2 ^ 32 := by have := HLN.out; omega
          have hN3 : i + 1 < 2 ^ 32 := by have := HLN.out; omega
          have hN2 : n2 + 1 < 2 ^ 32 := by have := HLN.out; omega
          have HI := Lib.hid (And.intro hlt hp)
          have hps := Q6h X1.tr p hmp
          have hb28 := Q2o X1
          have HZ := Lib.hid (show p.length ≤ 2 ^ 32 ∧ ∀ k ∈ p, ByteArray.size k ≤ maxLen from ⟨by have := HT.out.b1; omega, fun k hk => by have := hps.2 k hk; have := HT.out.b1; unfold maxLen; omega⟩)
          obtain ⟨x, hx⟩ : ∃ x, atT X1.tr p = some x := Option.isSome_iff_exists.1 ((Q4q p HC.out.ha).1 hmp).2
          have HXx := Lib.hid hx
          clear hp hv hX0 hmp hbd hps hb28
          go_wp2_with (first | (refine wl_frz (Q0b (by rfl) _) rfl rfl hX.out S.out.inw ?_) | (refine wl_load S rfl rfl rfl ?_) | (refine wl_loadW S (by rfl) rfl rfl ?_))
          have hcall := Z1r (I := K) (HT.out.v1.mono (gT (gT H7.out.1 H9.out) HL.out.le)) (by have := HT.out.b1; omega) _ p HPi.out HZ.out.1 HZ.out.2
          rw [hx] at hcall
          simp only [V6.agg, Option.isSome_some, Option.getD_some] at hcall
          clear hx
          refine (hcall _ S.out.inw).mono ?_
          clear hcall
          rintro e9 W ⟨r1, K1, rfl, st9, hr1⟩
          have HK1 := Lib.hid (And.intro st9.le (And.intro (HPi.out.mono st9.le) hr1))
          have hk1 := vis_k hr1
          replace S := Lib.hid (S.out.call st9)
          clear st9 hr1
          go_wp2_with (first | (refine wl_load S rfl rfl rfl ?_) | (refine wl_loadW S (by rfl) rfl rfl ?_) | (refine wl_new0 S rfl rfl ?_; clear S; intro q1 W S) | (refine Z0s S rfl rfl rfl (by constructor) (by rfl) ?_; clear S; intro W S))
          cases hb : atT X2.tr p with
          | none =>
            have hcall := Z1r (I := K1) (HT.out.v2.mono (gT (gT H7.out.1 H9.out) (gT HL.out.le HK1.out.1))) (by have := HT.out.b2; omega) _ p HK1.out.2.1 HZ.out.1 HZ.out.2
            rw [hb] at hcall
            simp only [V6.agg, Option.isSome_none, Option.getD_none] at hcall
            refine (hcall _ S.out.inw).mono ?_
            clear hcall
            rintro e9 W ⟨r2, K2, rfl, st9, hr2⟩
            have HK := Lib.hid (And.intro (gT HK1.out.1 st9.le) (HK1.out.2.1.mono st9.le))
            have HR := Lib.hid (And.intro (HK1.out.2.2.mono st9.le) hr2)
            replace S := Lib.hid (S.out.call st9)
            clear st9 hr2
            replace S := Lib.hid (S.out.rperm (List.Perm.swap _ _ _))
            go_wp2_with (first | (refine wl_load S rfl rfl rfl ?_) | (refine wl_loadW S (by rfl) rfl rfl ?_) | (refine wl_new0 S rfl rfl ?_; clear S; intro q2 W S) | (refine Z0s S rfl rfl rfl (by constructor) (by rfl) ?_; clear S; intro W S) | (refine Q9a (sub := [.slice qa p.length qc]) S rfl rfl Tryz.underlying49 rfl ?_; clear S; intro z W S) | (refine Q7e S rfl rfl rfl rfl Tryz.underlying49 in79 (by rfl) hN2 ?_; clear S; intro A3 c3 W S))
            replace S := Lib.front S [(d, [.bool true, .slice caG cnG ccG, .bool chG, .int .i64 xG.k, .int .i64 xG.n, .float .f64 xG.f, .string xG.s, .slice xG.a1 xG.n1 xG.c1, .slice xG.a2 xG.n2 xG.c2, .slice maG mnG mcG], .t 47), (c, [.bool okF, .slice caF cnF ccF, .bool chF, .int .i64 xF.k, .int .i64 xF.n, .float .f64 xF.f, .string xF.s, .slice xF.a1 xF.n1 xF.c1, .slice xF.a2 xF.n2 xF.c2, .slice maF mnF mcF], .t 47), (b, [.slice (some ⟨tb, 0, none⟩) 2 2, .bool true, .string nmDe, .string ⟨#[]⟩, .slice none 0 0, .slice none 0 0, .string ⟨#[]⟩, .int .i64 a.x.k, .int .i64 a.x.n, .float .f64 a.x.f, .string a.x.s, .slice a.x.a1 a.x.n1 a.x.c1, .slice a.x.a2 a.x.n2 a.x.c2, .slice a.ma a.mn a.mc, .slice none 0 0, .slice none 0 0, .slice none 0 0, .bool false, .bool false, .slice none 0 0, .string ⟨#[]⟩, .bool false], .t 41), (y2, [.int .i64 x2.k, .int .i64 x2.n, .float .f64 x2.f, .string x2.s, .slice x2.a1 x2.n1 x2.c1, .slice x2.a2 x2.n2 x2.c2], .t 35), (y1, [.int .i64 x1.k, .int .i64 x1.n, .float .f64 x1.f, .string x1.s, .slice x1.a1 x1.n1 x1.c1, .slice x1.a2 x1.n2 x1.c2], .t 35)] []
            replace S := Lib.hid (S.out.rperm (List.Perm.swap _ _ _))
            simp only [List.cons_append, List.nil_append] at S
            go_roundg ((Q0f X1.tr).length - (i + 1))
            case measure => have := HI.out.1; omega
            case rel => exact ⟨i + 1, n1, n2 + 1, K2, A1, A3, c1, c3, zs, ls ++ [.slice qa p.length qc], _, rfl, rfl, by simp, by have := HI.out.1; omega, rfl, S, Lib.hid (HL.out.left HK.out.1 HI.out.2 HK.out.2 (by unfold Q2y; rw [HXx.out, hb]))⟩
          | some u =>
            obtain ⟨hou, hbu⟩ := ok_at p HC.out.hb hb
            have HU := Lib.hid (And.intro hou hbu)
            have hob := ok_at p HC.out.ha HXx.out
            have HXo := Lib.hid hob
            clear hou hbu hob
            cases hm : x.isMap with
            | true =>
              have hk2 : (x.kind : Int) = 6 := by have := Q8n x; rw [hm] at this; simpa using this
              have hcall := Z1r (I := K1) (HT.out.v2.mono (gT (gT H7.out.1 H9.out) (gT HL.out.le HK1.out.1))) (by have := HT.out.b2; omega) _ p HK1.out.2.1 HZ.out.1 HZ.out.2
              rw [hb] at hcall
              simp only [V6.agg, Option.isSome_some, Option.getD_some] at hcall
              refine (hcall _ S.out.inw).mono ?_
              clear hcall
              rintro e9 W ⟨r2, K2, rfl, st9, hr2⟩
              have HK := Lib.hid (And.intro (gT HK1.out.1 st9.le) (HK1.out.2.1.mono st9.le))
              have HR := Lib.hid (And.intro (HK1.out.2.2.mono st9.le) hr2)
              replace S := Lib.hid (S.out.call st9)
              clear st9 hr2
              replace S := Lib.hid (S.out.rperm (List.Perm.swap _ _ _))
              go_wp2_with (first | (refine wl_load S rfl rfl rfl ?_) | (refine wl_loadW S (by rfl) rfl rfl ?_) | (refine wl_new0 S rfl rfl ?_; clear S; intro q2 W S) | (refine Z0s S rfl rfl rfl (by constructor) (by rfl) ?_; clear S; intro W S) | (refine Q9a (sub := [.slice qa p.length qc]) S rfl rfl Tryz.underlying49 rfl ?_; clear S; intro z W S) | (refine Q7e S rfl rfl rfl rfl Tryz.underlying49 in79 (by rfl) hN2 ?_; clear S; intro A3 c3 W S))
              replace S := Lib.front S [(d, [.bool true, .slice caG cnG ccG, .bool chG, .int .i64 xG.k, .int .i64 xG.n, .float .f64 xG.f, .string xG.s, .slice xG.a1 xG.n1 xG.c1, .slice xG.a2 xG.n2 xG.c2, .slice maG mnG mcG], .t 47), (c, [.bool okF, .slice caF cnF ccF, .bool chF, .int .i64 xF.k, .int .i64 xF.n, .float .f64 xF.f, .string xF.s, .slice xF.a1 xF.n1 xF.c1, .slice xF.a2 xF.n2 xF.c2, .slice maF mnF mcF], .t 47), (b, [.slice (some ⟨tb, 0, none⟩) 2 2, .bool true, .string nmDe, .string ⟨#[]⟩, .slice none 0 0, .slice none 0 0, .string ⟨#[]⟩, .int .i64 a.x.k, .int .i64 a.x.n, .float .f64 a.x.f, .string a.x.s, .slice a.x.a1 a.x.n1 a.x.c1, .slice a.x.a2 a.x.n2 a.x.c2, .slice a.ma a.mn a.mc, .slice none 0 0, .slice none 0 0, .slice none 0 0, .bool false, .bool false, .slice none 0 0, .string ⟨#[]⟩, .bool false], .t 41), (y2, [.int .i64 x2.k, .int .i64 x2.n, .float .f64 x2.f, .string x2.s, .slice x2.a1 x2.n1 x2.c1, .slice x2.a2 x2.n2 x2.c2], .t 35), (y1, [.int .i64 x1.k, .int .i64 x1.n, .float .f64 x1.f, .string x1.s, .slice x1.a1 x1.n1 x1.c1, .slice x1.a2 x1.n2 x1.c2], .t 35)] []
              replace S := Lib.hid (S.out.rperm (List.Perm.swap _ _ _))
              simp only [List.cons_append, List.nil_append] at S
              go_roundg ((Q0f X1.tr).length - (i + 1))
              case measure => have := HI.out.1; omega
              case rel => exact ⟨i + 1, n1, n2 + 1, K2, A1, A3, c1, c3, zs, ls ++ [.slice qa p.length qc], _, rfl, rfl, by simp, by have := HI.out.1; omega, rfl, S, Lib.hid (HL.out.left HK.out.1 HI.out.2 HK.out.2 (by unfold Q2y; rw [HXx.out, hb]; simp [hm]))⟩
            | false =>
              have hk2 : ¬ (x.kind : Int) = 6 := by have := Q8n x; rw [hm] at this; simpa using this
              have hk3 : ((x.kind : Int) == 6) = false := by rw [Q8n, hm]
              have hk4 : ((x.kind : Int) != 6) = true := by rw [Q7n, hm]; rfl
              have hcall := Z1r (I := K1) (HT.out.v2.mono (gT (gT H7.out.1 H9.out) (gT HL.out.le HK1.out.1))) (by have := HT.out.b2; omega) _ p HK1.out.2.1 HZ.out.1 HZ.out.2
              rw [hb] at hcall
              simp only [V6.agg, Option.isSome_some, Option.getD_some] at hcall
              refine (hcall _ S.out.inw).mono ?_
              clear hcall
              rintro e9 W ⟨r2, K2, rfl, st9, hr2⟩
              have HK := Lib.hid (And.intro (gT HK1.out.1 st9.le) (HK1.out.2.1.mono st9.le))
              have HR := Lib.hid (And.intro (HK1.out.2.2.mono st9.le) hr2)
              replace S := Lib.hid (S.out.call st9)
              clear st9 hr2
              go_wp2_with (first | (refine wl_load S rfl rfl rfl ?_) | (refine wl_loadW S (by rfl) rfl rfl ?_) | (refine wl_new0 S rfl rfl ?_; clear S; intro q2 W S) | (refine Z0s S rfl rfl rfl (by constructor) (by rfl) ?_; clear S; intro W S))
              have hcall := Z2c (J := K2) HR.out.1 HR.out.2 (by rw [Q3s]; have := HXo.out.2; have := Q2o X1; have := HT.out.b1; omega) (by rw [Q3s]; have := HU.out.2; have := Q2o X2; have := HT.out.b2; omega)
              rw [Q9k HXo.out.1, Q9k HU.out.1] at hcall
              simp only [V6.agg, hk1] at hcall
              refine Q0a S hcall ?_
              clear hcall S
              rintro r5 K5 L5 R5 W' hle5 ⟨rfl, rfl, rfl⟩ S
              simp only [List.nil_append] at S
              have HK0 := Lib.hid (And.intro (gT HK.out.1 hle5) (HK.out.2.mono hle5))
              clear HK hle5
              have HK := HK0
              clear HK0
              cases he : eqT x u with
              | true =>
                replace S := Lib.hid (S.out.rperm (List.Perm.swap _ _ _))
                go_wp2_with (first | (refine wl_load S rfl rfl rfl ?_) | (refine wl_loadW S (by rfl) rfl rfl ?_) | (refine wl_new0 S rfl rfl ?_; clear S; intro q2 W S) | (refine Z0s S rfl rfl rfl (by constructor) (by rfl) ?_; clear S; intro W S) | (refine Q9a (sub := [.slice qa p.length qc]) S rfl rfl Tryz.underlying49 rfl ?_; clear S; intro z W S) | (refine Q7e S rfl rfl rfl rfl Tryz.underlying49 in79 (by rfl) hN2 ?_; clear S; intro A3 c3 W S))
                replace S := Lib.front S [(d, [.bool true, .slice caG cnG ccG, .bool chG, .int .i64 xG.k, .int .i64 xG.n, .float .f64 xG.f, .string xG.s, .slice xG.a1 xG.n1 xG.c1, .slice xG.a2 xG.n2 xG.c2, .slice maG mnG mcG], .t 47), (c, [.bool okF, .slice caF cnF ccF, .bool chF, .int .i64 xF.k, .int .i64 xF.n, .float .f64 xF.f, .string xF.s, .slice xF.a1 xF.n1 xF.c1, .slice xF.a2 xF.n2 xF.c2, .slice maF mnF mcF], .t 47), (b, [.slice (some ⟨tb, 0, none⟩) 2 2, .bool true, .string nmDe, .string ⟨#[]⟩, .slice none 0 0, .slice none 0 0, .string ⟨#[]⟩, .int .i64 a.x.k, .int .i64 a.x.n, .float .f64 a.x.f, .string a.x.s, .slice a.x.a1 a.x.n1 a.x.c1, .slice a.x.a2 a.x.n2 a.x.c2, .slice a.ma a.mn a.mc, .slice none 0 0, .slice none 0 0, .slice none 0 0, .bool false, .bool false, .slice none 0 0, .string ⟨#[]⟩, .bool false], .t 41), (y2, [.int .i64 x2.k, .int .i64 x2.n, .float .f64 x2.f, .string x2.s, .slice x2.a1 x2.n1 x2.c1, .slice x2.a2 x2.n2 x2.c2], .t 35), (y1, [.int .i64 x1.k, .int .i64 x1.n, .float .f64 x1.f, .string x1.s, .slice x1.a1 x1.n1 x1.c1, .slice x1.a2 x1.n2 x1.c2], .t 35)] []
                replace S := Lib.hid (S.out.rperm (List.Perm.swap _ _ _))
                simp only [List.cons_append, List.nil_append] at S
                go_roundg ((Q0f X1.tr).length - (i + 1))
                case measure => have := HI.out.1; omega
                case rel => exact ⟨i + 1, n1, n2 + 1, K5, A1, A3, c1, c3, zs, ls ++ [.slice qa p.length qc], _, rfl, rfl, by simp, by have := HI.out.1; omega, rfl, S, Lib.hid (HL.out.left HK.out.1 HI.out.2 HK.out.2 (by unfold Q2y; rw [HXx.out, hb]; simp [he]))⟩
              | false =>
                go_wp2_with (first | (refine wl_load S rfl rfl rfl ?_) | (refine wl_loadW S (by rfl) rfl rfl ?_) | (refine Q9a (sub := [.string one, .slice qa p.length qc]) S rfl rfl Tryz.underlying45 rfl ?_; clear S; intro z W S) | (refine Q7e S rfl rfl rfl rfl Tryz.underlying45 in95 (by rfl) hN1 ?_; clear S; intro A3 c3 W S))
                replace S := Lib.front S [(d, [.bool true, .slice caG cnG ccG, .bool chG, .int .i64 xG.k, .int .i64 xG.n, .float .f64 xG.f, .string xG.s, .slice xG.a1 xG.n1 xG.c1, .slice xG.a2 xG.n2 xG.c2, .slice maG mnG mcG], .t 47), (c, [.bool okF, .slice caF cnF ccF, .bool chF, .int .i64 xF.k, .int .i64 xF.n, .float .f64 xF.f, .string xF.s, .slice xF.a1 xF.n1 xF.c1, .slice xF.a2 xF.n2 xF.c2, .slice maF mnF mcF], .t 47), (b, [.slice (some ⟨tb, 0, none⟩) 2 2, .bool true, .string nmDe, .string ⟨#[]⟩, .slice none 0 0, .slice none 0 0, .string ⟨#[]⟩, .int .i64 a.x.k, .int .i64 a.x.n, .float .f64 a.x.f, .string a.x.s, .slice a.x.a1 a.x.n1 a.x.c1, .slice a.x.a2 a.x.n2 a.x.c2, .slice a.ma a.mn a.mc, .slice none 0 0, .slice none 0 0, .slice none 0 0, .bool false, .bool false, .slice none 0 0, .string ⟨#[]⟩, .bool false], .t 41), (y2, [.int .i64 x2.k, .int .i64 x2.n, .float .f64 x2.f, .string x2.s, .slice x2.a1 x2.n1 x2.c1, .slice x2.a2 x2.n2 x2.c2], .t 35), (y1, [.int .i64 x1.k, .int .i64 x1.n, .float .f64 x1.f, .string x1.s, .slice x1.a1 x1.n1 x1.c1, .slice x1.a2 x1.n2 x1.c2], .t 35)] []
                simp only [List.cons_append, List.nil_append] at S
                go_roundg ((Q0f X1.tr).length - (i + 1))
                case measure => have := HI.out.1; omega
                case rel => exact ⟨i + 1, n1 + 1, n2, K5, A3, A2, c3, c2, zs ++ [(one, .slice qa p.length qc)], ls, _, rfl, rfl, by simp, by have := HI.out.1; omega, rfl, (by rw [List.flatMap_append]; exact S), Lib.hid (HL.out.conf HK.out.1 HI.out.2 HK.out.2 (by unfold Q2y; rw [HXx.out, hb]; simp [hm, he]))⟩
        · have hi2 : i = (Q0f X1.tr).length := by omega
          subst hi2
          obtain ⟨K12, A12, c12, hle12, hv12, hn12, hm12, hf12, S12⟩ := S.out.rfreeze
          simp only [Value.slice.injEq, true_and] at hv12
          obtain ⟨rfl, rfl⟩ := hv12
          obtain ⟨K13, A13, c13, hle13, hv13, hn13, hm13, hf13, S13⟩ := S12.rfreeze
          simp only [Value.slice.injEq, true_and] at hv13
          obtain ⟨rfl, rfl⟩ := hv13
          have HQ := Lib.hid (HL.out.done (gT hle12 hle13) hn12 hm12 (hf12.mono hle13) hn13 hm13 hf13)
          have hs14 := Lib.hid S13
          clear S hle12 hle13 hn12 hm12 hf12 hn13 hm13 hf13 S12 S13
          have S := hs14
          clear hs14
          go_wp2_with (first | (refine wl_load S rfl rfl rfl ?_) | (refine wl_loadW S (by rfl) rfl rfl ?_))
          have hcall := mgOf_s (J := K13) (v := v1B) (nm := one) (HG.out.1.ms.mono (gT H9.out HQ.out.1)) (by have := HG.out.2.2.2.2; omega)
          dsimp only at hcall
          refine Q0a S hcall ?_
          clear hcall S
          rintro r5 K14 L5 R5 W' hle5 ⟨hKJ, rfl, rfl, hm⟩ S
          have hJK := hKJ.symm
          subst hJK
          simp only [List.nil_append] at S
          obtain ⟨s1, s2, g1, g2, qa, qn, qc, ps, rfl, hp1, hp2, hp3, hp4⟩ := mg_both hm HG.out.2.2.1 HG.out.2.2.2.1
          have hb1 : X1.tr.bulk < 2 ^ 28 := by have := Q2o X1; have := HT.out.b1; omega
          have HM := Lib.hid (And.intro hp1 (And.intro (And.intro (X1k (by omega) (by unfold maxLen; omega) hp3) (And.intro (Nat.le_trans hp4 (Nat.le_of_lt HLN.out)) hp2)) (And.intro (gT H9.out HQ.out.1) (gT H7.out.1 (gT H9.out HQ.out.1)))))
          have HQ2 := Lib.hid (show Q2i K13 (.slice A2 n2 c2) (Q9p X1.tr X2.tr) ∧ Z2u (Q9p X1.tr X2.tr) ∧ (Q9p X1.tr X2.tr).length ≤ 2 ^ 30 from ⟨HQ.out.2.2.2.2, X1k (t := X1.tr) (by omega) (by unfold maxLen; omega) LawT.lefts_in, Nat.le_trans (List.length_filter_le ..) (Nat.le_of_lt HLN.out)⟩)
          have hcf := HC.out.cfs (one := one) hb1
          have HB := Lib.hid (show rF.cs.length < 2 ^ 30 ∧ _ from And.intro (by rw [HF.out.2.2.length_eq, List.length_map]; have := hcf.1; omega) hcf.2)
          have hok : okF = decide (n1 = 0) := by
            have h0 : okF = decide (Z0j X1.tr X2.tr = []) := HF.out.1
            rw [h0, HQ.out.2.1]
            cases Z0j X1.tr X2.tr <;> rfl
          subst hok
          have hq1 : decide ((n1 : Int) = 0) = decide (n1 = 0) := by by_cases h : n1 = 0 <;> simp [h]
          have hq2 : ((n1 : Int) == 0) = decide (n1 = 0) := by by_cases h : n1 = 0 <;> simp [h]
          have hq3 : (decide (n1 = 0) == decide ((n1 : Int) = 0)) = true := by rw [hq1]; simp
          have hq4 : (decide (n1 = 0) == ((n1 : Int) == 0)) = true := by rw [hq2]; simp
          have hli : Acts Tryz.prog 37 #[.agg #[.slice (some ⟨tb, 0, none⟩) 2 2, .bool true, .string nmDe, .string ⟨#[]⟩, .slice none 0 0, .slice none 0 0, .string ⟨#[]⟩, .int .i64 a.x.k, .int .i64 a.x.n, .float .f64 a.x.f, .string a.x.s, .slice a.x.a1 a.x.n1 a.x.c1, .slice a.x.a2 a.x.n2 a.x.c2, .slice a.ma a.mn a.mc, .slice none 0 0, .slice none 0 0, .slice none 0 0, .bool false, .bool false, .slice none 0 0, .string ⟨#[]⟩, .bool false], .agg #[.bool true, .slice caG cnG ccG, .bool chG, .int .i64 xG.k, .int .i64 xG.n, .float .f64 xG.f, .string xG.s, .slice xG.a1 xG.n1 xG.c1, .slice xG.a2 xG.n2 xG.c2, .slice maG mnG mcG]] K13 [] [] fun u K L' R' => K = K13 ∧ L' = [] ∧ R' = [] ∧ ∃ (lv : V6) (XL : IV), u = .agg #[.int .i64 lv.k, .int .i64 lv.n, .float .f64 lv.f, .string lv.s, .slice lv.a1 lv.n1 lv.c1, .slice lv.a2 lv.n2 lv.c2] ∧ VIs K13 lv XL ∧ XL.bulk < 2 ^ 30 ∧ eqT XL.tr (Q0d X1.tr X2.tr).iv.tr = true := by
            have h1 := HG.out.2.1
            have h2 := HG.out.1.ch
            have h3 := HG.out.1.live
            dsimp only at h2 h3
            cases chG with
            | true =>
              refine (liveT_s (tb := tb) (ct := 2) (x0 := a.x) (ma := a.ma) (mn := a.mn) (mc := a.mc) (a := ⟨true, caG, cnG, ccG, true, xG, maG, mnG, mcG⟩) (ok := true)).mono ?_
              rintro u K L' R' _ ⟨e1, e2, e3, e4⟩
              refine ⟨e1, e2, e3, xG, (Q0d X1.tr X2.tr).iv, e4, ?_⟩
              cases he : eqT X1.tr (Q0d X1.tr X2.tr) with
              | true => rw [he, if_pos rfl, ← h2] at h1; cases h1
              | false =>
                rw [he] at h1
                simp only [Bool.false_eq_true, if_false] at h1
                rw [h1.2] at h3
                refine ⟨h3.mono HM.out.2.2.1, HC.out.mbulk (by have := Q2o X1; have := HT.out.b1; omega) (by have := Q2o X2; have := HT.out.b2; omega), ?_⟩
                rw [Q9k (Z1q _ _ HC.out.ha HC.out.hb)]
                exact HC.out.same
            | false =>
              refine (liveF_s (tb := tb) (ct := 2) (x0 := a.x) (ma := a.ma) (mn := a.mn) (mc := a.mc) (a := ⟨true, caG, cnG, ccG, false, xG, maG, mnG, mcG⟩) (ok := true)).mono ?_
              rintro u K L' R' _ ⟨e1, e2, e3, e4⟩
              refine ⟨e1, e2, e3, a.x, X1.tr.iv, e4, ?_⟩
              cases he : eqT X1.tr (Q0d X1.tr X2.tr) with
              | false => rw [he] at h1; simp only [Bool.false_eq_true, if_false] at h1; rw [h1.1] at h2; cases h2
              | true =>
                refine ⟨HV.out.1.mono (gT H7.out.2 HM.out.2.2.1), by rw [Q3s]; have := Q2o X1; have := HT.out.b1; omega, ?_⟩
                rw [Q9k HC.out.ha, Q9k (Z1q _ _ HC.out.ha HC.out.hb), he]
          have HLI := Lib.hid hli
          clear hli
          clear hm hp1 hp2 hp3 hp4 hb1 hcf
          go_wp2_with (first | (refine wl_load S rfl rfl rfl ?_) | (refine wl_loadW S (by rfl) rfl rfl ?_) | (refine wl_new0 S rfl rfl ?_; clear S; intro z57 W S) | (refine Z0s S rfl rfl rfl (by constructor) (by rfl) ?_; clear S; intro W S))
          refine Q0x S [(z57, [.string s1, .string s2, .bool g1, .slice qa qn qc], .t 57), (d, [.bool true, .slice caG cnG ccG, .bool chG, .int .i64 xG.k, .int .i64 xG.n, .float .f64 xG.f, .string xG.s, .slice xG.a1 xG.n1 xG.c1, .slice xG.a2 xG.n2 xG.c2, .slice maG mnG mcG], .t 47), (c, [.bool (decide (n1 = 0)), .slice caF cnF ccF, .bool chF, .int .i64 xF.k, .int .i64 xF.n, .float .f64 xF.f, .string xF.s, .slice xF.a1 xF.n1 xF.c1, .slice xF.a2 xF.n2 xF.c2, .slice maF mnF mcF], .t 47), (b, [.slice (some ⟨tb, 0, none⟩) 2 2, .bool true, .string nmDe, .string ⟨#[]⟩, .slice none 0 0, .slice none 0 0, .string ⟨#[]⟩, .int .i64 a.x.k, .int .i64 a.x.n, .float .f64 a.x.f, .string a.x.s, .slice a.x.a1 a.x.n1 a.x.c1, .slice a.x.a2 a.x.n2 a.x.c2, .slice a.ma a.mn a.mc, .slice none 0 0, .slice none 0 0, .slice none 0 0, .bool false, .bool false, .slice none 0 0, .string ⟨#[]⟩, .bool false], .t 41), (y2, [.int .i64 x2.k, .int .i64 x2.n, .float .f64 x2.f, .string x2.s, .slice x2.a1 x2.n1 x2.c1, .slice x2.a2 x2.n2 x2.c2], .t 35), (y1, [.int .i64 x1.k, .int .i64 x1.n, .float .f64 x1.f, .string x1.s, .slice x1.a1 x1.n1 x1.c1, .slice x1.a2 x1.n2 x1.c2], .t 35)] [] [] [0, 1, 2, 3, 4, 5, 6, 7, 8, 9, 10, 11, 12] 22 (by kernel_rfl) (by kernel_rfl) rfl (by kernel_rfl) fun W S => ?_
          (repeat (refine YS.step (v := ?_) ?_ ?_; rotate_left; (focus (first | exact Q1t rfl rfl rfl | exact y_loadW (by rfl) (by rfl) (by rfl) | (refine y_at rfl fun W hSw => ?_; go_simp; all_goals with_reducible rfl))); (try simp only [Act.put, List.setIfInBounds_toArray, List.set_cons_zero, List.set_cons_succ]))); refine YS.fin ?_; (try dsimp only)
          refine writesW [14, 15, 16, 17, 18, 19, 20, 21, 23, 24] 11 (i := 13) (by kernel_rfl) rfl (fun _ _ _ _ _ h => h) (by kernel_rfl) rfl (by kernel_rfl) fun KK hKK => ?_
          go_simp
          have hcall := sameCf_s (J := K13) (HF.out.2.1.mono HM.out.2.2.1) HQ.out.2.2.1 HF.out.2.2 HB.out.1 HB.out.2
          refine Q0a S hcall ?_
          clear hcall S
          rintro r5 K5 L5 R5 W' hle5 ⟨hKJ, rfl, rfl, rfl⟩ S
          have hJK := hKJ.symm
          subst hJK
          simp only [List.nil_append] at S
          refine hKK.out _ _ (vw S (gR)) ?_
          clear hKK KK
          (repeat (refine YS.step (v := ?_) ?_ ?_; rotate_left; (focus (first | exact Q1t rfl rfl rfl | exact y_loadW (by rfl) (by rfl) (by rfl) | (refine y_at rfl fun W hSw => ?_; go_simp; all_goals with_reducible rfl))); (try simp only [Act.put, List.setIfInBounds_toArray, List.set_cons_zero, List.set_cons_succ]))); refine YS.fin ?_; (try dsimp only)
          refine writesW [] 10 (i := 22) (by kernel_rfl) rfl (fun _ _ _ _ _ h => h) (by kernel_rfl) rfl (by kernel_rfl) fun KK hKK => ?_
          go_simp
          refine Q0a S HLI.out ?_
          clear S
          rintro r6 K6 L6 R6 W' hle6 ⟨hKJ, rfl, rfl, lv, XL, rfl, q1, q2, q3⟩ S
          have hJK := hKJ.symm
          subst hJK
          simp only [List.nil_append] at S
          have HLV := Lib.hid (And.intro q1 (And.intro q2 q3))
          clear q1 q2 q3
          refine hKK.out _ _ (vw S (gR)) ?_
          clear hKK KK
          refine YS.fin ?_; (try dsimp only)
          refine writesW [] 9 (i := 25) (by kernel_rfl) rfl (fun _ _ _ _ _ h => h) (by kernel_rfl) rfl (by kernel_rfl) fun KK hKK => ?_
          go_simp
          have hcall := merge_x (I := K13) (HT.out.v1.mono HM.out.2.2.2) (HT.out.v2.mono HM.out.2.2.2) (by have := HT.out.b1; omega) (by have := HT.out.b2; omega)
          simp only [V6.agg] at hcall
          refine (hcall _ S.out.inw).mono ?_
          clear hcall
          rintro e9 W ⟨rm, K15, rfl, st9, hrm⟩
          have H15 := Lib.hid (And.intro hrm st9.le)
          replace S := Lib.hid (S.out.call st9)
          clear st9 hrm
          unfold V6.agg
          refine hKK.out _ _ (vw S (H15.out.2)) ?_
          clear hKK KK
          refine YS.fin ?_; (try dsimp only)
          refine writesW [27, 28, 29, 30, 31] 3 (i := 26) (by kernel_rfl) rfl (fun _ _ _ _ _ h => h) (by kernel_rfl) rfl (by kernel_rfl) fun KK hKK => ?_
          go_simp
          have hcall := Z2c (J := K15) (v := lv) (u := rm) (HLV.out.1.mono H15.out.2) H15.out.1 HLV.out.2.1 (HC.out.mbulk (by have := Q2o X1; have := HT.out.b1; omega) (by have := Q2o X2; have := HT.out.b2; omega))
          rw [HLV.out.2.2] at hcall
          simp only [V6.agg] at hcall
          refine Q0a S hcall ?_
          clear hcall S
          rintro r7 K17 L7 R7 W' hle17 ⟨rfl, rfl, rfl⟩ S
          simp only [List.nil_append] at S
          have H17 := Lib.hid (gT H15.out.2 hle17)
          clear hle17
          refine hKK.out _ _ (vw S (H17.out)) ?_
          clear hKK KK
          (repeat (refine YS.step (v := ?_) ?_ ?_; rotate_left; (focus (first | exact Q1t rfl rfl rfl | exact y_loadW (by rfl) (by rfl) (by rfl) | (refine y_at rfl fun W hSw => ?_; go_simp; all_goals with_reducible rfl))); (try simp only [Act.put, List.setIfInBounds_toArray, List.set_cons_zero, List.set_cons_succ]))); refine YS.fin ?_; (try dsimp only)
          refine writesW [33, 34] 0 (i := 32) (by kernel_rfl) rfl (fun _ _ _ _ _ h => h) (by kernel_rfl) rfl (by kernel_rfl) fun KK hKK => ?_
          go_simp
          have hcall := X6b K17 _ _ _ _ (HM.out.1.mono H17.out) (HQ2.out.1.mono H17.out) HM.out.2.1.1 HQ2.out.2.1 HM.out.2.1.2.1 HQ2.out.2.2
          rw [decide_eq_true HM.out.2.1.2.2] at hcall
          refine (hcall _ S.out.inw).mono ?_
          clear hcall
          rintro e9 W ⟨K18, rfl, st9⟩
          have H18 := Lib.hid (gT H17.out st9.le)
          replace S := Lib.hid (S.out.call st9)
          clear st9
          refine hKK.out _ _ (vw S (H18.out)) ?_
          clear hKK KK
          (repeat (refine YS.step (v := ?_) ?_ ?_; rotate_left; (focus (first | exact Q1t rfl rfl rfl | exact y_loadW (by rfl) (by rfl) (by rfl) | (refine y_at rfl fun W hSw => ?_; go_simp; all_goals with_reducible rfl))); (try simp only [Act.put, List.setIfInBounds_toArray, List.set_cons_zero, List.set_cons_succ]))); refine YS.fin ?_; (try dsimp only)
          refine ends (by kernel_rfl) ?_
          go_wp2_with fail
          refine bodyPost_ret (results_tmp rfl _ _ _) rfl ?_
          exact ap (L := []) (gT HM.out.2.2.2 H18.out) ⟨rfl, rfl, rfl⟩ (show St _ _ _ _ _ _ _ from keep S)
end
section
open Go.RowKit Go.Maps Go.ChangeShapes Go.WideShapes
open Go.ChangeMaps (open_string)
section
variable{H:Type}{enc:TypeId×Value->H}{W:World}{B:DataW H->Nat}
theorem u35:∃fs,prog.underlying 35=some (.struct fs):=⟨_,underlying35⟩
theorem X9k(hB:Bk B){base:Nat}{v:Value}{d:DataW H}{ps:List MemPlace}(hval:Value.okWide prog W .any base 35 v)(h:DataW.Trod enc prog W 0 (fun _=>true) true 35 v d ps):
  ∃(x:V6) (X:IV),v=.agg (L0a x).toArray/\VIs (ghW W) x X/\X.bulk<=B d:=by
 obtain⟨fs,hu⟩:=u35;obtain⟨cs,rfl,-⟩:=okWide_struct hu hval;obtain⟨fuel,hf⟩:=h;obtain⟨x,X,hc,hv,hb⟩:=open_val hB fuel _ _ hf;refine⟨x,X,?_,hv,hb⟩;congr 1;exact Array.ext' hc
theorem law_contract(hB:Bk B){base:Nat}{args:Array Value}{ds gs:List (DataW H)}{before:List MemPlace}(s:ChangeSpec)(hv:s.vars=[])
  (hval:∀(j:Nat) t v,Tryz.f5.params[j]?=some t->args[j]?=some v->Value.okWide prog W .any base t v)
  (hW:DataW.Whole enc prog Tryz.f5.params.toList s.vars false W args.toList ds gs before)(hb:∀d∈ds,B d<=1048576)
  (hr:∀ds:List (DataW H),ds.length=4->(s.fn H ds).results=[.lit (.bool true)]/\(s.fn H ds).args=ds/\(s.fn H ds).vars=[]):
  Calls prog 5 args W fun e W'=>∃v,e=.returned v/\s.post enc prog Tryz.f5 false true false false W args v W':=by
 have hW':=hW;obtain⟨p,q,hA0,hV,rfl,hfz,hnd⟩:=hW;have hA:DataW.TrodAll enc prog W 0 (fun _=>true) true Tryz.f5.params.toList args.toList ds p:=hA0;rw[params5]at hA hval;obtain⟨v0,vs0,d0,ds0,p0,q0,hargs,rfl,rfl,h0,r0⟩:=trodAll_cons hA;obtain⟨v1,vs1,d1,ds1,p1,q1,rfl,rfl,rfl,h1,r1⟩:=trodAll_cons r0;obtain⟨v2,vs2,d2,ds2,p2,q2,rfl,rfl,rfl,h2,r2⟩:=trodAll_cons r1;obtain⟨v3,vs3,d3,ds3,p3,q3,rfl,rfl,rfl,h3,r3⟩:=trodAll_cons r2;obtain⟨rfl,rfl,rfl⟩:=trodAll_nil r3;obtain rfl:args=#[v0,v1,v2,v3]:=by cases args;simp_all
 rw[hv]at hV;obtain⟨rfl,rfl⟩:=trodVars_none hV;obtain⟨x0,X0,rfl,hx0,hb0⟩:=X9k hB (hval 0 35 v0 rfl rfl) h0;obtain⟨x1,X1,rfl,hx1,hb1⟩:=X9k hB (hval 1 35 v1 rfl rfl) h1;obtain⟨one,rfl,rfl,rfl,-⟩:=open_string underlying9 (hval 2 9 v2 rfl rfl) h2;obtain⟨two,rfl,rfl,rfl,-⟩:=open_string underlying9 (hval 3 9 v3 rfl rfl) h3;have hsz:∀z:BA,B (.lit (.string z.data.toList))<=1048576->z.size<2 ^ 28:=fun z hz=>by
  have h:=hB.str z.data.toList;have e:z.data.toList.length=z.size:=by rw[Array.length_toList];rfl
  omega
 have g0:=hb d0 b0f;have g1:=hb d1 b0f;have L:LawH (ghW W) x0 x1 X0 X1 one two:=⟨hx0,hx1,by omega,by omega,hsz _ (hb _ b0f),hsz _ (hb _ b0f)⟩
 obtain⟨e1,e2,e3⟩:=hr ([d0,d1,.lit (.string one.data.toList),.lit (.string two.data.toList)]++[]) rfl;refine Q0c (M:=Nix) (gh_in W) fun W1 S=>(conflict_s L Nix (ghW W) W W1 S).mono fun e W' ⟨r,K,L',R',he,hle,⟨_,_,hr⟩,st⟩=>?_;subst he hr;exact⟨_,rfl,law_post s hv hW' st.step e1 (by rw[List.append_nil]at e2⊢;exact e2) e3⟩
end
end
end Go.Proofs.YtbmklgemmjgjfaaGreat
