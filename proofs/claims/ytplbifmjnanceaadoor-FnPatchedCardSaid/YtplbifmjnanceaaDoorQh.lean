/- txtar: Parse, Format; impl.ArcParse, ArcFormat. -/
import Derived.Test.YtplbifmjnanceaaDoorQg
import Derived.Test.YtplbifmjnanceaaDoorWMore
namespace Go.Proofs.YtplbifmjnanceaaDoor
open Go.RowKit Go.Proofs.YtplbifmjnanceaaDoorW.PrintWords Go.Proofs.YtplbifmjnanceaaDoorW.PrintLast Go.Proofs.YtplbifmjnanceaaDoorW.PrintMore
set_option linter.unusedVariables false
set_option linter.unusedSimpArgs false

/-- a file: its name, its data -/
abbrev Fl := List UInt8 × List UInt8
/-- files as an archive has them -/
def ftxt (fs : List Fl) : List UInt8 := fs.flatMap fun f => mkLine f.1 ++ 10 :: f.2
structure FlOk (f : Fl) : Prop where
  nm : NameOk f.1
  no : (45 : UInt8) ∉ f.2
  nl : NL f.2
theorem ftxt_cons (f : Fl) (t : List Fl) : ftxt (f :: t) = mkLine f.1 ++ 10 :: (f.2 ++ ftxt t) := by
  simp [ftxt]

theorem ftxt_len (dn t : List Fl) (f : Fl) : (f.2 ++ ftxt t).length ≤ (ftxt (dn ++ f :: t)).length := by
  have e : ftxt (dn ++ f :: t) = ftxt dn ++ ftxt (f :: t) := by simp [ftxt]
  rw [e, ftxt_cons]
  simp only [List.length_append, List.length_cons]
  omega
/-- what findFileMarker tells of what comes next -/
def Next (w0 : World) (t : List Fl) (nv rv : Value) : Prop :=
  (t = [] ∧ nv = .string ⟨#[]⟩ ∧ rv = .slice none 0 0) ∨ ∃ f t' A c, t = f :: t' ∧ nv = .string (mkB f.1) ∧ rv = .slice A (f.2 ++ ftxt t').length c ∧ (f.2 ++ ftxt t').length ≤ c ∧ Bq w0 A (f.2 ++ ftxt t')

theorem find_step (w0 w : World) (hw0 : Below w0.heap.size w0 w) (A : Option Addr) (d : List UInt8) (t : List Fl) (c : Nat) (h : Bq w0 A (d ++ ftxt t)) (hc : (d ++ ftxt t).length ≤ c) (hb : (d ++ ftxt t).length ≤ 281474976710656) (hd : (45 : UInt8) ∉ d) (hn : NL d) (ht : ∀ f ∈ t, FlOk f) (hT : spTab w) :
    Calls Tryd.prog 24 #[.slice A (d ++ ftxt t).length c] w fun e w' => ∃ nb rv, e = .returned (.tuple #[.slice A d.length c, .string nb, rv]) ∧ d.length ≤ c ∧ Bq w0 A d ∧ Next w0 t (.string nb) rv ∧ Below w.heap.size w w' := by
  cases t with
  | nil =>
    have e : d ++ ftxt [] = d := by simp [ftxt]
    rw [e] at h hc hb ⊢
    refine (find_none w A d c (h.below hw0) hc hb hd hn).mono ?_
    rintro e w' ⟨rfl, hB⟩
    exact ⟨_, _, rfl, hc, h, Or.inl ⟨rfl, rfl, rfl⟩, hB⟩
  | cons f t' =>
    rw [ftxt_cons] at h hc hb ⊢
    refine (find_some w0 w hw0 A d f.1 (f.2 ++ ftxt t') c (ht f (by simp)).nm h hc hb hd hn hT).mono ?_
    rintro e w' ⟨A', c', rfl, h1, h2, h3, h4, hB⟩
    exact ⟨_, _, rfl, h1, h3, Or.inr ⟨f, t', A', c', rfl, rfl, rfl, h2, h4⟩, hB⟩

/-- the cells of files whose data lie in elder rows -/
def RowsOf (w0 : World) (rows : List (List Value)) (fs : List Fl) : Prop :=
  rows.length = fs.length ∧ ∀ (j : Nat) (f : Fl) (r : List Value), fs[j]? = some f → rows[j]? = some r → ∃ (A : Option Addr) (c : Nat), r = [Value.string (mkB f.1), Value.slice A f.2.length c] ∧ f.2.length ≤ c ∧ Bq w0 A f.2
theorem RowsOf.nil (w0 : World) : RowsOf w0 [] [] := ⟨rfl, fun j f r h => by simp at h⟩
theorem RowsOf.snoc {w0 : World} {rows : List (List Value)} {fs : List Fl} (h : RowsOf w0 rows fs) (f : Fl) {A : Option Addr} {c : Nat} (hc : f.2.length ≤ c) (hq : Bq w0 A f.2) : RowsOf w0 (rows ++ [[Value.string (mkB f.1), Value.slice A f.2.length c]]) (fs ++ [f]) := by
  refine ⟨by simp [h.1], fun j g r hj hr => ?_⟩
  rcases Nat.lt_or_ge j fs.length with c1 | c1
  · rw [List.getElem?_append_left c1] at hj
    rw [List.getElem?_append_left (by rw [h.1]; exact c1)] at hr
    exact h.2 j g r hj hr
  · rw [List.getElem?_append_right c1] at hj
    rw [List.getElem?_append_right (by rw [h.1]; exact c1), h.1] at hr
    have : j - fs.length = 0 := by
      rcases Nat.eq_zero_or_pos (j - fs.length) with e | e
      · exact e
      · rw [List.getElem?_eq_none (by simp; omega)] at hj; cases hj
    rw [this] at hj hr
    injection hj with hj
    injection hr with hr
    subst hj hr
    exact ⟨A, c, rfl, hc, hq⟩

set_option maxRecDepth 100000 in
theorem lit38 (u : Nat → Value) : FrOf 38 u = [u 0, u 1, u 2, u 3, u 4, u 5, u 6, u 7, u 8, u 9, u 10, u 11, u 12, u 13, u 14, u 15, u 16, u 17, u 18, u 19, u 20, u 21, u 22, u 23, u 24, u 25, u 26, u 27, u 28, u 29, u 30, u 31, u 32, u 33, u 34, u 35, u 36, u 37] := rfl
theorem info55 : (Tryd.prog.info? 55).map (fun i => (i.zero, i.size, i.bytes)) = some (some (.agg #[.string ⟨#[]⟩, .slice none 0 0]), 2, 40) := by kernel_rfl

theorem grownBy_put2 (w : World) (g i : Nat) (u : Value) : w.grownBy (w.setCell ⟨g, i, none⟩ u) (some g) :=
  ⟨rfl, rfl, rfl, by simp [World.setCell], fun k _ hk => Below.heap_setCell w _ u k (fun e => hk (by rw [e]))⟩

set_option maxHeartbeats 2000000 in
set_option maxRecDepth 100000 in
theorem Parse_calls (w : World) (A : Option Addr) (c : Nat) (cm : List UInt8) (fs : List Fl) (h : Bq w A (cm ++ ftxt fs)) (hc : (cm ++ ftxt fs).length ≤ c) (hb : (cm ++ ftxt fs).length ≤ 1099511627776) (hd : (45 : UInt8) ∉ cm) (hn : NL cm) (ht : ∀ f ∈ fs, FlOk f) (hT : spTab w) :
    Calls Tryd.prog 15 #[.slice A (cm ++ ftxt fs).length c] w fun e w' => ∃ (g cc : Nat) (Ac : Option Addr) (vF : Value) (rows : List (List Value)), e = .returned (.pointer (some ⟨g, 0, none⟩)) ∧ w.heap.size ≤ g ∧
      w'.heap[g]? = some (.cells #[.slice Ac cm.length cc, vF] 53 (0, 0)) ∧ cm.length ≤ cc ∧ Bq w Ac cm ∧ Kd.R (Kd.raw 2) 55 w' w.heap.size (fun _ => True) vF rows ∧ RowsOf w rows fs ∧ Below w.heap.size w w' := by
  obtain ⟨T, hTT⟩ : ∃ T, T = cm ++ ftxt fs := ⟨_, rfl⟩
  have hst := fun w1 (hw1 : Below w.heap.size w w1) => find_step w w1 hw1 A cm fs c h hc (by omega) hd hn ht (hT.on hw1)
  have hfl : fs.length ≤ 1099511627776 := by
    have h1 : ∀ l : List Fl, l.length ≤ (ftxt l).length := by
      intro l
      induction l with
      | nil => simp [ftxt]
      | cons a t ih => rw [ftxt_cons]; simp; omega
    have := h1 fs
    rw [List.length_append] at hb
    omega
  have hlt : (ftxt fs).length ≤ 1099511627776 := by rw [List.length_append] at hb; omega
  have HLT := Aside0.mk hlt
  clear hlt
  rw [← hTT] at h hc hb hst ⊢
  have H := Aside0.mk h
  have HS := Aside0.mk hst
  have HOk := Aside0.mk ht
  have HT := Aside0.mk hT
  clear h hst hd hn ht hT hTT
  go_enter Tryd.func15, Tryd.ntmps15
  go_wp2_with fail
  have hA0 := below_alloc (Below.refl w.heap.size w) (.cells #[Value.slice none 0 0, Value.slice none 0 0] 53)
  have hxa0 := blk_new w (.cells #[Value.slice none 0 0, Value.slice none 0 0] 53)
  refine (HS.out _ hA0).mono ?_
  rintro e w2 ⟨nb, rv, rfl, hcc, hqc, hnx, hb2⟩
  obtain ⟨gA, hgA⟩ : ∃ gA, gA = w.heap.size := ⟨_, rfl⟩
  have hgl : w.heap.size ≤ gA := by omega
  have hxa := blk_below hxa0 hb2
  rw [← hgA] at hxa ⊢
  have HXA := Aside0.mk hxa
  have HB2 := Aside0.mk (hA0.trans (hb2.mono hA0.size))
  have HQC := Aside0.mk hqc
  have HNX := Aside0.mk hnx
  have HCC := Aside0.mk hcc
  have f0 := blk_frozen hxa 0
  have c0 := (blk_cell hxa 0).trans rfl
  have hsh := hnx
  clear hA0 hxa0 hqc hnx hb2 hxa hgA HS hcc
  have hrv : (∃ A' n' c', rv = .slice A' n' c') := by
    rcases hsh with ⟨_, _, e⟩ | ⟨_, _, _, _, _, _, e, _⟩
    · exact ⟨_, _, _, e⟩
    · exact ⟨_, _, _, e⟩
  obtain ⟨A1, n1, c1, e1⟩ := hrv
  subst e1
  clear hsh
  go_upto_block 0 with (fail)
  have HX2 := Aside0.mk (blk_put HXA.out 0 (.slice A cm.length c) rfl)
  have HB3 := Aside0.mk (below_put HB2.out gA 0 (.slice A cm.length c) hgl)
  clear HXA HB2 f0 c0
  generalize hw3 : w2.setCell ⟨gA, 0, none⟩ (.slice A cm.length c) = w3 at *
  clear hw3
  refine cutU 38 (fun u wc => ∃ (vF : Value) (rows : List (List Value)), u 3 = .pointer (some ⟨gA, 0, none⟩) ∧ wc.heap[gA]? = some (.cells #[.slice A cm.length c, vF] 53 (0, 0)) ∧ Kd.R (Kd.raw 2) 55 wc w.heap.size (fun _ => True) vF rows ∧ RowsOf w rows fs ∧ Below w.heap.size w wc) ?rest ?first
  case rest =>
    --< rest
    rintro u W ⟨vF, rows, h3, hx, hR, hRo, hB⟩
    rw [lit38]
    simp only [h3]
    go_wp2
    go_ret
    exact ⟨gA, c, A, vF, rows, rfl, hgl, hx, HCC.out, HQC.out, hR, hRo, hB⟩
    -->
  case first =>
    --< first
    intro J K hJ hK
    go_wp2
    refine loopG 38 (fun g u wc => ∃ (dn rm : List Fl) (vF : Value) (rows : List (List Value)) (nb : ByteArray) (A1 : Option Addr) (n1 c1 : Nat), g = rm.length ∧ dn ++ rm = fs ∧ u 0 = .slice A1 n1 c1 ∧ u 3 = .pointer (some ⟨gA, 0, none⟩) ∧ u 4 = .string nb ∧ Next w rm (.string nb) (.slice A1 n1 c1) ∧ wc.heap[gA]? = some (.cells #[.slice A cm.length c, vF] 53 (0, 0)) ∧ Kd.R (Kd.raw 2) 55 wc w.heap.size (fun _ => True) vF rows ∧ RowsOf w rows dn ∧ Below w.heap.size w wc) fs.length rfl ?atStart ?round
    case atStart =>
      exact ⟨[], fs, _, [], nb, A1, n1, c1, rfl, rfl, rfl, rfl, rfl, HNX.out, HX2.out, Kd.R_nil _ _ _ _ _, RowsOf.nil w, HB3.out⟩
    case round =>
      rintro g u W ⟨dn, rm, vF, rows, nb', A2, n2, c2, hg, hdr, h0, h3, h4, hnx, hx, hR, hRo, hB⟩ J2 K2 hJ2 hK2
      rw [lit38]
      simp only [h0, h3, h4]
      clear h0 h3 h4 HNX HX2 HB3
      have HR := Aside0.mk hR
      have HX := Aside0.mk hx
      have HB := Aside0.mk hB
      have HRo := Aside0.mk hRo
      clear hR hx hB hRo
      rcases hnx with ⟨e1, e2, e3⟩ | ⟨f, t, A3', c3', e1, e2, e3, hc3, hq3⟩
      · injection e2 with e2
        subst e1 e2
        rw [List.append_nil] at hdr
        subst hdr
        go_wp2
        exact Met.intro (hJ _ _ rfl ⟨vF, rows, rfl, HX.out, HR.out, HRo.out, HB.out⟩)
      · --< file
        injection e2 with e2
        injection e3 with e31 e32 e33
        subst e1 e2 e31 e32 e33
        have HOf := Aside0.mk (HOk.out f (by rw [← hdr]; simp))
        have HOt := Aside0.mk (fun x (hx : x ∈ t) => HOk.out x (by rw [← hdr]; simp [hx]))
        have hbl : (f.2 ++ ftxt t).length ≤ 281474976710656 := by
          have h1 := ftxt_len dn t f
          rw [hdr] at h1
          have := HLT.out
          omega
        obtain ⟨T2, hT2⟩ : ∃ T2, T2 = f.2 ++ ftxt t := ⟨_, rfl⟩
        have hst := fun w1 (hw1 : Below w.heap.size w w1) => find_step w w1 hw1 A2 f.2 t c2 hq3 hc3 hbl HOf.out.no HOf.out.nl HOt.out (HT.out.on hw1)
        rw [← hT2] at hst hc3 hq3 hbl ⊢
        have HS := Aside0.mk hst
        have HDr := Aside0.mk hdr
        have he : ((mkB f.1).toList == []) = false := by
          rw [mkB_toList2]
          exact beq_eq_false_iff_ne.mpr HOf.out.nm.ne
        have hA4 := below_alloc (Below.refl W.heap.size W) (.cells #[Value.string (mkB f.1), Value.slice none 0 0] 55)
        have hxf0 := blk_new W (.cells #[Value.string (mkB f.1), Value.slice none 0 0] 55)
        clear hst hdr hT2 hq3
        go_wp2_with fail
        refine (HS.out _ (HB.out.trans (hA4.mono HB.out.size))).mono ?_
        rintro e w4 ⟨nb5, rv5, rfl, hc5, hq5, hnx5, hb5⟩
        obtain ⟨gf, hgf⟩ : ∃ gf, gf = W.heap.size := ⟨_, rfl⟩
        have hB5 := hA4.trans (hb5.mono hA4.size)
        have hxf := blk_below hxf0 hb5
        have hR5 := Kd.R_below (Kd.R_mono (Kd.R_bound HR.out) (fun k hk => hk.2.2.1) : Kd.R (Kd.raw 2) 55 W w.heap.size (fun k => k < W.heap.size) vF rows) hB5
        have hxa5 := blk_below HX.out hB5
        have hgAW : gA < W.heap.size := blk_lt HX.out
        have hwW : w.heap.size ≤ W.heap.size := HB.out.size
        rw [← hgf] at hxf hgAW hR5 ⊢
        have hgfs : w.heap.size ≤ gf := by omega
        have hgAf : gA ≠ gf := by omega
        have HR5a := Aside0.mk (Kd.R_mono (Kd.R_far (p := ⟨gf, 1, none⟩) hR5 (fun k hk => by show k ≠ gf; omega) (.slice A2 f.2.length c2)) (fun _ _ => trivial) : Kd.R (Kd.raw 2) 55 (w4.setCell ⟨gf, 1, none⟩ (.slice A2 f.2.length c2)) w.heap.size (fun _ => True) vF rows)
        have hxa6 := blk_grown hxa5 (grownBy_put2 w4 gf 1 (.slice A2 f.2.length c2)) (fun e => by injection e with e; exact hgAf e)
        have hxf6 := blk_put hxf 1 (.slice A2 f.2.length c2) rfl
        have HB5 := Aside0.mk (below_put (HB.out.trans (hB5.mono HB.out.size)) gf 1 (.slice A2 f.2.length c2) hgfs)
        have HXA := Aside0.mk hxa6
        have HXF := Aside0.mk hxf6
        have HQ5 := Aside0.mk hq5
        have HC5 := Aside0.mk hc5
        have HNX5 := Aside0.mk hnx5
        have hrv : (∃ A' n' c', rv5 = .slice A' n' c') := by
          rcases hnx5 with ⟨_, _, e⟩ | ⟨_, _, _, _, _, _, e, _⟩
          · exact ⟨_, _, _, e⟩
          · exact ⟨_, _, _, e⟩
        obtain ⟨A6, n6, c6, e6⟩ := hrv
        subst e6
        have f1 := blk_frozen hxf 1
        have c1f := (blk_cell hxf 1).trans rfl
        have hrl : rows.length = dn.length := HRo.out.1
        have hdl : dn.length ≤ 1099511627776 := by
          have := congrArg List.length HDr.out
          rw [List.length_append] at this
          omega
        clear hgf hB5 hxf hR5 hxa5 hxa6 hxf6 hq5 hc5 hnx5 hb5 hxf0 hA4 he HS HX HB HR hc3
        go_upto_region 7 with (fail)
        clear f1 c1f
        generalize hw5 : w4.setCell ⟨gf, 1, none⟩ (.slice A2 f.2.length c2) = w5 at *
        clear hw5
        have HR5 := HR5a
        have HNe : Aside0 (some gA ≠ vF.ownBlock) := ⟨Kd.R_ne HR5.out HXA.out (by decide)⟩
        have hbs : w.heap.size ≤ w5.heap.size := HB5.out.size
        have ca := (blk_cell HXA.out 1).trans rfl
        have cf0 := (blk_cell HXF.out 0).trans rfl
        have cf1 := (blk_cell HXF.out 1).trans rfl
        have hrows : (rows.length + 1) * 40 ≤ 140737488355328 := by omega
        refine start_ (n := 11) (S := fun w' => w'.cell? ⟨gA, 1, none⟩ = some vF ∧ w'.cell? ⟨gf, 0, none⟩ = some (.string (mkB f.1)) ∧ w'.cell? ⟨gf, 1, none⟩ = some (.slice A2 f.2.length c2)) (ds := [7, 10]) #[false, false, false, false, false, false, false, false, false, false, false] (by kernel_rfl) rfl rfl ⟨ca, cf0, cf1⟩ (fun hHeld => ?_)
        refine pure_ (i := 0) (N := some 27) (v := ?_) (a' := ?_) #[true, false, false, false, false, false, false, false, false, false, false] rfl rfl (by kernel_rfl) (fun _ _ _ h => h) (Or.inl ⟨by rfl, ?_⟩) ?_ ?_
        rotate_left
        · intro w'
          go_simp
          with_reducible rfl
        rotate_left
        · simp only [Act.put, List.setIfInBounds_toArray, List.set_cons_zero, List.set_cons_succ, i64_w, i32_w]
          rfl
        refine pure_ (i := 1) (N := some 28) (v := ?_) (a' := ?_) #[true, true, false, false, false, false, false, false, false, false, false] rfl rfl (by kernel_rfl) (fun _ _ _ h => h) (Or.inl ⟨by rfl, ?_⟩) ?_ ?_
        rotate_left
        · intro w'
          go_simp
          with_reducible rfl
        rotate_left
        · simp only [Act.put, List.setIfInBounds_toArray, List.set_cons_zero, List.set_cons_succ, i64_w, i32_w]
          rfl
        refine pure_ (i := 2) (N := some 29) (v := ?_) (a' := ?_) #[true, true, true, false, false, false, false, false, false, false, false] rfl rfl (by kernel_rfl) (fun _ _ _ h => h) (Or.inl ⟨by rfl, ?_⟩) ?_ ?_
        rotate_left
        · intro w'
          go_simp
          with_reducible rfl
        rotate_left
        · simp only [Act.put, List.setIfInBounds_toArray, List.set_cons_zero, List.set_cons_succ, i64_w, i32_w]
          rfl
        refine pure_ (i := 3) (N := some 30) (v := ?_) (a' := ?_) #[true, true, true, true, false, false, false, false, false, false, false] rfl rfl (by kernel_rfl) (fun _ _ _ h => h) (Or.inl ⟨by rfl, ?_⟩) ?_ ?_
        rotate_left
        · intro w'
          go_simp
          with_reducible rfl
        rotate_left
        · simp only [Act.put, List.setIfInBounds_toArray, List.set_cons_zero, List.set_cons_succ, i64_w, i32_w]
          rfl
        refine take_ (i := 4) (N := some 31) (v := ?_) (a' := ?_) #[true, true, true, true, true, false, false, false, false, false, false] rfl rfl (by kernel_rfl) (fun _ _ _ h => h) (Or.inl ⟨by rfl, ?_⟩) hHeld ?_ ?_
        rotate_left
        · rintro w' ⟨s0, s1, s2⟩
          go_simp
          with_reducible rfl
        rotate_left
        · simp only [Act.put, List.setIfInBounds_toArray, List.set_cons_zero, List.set_cons_succ, i64_w, i32_w]
          rfl
        refine take_ (i := 5) (N := some 32) (v := ?_) (a' := ?_) #[true, true, true, true, true, true, false, false, false, false, false] rfl rfl (by kernel_rfl) (fun _ _ _ h => h) (Or.inl ⟨by rfl, ?_⟩) hHeld ?_ ?_
        rotate_left
        · rintro w' ⟨s0, s1, s2⟩
          go_simp
          with_reducible rfl
        rotate_left
        · simp only [Act.put, List.setIfInBounds_toArray, List.set_cons_zero, List.set_cons_succ, i64_w, i32_w]
          rfl
        refine one_ (i := 6) (N := some 33) #[true, true, true, true, true, true, true, false, false, false, false] rfl rfl (by kernel_rfl) (by decide) (fun K hK => ?_)
        refine value_ (w1 := ?_) (v := ?_) (by rfl) rfl ?_ ?_
        rotate_left 2
        · go_simp
          constructor
          · rfl
          · rfl
        refine hK.out _ _ ⟨Lib.cell?_alloc_marked _ ca, Lib.cell?_alloc_marked _ cf0, Lib.cell?_alloc_marked _ cf1⟩ (fun hHeld => ?_)
        clear hK K
        refine norm_ (a' := ?_) ?_ ?_
        rotate_left
        · show Act.put _ (some 33) _ = _
          simp only [Act.put, List.setIfInBounds_toArray, List.set_cons_zero, List.set_cons_succ, i64_w, i32_w]
          rfl
        refine last_ (i := 7) (N := some 34) #[true, true, true, true, true, true, true, true, false, false, false] rfl rfl (by kernel_rfl) (by decide) (fun K hK => ?_)
        refine Kd.R_append_step (Kd.raw 2) (w0 := w5.drew) (W := w5.drew) w.heap.size (by rfl) (.tmp 31) (.tmp 33) 51 55 _ 40 rfl Tryd.underlying51 info55 rfl (by decide) (by decide) vF rows [.string (mkB f.1), .slice A2 f.2.length c2] [.string (mkB f.1), .slice A2 f.2.length c2] (fun _ => True) (fun _ => False) rfl rfl ⟨rfl, rfl, by simp [Value.oneCell']⟩ (fun _ hk => hk.elim) (fun _ _ => trivial) (Kd.R_drew HR5.out) (Below.refl _ _) hbs (by omega) ?_
        intro v1 w6 ho1 hb1 hg1 hat1
        have HO1 := Aside0.mk ho1
        have HB1 := Aside0.mk hb1
        have hxa1 := blk_grown (w := w5.drew) HXA.out hg1 (HNe.out)
        have ca1 := (blk_cell hxa1 1).trans rfl
        have fa1 := blk_frozen hxa1 1
        have HXA1 := Aside0.mk hxa1
        obtain ⟨AV, cV, eV, _, _⟩ := Kd.R_reads HO1.out
        subst eV
        clear ho1 hb1 hg1 hat1 hxa1
        refine hK.out _ _ ?_
        clear hK K
        refine norm_ (a' := ?_) ?_ ?_
        rotate_left
        · show Act.put _ (some 34) _ = _
          simp only [Act.put, List.setIfInBounds_toArray, List.set_cons_zero, List.set_cons_succ, i64_w, i32_w]
          rfl
        refine pure_ (i := 8) (N := some 35) (v := ?_) (a' := ?_) #[true, true, true, true, true, true, true, true, true, false, false] rfl rfl (by kernel_rfl) (fun _ _ _ h => h) (Or.inl ⟨by rfl, ?_⟩) ?_ ?_
        rotate_left
        · intro w'
          go_simp
          with_reducible rfl
        rotate_left
        · simp only [Act.put, List.setIfInBounds_toArray, List.set_cons_zero, List.set_cons_succ, i64_w, i32_w]
          rfl
        refine pure_ (i := 9) (N := some 36) (v := ?_) (a' := ?_) #[true, true, true, true, true, true, true, true, true, true, false] rfl rfl (by kernel_rfl) (fun _ _ _ h => h) (Or.inl ⟨by rfl, ?_⟩) ?_ ?_
        rotate_left
        · intro w'
          go_simp
          with_reducible rfl
        rotate_left
        · simp only [Act.put, List.setIfInBounds_toArray, List.set_cons_zero, List.set_cons_succ, i64_w, i32_w]
          rfl
        refine last_ (i := 10) (N := none) #[true, true, true, true, true, true, true, true, true, true, true] rfl rfl (by kernel_rfl) (by decide) (fun K hK => ?_)
        refine skip_ (w1 := ?_) (by rfl) rfl ?_ ?_
        rotate_left
        · go_simp
          rfl
        refine hK.out _ _ ?_
        clear hK K
        refine done_ (by kernel_rfl) ?_
        have hR2 := Kd.R_set HO1.out HXA1.out (by intro q hq; simp [Kd.raw] at hq; subst hq; decide) 1 (.slice AV (rows ++ [[Value.string (mkB f.1), Value.slice A2 f.2.length c2]]).length cV)
        rw [show (rows ++ [[Value.string (mkB f.1), Value.slice A2 f.2.length c2]]).length = dn.length + 1 by simp [hrl]] at hR2
        have hlt2 : t.length < g := by rw [hg]; exact Nat.lt_succ_self _
        go_wp2
        exact Met.intro (hJ2 t.length _ _ rfl hlt2 ⟨dn ++ [f], t, _, _, nb5, A6, n6, c6, rfl, by rw [← HDr.out]; simp, rfl, rfl, rfl, HNX5.out, blk_put HXA1.out 1 _ rfl, hR2, HRo.out.snoc f HC5.out HQ5.out, below_put ((below_drew HB5.out).trans HB1.out) _ _ _ hgl⟩)
        -->
    -->

end Go.Proofs.YtplbifmjnanceaaDoor

namespace Go.Proofs.YtplbifmjnanceaaDoor
open Go.RowKit Go.Proofs.YtplbifmjnanceaaDoorW.PrintWords Go.Proofs.YtplbifmjnanceaaDoorW.PrintLast Go.Proofs.YtplbifmjnanceaaDoorW.PrintMore
set_option linter.unusedVariables false
set_option linter.unusedSimpArgs false

set_option maxRecDepth 100000 in
theorem lit35 (u : Nat → Value) : FrOf 35 u = [u 0, u 1, u 2, u 3, u 4, u 5, u 6, u 7, u 8, u 9, u 10, u 11, u 12, u 13, u 14, u 15, u 16, u 17, u 18, u 19, u 20, u 21, u 22, u 23, u 24, u 25, u 26, u 27, u 28, u 29, u 30, u 31, u 32, u 33, u 34] := rfl
theorem ftxt_ge : ∀ l : List Fl, l.length ≤ (ftxt l).length := by
  intro l
  induction l with
  | nil => simp [ftxt]
  | cons a t ih => rw [ftxt_cons]; simp; omega
theorem alloc_sz (w : World) (o : Obj) : (w.alloc o).heap.size = w.heap.size + 1 := by
  show (w.heap.push o).size = _
  rw [Array.size_push]
/-- a file of texts -/
def kA : Kd (ByteArray × ByteArray) := Kd.pair Kd.string Kd.string
def aF (f : Fl) : ByteArray × ByteArray := (mkB f.1, mkB f.2)
theorem kA_M (w : World) (base : Nat) (ok : Nat → Prop) (a b : ByteArray) : kA.M w base ok (a, b) [.string a, .string b] := ⟨[.string a], [.string b], rfl, rfl, rfl⟩
theorem info40 : (Tryd.prog.info? 40).map (fun i => (i.zero, i.size, i.bytes)) = some (some (.agg #[.string ⟨#[]⟩, .string ⟨#[]⟩]), 2, 32) := by kernel_rfl

/-- the cells of a row of a slice that is read -/
theorem raw_at {w : World} {A : Option Addr} {rows : List (List Value)} (h : Kd.C (Kd.raw 2) w A rows.length rows) {i : Nat} {a b : Value} (hi : rows[i]? = some [a, b]) :
    ∃ ad, A = some ad ∧ w.cell? (ad.add (i * 2)) = some a ∧ w.cell? ⟨(ad.add (i * 2)).block, (ad.add (i * 2)).off + 1, none⟩ = some b := by
  have hlt : i < rows.length := get_lt hi
  obtain ⟨ad, c, e, _, hK, hc⟩ := Kd.C_get h ([] : List Value) (i : Int) (by omega) (by omega)
  obtain ⟨hK, _, _⟩ := hK
  rw [Int.toNat_natCast, List.getD_eq_getElem?_getD, hi] at hK
  simp only [Option.getD_some] at hK
  subst hK
  rw [Int.toNat_natCast] at hc
  refine ⟨ad, e, hc 0 _ rfl, ?_⟩
  rw [← add_field _ _ 1 (by omega)]
  exact hc 1 _ rfl

set_option maxHeartbeats 2000000 in
set_option maxRecDepth 100000 in
theorem ArcParse_calls (w : World) (s : ByteArray) (cm : List UInt8) (fs : List Fl) (hs : s.data.toList = cm ++ ftxt fs) (hb : s.size ≤ 1099511627776) (hd : (45 : UInt8) ∉ cm) (hn : NL cm) (ht : ∀ f ∈ fs, FlOk f) (hT : spTab w) :
    Calls Tryd.prog 10 #[.string s] w fun e w' => ∃ v, e = .returned (.tuple #[.string (mkB cm), v]) ∧ Kd.R kA 40 w' w.heap.size (fun _ => True) v (fs.map aF) ∧ Below w.heap.size w w' := by
  have ks := fun W => print_bytes (P := Tryd.prog) 9 41 5 Tryd.underlying9 Tryd.underlying41 Tryd.underlying5 s W
  have hq := bq_bytes w s (by omega)
  have hbw : Below w.heap.size w (Lib.bytesWorld w 5 s) := bytes_below (Below.refl _ _) (Nat.le_refl _) _ _
  have hsl : s.size = (cm ++ ftxt fs).length := by rw [← hs]; rfl
  rw [hs] at hq
  have hfs : fs.length ≤ 1099511627776 := by
    have := ftxt_ge fs
    rw [List.length_append] at hsl
    omega
  have hP := Parse_calls (Lib.bytesWorld w 5 s) (some ⟨w.heap.size, 0, none⟩) (grownCap w s.size 0 5) cm fs hq (by rw [← hsl]; exact grownCap_ge _ _ _ _) (by rw [← hsl]; exact hb) hd hn ht (hT.on hbw)
  rw [← hsl] at hP
  have HP := Aside0.mk hP
  have HBW := Aside0.mk hbw
  clear hq hbw hP hs hd hn ht hT hsl
  go_enter Tryd.func10, Tryd.ntmps10
  go_wp2_with fail
  refine HP.out.mono ?_
  rintro e w2 ⟨g, cc, Ac, vF, rows, rfl, hgl, hx, hcc, hqc, hR, hRo, hb2⟩
  obtain ⟨AF, cF, eF, hcF, hCF⟩ := Kd.R_reads hR
  subst eF
  have HB2 := Aside0.mk (HBW.out.trans (hb2.mono HBW.out.size))
  have HX := Aside0.mk hx
  have HQC := Aside0.mk (hqc.below hb2)
  have HCF := Aside0.mk hCF
  have HRo := Aside0.mk hRo
  have Hb2 := Aside0.mk hb2
  have c0 := (blk_cell hx 0).trans rfl
  have c1 := (blk_cell hx 1).trans rfl
  clear hx hqc hR hCF hRo hb2 HP hgl
  go_upto_block 0 with (fail)
  clear c0 c1
  refine cutU 35 (fun u wc => ∃ v : Value, u 3 = v ∧ u 4 = .pointer (some ⟨g, 0, none⟩) ∧ Kd.R kA 40 wc w2.heap.size (fun _ => True) v (fs.map aF) ∧ Below w2.heap.size w2 wc) ?rest ?first
  case rest =>
    --< rest
    rintro u W ⟨v, h3, h4, hR, hB⟩
    rw [lit35]
    simp only [h3, h4]
    have hx := blk_below HX.out hB
    have c0 := (blk_cell hx 0).trans rfl
    have k1 := (HQC.out.below hB).str (c := cc)
    have HR := Aside0.mk hR
    have HB := Aside0.mk hB
    clear hx hR hB h3 h4
    go_wp2
    refine bodyPost_ret (v := .tuple #[.string (mkB cm), v]) ?_ rfl ⟨v, rfl, Kd.R_lower HR.out HB2.out.size, HB2.out.trans (HB.out.mono HB2.out.size)⟩
    simp [results, Tryd.results10, go_sem]
    -->
  case first =>
    --< first
    intro J K hJ hK
    go_wp2
    refine loopG 35 (fun gh u wc => ∃ (i : Nat) (v : Value), gh = rows.length - i ∧ u 3 = v ∧ u 4 = .pointer (some ⟨g, 0, none⟩) ∧ u 13 = .slice AF rows.length cF ∧ u 14 = .int .i64 rows.length ∧ u 15 = .int .i64 i ∧ i ≤ rows.length ∧ Kd.R kA 40 wc w2.heap.size (fun _ => True) v ((fs.take i).map aF) ∧ Below w2.heap.size w2 wc) rows.length rfl ?atStart ?round
    case atStart =>
      exact ⟨0, _, rfl, rfl, rfl, rfl, rfl, rfl, Nat.zero_le _, Kd.R_nil _ _ _ _ _, Below.refl _ _⟩
    case round =>
      rintro gh u W ⟨i, v, hg, h3, h4, h13, h14, h15, hi, hR, hB⟩ J2 K2 hJ2 hK2
      rw [lit35]
      simp only [h3, h4, h13, h14, h15]
      clear h3 h4 h13 h14 h15
      have HR := Aside0.mk hR
      have HB := Aside0.mk hB
      clear hR hB
      by_cases ci : i < rows.length
      · --< file
        have hlen := HRo.out.1
        obtain ⟨f, hf⟩ : ∃ f, fs[i]? = some f := ⟨fs[i]'(by omega), List.getElem?_eq_getElem (by omega)⟩
        obtain ⟨r, hr⟩ : ∃ r, rows[i]? = some r := ⟨rows[i], List.getElem?_eq_getElem ci⟩
        obtain ⟨Af, cf, rfl, hcf, hqf⟩ := HRo.out.2 i f r hf hr
        obtain ⟨ad, hA, b0, b1⟩ := raw_at (Kd.C_below HCF.out HB.out) hr
        subst hA
        have u1 : (i : Int) < (rows.length : Int) := by omega
        have u2 : IntKind.i64.wrap ((i : Int) + 1) = (i : Int) + 1 := by rw [IntKind.wrap_i64]; omega
        have hbf := below_alloc (Below.refl W.heap.size W) (.cells #[Value.string (mkB f.1), Value.slice Af f.2.length cf] 55)
        have k1 := ((hqf.below Hb2.out).below (HB.out.trans (hbf.mono HB.out.size))).str (c := cf)
        have hbs : w2.heap.size ≤ (W.alloc (.cells #[Value.string (mkB f.1), Value.slice Af f.2.length cf] 55)).heap.size := Nat.le_trans HB.out.size hbf.size
        have HR2 := Aside0.mk (Kd.R_below HR.out hbf)
        have HB2' := Aside0.mk (HB.out.trans (hbf.mono HB.out.size))
        have hfl : ((fs.take i).map aF).length ≤ 1099511627776 := by rw [List.length_map, List.length_take]; omega
        have Hf := Aside0.mk hf
        clear hf hr hqf hbf hlen
        go_wp2_with (first | (at_builtin; refine Kd.R_append kA (w0 := W.alloc (.cells #[Value.string (mkB f.1), Value.slice Af f.2.length cf] 55)) w2.heap.size rfl (.tmp 19) (.tmp 26) 35 40 _ 32 rfl Tryd.underlying35 info40 rfl (by decide) (by decide) v ((fs.take i).map aF) (mkB f.1, mkB f.2) [.string (mkB f.1), .string (mkB f.2)] (fun _ => True) (fun _ => False) rfl (by rw [alloc_sz]; rfl) (kA_M _ _ _ _ _) (fun _ hk => hk.elim) (fun _ _ => trivial) HR2.out (Below.refl _ _) hbs ?aL ?_; (case aL => omega); intro v1 w6 ho1 hb1 hg1 hat1; have HO1 := Aside0.mk ho1; have HB1 := Aside0.mk hb1; clear ho1 hb1 hg1 hat1))
        have hO := HO1.out
        have el : (fs.take i).map aF ++ [(mkB f.1, mkB f.2)] = (fs.take (i + 1)).map aF := by
          rw [List.take_add_one, Hf.out]; simp [aF]
        rw [el] at hO
        exact Met.intro (hJ2 (rows.length - (i + 1)) _ _ rfl (by omega) ⟨i + 1, v1, rfl, rfl, rfl, rfl, rfl, rfl, ci, hO, HB2'.out.trans HB1.out⟩)
        -->
      · --< done
        obtain rfl : i = rows.length := by omega
        have u1 : decide ((rows.length : Int) < (rows.length : Int)) = false := by simp
        go_wp2
        have hR := HR.out
        rw [HRo.out.1, List.take_length] at hR
        exact Met.intro (hJ _ _ rfl ⟨v, rfl, rfl, hR, HB.out⟩)
        -->
    -->

end Go.Proofs.YtplbifmjnanceaaDoor

namespace Go.Proofs.YtplbifmjnanceaaDoor
open Go.RowKit Go.Proofs.YtplbifmjnanceaaDoorW.PrintWords Go.Proofs.YtplbifmjnanceaaDoorW.PrintLast Go.Proofs.YtplbifmjnanceaaDoorW.PrintMore
set_option linter.unusedVariables false
set_option linter.unusedSimpArgs false

/-- a text that is empty, or has a line feed at its end -/
def NLb (l : List UInt8) : Bool := l.isEmpty || l.getLast? == some 10
/-- a text with a line feed at its end, if it has anything -/
def nl (l : List UInt8) : List UInt8 := if NLb l then l else l ++ [10]
theorem nl_of {l : List UInt8} (h : NL l) : nl l = l := by
  unfold nl NLb
  rcases h with h | h <;> simp [h]
theorem fixNL_any (w : World) (A : Option Addr) (l : List UInt8) (c : Nat) (h : Bq w A l) (hc : l.length ≤ c) (hb : l.length ≤ 281474976710656) (hn : NL l) : Calls Tryd.prog 34 #[.slice A l.length c] w fun e w' => ∃ A' c', e = .returned (.slice A' (nl l).length c') ∧ (nl l).length ≤ c' ∧ Bq w' A' (nl l) ∧ Below w.heap.size w w' := by
  rw [nl_of hn]
  refine (fixNL_same w A l c h hc hb hn).mono ?_
  rintro e w' ⟨rfl, rfl⟩
  exact ⟨A, c, rfl, hc, h, Below.refl _ _⟩

theorem nl_len (l : List UInt8) : (nl l).length ≤ l.length + 1 := by
  unfold nl
  split <;> simp
def nlF (f : Fl) : Fl := (f.1, nl f.2)
theorem ftxt_nl (l : List Fl) : (ftxt (l.map nlF)).length ≤ (ftxt l).length + l.length := by
  induction l with
  | nil => simp [ftxt]
  | cons a t ih =>
    rw [List.map_cons, ftxt_cons, ftxt_cons]
    have := nl_len a.2
    simp only [List.length_append, List.length_cons, nlF] at ih ⊢
    omega
theorem ftxt_take (l : List Fl) (i : Nat) : (ftxt (l.take i)).length ≤ (ftxt l).length := by
  have : ftxt l = ftxt (l.take i) ++ ftxt (l.drop i) := by
    unfold ftxt
    rw [← List.flatMap_append, List.take_append_drop]
  rw [this, List.length_append]
  omega
theorem ftxt_snoc (l : List Fl) (f : Fl) : ftxt (l ++ [f]) = ftxt l ++ (mkLine f.1 ++ 10 :: f.2) := by
  simp [ftxt]
/-- what zzFormat has written behind i files -/
def Xt (cm : List UInt8) (fs : List Fl) (i : Nat) : List UInt8 := nl cm ++ ftxt ((fs.take i).map nlF)
theorem Xt_len (cm : List UInt8) (fs : List Fl) (i : Nat) (hb : (cm ++ ftxt fs).length ≤ 1099511627776) : (Xt cm fs i).length ≤ 4398046511104 := by
  unfold Xt
  rw [List.length_append] at hb ⊢
  have h1 := nl_len cm
  have h2 := ftxt_nl (fs.take i)
  have h3 := ftxt_take fs i
  have h4 := ftxt_ge (fs.take i)
  omega
theorem Xt_next (cm : List UInt8) (fs : List Fl) (i : Nat) (f : Fl) (hf : fs[i]? = some f) : Xt cm fs (i + 1) = Xt cm fs i ++ (mkLine f.1 ++ [10]) ++ nl f.2 := by
  unfold Xt
  rw [List.take_add_one, hf]
  simp only [Option.toList_some, List.map_append, List.map_cons, List.map_nil]
  rw [ftxt_snoc]
  simp [nlF]
theorem Xt_all (cm : List UInt8) (fs : List Fl) : Xt cm fs fs.length = nl cm ++ ftxt (fs.map nlF) := by
  unfold Xt
  rw [List.take_length]

theorem ni_app (a b : List UInt8) : ni (a ++ b) = ni a ++ ni b := by simp [ni]
theorem R_empty (w : World) (base g : Nat) (hg : base ≤ g) (hx : w.heap[g]? = some (.cells #[] 5 (0, 0))) : Kd.R (Kd.int .u8) 5 w base (fun _ => True) (.slice (some ⟨g, 0, none⟩) 0 0) [] :=
  Kd.R_of_own (xs := []) ⟨rfl, Or.inr ⟨g, 0, #[], rfl, hg, hx, Nat.le_refl _, Nat.zero_le _, rfl, rfl⟩⟩ (fun _ _ => trivial)
theorem keepM (w w' : World) (base : Nat) (ok : Nat → Prop) : ∀ (x : Int) (cs : List Value), (Kd.int .u8).K w x cs → (Kd.int .u8).M w' base ok x cs := fun _ _ h => h

set_option maxRecDepth 100000 in
theorem zlit35 (u : Nat → Value) : FrOf 35 u = [u 0, u 1, u 2, u 3, u 4, u 5, u 6, u 7, u 8, u 9, u 10, u 11, u 12, u 13, u 14, u 15, u 16, u 17, u 18, u 19, u 20, u 21, u 22, u 23, u 24, u 25, u 26, u 27, u 28, u 29, u 30, u 31, u 32, u 33, u 34] := rfl

set_option maxHeartbeats 2000000 in
set_option maxRecDepth 100000 in
theorem zzFormat_calls (w : World) (g cc : Nat) (Ac : Option Addr) (cm : List UInt8) (rows : List (List Value)) (fs : List Fl) (AF : Option Addr) (cF : Nat)
    (hx : w.heap[g]? = some (.cells #[.slice Ac cm.length cc, .slice AF rows.length cF] 53 (0, 0))) (hcc : cm.length ≤ cc) (hqc : Bq w Ac cm) (hC : Kd.C (Kd.raw 2) w AF rows.length rows) (hRo : RowsOf w rows fs) (hb : (cm ++ ftxt fs).length ≤ 1099511627776) (hn : NL cm) (hfn : ∀ f ∈ fs, NL f.2) :
    Calls Tryd.prog 25 #[.pointer (some ⟨g, 0, none⟩)] w fun e w' => ∃ v, e = .returned v ∧ Kd.R (Kd.int .u8) 5 w' w.heap.size (fun _ => True) v (ni (nl cm ++ ftxt (fs.map nlF))) ∧ Below w.heap.size w w' := by
  have hxa := blk_alloc hx (.cells #[] 5)
  have hxn := blk_new w (.cells #[] 5)
  have c0 := (blk_cell hxa 0).trans rfl
  have hba := below_alloc (Below.refl w.heap.size w) (.cells #[] 5)
  have hcl : cm.length ≤ 281474976710656 := by rw [List.length_append] at hb; omega
  have hXl := fun i => Xt_len cm fs i hb
  have hfl : fs.length ≤ 1099511627776 := by
    have := ftxt_ge fs
    rw [List.length_append] at hb
    omega
  have HXL := Aside0.mk hXl
  have HX := Aside0.mk hx
  have HC := Aside0.mk hC
  have HRo := Aside0.mk hRo
  have HFn := Aside0.mk hfn
  have HF := Aside0.mk (fixNL_any _ Ac cm cc (hqc.below hba) hcc hcl hn)
  have HXN := Aside0.mk hxn
  have HBA := Aside0.mk hba
  have Hb := Aside0.mk hb
  clear hxa hx hC hRo hfn hxn hba hqc hn hXl hb
  go_enter Tryd.func25, Tryd.ntmps25
  go_wp2_with fail
  refine HF.out.mono ?_
  rintro e w2 ⟨A2, c2, rfl, hc2, hq2, hb2⟩
  have HB2 := Aside0.mk (HBA.out.trans (hb2.mono HBA.out.size))
  have HR2 := Aside0.mk (R_empty w2 w.heap.size w.heap.size (Nat.le_refl _) (blk_below HXN.out hb2))
  have hbs2 : w.heap.size ≤ w2.heap.size := HB2.out.size
  have hcn : (nl cm).length ≤ 1099511627777 := by have := nl_len cm; have := Hb.out; rw [List.length_append] at this; omega
  have HQ2 := Aside0.mk hq2
  clear hb2 hq2 HF HXN HBA c0
  have HQ3 := Aside0.mk HQ2.out
  unfold Bq at HQ3
  clear HQ2
  go_upto_block 0 with (first | (at_builtin; refine Kd.R_append_rows (Kd.int .u8) (Rr := (Kd.int .u8).K w2) (w0 := w2) w.heap.size rfl (.tmp 6) (.tmp 11) 41 5 (.int .u8 0) 1 rfl Tryd.underlying41 infoB rfl (by decide) (by decide) (.slice (some ⟨w.heap.size, 0, none⟩) 0 0) [] (ni (nl cm)) A2 (nl cm).length c2 (fun _ => True) (fun _ => False) rfl rfl HR2.out HQ3.out (keepM _ _ _ _) (fun _ hk => hk.elim) (fun _ _ => trivial) (Below.refl _ _) hbs2 (by simp; omega) ?_; intro v1 w3 ho1 hb1 hg1 hat1; have HO1 := Aside0.mk ho1; have HB1 := Aside0.mk hb1; have c1 := (blk_cell (blk_below HX.out (HB2.out.trans hb1)) 1).trans rfl; clear ho1 hb1 hg1 hat1))
  have HB3 := Aside0.mk (HB2.out.trans HB1.out)
  have hO := HO1.out
  rw [List.nil_append] at hO
  have hX0 : Xt cm fs 0 = nl cm := by simp [Xt, ftxt]
  rw [← hX0] at hO
  have HO := Aside0.mk hO
  clear hO hX0 HO1 HB1 HB2 HR2 HQ3 c1
  refine cutU 35 (fun u wc => ∃ v : Value, u 3 = v ∧ Kd.R (Kd.int .u8) 5 wc w.heap.size (fun _ => True) v (ni (Xt cm fs fs.length)) ∧ Below w.heap.size w wc) ?rest ?first
  case rest =>
    --< rest
    rintro u W ⟨v, h3, hR, hB⟩
    rw [zlit35]
    simp only [h3]
    rw [Xt_all] at hR
    have HR := Aside0.mk hR
    have HB := Aside0.mk hB
    clear hR hB h3
    go_wp2
    go_ret
    exact ⟨v, rfl, HR.out, HB.out⟩
    -->
  case first =>
    --< first
    intro J K hJ hK
    go_wp2
    refine loopG 35 (fun gh u wc => ∃ (i : Nat) (v : Value), gh = rows.length - i ∧ u 3 = v ∧ u 16 = .slice AF rows.length cF ∧ u 17 = .int .i64 rows.length ∧ u 18 = .int .i64 i ∧ i ≤ rows.length ∧ Kd.R (Kd.int .u8) 5 wc w.heap.size (fun _ => True) v (ni (Xt cm fs i)) ∧ Below w.heap.size w wc) rows.length rfl ?atStart ?round
    case atStart =>
      exact ⟨0, _, rfl, rfl, rfl, rfl, rfl, Nat.zero_le _, HO.out, HB3.out⟩
    case round =>
      rintro gh u W ⟨i, v, hg, h3, h16, h17, h18, hi, hR, hB⟩ J2 K2 hJ2 hK2
      rw [zlit35]
      simp only [h3, h16, h17, h18]
      clear h3 h16 h17 h18 HO HB3
      have HR := Aside0.mk hR
      have HB := Aside0.mk hB
      clear hR hB
      by_cases ci : i < rows.length
      · --< file
        have hlen := HRo.out.1
        obtain ⟨f, hf⟩ : ∃ f, fs[i]? = some f := ⟨fs[i]'(by omega), List.getElem?_eq_getElem (by omega)⟩
        obtain ⟨r, hr⟩ : ∃ r, rows[i]? = some r := ⟨rows[i], List.getElem?_eq_getElem ci⟩
        obtain ⟨Af, cf, rfl, hcf, hqf⟩ := HRo.out.2 i f r hf hr
        obtain ⟨ad, hA, b0, b1⟩ := raw_at (Kd.C_below HC.out HB.out) hr
        subst hA
        have u1 : (i : Int) < (rows.length : Int) := by omega
        have u2 : IntKind.i64.wrap ((i : Int) + 1) = (i : Int) + 1 := by rw [IntKind.wrap_i64]; omega
        have hXn := Xt_next cm fs i f hf
        have hX1 := HXL.out (i + 1)
        have hmid : (ni (Xt cm fs i)).length + (mkB (mkLine f.1 ++ [10])).size ≤ 140737488355328 := by
          rw [hXn] at hX1
          rw [ni_len, mkB_size]
          simp only [List.length_append] at hX1 ⊢
          omega
        have hend : ((ni (Xt cm fs i) ++ ni (mkLine f.1 ++ [10])).length + (nl f.2).length) * 1 ≤ 140737488355328 := by
          rw [hXn] at hX1
          rw [List.length_append, ni_len, ni_len]
          simp only [List.length_append] at hX1 ⊢
          omega
        have hnm : f.1.length ≤ 4398046511104 := by
          rw [hXn] at hX1
          simp only [List.length_append, mkLine] at hX1
          omega
        have hdl : f.2.length ≤ 281474976710656 := by
          have h1 := Hb.out
          have h2 := ftxt_len (fs.take i) (fs.drop (i + 1)) f
          have h3 : fs.take i ++ f :: fs.drop (i + 1) = fs := by
            have hd : fs.drop i = f :: fs.drop (i + 1) := by
              rw [List.drop_eq_getElem_cons (get_lt hf)]
              congr 1
              have := List.getElem?_eq_getElem (get_lt hf)
              rw [hf] at this
              exact (Option.some.inj this).symm
            rw [← hd, List.take_append_drop]
          rw [h3] at h2
          simp only [List.length_append] at h1 h2
          omega
        have k1 : ¬ 9223372036854775807 < 3 + (mkB f.1).size := by rw [mkB_size]; omega
        have k2 : ¬ 9223372036854775807 < 3 + (mkB f.1).size + 4 := by rw [mkB_size]; omega
        have hcat : (⟨#[45, 45, 32]⟩ ++ mkB f.1 ++ ⟨#[32, 45, 45, 10]⟩ : ByteArray) = mkB (mkLine f.1 ++ [10]) := by
          have e1 : (⟨#[45, 45, 32]⟩ : ByteArray) = mkB mk1 := rfl
          have e2 : (⟨#[32, 45, 45, 10]⟩ : ByteArray) = mkB (mk2 ++ [10]) := rfl
          rw [e1, e2, mkB_append, mkB_append]
          simp [mkLine]
        have hba := below_alloc (Below.refl W.heap.size W) (.cells #[Value.string (mkB f.1), Value.slice Af f.2.length cf] 55)
        have hfx := blk_new W (.cells #[Value.string (mkB f.1), Value.slice Af f.2.length cf] 55)
        have hwa : w.heap.size ≤ (W.alloc (.cells #[Value.string (mkB f.1), Value.slice Af f.2.length cf] 55)).heap.size := Nat.le_trans HB.out.size hba.size
        have HOa := Aside0.mk (Kd.own_of_R (Kd.R_below HR.out hba))
        have HBa := Aside0.mk (HB.out.trans (hba.mono HB.out.size))
        have HFX := Aside0.mk hfx
        have HQF := Aside0.mk hqf
        have HXn := Aside0.mk hXn
        have HFnf := Aside0.mk (HFn.out f (List.mem_of_getElem? hf))
        have HRa := Aside0.mk (Kd.R_below HR.out hba)
        have Hmid := Aside0.mk hmid
        have Hend := Aside0.mk hend
        have Hcat := Aside0.mk hcat
        clear hf hr hqf hba hlen hXn hX1 hmid hend hcat hfx
        obtain ⟨Wa, hWa⟩ : ∃ z, z = (W.alloc (.cells #[Value.string (mkB f.1), Value.slice Af f.2.length cf] 55)) := ⟨_, rfl⟩
        go_wp2_with (first | (at_builtin; refine print_append_str (w0 := (W.alloc (.cells #[Value.string (mkB f.1), Value.slice Af f.2.length cf] 55))) w.heap.size rfl (.tmp 22) (.tmp 26) 41 9 5 rfl Tryd.underlying41 Tryd.underlying9 infoB v (ni (Xt cm fs i)) (⟨#[45, 45, 32]⟩ ++ mkB f.1 ++ ⟨#[32, 45, 45, 10]⟩) rfl rfl HOa.out (Below.refl _ _) hwa (by rw [Hcat.out]; exact Hmid.out) ?_; intro v1 w6 ho1 hb1 hg1; have hfx6 := blk_grown HFX.out hg1 (Kd.R_ne HRa.out HFX.out (by decide)); have d1 := (blk_cell hfx6 1).trans rfl; have HO6 := Aside0.mk ho1; have HB6 := Aside0.mk (HBa.out.trans hb1); clear ho1 hb1 hg1 hfx6))
        have HR6 := Aside0.mk (Kd.R_of_own HO6.out (fun _ _ => trivial) : Kd.R (Kd.int .u8) 5 w6 w.heap.size (fun _ => True) v1 (ni (Xt cm fs i) ++ bytesOf (⟨#[45, 45, 32]⟩ ++ mkB f.1 ++ ⟨#[32, 45, 45, 10]⟩)))
        refine (fixNL_any w6 Af f.2 cf (HQF.out.below HB6.out) hcf hdl HFnf.out).mono ?_
        rintro e w7 ⟨A7, c7, rfl, hc7, hq7, hb7⟩
        have hR7 := Kd.R_below HR6.out hb7
        rw [Hcat.out] at hR7
        have e7 : bytesOf (mkB (mkLine f.1 ++ [10])) = ni (mkLine f.1 ++ [10]) := by unfold bytesOf; rw [mkB_list]; rfl
        rw [e7] at hR7
        have HR7 := Aside0.mk hR7
        have HB7 := Aside0.mk (HB6.out.trans (hb7.mono HB6.out.size))
        have hbs7 : w.heap.size ≤ w7.heap.size := HB7.out.size
        have HQ7 := Aside0.mk hq7
        unfold Bq at HQ7
        clear hb7 hq7 hR7 e7 d1
        go_wp2_with (first | (at_builtin; refine Kd.R_append_rows (Kd.int .u8) (Rr := (Kd.int .u8).K w7) (w0 := w7) w.heap.size rfl (.tmp 28) (.tmp 31) 41 5 (.int .u8 0) 1 rfl Tryd.underlying41 infoB rfl (by decide) (by decide) v1 (ni (Xt cm fs i) ++ ni (mkLine f.1 ++ [10])) (ni (nl f.2)) A7 (nl f.2).length c7 (fun _ => True) (fun _ => False) rfl rfl HR7.out HQ7.out (keepM _ _ _ _) (fun _ hk => hk.elim) (fun _ _ => trivial) (Below.refl _ _) hbs7 Hend.out ?_; intro v2 w8 ho1 hb1 hg1 hat1; have HO8 := Aside0.mk ho1; have HB8 := Aside0.mk (HB7.out.trans hb1); clear ho1 hb1 hg1 hat1))
        have hO8 := HO8.out
        have e8 : ni (Xt cm fs i) ++ ni (mkLine f.1 ++ [10]) ++ ni (nl f.2) = ni (Xt cm fs (i + 1)) := by
          rw [HXn.out]; simp only [ni_app, List.append_assoc]
        rw [e8] at hO8
        exact Met.intro (hJ2 (rows.length - (i + 1)) _ _ rfl (by omega) ⟨i + 1, v2, rfl, rfl, rfl, rfl, rfl, ci, hO8, HB8.out⟩)
        -->
      · --< done
        obtain rfl : i = rows.length := by omega
        have u1 : decide ((rows.length : Int) < (rows.length : Int)) = false := by simp
        go_wp2
        have hR := HR.out
        rw [HRo.out.1] at hR
        exact Met.intro (hJ _ _ rfl ⟨v, rfl, hR, HB.out⟩)
        -->
    -->

set_option maxRecDepth 100000 in
theorem Format_calls (w : World) (g cc : Nat) (Ac : Option Addr) (cm : List UInt8) (rows : List (List Value)) (fs : List Fl) (AF : Option Addr) (cF : Nat)
    (hx : w.heap[g]? = some (.cells #[.slice Ac cm.length cc, .slice AF rows.length cF] 53 (0, 0))) (hcc : cm.length ≤ cc) (hqc : Bq w Ac cm) (hC : Kd.C (Kd.raw 2) w AF rows.length rows) (hRo : RowsOf w rows fs) (hb : (cm ++ ftxt fs).length ≤ 1099511627776) (hn : NL cm) (hfn : ∀ f ∈ fs, NL f.2) :
    Calls Tryd.prog 16 #[.pointer (some ⟨g, 0, none⟩)] w fun e w' => ∃ v, e = .returned v ∧ Kd.R (Kd.int .u8) 5 w' w.heap.size (fun _ => True) v (ni (nl cm ++ ftxt (fs.map nlF))) ∧ Below w.heap.size w w' := by
  have H := Aside0.mk (zzFormat_calls w g cc Ac cm rows fs AF cF hx hcc hqc hC hRo hb hn hfn)
  clear hx hcc hqc hC hRo hb hn hfn
  go_enter Tryd.func16, Tryd.ntmps16
  go_wp2_with fail
  refine H.out.mono ?_
  rintro e w2 ⟨v, rfl, hR, hB⟩
  have HR := Aside0.mk hR
  have HB := Aside0.mk hB
  clear hR hB H
  go_wp2_with fail
  go_ret
  exact ⟨v, rfl, HR.out, HB.out⟩

end Go.Proofs.YtplbifmjnanceaaDoor

namespace Go.Proofs.YtplbifmjnanceaaDoor
open Go.RowKit Go.Proofs.YtplbifmjnanceaaDoorW.PrintWords Go.Proofs.YtplbifmjnanceaaDoorW.PrintLast Go.Proofs.YtplbifmjnanceaaDoorW.PrintMore
set_option linter.unusedVariables false
set_option linter.unusedSimpArgs false

theorem cell_keep {w w1 : World} {a : Addr} {v : Value} (h : w.cell? a = some v) (hb : Below w.heap.size w w1) : w1.cell? a = some v := cell_later hb h
/-- bytes whose block stays -/
theorem Bq.blk {w w1 : World} {b : Nat} {l : List UInt8} (h : Bq w (some ⟨b, 0, none⟩) l) (hb : w1.heap[b]? = w.heap[b]?) : Bq w1 (some ⟨b, 0, none⟩) l := by
  refine ⟨h.1, h.2.1, fun hn => ?_⟩
  obtain ⟨ad, e, hc⟩ := h.2.2 hn
  refine ⟨ad, e, fun j p hj => ?_⟩
  obtain ⟨c, h1, h2, h3⟩ := hc j p hj
  refine ⟨c, h1, h2, fun i u hu => ?_⟩
  have h4 := h3 i u hu
  injection e with e
  subst e
  have e2 : w1.cell? (Addr.add ⟨b, 0, none⟩ (j * (Kd.int .u8).sz + i)) = w.cell? (Addr.add ⟨b, 0, none⟩ (j * (Kd.int .u8).sz + i)) := by
    rw [add_plain]
    simp only [World.cell?, hb]
  rw [e2]
  exact h4
/-- the cells of files whose data lie in rows of bytes of their own -/
def RowsB (w : World) (rows : List (List Value)) (fs : List Fl) : Prop :=
  rows.length = fs.length ∧ ∀ (j : Nat) (f : Fl) (r : List Value), fs[j]? = some f → rows[j]? = some r → ∃ (b c : Nat) (C : Array Value) (fz : Nat × Nat), r = [Value.string (mkB f.1), Value.slice (some ⟨b, 0, none⟩) f.2.length c] ∧ f.2.length ≤ c ∧ w.heap[b]? = some (.cells C 5 fz) ∧ Bq w (some ⟨b, 0, none⟩) f.2
theorem RowsB.nil (w : World) : RowsB w [] [] := ⟨rfl, fun j f r h => by simp at h⟩
theorem RowsB.below {w w1 : World} {rows : List (List Value)} {fs : List Fl} (h : RowsB w rows fs) (hb : Below w.heap.size w w1) : RowsB w1 rows fs := by
  refine ⟨h.1, fun j f r hj hr => ?_⟩
  obtain ⟨b, c, C, fz, h1, h2, h3, h4⟩ := h.2 j f r hj hr
  exact ⟨b, c, C, fz, h1, h2, blk_below h3 hb, h4.below hb⟩
theorem RowsB.grown {w w1 : World} {rows : List (List Value)} {fs : List Fl} {row : Option Nat} (h : RowsB w rows fs) (hg : w.grownBy w1 row) (hrow : ∀ k, row = some k → ∃ cs t fz, w.heap[k]? = some (.cells cs t fz) ∧ t ≠ 5) : RowsB w1 rows fs := by
  refine ⟨h.1, fun j f r hj hr => ?_⟩
  obtain ⟨b, c, C, fz, h1, h2, h3, h4⟩ := h.2 j f r hj hr
  have hne : some b ≠ row := by
    intro e
    obtain ⟨cs, t, fz', h5, h6⟩ := hrow b e.symm
    rw [h3] at h5
    injection h5 with h5
    injection h5 with _ h5
    exact h6 h5.symm
  exact ⟨b, c, C, fz, h1, h2, blk_grown h3 hg hne, h4.blk (hg.block b (blk_lt h3) hne)⟩
theorem RowsB.snoc {w : World} {rows : List (List Value)} {fs : List Fl} (h : RowsB w rows fs) (f : Fl) {b c : Nat} {C : Array Value} {fz : Nat × Nat} (hc : f.2.length ≤ c) (h3 : w.heap[b]? = some (.cells C 5 fz)) (hq : Bq w (some ⟨b, 0, none⟩) f.2) : RowsB w (rows ++ [[Value.string (mkB f.1), Value.slice (some ⟨b, 0, none⟩) f.2.length c]]) (fs ++ [f]) := by
  refine ⟨by simp [h.1], fun j g r hj hr => ?_⟩
  rcases Nat.lt_or_ge j fs.length with c1 | c1
  · rw [List.getElem?_append_left c1] at hj
    rw [List.getElem?_append_left (by rw [h.1]; exact c1)] at hr
    exact h.2 j g r hj hr
  · rw [List.getElem?_append_right c1] at hj
    rw [List.getElem?_append_right (by rw [h.1]; exact c1), h.1] at hr
    have : j - fs.length = 0 := by
      rcases Nat.eq_zero_or_pos (j - fs.length) with e | e
      · exact e
      · rw [List.getElem?_eq_none (by simp; omega)] at hj; cases hj
    rw [this] at hj hr
    injection hj with hj
    injection hr with hr
    subst hj hr
    exact ⟨b, c, C, fz, rfl, hc, h3, hq⟩
theorem RowsB.of {w : World} {rows : List (List Value)} {fs : List Fl} (h : RowsB w rows fs) : RowsOf w rows fs := by
  refine ⟨h.1, fun j f r hj hr => ?_⟩
  obtain ⟨b, c, C, fz, h1, h2, h3, h4⟩ := h.2 j f r hj hr
  exact ⟨_, c, h1, h2, h4⟩

/-- bytes in a row of their own -/
def BqB (w : World) (b : Nat) (l : List UInt8) : Prop := ∃ (C : Array Value) (fz : Nat × Nat), w.heap[b]? = some (.cells C 5 fz) ∧ Bq w (some ⟨b, 0, none⟩) l
theorem BqB.below {w w1 : World} {b : Nat} {l : List UInt8} (h : BqB w b l) (hb : Below w.heap.size w w1) : BqB w1 b l := by
  obtain ⟨C, fz, h1, h2⟩ := h
  exact ⟨C, fz, blk_below h1 hb, h2.below hb⟩
theorem BqB.grown {w w1 : World} {b : Nat} {l : List UInt8} {row : Option Nat} (h : BqB w b l) (hg : w.grownBy w1 row) (hrow : ∀ k, row = some k → ∃ cs t fz, w.heap[k]? = some (.cells cs t fz) ∧ t ≠ 5) : BqB w1 b l := by
  obtain ⟨C, fz, h1, h2⟩ := h
  have hne : some b ≠ row := by
    intro e
    obtain ⟨cs, t, fz', h5, h6⟩ := hrow b e.symm
    rw [h1] at h5
    injection h5 with h5
    injection h5 with _ h5
    exact h6 h5.symm
  exact ⟨C, fz, blk_grown h1 hg hne, h2.blk (hg.block b (blk_lt h1) hne)⟩
theorem row_typed {w : World} {base : Nat} {v : Value} {rows : List (List Value)} (h : Kd.R (Kd.raw 2) 55 w base (fun _ => True) v rows) : ∀ k, v.ownBlock = some k → ∃ cs t fz, w.heap[k]? = some (.cells cs t fz) ∧ t ≠ 5 := by
  intro k hk
  obtain ⟨inner, ho⟩ := Kd.R_own h
  obtain ⟨cs, hc⟩ := own_typed ho k hk
  exact ⟨cs, _, _, hc, by decide⟩

/-- the cells of a file of texts that is read -/
theorem kA_at {w : World} {A : Option Addr} {xs : List (ByteArray × ByteArray)} (h : Kd.C kA w A xs.length xs) {i : Nat} {a b : ByteArray} (hi : xs[i]? = some (a, b)) :
    ∃ ad, A = some ad ∧ w.cell? (ad.add (i * 2)) = some (.string a) ∧ w.cell? ⟨(ad.add (i * 2)).block, (ad.add (i * 2)).off + 1, none⟩ = some (.string b) := by
  have hlt : i < xs.length := get_lt hi
  obtain ⟨ad, c, e, _, hK, hc⟩ := Kd.C_get h (ByteArray.empty, ByteArray.empty) (i : Int) (by omega) (by omega)
  rw [Int.toNat_natCast, List.getD_eq_getElem?_getD, hi] at hK
  simp only [Option.getD_some] at hK
  obtain ⟨c1, c2, rfl, h1, h2⟩ := hK
  have e1 : c1 = [.string a] := h1
  have e2 : c2 = [.string b] := h2
  subst e1 e2
  rw [Int.toNat_natCast] at hc
  refine ⟨ad, e, hc 0 _ rfl, ?_⟩
  rw [← add_field _ _ 1 (by omega)]
  exact hc 1 _ rfl

set_option maxRecDepth 100000 in
theorem lit37 (u : Nat → Value) : FrOf 37 u = [u 0, u 1, u 2, u 3, u 4, u 5, u 6, u 7, u 8, u 9, u 10, u 11, u 12, u 13, u 14, u 15, u 16, u 17, u 18, u 19, u 20, u 21, u 22, u 23, u 24, u 25, u 26, u 27, u 28, u 29, u 30, u 31, u 32, u 33, u 34, u 35, u 36] := rfl

set_option maxHeartbeats 2000000 in
set_option maxRecDepth 100000 in
theorem ArcFormat_calls (w : World) (cm : List UInt8) (fs : List Fl) (A : Option Addr) (c : Nat) (hF : Kd.C kA w A fs.length (fs.map aF)) (hb : (cm ++ ftxt fs).length ≤ 1099511627776) (hn : NL cm) (hfn : ∀ f ∈ fs, NL f.2) :
    Calls Tryd.prog 11 #[.string (mkB cm), .slice A fs.length c] w fun e w' => e = .returned (.string (mkB (nl cm ++ ftxt (fs.map nlF)))) ∧ Below w.heap.size w w' := by
  have ks := fun W => print_bytes (P := Tryd.prog) 9 41 5 Tryd.underlying9 Tryd.underlying41 Tryd.underlying5 (mkB cm) W
  have hcl : cm.length ≤ 1099511627776 := by rw [List.length_append] at hb; omega
  have hfl : fs.length ≤ 1099511627776 := by
    have := ftxt_ge fs
    rw [List.length_append] at hb
    omega
  have hq0 := bq_bytes w (mkB cm) (by rw [mkB_size]; omega)
  rw [mkB_list] at hq0
  have hq : BqB (Lib.bytesWorld w 5 (mkB cm)) w.heap.size cm := ⟨_, _, Lib.bytesWorld_at_new w 5 (mkB cm), hq0⟩
  clear hq0
  have hbw : Below w.heap.size w (Lib.bytesWorld w 5 (mkB cm)) := bytes_below (Below.refl _ _) (Nat.le_refl _) _ _
  have hcap : cm.length ≤ grownCap w (mkB cm).size 0 5 := by
    have := grownCap_ge w (mkB cm).size 0 5
    rwa [mkB_size] at this
  have HQ := Aside0.mk hq
  have HBW := Aside0.mk hbw
  have HF := Aside0.mk hF
  have Hb := Aside0.mk hb
  have HN := Aside0.mk hn
  have HFn := Aside0.mk hfn
  have HCap := Aside0.mk hcap
  clear hq hbw hF hb hn hfn hcap
  go_enter Tryd.func11, Tryd.ntmps11
  go_upto_block 0 with (fail)
  clear ks
  obtain ⟨w1, hw1⟩ : ∃ z, z = Lib.bytesWorld w 5 (mkB cm) := ⟨_, rfl⟩
  obtain ⟨cc, hcc⟩ : ∃ z, z = grownCap w (mkB cm).size 0 5 := ⟨_, rfl⟩
  obtain ⟨gA, hgA⟩ : ∃ z, z = w1.heap.size := ⟨_, rfl⟩
  have HBW1 : Aside0 (Below w.heap.size w w1) := ⟨by rw [hw1]; exact HBW.out⟩
  have HQ1 : Aside0 (BqB w1 w.heap.size cm) := ⟨by rw [hw1]; exact HQ.out⟩
  have HCap1 : Aside0 (cm.length ≤ cc) := ⟨by rw [hcc]; exact HCap.out⟩
  rw [mkB_size] at hcc
  rw [← hw1, mkB_size, ← hcc, ← hgA]
  have hx0 := blk_new w1 (.cells #[Value.slice (some ⟨w.heap.size, 0, none⟩) cm.length cc, Value.slice none 0 0] 53)
  have hba := below_alloc (Below.refl w1.heap.size w1) (.cells #[Value.slice (some ⟨w.heap.size, 0, none⟩) cm.length cc, Value.slice none 0 0] 53)
  rw [← hgA] at hx0
  have hgl : w.heap.size ≤ gA := by rw [hgA]; exact HBW1.out.size
  have HX0 := Aside0.mk hx0
  have HB0 := Aside0.mk (HBW1.out.trans (hba.mono HBW1.out.size))
  have HQ2 := Aside0.mk (HQ1.out.below hba)
  clear hx0 hba hw1 hcc hgA HBW HQ HCap HBW1 HQ1
  generalize w1.alloc (.cells #[Value.slice (some ⟨w.heap.size, 0, none⟩) cm.length cc, Value.slice none 0 0] 53) = w2 at *
  refine cutU 37 (fun u wc => ∃ (vF : Value) (rows : List (List Value)), u 5 = .pointer (some ⟨gA, 0, none⟩) ∧ wc.heap[gA]? = some (.cells #[.slice (some ⟨w.heap.size, 0, none⟩) cm.length cc, vF] 53 (0, 0)) ∧ BqB wc w.heap.size cm ∧ Kd.R (Kd.raw 2) 55 wc w.heap.size (fun _ => True) vF rows ∧ RowsB wc rows fs ∧ Below w.heap.size w wc) ?rest ?first
  case rest =>
    --< rest
    rintro u W ⟨vF, rows, h5, hx, hqc, hR, hRo, hB⟩
    rw [lit37]
    simp only [h5]
    obtain ⟨AF, cF, eF, hcF, hCF⟩ := Kd.R_reads hR
    subst eF
    have HFm := Aside0.mk (Format_calls W gA cc (some ⟨w.heap.size, 0, none⟩) cm rows fs AF cF hx HCap1.out hqc.choose_spec.choose_spec.2 hCF hRo.of Hb.out HN.out HFn.out)
    have HB := Aside0.mk hB
    clear hx hqc hR hRo hB hCF h5
    go_wp2_with fail
    refine HFm.out.mono ?_
    rintro e w3 ⟨v, rfl, hR3, hB3⟩
    obtain ⟨A3, c3, e3, hc3, hC3⟩ := Kd.R_reads hR3
    subst e3
    have HB3 := Aside0.mk (HB.out.trans (hB3.mono HB.out.size))
    have k3 : (convert 41 9 (.slice A3 (ni (nl cm ++ ftxt (fs.map nlF))).length c3)).run Tryd.prog w3 = .ok (.string (mkB (nl cm ++ ftxt (fs.map nlF)))) w3 := by
      rw [ni_len] at hC3 ⊢
      exact Bq.str hC3
    clear hR3 hB3 hC3 hc3 HFm
    go_wp2_with fail
    go_ret
    exact ⟨rfl, HB3.out⟩
    -->
  case first =>
    --< first
    intro J K hJ hK
    go_wp2
    refine loopG 37 (fun gh u wc => ∃ (i : Nat) (vF : Value) (rows : List (List Value)), gh = fs.length - i ∧ u 5 = .pointer (some ⟨gA, 0, none⟩) ∧ u 12 = .slice A fs.length c ∧ u 13 = .int .i64 fs.length ∧ u 14 = .int .i64 i ∧ i ≤ fs.length ∧ wc.heap[gA]? = some (.cells #[.slice (some ⟨w.heap.size, 0, none⟩) cm.length cc, vF] 53 (0, 0)) ∧ BqB wc w.heap.size cm ∧ Kd.R (Kd.raw 2) 55 wc w.heap.size (fun _ => True) vF rows ∧ RowsB wc rows (fs.take i) ∧ Below w.heap.size w wc) fs.length rfl ?atStart ?round
    case atStart =>
      exact ⟨0, _, [], rfl, rfl, rfl, rfl, rfl, Nat.zero_le _, HX0.out, HQ2.out, Kd.R_nil _ _ _ _ _, RowsB.nil _, HB0.out⟩
    case round =>
      rintro gh u W ⟨i, vF, rows, hg, h5, h12, h13, h14, hi, hx, hqc, hR, hRo, hB⟩ J2 K2 hJ2 hK2
      rw [lit37]
      simp only [h5, h12, h13, h14]
      clear h5 h12 h13 h14 HX0 HQ2 HB0
      have HR := Aside0.mk hR
      have HB := Aside0.mk hB
      have HX := Aside0.mk hx
      have HQ := Aside0.mk hqc
      have HRo := Aside0.mk hRo
      clear hR hB hx hqc hRo
      by_cases ci : i < fs.length
      · --< file
        obtain ⟨f, hf⟩ : ∃ f, fs[i]? = some f := ⟨fs[i], List.getElem?_eq_getElem ci⟩
        have hC1 : Kd.C kA W A (fs.map aF).length (fs.map aF) := by rw [List.length_map]; exact Kd.C_below HF.out HB.out
        obtain ⟨ad, hA, b0, b1⟩ := kA_at hC1 (i := i) (a := mkB f.1) (b := mkB f.2) (by rw [List.getElem?_map, hf]; rfl)
        subst hA
        have u1 : (i : Int) < (fs.length : Int) := by omega
        have u2 : IntKind.i64.wrap ((i : Int) + 1) = (i : Int) + 1 := by rw [IntKind.wrap_i64]; omega
        have hdl : f.2.length ≤ 281474976710656 := by
          have h1 := Hb.out
          have h2 := ftxt_len (fs.take i) (fs.drop (i + 1)) f
          have h3 : fs.take i ++ f :: fs.drop (i + 1) = fs := by
            have hd : fs.drop i = f :: fs.drop (i + 1) := by
              rw [List.drop_eq_getElem_cons (get_lt hf)]
              congr 1
              have := List.getElem?_eq_getElem (get_lt hf)
              rw [hf] at this
              exact (Option.some.inj this).symm
            rw [← hd, List.take_append_drop]
          rw [h3] at h2
          simp only [List.length_append] at h1 h2
          omega
        have hba := below_alloc (Below.refl W.heap.size W) (.cells #[Value.string (mkB f.1), Value.string (mkB f.2)] 40)
        have hfx := blk_new W (.cells #[Value.string (mkB f.1), Value.string (mkB f.2)] 40)
        have Hf := Aside0.mk hf
        have Hba := Aside0.mk hba
        have HFX := Aside0.mk hfx
        clear hf hba hfx hC1
        go_upto_region 5 with (fail)
        have HX5 := Aside0.mk (blk_below HX.out Hba.out)
        have HR5 := Aside0.mk (Kd.R_below HR.out Hba.out)
        have HQ5 := Aside0.mk (HQ.out.below Hba.out)
        have HRo5 := Aside0.mk (HRo.out.below Hba.out)
        have HB5 := Aside0.mk (HB.out.trans (Hba.out.mono HB.out.size))
        obtain ⟨gf, hgf⟩ : ∃ z, z = W.heap.size := ⟨_, rfl⟩
        have HFX5 : Aside0 ((W.alloc (.cells #[Value.string (mkB f.1), Value.string (mkB f.2)] 40)).heap[gf]? = some (.cells #[Value.string (mkB f.1), Value.string (mkB f.2)] 40 (0, 0))) := ⟨by rw [hgf]; exact HFX.out⟩
        rw [← hgf]
        clear HX HR HQ HRo HB HFX Hba b0 b1 hgf
        generalize W.alloc (.cells #[Value.string (mkB f.1), Value.string (mkB f.2)] 40) = w5 at *
        have kb := fun W => print_bytes (P := Tryd.prog) 9 41 5 Tryd.underlying9 Tryd.underlying41 Tryd.underlying5 (mkB f.2) W
        have hbw : Below w5.heap.size w5 (Lib.bytesWorld w5.drew 5 (mkB f.2)) := bytes_below (below_drew (Below.refl _ _)) (Nat.le_refl _) _ _
        have hbw' : Below w5.drew.heap.size w5.drew (Lib.bytesWorld w5.drew 5 (mkB f.2)) := bytes_below (Below.refl _ _) (Nat.le_refl _) _ _
        have HR6 := Aside0.mk (Kd.R_below HR5.out hbw)
        have HXA6 := Aside0.mk (blk_below HX5.out hbw)
        have HNe : Aside0 (some gA ≠ vF.ownBlock) := ⟨Kd.R_ne HR5.out HX5.out (by decide)⟩
        have hbs : w.heap.size ≤ (Lib.bytesWorld w5.drew 5 (mkB f.2)).heap.size := Nat.le_trans HB5.out.size hbw.size
        have ca := (blk_cell HX5.out 1).trans rfl
        have cf0 := (blk_cell HFX5.out 0).trans rfl
        have cf1 := (blk_cell HFX5.out 1).trans rfl
        have hrl : rows.length = (fs.take i).length := HRo5.out.1
        have hrows : (rows.length + 1) * 40 ≤ 140737488355328 := by rw [hrl, List.length_take]; omega
        have HRL := Aside0.mk hrl
        clear hrl
        refine start_ (n := 16) (S := fun w' => w'.cell? ⟨gA, 1, none⟩ = some vF ∧ w'.cell? ⟨gf, 0, none⟩ = some (.string (mkB f.1)) ∧ w'.cell? ⟨gf, 1, none⟩ = some (.string (mkB f.2))) (ds := [12, 15]) #[false, false, false, false, false, false, false, false, false, false, false, false, false, false, false, false] (by kernel_rfl) rfl rfl ⟨ca, cf0, cf1⟩ (fun hHeld => ?_)
        refine pure_ (i := 0) (N := some 18) (v := ?_) (a' := ?_) #[true, false, false, false, false, false, false, false, false, false, false, false, false, false, false, false] rfl rfl (by kernel_rfl) (fun _ _ _ h => h) (Or.inl ⟨by rfl, ?_⟩) ?_ ?_
        rotate_left
        · intro w'
          go_simp
          with_reducible rfl
        rotate_left
        · simp only [Act.put, List.setIfInBounds_toArray, List.set_cons_zero, List.set_cons_succ, i64_w, i32_w]
          rfl
        refine pure_ (i := 1) (N := some 19) (v := ?_) (a' := ?_) #[true, true, false, false, false, false, false, false, false, false, false, false, false, false, false, false] rfl rfl (by kernel_rfl) (fun _ _ _ h => h) (Or.inl ⟨by rfl, ?_⟩) ?_ ?_
        rotate_left
        · intro w'
          go_simp
          with_reducible rfl
        rotate_left
        · simp only [Act.put, List.setIfInBounds_toArray, List.set_cons_zero, List.set_cons_succ, i64_w, i32_w]
          rfl
        refine pure_ (i := 2) (N := some 20) (v := ?_) (a' := ?_) #[true, true, true, false, false, false, false, false, false, false, false, false, false, false, false, false] rfl rfl (by kernel_rfl) (fun _ _ _ h => h) (Or.inl ⟨by rfl, ?_⟩) ?_ ?_
        rotate_left
        · intro w'
          go_simp
          with_reducible rfl
        rotate_left
        · simp only [Act.put, List.setIfInBounds_toArray, List.set_cons_zero, List.set_cons_succ, i64_w, i32_w]
          rfl
        refine pure_ (i := 3) (N := some 21) (v := ?_) (a' := ?_) #[true, true, true, true, false, false, false, false, false, false, false, false, false, false, false, false] rfl rfl (by kernel_rfl) (fun _ _ _ h => h) (Or.inl ⟨by rfl, ?_⟩) ?_ ?_
        rotate_left
        · intro w'
          go_simp
          with_reducible rfl
        rotate_left
        · simp only [Act.put, List.setIfInBounds_toArray, List.set_cons_zero, List.set_cons_succ, i64_w, i32_w]
          rfl
        refine pure_ (i := 5) (N := some 23) (v := ?_) (a' := ?_) #[true, true, true, true, false, true, false, false, false, false, false, false, false, false, false, false] rfl rfl (by kernel_rfl) (fun _ _ _ h => h) (Or.inl ⟨by rfl, ?_⟩) ?_ ?_
        rotate_left
        · intro w'
          go_simp
          with_reducible rfl
        rotate_left
        · simp only [Act.put, List.setIfInBounds_toArray, List.set_cons_zero, List.set_cons_succ, i64_w, i32_w]
          rfl
        refine pure_ (i := 7) (N := some 25) (v := ?_) (a' := ?_) #[true, true, true, true, false, true, false, true, false, false, false, false, false, false, false, false] rfl rfl (by kernel_rfl) (fun _ _ _ h => h) (Or.inl ⟨by rfl, ?_⟩) ?_ ?_
        rotate_left
        · intro w'
          go_simp
          with_reducible rfl
        rotate_left
        · simp only [Act.put, List.setIfInBounds_toArray, List.set_cons_zero, List.set_cons_succ, i64_w, i32_w]
          rfl
        refine take_ (i := 4) (N := some 22) (v := ?_) (a' := ?_) #[true, true, true, true, true, true, false, true, false, false, false, false, false, false, false, false] rfl rfl (by kernel_rfl) (fun _ _ _ h => h) (Or.inl ⟨by rfl, ?_⟩) hHeld ?_ ?_
        rotate_left
        · rintro w' ⟨s0, s1, s2⟩
          go_simp
          with_reducible rfl
        rotate_left
        · simp only [Act.put, List.setIfInBounds_toArray, List.set_cons_zero, List.set_cons_succ, i64_w, i32_w]
          rfl
        refine take_ (i := 6) (N := some 24) (v := ?_) (a' := ?_) #[true, true, true, true, true, true, true, true, false, false, false, false, false, false, false, false] rfl rfl (by kernel_rfl) (fun _ _ _ h => h) (Or.inl ⟨by rfl, ?_⟩) hHeld ?_ ?_
        rotate_left
        · rintro w' ⟨s0, s1, s2⟩
          go_simp
          with_reducible rfl
        rotate_left
        · simp only [Act.put, List.setIfInBounds_toArray, List.set_cons_zero, List.set_cons_succ, i64_w, i32_w]
          rfl
        refine take_ (i := 8) (N := some 26) (v := ?_) (a' := ?_) #[true, true, true, true, true, true, true, true, true, false, false, false, false, false, false, false] rfl rfl (by kernel_rfl) (fun _ _ _ h => h) (Or.inl ⟨by rfl, ?_⟩) hHeld ?_ ?_
        rotate_left
        · rintro w' ⟨s0, s1, s2⟩
          go_simp
          with_reducible rfl
        rotate_left
        · simp only [Act.put, List.setIfInBounds_toArray, List.set_cons_zero, List.set_cons_succ, i64_w, i32_w]
          rfl
        refine one_ (i := 9) (N := some 27) #[true, true, true, true, true, true, true, true, true, true, false, false, false, false, false, false] rfl rfl (by kernel_rfl) (by decide) (fun K hK => ?_)
        refine value_ (w1 := ?_) (v := ?_) (by rfl) rfl ?_ ?_
        rotate_left 2
        · go_simp
          constructor
          · rfl
          · rfl
        refine hK.out _ _ ⟨(cell_keep ca hbw), (cell_keep cf0 hbw), (cell_keep cf1 hbw)⟩ (fun hHeld => ?_)
        clear hK K
        refine norm_ (a' := ?_) ?_ ?_
        rotate_left
        · show Act.put _ (some 27) _ = _
          simp only [Act.put, List.setIfInBounds_toArray, List.set_cons_zero, List.set_cons_succ, i64_w, i32_w]
          rfl
        refine pure_ (i := 10) (N := some 28) (v := ?_) (a' := ?_) #[true, true, true, true, true, true, true, true, true, true, true, false, false, false, false, false] rfl rfl (by kernel_rfl) (fun _ _ _ h => h) (Or.inl ⟨by rfl, ?_⟩) ?_ ?_
        rotate_left
        · intro w'
          go_simp
          with_reducible rfl
        rotate_left
        · simp only [Act.put, List.setIfInBounds_toArray, List.set_cons_zero, List.set_cons_succ, i64_w, i32_w]
          rfl
        refine one_ (i := 11) (N := some 29) #[true, true, true, true, true, true, true, true, true, true, true, true, false, false, false, false] rfl rfl (by kernel_rfl) (by decide) (fun K hK => ?_)
        refine value_ (w1 := ?_) (v := ?_) (by rfl) rfl ?_ ?_
        rotate_left 2
        · go_simp
          constructor
          · rfl
          · rfl
        refine hK.out _ _ ⟨Lib.cell?_alloc_marked _ (cell_keep ca hbw), Lib.cell?_alloc_marked _ (cell_keep cf0 hbw), Lib.cell?_alloc_marked _ (cell_keep cf1 hbw)⟩ (fun hHeld => ?_)
        clear hK K
        refine norm_ (a' := ?_) ?_ ?_
        rotate_left
        · show Act.put _ (some 29) _ = _
          simp only [Act.put, List.setIfInBounds_toArray, List.set_cons_zero, List.set_cons_succ, i64_w, i32_w]
          rfl
        refine last_ (i := 12) (N := some 30) #[true, true, true, true, true, true, true, true, true, true, true, true, true, false, false, false] rfl rfl (by kernel_rfl) (by decide) (fun K hK => ?_)
        refine Kd.R_append_step (Kd.raw 2) (w0 := Lib.bytesWorld w5.drew 5 (mkB f.2)) (W := Lib.bytesWorld w5.drew 5 (mkB f.2)) w.heap.size (by rfl) (.tmp 22) (.tmp 29) 51 55 _ 40 rfl Tryd.underlying51 info55 rfl (by decide) (by decide) vF rows [.string (mkB f.1), .slice (some ⟨w5.heap.size, 0, none⟩) (mkB f.2).size (grownCap w5.drew (mkB f.2).size 0 5)] [.string (mkB f.1), .slice (some ⟨w5.heap.size, 0, none⟩) (mkB f.2).size (grownCap w5.drew (mkB f.2).size 0 5)] (fun _ => True) (fun _ => False) rfl (by rfl) ⟨rfl, rfl, by simp [Value.oneCell']⟩ (fun _ hk => hk.elim) (fun _ _ => trivial) HR6.out (Below.refl _ _) hbs (by omega) ?_
        intro v1 w6 ho1 hb1 hg1 hat1
        have HO1 := Aside0.mk ho1
        have HB1 := Aside0.mk hb1
        have HG1 := Aside0.mk hg1
        have hxa1 := blk_grown (w := Lib.bytesWorld w5.drew 5 (mkB f.2)) HXA6.out hg1 (HNe.out)
        have ca1 := (blk_cell hxa1 1).trans rfl
        have fa1 := blk_frozen hxa1 1
        have HXA1 := Aside0.mk hxa1
        obtain ⟨AV, cV, eV, _, _⟩ := Kd.R_reads HO1.out
        subst eV
        clear ho1 hb1 hg1 hat1 hxa1
        refine hK.out _ _ ?_
        clear hK K
        refine norm_ (a' := ?_) ?_ ?_
        rotate_left
        · show Act.put _ (some 30) _ = _
          simp only [Act.put, List.setIfInBounds_toArray, List.set_cons_zero, List.set_cons_succ, i64_w, i32_w]
          rfl
        refine pure_ (i := 13) (N := some 31) (v := ?_) (a' := ?_) #[true, true, true, true, true, true, true, true, true, true, true, true, true, true, false, false] rfl rfl (by kernel_rfl) (fun _ _ _ h => h) (Or.inl ⟨by rfl, ?_⟩) ?_ ?_
        rotate_left
        · intro w'
          go_simp
          with_reducible rfl
        rotate_left
        · simp only [Act.put, List.setIfInBounds_toArray, List.set_cons_zero, List.set_cons_succ, i64_w, i32_w]
          rfl
        refine pure_ (i := 14) (N := some 32) (v := ?_) (a' := ?_) #[true, true, true, true, true, true, true, true, true, true, true, true, true, true, true, false] rfl rfl (by kernel_rfl) (fun _ _ _ h => h) (Or.inl ⟨by rfl, ?_⟩) ?_ ?_
        rotate_left
        · intro w'
          go_simp
          with_reducible rfl
        rotate_left
        · simp only [Act.put, List.setIfInBounds_toArray, List.set_cons_zero, List.set_cons_succ, i64_w, i32_w]
          rfl
        refine last_ (i := 15) (N := none) #[true, true, true, true, true, true, true, true, true, true, true, true, true, true, true, true] rfl rfl (by kernel_rfl) (by decide) (fun K hK => ?_)
        refine skip_ (w1 := ?_) (by rfl) rfl ?_ ?_
        rotate_left
        · go_simp
          rfl
        refine hK.out _ _ ?_
        clear hK K
        refine done_ (by kernel_rfl) ?_
        have hO1 := HO1.out
        have hL1 : rows.length = (fs.take i).length := HRL.out
        obtain ⟨G, hG⟩ : ∃ z, z = grownCap w5.drew (mkB f.2).size 0 5 := ⟨_, rfl⟩
        have hGl : f.2.length ≤ G := by
          have := grownCap_ge w5.drew (mkB f.2).size 0 5
          rw [mkB_size] at this
          rw [hG, mkB_size]
          exact this
        rw [← hG, mkB_size] at hO1
        rw [← hG, mkB_size]
        have hq6 := bq_bytes w5.drew (mkB f.2) (by rw [mkB_size]; omega)
        rw [mkB_list] at hq6
        have hRo6 : RowsB (Lib.bytesWorld w5.drew 5 (mkB f.2)) (rows ++ [[Value.string (mkB f.1), Value.slice (some ⟨w5.heap.size, 0, none⟩) f.2.length G]]) (fs.take i ++ [f]) :=
          (HRo5.out.below hbw).snoc f hGl (Lib.bytesWorld_at_new w5.drew 5 (mkB f.2)) hq6
        have ht6 := row_typed HR6.out
        have hput : ∀ k, some gA = some k → ∃ cs t fz, w6.heap[k]? = some (.cells cs t fz) ∧ t ≠ 5 := by
          intro k hk
          injection hk with hk
          subst hk
          exact ⟨_, _, _, HXA1.out, by decide⟩
        have hlen : (rows ++ [[Value.string (mkB f.1), Value.slice (some ⟨w5.heap.size, 0, none⟩) f.2.length G]]).length = rows.length + 1 := by simp
        rw [hlen] at hO1
        have hg2 := grownBy_put2 w6 gA 1 (.slice AV (rows.length + 1) cV)
        have hR2 := Kd.R_set hO1 HXA1.out (by intro q hq; simp [Kd.raw] at hq; subst hq; decide) 1 (.slice AV (rows.length + 1) cV)
        have hRo7 := (hRo6.grown HG1.out ht6).grown hg2 hput
        have hQ7 := ((HQ5.out.below hbw).grown HG1.out ht6).grown hg2 hput
        have etk : fs.take i ++ [f] = fs.take (i + 1) := by rw [List.take_add_one, Hf.out]; rfl
        rw [etk] at hRo7
        have hB7 := below_put ((HB5.out.trans (hbw.mono HB5.out.size)).trans HB1.out) gA 1 (.slice AV (rows.length + 1) cV) hgl
        have HZ := Aside0.mk (And.intro (blk_put HXA1.out 1 (.slice AV (rows.length + 1) cV) rfl) (And.intro hR2 (And.intro hRo7 (And.intro hQ7 hB7))))
        clear hO1 hG hGl hq6 hRo6 ht6 hput hlen hg2 hR2 hRo7 hQ7 etk hB7 ca cf0 cf1 hbw hbw' hL1
        go_wp2
        exact Met.intro (hJ2 (fs.length - (i + 1)) _ _ rfl (by omega) ⟨i + 1, _, _, rfl, rfl, rfl, rfl, rfl, ci, HZ.out.1, HZ.out.2.2.2.1, HZ.out.2.1, HZ.out.2.2.1, HZ.out.2.2.2.2⟩)
        -->
      · --< done
        obtain rfl : i = fs.length := by omega
        have u1 : decide ((fs.length : Int) < (fs.length : Int)) = false := by simp
        go_wp2
        have hRo := HRo.out
        rw [List.take_length] at hRo
        exact Met.intro (hJ _ _ rfl ⟨vF, rows, rfl, HX.out, HQ.out, HR.out, hRo, HB.out⟩)
        -->
    -->

end Go.Proofs.YtplbifmjnanceaaDoor
