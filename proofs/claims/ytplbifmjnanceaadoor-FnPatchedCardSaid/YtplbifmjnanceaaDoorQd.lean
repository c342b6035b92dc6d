/- diff.Diff of equal texts; impl.Diff. -/
import Derived.Test.YtplbifmjnanceaaDoorQc
import Derived.Laws.AppendOwn
import Derived.Lib.SlBytesRow
import Derived.Lib.BufferRead
namespace Go.Proofs.YtplbifmjnanceaaDoor
open Go.RowKit Go.Proofs.YtplbifmjnanceaaDoorW.PrintWords Go.Proofs.YtplbifmjnanceaaDoorW.PrintLast Go.Proofs.YtplbifmjnanceaaDoorW.PrintMore
open Go.Proofs.YtplbifmjnanceaaDoor.Plines
set_option linter.unusedVariables false
set_option linter.unusedSimpArgs false

set_option maxHeartbeats 2000000 in
set_option maxRecDepth 100000 in
theorem Diff_same (w : World) (a b : ByteArray) (O N : Option Addr) (co cn : Nat) (lo ln : List Int) (hO : Kd.C (Kd.int .u8) w O lo.length lo) (hN : Kd.C (Kd.int .u8) w N ln.length ln)
    (hne : (Lib.bytesOf lo == Lib.bytesOf ln) = true) :
    Calls Tryd.prog 12 #[.string a, .slice O lo.length co, .string b, .slice N ln.length cn] w fun e w' => e = .returned (.slice none 0 0) ∧ w' = w := by
  have hE := Tryd.bytes_Equal (.slice O lo.length co) (.slice N ln.length cn) lo ln w (Kd.C_string Tryd.underlying41 Tryd.underlying5 Tryd.underlying9 hO) (Kd.C_string Tryd.underlying41 Tryd.underlying5 Tryd.underlying9 hN)
  rw [hne] at hE
  have HE := Aside0.mk hE
  clear hE hO hN hne
  go_enter Tryd.func12, Tryd.ntmps12
  go_wp2_with fail
  refine HE.out.mono ?_
  rintro e w' ⟨rfl, hw⟩
  subst hw
  go_wp2_with fail
  go_ret
  exact ⟨rfl, rfl⟩

end Go.Proofs.YtplbifmjnanceaaDoor

namespace Go.Proofs.YtplbifmjnanceaaDoor
open Go.RowKit Go.Proofs.YtplbifmjnanceaaDoorW.PrintWords Go.Proofs.YtplbifmjnanceaaDoorW.PrintLast Go.Proofs.YtplbifmjnanceaaDoorW.PrintMore
open Go.Proofs.YtplbifmjnanceaaDoor.Plines
set_option linter.unusedVariables false
set_option linter.unusedSimpArgs false

theorem conv_reads (W : World) (s : ByteArray) (hs : s.size ≤ 9223372036854775807) : Kd.C (Kd.int .u8) (Lib.bytesWorld W 5 s) (some ⟨W.heap.size, 0, none⟩) (bytesOf s).length (bytesOf s) := by
  rw [bytesOf_length]
  exact Kd.C_of_reads (d := (0 : Int)) (bytes_reads W 5 s hs)

/-- a row of bytes of one's own, as a text -/
theorem own_text {w : World} {B : Nat} {v : Value} {l : List UInt8} (h : w.ownsRow B 5 1 v l.length (Lib.byteCells l)) (hp : 0 < l.length) : ∃ g cap, v = .slice (some ⟨g, 0, none⟩) l.length cap ∧ Lib.Bytes w g 0 ⟨l.toArray⟩ := by
  rcases h.2 with ⟨_, h0⟩ | ⟨g, cap, cur, hv, _, hg, hn, _, hsz, ht⟩
  · omega
  · refine ⟨g, cap, hv, fun i hi => ?_⟩
    have hi2 : i < l.length := by simpa [ByteArray.size] using hi
    rw [Nat.zero_add, blk_cell hg i]
    have h1 : (Lib.byteCells l)[i]? = some (.int .u8 (l[i].toNat)) := by simp [Lib.byteCells, List.getElem?_eq_getElem hi2]
    rw [← ht, List.getElem?_take, if_pos (by omega)] at h1
    rw [Array.getElem?_toList] at h1
    rw [h1]
    rfl

set_option maxHeartbeats 2000000 in
set_option maxRecDepth 100000 in
theorem implDiff_ne (w : World) (a b s t : ByteArray) (k : Nat) (x y : List ByteArray) (hs : s.size ≤ 1048576) (ht : t.size ≤ 1048576)
    (hne : (Lib.bytesOf (bytesOf s) == Lib.bytesOf (bytesOf t)) = false) (hx : diff_lines.f k (bytesOf s) = some x) (hy : diff_lines.f k (bytesOf t) = some y) (lx : x.length ≤ 1048576) (ly : y.length ≤ 1048576) (sx : ∀ s ∈ x, s.size ≤ 1048576) (sy : ∀ s ∈ y, s.size ≤ 1048576)
    (sa : a.size ≤ 1048576) (sb : b.size ≤ 1048576) (hT : powTab w) :
    Calls Tryd.prog 7 #[.string a, .string s, .string b, .string t] w fun e w' => ∃ (d : ByteArray) (hs : List Dp.Hk), e = .returned (.string d) ∧ Dp.Leads x y hs ∧ ((diffText a b hs).length ≤ 4194321 + (x.length + y.length) * 2097152 ∧ (hs.length ≤ 1 ∨ 3 ≤ x.length)) ∧ d.data.toList = diffText a b hs ∧ Below w.heap.size w w' := by
  have ks := fun W => print_bytes (P := Tryd.prog) 9 41 5 Tryd.underlying9 Tryd.underlying41 Tryd.underlying5 s W
  have kt := fun W => print_bytes (P := Tryd.prog) 9 41 5 Tryd.underlying9 Tryd.underlying41 Tryd.underlying5 t W
  have HX := Aside0.mk hx
  have HY := Aside0.mk hy
  have SX := Aside0.mk sx
  have SY := Aside0.mk sy
  have HT := Aside0.mk hT
  have HN := Aside0.mk hne
  clear hx hy sx sy hT hne
  go_enter Tryd.func7, Tryd.ntmps7
  go_wp2_with fail
  have c1 := conv_reads w s (by omega)
  have c2 := conv_reads (Lib.bytesWorld w 5 s) t (by omega)
  have b1 : Below w.heap.size w (Lib.bytesWorld w 5 s) := bytes_below (Below.refl _ _) (Nat.le_refl _) _ _
  have b2 : Below (Lib.bytesWorld w 5 s).heap.size (Lib.bytesWorld w 5 s) (Lib.bytesWorld (Lib.bytesWorld w 5 s) 5 t) := bytes_below (Below.refl _ _) (Nat.le_refl _) _ _
  have B := b1.trans (b2.mono b1.size)
  have H := Diff_calls (Lib.bytesWorld (Lib.bytesWorld w 5 s) 5 t) a b _ _ (grownCap w s.size 0 5) (grownCap (Lib.bytesWorld w 5 s) t.size 0 5) k _ _ x y (Kd.C_below c1 b2) c2 (by rw [bytesOf_length]; exact grownCap_ge _ _ _ _) (by rw [bytesOf_length]; exact grownCap_ge _ _ _ _) HN.out HX.out HY.out lx ly SX.out SY.out sa sb (fun w' hb => HT.out w' (B.trans (hb.mono B.size)))
  rw [bytesOf_length, bytesOf_length] at H
  refine H.mono ?_
  rintro e w1 ⟨v, hs, Bq, rfl, hB, hl, hlen, hown, hb⟩
  have hp : 0 < (diffText a b hs).length := by
    unfold diffText
    rw [List.length_append, hdr_len]
    omega
  obtain ⟨g, cap, rfl, hby⟩ := own_text hown hp
  have hc := Lib.run_convert_window (P := Tryd.prog) w1 41 5 9 Tryd.underlying41 Tryd.underlying5 Tryd.underlying9 g 0 ⟨(diffText a b hs).toArray⟩ hby 0 (diffText a b hs).length cap (by simp [ByteArray.size])
  rw [Nat.add_zero] at hc
  have HL := Aside0.mk hl
  have HN2 := Aside0.mk hlen
  have HBB := Aside0.mk (B.trans (hb.mono B.size))
  clear H hl hlen hown hb hby hp c1 c2 b1 b2 B
  go_wp2_with fail
  go_ret
  refine ⟨_, hs, rfl, HL.out, HN2.out, ?_, HBB.out⟩
  simp [ByteArray.data_extract]

set_option maxHeartbeats 2000000 in
set_option maxRecDepth 100000 in
theorem implDiff_same (w : World) (a b s : ByteArray) (hs : s.size ≤ 1048576) :
    Calls Tryd.prog 7 #[.string a, .string s, .string b, .string s] w fun e w' => e = .returned (.string ⟨#[]⟩) ∧ Below w.heap.size w w' := by
  have ks := fun W => print_bytes (P := Tryd.prog) 9 41 5 Tryd.underlying9 Tryd.underlying41 Tryd.underlying5 s W
  go_enter Tryd.func7, Tryd.ntmps7
  go_wp2_with fail
  have c1 := conv_reads w s (by omega)
  have c2 := conv_reads (Lib.bytesWorld w 5 s) s (by omega)
  have b1 : Below w.heap.size w (Lib.bytesWorld w 5 s) := bytes_below (Below.refl _ _) (Nat.le_refl _) _ _
  have b2 : Below (Lib.bytesWorld w 5 s).heap.size (Lib.bytesWorld w 5 s) (Lib.bytesWorld (Lib.bytesWorld w 5 s) 5 s) := bytes_below (Below.refl _ _) (Nat.le_refl _) _ _
  have HB := Aside0.mk (b1.trans (b2.mono b1.size))
  have H := Diff_same (Lib.bytesWorld (Lib.bytesWorld w 5 s) 5 s) a b _ _ (grownCap w s.size 0 5) (grownCap (Lib.bytesWorld w 5 s) s.size 0 5) _ _ (Kd.C_below c1 b2) c2 (by simp)
  rw [bytesOf_length] at H
  refine H.mono ?_
  rintro e w1 ⟨rfl, rfl⟩
  have hc := Lib.run_convert_nil_bytes (P := Tryd.prog) (Lib.bytesWorld (Lib.bytesWorld w 5 s) 5 s) 41 9 5 0 Tryd.underlying41 Tryd.underlying5 Tryd.underlying9
  clear H c1 c2 b1 b2
  go_wp2_with fail
  go_ret
  exact ⟨rfl, HB.out⟩

end Go.Proofs.YtplbifmjnanceaaDoor
