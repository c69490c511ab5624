/- Contract of laws.reduced. -/
import Derived.Test.YtabjfjcaackelaaDoorBin
import Derived.Deep.RegionLawGrows
import Derived.Deep.AppendLies
import Derived.Deep.Onto
namespace Go.Proofs.YtabjfjcaackelaaDoor
open Go.RowKit

theorem info_string : (Tryd.prog.info? 9).map (fun i => (i.zero, i.size, i.bytes)) = some (some (.string ⟨#[]⟩), 1, 16) := by kernel_rfl
theorem info_int : (Tryd.prog.info? 3).map (fun i => (i.zero, i.size, i.bytes)) = some (some (.int .i64 0), 1, 8) := by kernel_rfl

theorem olds_keep {w1 W : World} {bv : Nat} {vs : List Value} (H : ∀ i u, vs[i]? = some u → w1.cell? ⟨bv, i, none⟩ = some u) (LV : bv < w1.heap.size) (hW : Below w1.heap.size w1 W) :
    ∀ b, some (⟨bv, 0, none⟩ : Addr) = some b → ∀ j u, vs[j]? = some u → W.cell? (b.add j) = some u := fun b hb j u hj => by
  simp only [Option.some.injEq] at hb
  subst hb
  have e : (⟨bv, 0, none⟩ : Addr).add j = ⟨bv, j, none⟩ := by unfold Addr.add; split <;> simp_all
  rw [e]
  exact (hW.cell (p := ⟨bv, j, none⟩) LV).trans (H j u hj)

set_option maxRecDepth 100000 in
set_option maxHeartbeats 4000000 in
theorem lawsReduced {w : World} (bv bs nv ns a q cv cs : Nat) (vs : List Value) (s1 s2 : ByteArray) (k : Int)
    (hnv : nv = q + 2) (hns : ns = q + 1) (ha : a = q + 1) (hq : q ≤ 1000) (hcv : nv ≤ cv) (hcs : ns ≤ cs)
    (z1 : s1.size ≤ 475000000000000) (z2 : s2.size ≤ 475000000000000)
    (hlen : vs.length = q) (hvs : ∀ i u, vs[i]? = some u → w.cell? ⟨bv, i, none⟩ = some u)
    (h1 : w.cell? ⟨bv, q, none⟩ = some (.string s1)) (h2 : w.cell? ⟨bv, a, none⟩ = some (.string s2)) (h3 : w.cell? ⟨bs, q, none⟩ = some (.int .i64 k)) (hT : TokTab w) :
    Calls Tryd.prog 27 #[.slice (some ⟨bv, 0, none⟩) nv cv, .slice (some ⟨bs, 0, none⟩) ns cs] w fun e w' => ∃ v', e = .returned (.tuple #[v', .slice (some ⟨bs, 0, none⟩) q q]) ∧ w'.ownsRow w.heap.size 9 1 v' (q + 1) (vs ++ [.string (⟨#[40]⟩ ++ s1 ++ txt k ++ s2 ++ ⟨#[41]⟩)]) ∧ Below w.heap.size w w' := by
  have lv : bv < w.heap.size := World.block_lt_of_cell? w _ h1
  have ls : bs < w.heap.size := World.block_lt_of_cell? w _ h3
  have K : ∀ w', Below w.heap.size w w' → w'.cell? ⟨bv, q, none⟩ = some (.string s1) ∧ w'.cell? ⟨bv, a, none⟩ = some (.string s2) ∧ w'.cell? ⟨bs, q, none⟩ = some (.int .i64 k) := fun w' h => ⟨(h.cell (p := ⟨bv, q, none⟩) lv).trans h1, (h.cell (p := ⟨bv, a, none⟩) lv).trans h2, (h.cell (p := ⟨bs, q, none⟩) ls).trans h3⟩
  have KH := Lib.hid K
  have HV := Lib.hid hvs
  have HL := Lib.hid hlen
  clear K hvs hlen h1 h2 h3
  have f1 : (nv : Int) - 1 = (a : Int) := by omega
  have f2 : (ns : Int) - 1 = (q : Int) := by omega
  have f3 : (a : Int) - 1 = (q : Int) := by omega
  have f4 : IntKind.i64.wrap (a : Int) = (a : Int) := IntWalk.i64_in _ (by omega)
  have f5 : IntKind.i64.wrap (q : Int) = (q : Int) := IntWalk.i64_in _ (by omega)
  have g1 : (0 : Int) ≤ (q : Int) := by omega
  have g2 : (q : Int) < (nv : Int) := by omega
  have g3 : (0 : Int) ≤ (a : Int) := by omega
  have g4 : (a : Int) < (nv : Int) := by omega
  have g5 : (q : Int) < (ns : Int) := by omega
  have g6 : (q : Int) ≤ (cv : Int) := by omega
  have g7 : (q : Int) ≤ (cs : Int) := by omega
  have z3 := txt_size k
  have e40 : (⟨#[40]⟩ : ByteArray).size = 1 := rfl
  have e41 : (⟨#[41]⟩ : ByteArray).size = 1 := rfl
  have c1 := cat_ok (⟨#[40]⟩ : ByteArray) s1 (by omega)
  have c2 := cat_ok ((⟨#[40]⟩ : ByteArray) ++ s1) (txt k) (by rw [ByteArray.size_append]; omega)
  have c3 := cat_ok ((⟨#[40]⟩ : ByteArray) ++ s1 ++ txt k) s2 (by rw [ByteArray.size_append, ByteArray.size_append]; omega)
  have c4 := cat_ok ((⟨#[40]⟩ : ByteArray) ++ s1 ++ txt k ++ s2) (⟨#[41]⟩ : ByteArray) (by rw [ByteArray.size_append, ByteArray.size_append, ByteArray.size_append]; omega)
  have C := Lib.hid (fun W (hW : Below w.heap.size w W) => implString k W (hT.below hW))
  have HQ := Lib.hid hq
  obtain ⟨i0, hi0, hz0, hz1, hz2⟩ := info_parts info_string
  have HI := Lib.hid (And.intro hi0 (And.intro hz0 (And.intro hz1 hz2)))
  clear hi0 hz0 hz1 hz2
  clear e40 e41 z1 z2 z3 hnv hns ha hq hcv hcs
  go_enter Tryd.func27, Tryd.ntmps27
  go_wp2_with fail
  go_region_held3 (fun w' => w'.cell? ⟨bv, q, none⟩ = some (.string s1) ∧ w'.cell? ⟨bv, a, none⟩ = some (.string s2) ∧ w'.cell? ⟨bs, q, none⟩ = some (.int .i64 k)) (first | exact KH.out _ (Below.refl _ _) | exact KH.out _ (Below.refl _ _).drew | exact KH.out _ (below_step (Below.refl _ _).drew hb1)) ((go_at_call 10; refine (C.out _ ((Below.refl _ _).drew)).mono ?_; rintro e w1 ⟨rfl, hb1⟩))
  go_wp2_with fail
  have HB : Hid (Below w.heap.size w w1) := below_step (Below.refl _ _).drew hb1
  have HV1 : Hid (∀ i u, vs[i]? = some u → w1.cell? ⟨bv, i, none⟩ = some u) := fun i u h => (HB.out.cell (p := ⟨bv, i, none⟩) lv).trans (HV.out i u h)
  have LV : bv < w1.heap.size := Nat.lt_of_lt_of_le lv HB.out.size
  generalize hw0 : (⟨#[40]⟩ : ByteArray) ++ s1 ++ txt k ++ s2 ++ ⟨#[41]⟩ = whole
  have HW := Lib.hid hw0
  clear hw0
  go_region_held3 (fun _ => True) (trivial) ((refine step_append_grows (by rfl) _ _ _ (by rfl) 9 i0 _ 1 16 Tryd.underlying34 HI.out.1 HI.out.2.1 HI.out.2.2.1 HI.out.2.2.2 rfl (by omega) (some ⟨bv, 0, none⟩) q q vs (by rfl) (by simp) (by have := HL.out; omega) (by first | exact olds_keep HV1.out LV (below_new _ _) | exact olds_keep HV1.out LV (below_new _ _).drew) ⟨w1.heap.size, 0, none⟩ 1 1 [.string whole] (by rfl) (by rfl) (World.news_of_block (cs := #[.string whole]) (t := 9) (fr := (0, 0)) (heap_alloc_new w1 _)) (by simp [Value.oneCell']) (by omega) (by have := HQ.out; unfold maxLen; omega) (by have := HQ.out; omega) ?_; intro v' w2 hown hgrow))
  go_wp2_with fail
  go_ret2
  have hb2 : Below w1.heap.size w1 w2 := by
    first
      | exact Below.grown (below_new _ _) hgrow (below_new _ _).size (fun k h => by cases h)
      | exact Below.grown (below_new _ _).drew hgrow (below_new _ _).size (fun k h => by cases h)
  have := HW.out
  subst this
  exact ⟨v', rfl, hown.mono (Nat.le_trans HB.out.size (below_new w1 _).size), below_step HB.out hb2⟩
end Go.Proofs.YtabjfjcaackelaaDoor
