/- Contract of laws.grouped over a list of binary operators. -/
import Derived.Test.YtabjfjcaackelaaDoorHeld
namespace Go.Proofs.YtabjfjcaackelaaDoor
open Go.RowKit

def lenV : Value → Nat | .slice _ n _ => n | _ => 0
theorem prec_nought : prec 0 = 0 := by decide +kernel
/-- What holds at the head of the outer loop, and of the two inner ones. -/
def Outer (w wr : World) (zs : List Int) (j : Nat) (v3 v4 : Value) : Prop := ∃ rs rv f, Good rs (zs.take j) [] f rv ∧ Two wr w.heap.size v3 v4 rs rv ∧ Below w.heap.size w wr
def Inner (w wr : World) (zs : List Int) (j : Nat) (x : Int) (v3 v4 : Value) : Prop := ∃ rs rv Q f, Good rs (zs.take j) Q f rv ∧ (∀ y ∈ Q, prec x ≤ prec y) ∧ Two wr w.heap.size v3 v4 rs rv ∧ Below w.heap.size w wr

theorem Inner.look {w wr : World} {zs : List Int} {j : Nat} {x : Int} {v3 v4 : Value} (h : Inner w wr zs j x v3 v4) (hn : zs.length ≤ 17592186044416) (hbin : binB zs = true) :
    (∃ g4 c4, v4 = .slice (some ⟨g4, 0, none⟩) 0 c4 ∧ ∃ f, Two wr w.heap.size v3 v4 [] [grp (zs.take j) 0] ∧ Good [] (zs.take j) (zs.take j) f [grp (zs.take j) 0] ∧ (∀ y ∈ zs.take j, prec x ≤ prec y)) ∨
    (∃ g4 c4 q s, v4 = .slice (some ⟨g4, 0, none⟩) (q + 1) c4 ∧ q ≤ 4 ∧ wr.cell? ⟨g4, q, none⟩ = some (.int .i64 s) ∧
      ∃ rs v v' rv Q f, q = rs.length ∧ Two wr w.heap.size v3 v4 (s :: rs) (v :: v' :: rv) ∧ Good (s :: rs) (zs.take j) Q f (v :: v' :: rv) ∧ (∀ y ∈ Q, prec x ≤ prec y) ∧ rv.length = rs.length ∧ v'.length ≤ 475000000000000 ∧ v.length ≤ 475000000000000) := by
  obtain ⟨rs, rv, Q, f, hG, hQ, h2, hb⟩ := h
  have hpos := binB_pos hbin
  have hhigh := hG.high fun s hs => hpos s (List.mem_of_mem_take (hG.mem s hs))
  obtain ⟨g4, c4, rfl, hb4, hl4, hc4, hm4⟩ := h2.signs.form
  cases rs with
  | nil =>
    obtain ⟨rfl, rfl, rfl⟩ := hG
    exact .inl ⟨g4, c4, rfl, 0, h2, ⟨rfl, rfl, rfl⟩, hQ⟩
  | cons s rs =>
    have hl := hG.len
    match rv, hl with
    | v :: v' :: rv, hl =>
      have hlen : rv.length = rs.length := by simpa using hl
      have hsz := hG.short (by simp; omega)
      have z1 := hsz v (by simp)
      have z2 := hsz v' (by simp)
      have ht : (zs.take j).length ≤ 17592186044416 := by simp; omega
      simp at hhigh
      refine .inr ⟨g4, c4, rs.length, s, rfl, by omega, ?_, rs, v, v', rv, Q, f, rfl, h2, hG, hQ, hlen, by omega, by omega⟩
      refine h2.signs.cell _ _ ?_
      rw [intVs_cons, List.getElem?_append_right (by rw [intVs_len]; omega), intVs_len]
      simp

/-- The inner loop is done: the next operator goes onto the stack. -/
def Ready (w wr : World) (zs : List Int) (j : Nat) (x : Int) (b3 b4 : Value) (rs : List Int) (rv : List (List UInt8)) : Prop :=
  (∃ Q f, Good rs (zs.take j) Q f rv ∧ ∀ y ∈ Q, prec x ≤ prec y) ∧ (∀ t ∈ rs.head?, prec t < prec x) ∧ Two wr w.heap.size b3 b4 rs rv ∧ Below w.heap.size w wr ∧ rv.length = rs.length + 1 ∧ rs.length ≤ 5
theorem Ready.fits {w wr : World} {zs : List Int} {j : Nat} {x : Int} {b3 b4 : Value} {rs : List Int} {rv : List (List UInt8)} (h : Ready w wr zs j x b3 b4 rs rv) :
    rs.length + 1 ≤ maxLen ∧ (rs.length + 1) * 8 ≤ 140737488355328 ∧ rv.length + 1 ≤ maxLen ∧ (rv.length + 1) * 16 ≤ 140737488355328 := by
  have h5 := h.2.2.2.2
  unfold maxLen
  omega
theorem Ready.one {w wr w5 : World} {zs : List Int} {j : Nat} {x : Int} {b3 b4 : Value} {rs : List Int} {rv : List (List UInt8)} {o : Obj} (h : Ready w wr zs j x b3 b4 rs rv) (hgrow : (wr.alloc o).grownBy w5 b4.ownBlock) :
    Held w5 w.heap.size 9 b3 rv.length (txtVs rv) ∧ Below w.heap.size w w5 := by
  obtain ⟨_, _, h2, hb, _⟩ := h
  have hs := hb.size
  refine ⟨(h2.vals.below (below_new wr o)).grown hgrow (h2.vals.apart h2.signs (by decide)), (below_step hb (below_new wr o)).grown hgrow (by simp; omega) fun k hk => (h2.signs.lt k hk).1⟩
theorem Ready.two {w wr w5 w6 w8 : World} {zs : List Int} {j : Nat} {x : Int} {b3 b4 v1 v2 : Value} {rs : List Int} {rv : List (List UInt8)} {o : Obj} (h : Ready w wr zs j x b3 b4 rs rv) (hx : zs.take (j + 1) = zs.take j ++ [x]) (hl : (zs.take j).length = j)
    (hown1 : Held w5 w.heap.size 3 v1 (rs.length + 1) (intVs rs ++ [.int .i64 x])) (hv : Held w5 w.heap.size 9 b3 rv.length (txtVs rv)) (hb5 : Below w.heap.size w w5) (hb6 : Below w5.heap.size w5 w6)
    (hown2 : Held w8 w.heap.size 9 v2 (rv.length + 1) (txtVs rv ++ [.string (decS ((j : Int) + 1))])) (hgrow : (w6.alloc o).grownBy w8 b3.ownBlock) : Outer w w8 zs (j + 1) v2 v1 := by
  obtain ⟨⟨Q, f, hG, hQ⟩, ht, _, _, _⟩ := h
  have hs := hb5.size
  have hs6 := hb6.size
  have hown6 := (hown1.below hb6).below (below_new w6 o)
  have hv6 := (hv.below hb6).below (below_new w6 o)
  have hd : strV (dec (j + 1)) = .string (decS ((j : Int) + 1)) := rfl
  refine ⟨x :: rs, dec (j + 1) :: rv, (zs.take j).length + 1, ?_, ⟨?_, ?_⟩, ?_⟩
  · rw [hx]
    have := hG.push x hQ ht
    rw [hl] at this ⊢
    exact this
  · rw [txtVs_cons, hd]
    exact hown2
  · rw [intVs_cons]
    exact hown6.grown hgrow (hown6.apart hv6 (by decide))
  · exact (below_step (below_step hb5 hb6) (below_new w6 o)).grown hgrow (by simp; omega) fun k hk => (hv6.lt k hk).1

set_option maxRecDepth 100000 in
set_option maxHeartbeats 4000000 in
theorem lawsGrouped {w : World} (A : Option Addr) (cap : Nat) (zs : List Int) (hn : zs.length ≤ 17592186044416) (hI : IntsAt w A zs) (hbin : binB zs = true) (hT : TokTab w) :
    Calls Tryd.prog 15 #[.slice A zs.length cap] w fun e w' => e = .returned (.string (grpS zs 0)) ∧ Below w.heap.size w w' := by
  generalize hnn : zs.length = n
  have HN := Lib.hid hnn
  have HB := Lib.hid hbin
  have hn' : n ≤ 17592186044416 := by omega
  clear hnn hn hbin
  obtain ⟨is, his, is0, is1, is2⟩ := info_parts info_string
  obtain ⟨ii, hii, ii0, ii1, ii2⟩ := info_parts info_int
  have HIS := Lib.hid (And.intro his (And.intro is0 (And.intro is1 is2)))
  have HII := Lib.hid (And.intro hii (And.intro ii0 (And.intro ii1 ii2)))
  clear his is0 is1 is2 hii ii0 ii1 ii2
  go_enter Tryd.func15, Tryd.ntmps15
  go_wp2_with fail
  refine (lawsNumber 0 _ (by omega) (by omega)).mono ?_
  rintro e w1 ⟨rfl, hb1⟩
  have H0 : Hid (Outer w ((w1.alloc (.cells #[.string (decS 0)] 9)).alloc (.cells #[] 3)) zs 0 (.slice (some ⟨w1.heap.size, 0, none⟩) 1 1) (.slice (some ⟨(w1.alloc (.cells #[.string (decS 0)] 9)).heap.size, 0, none⟩) 0 0)) := by
    refine ⟨[], [grp [] 0], 0, ⟨rfl, rfl, rfl⟩, ⟨?_, ?_⟩, below_step (below_step hb1 (below_new _ _)) (below_new _ _)⟩
    · exact (Held.new (w := w1) hb1.size #[.string (decS 0)] rfl (by decide) rfl).below (below_new _ _)
    · exact Held.new (by have := hb1.size; simp; omega) #[] rfl (by decide) rfl
  go_wp2_with fail
  go_loopw [3, 4, 12] (fun v3 v4 i wr => ∃ (a3 a4 : Value) (j : Nat), a3 = v3 ∧ a4 = v4 ∧ j ≤ n ∧ i = .int .i64 (j : Int) ∧ Hid (Outer w wr zs j a3 a4)) (fun _ _ i _ => n - (intOf i).toNat)
  case atStart => exact ⟨_, _, 0, rfl, rfl, by omega, rfl, by simpa using H0⟩
  case round =>
    obtain ⟨a3, a4, j, rfl, rfl, hj, rfl, HO⟩ := hrel
    clear H0 hb1
    by_cases hlt : j < n
    · obtain ⟨b, off, rfl, hbk, hc⟩ := (hI.below HO.out.choose_spec.choose_spec.choose_spec.2.2).at (i := j) (by have := HN.out; omega)
      have HX : Hid (zs.take (j + 1) = zs.take j ++ [zs.getD j 0]) := by
        have h := HN.out
        show _ = _
        rw [List.take_succ_eq_append_getElem (by omega), List.getD_eq_getElem?_getD, List.getElem?_eq_getElem (by omega)]
        rfl
      have HL : Hid ((zs.take j).length = j) := by
        have := HN.out
        show _ = _
        simp
        omega
      have HPX : Hid (0 < prec (zs.getD j 0)) := by
        have h := HN.out
        refine binB_pos HB.out _ ?_
        rw [List.getD_eq_getElem?_getD, List.getElem?_eq_getElem (by omega), Option.getD_some]
        exact List.getElem_mem _
      generalize zs.getD j 0 = x at hc HX HPX
      have HI0 : Hid (Inner w wr zs j x a3 a4) := by
        obtain ⟨rs, rv, f, hG, h2, hb⟩ := HO.out
        exact ⟨rs, rv, [], f, hG, (fun y hy => by cases hy), h2, hb⟩
      clear HO
      go_wp2_with fail
      obtain ⟨wo, rfl⟩ : ∃ wo : World, wo = wr := ⟨_, rfl⟩
      go_loopw [3, 4] (fun v3 v4 wr => ∃ (b3 b4 : Value), b3 = v3 ∧ b4 = v4 ∧ Hid (Inner w wr zs j x b3 b4)) (fun _ v4 _ => lenV v4)
      case atStart => exact ⟨_, _, rfl, rfl, HI0⟩
      case round =>
        obtain ⟨b3, b4, rfl, rfl, HI⟩ := hrel
        clear HI0 hc hbk
        have hb := HI.out.choose_spec.choose_spec.choose_spec.choose_spec.2.2.2
        have hbs := hb.size
        rcases HI.out.look (by have := HN.out; omega) HB.out with ⟨g4, c4, rfl, f, h2, hG, hQ⟩ | ⟨g4, c4, q, s, rfl, hq, hcell, hR⟩
        · have HR : Hid (Ready w wr zs j x b3 (.slice (some ⟨g4, 0, none⟩) 0 c4) [] [grp (zs.take j) 0]) := ⟨⟨_, f, hG, hQ⟩, (fun t ht => by simp at ht), h2, hb, rfl, by simp⟩
          clear HI h2 hG hQ hb
          have HS := Lib.hid HR.out.2.2.1.signs
          have HV := Lib.hid HR.out.fits
          go_wp2_with (at_builtin; refine wpList_append_held _ rfl _ _ 28 rfl w.heap.size 3 ii (.int .i64 0) 8 Tryd.underlying28 HII.out.1 HII.out.2.1 HII.out.2.2.1 HII.out.2.2.2 rfl _ _ _ rfl (HS.out.below (below_new _ _)) ⟨wr.heap.size, 0, none⟩ 1 (.int .i64 x) rfl (cell_one_new _ _ _) rfl HV.out.1 HV.out.2.1 (by simp; omega) ?_; intro v1 w5 hown1 hgrow1)
          have H1 := Lib.hid (HR.out.one hgrow1)
          have HO1 := Lib.hid hown1
          clear hgrow1 hown1
          go_wp2_with fail
          refine (lawsNumber ((j : Int) + 1) _ (by omega) (by omega)).mono ?_
          rintro e w6 ⟨rfl, hb6⟩
          have HB6 := Lib.hid hb6
          have hs6 : w.heap.size ≤ w6.heap.size := Nat.le_trans H1.out.2.size hb6.size
          clear hb6
          go_wp2_with (at_builtin; refine wpList_append_held _ rfl _ _ 34 rfl w.heap.size 9 is (.string ⟨#[]⟩) 16 Tryd.underlying34 HIS.out.1 HIS.out.2.1 HIS.out.2.2.1 HIS.out.2.2.2 rfl _ _ _ rfl ((H1.out.1.below HB6.out).below (below_new _ _)) ⟨w6.heap.size, 0, none⟩ 1 (.string (decS ((j : Int) + 1))) rfl (cell_one_new _ _ _) rfl HV.out.2.2.1 HV.out.2.2.2 (by simp; omega) ?_; intro v2 w8 hown2 hgrow2)
          have HF := Lib.hid (HR.out.two HX.out HL.out HO1.out H1.out.1 H1.out.2 HB6.out hown2 hgrow2)
          clear hown2 hgrow2 HO1 HB6 H1 HS HR HV
          go_wp2_with fail
          go_roundw
          case rel => exact ⟨_, _, j + 1, rfl, rfl, by omega, by go_num, HF⟩
          case measure => simp [intOf]; omega
        · have HR1 := Lib.hid hR
          clear hR HI
          have g1 : IntKind.i64.wrap (q : Int) = (q : Int) := IntWalk.i64_in _ (by omega)
          have g2 : (0 : Int) ≤ (q : Int) := by omega
          have g3 : (q : Int) < (q : Int) + 1 := by omega
          by_cases hp : prec x ≤ prec s
          · have hd : decide (prec x ≤ prec s) = true := decide_eq_true hp
            have HP := Lib.hid hp
            clear hp
            go_wp2_with fail
            refine (implPrecedence s _).mono ?_
            rintro e w2 ⟨rfl, hb2⟩
            go_wp2_with fail
            refine (implPrecedence x _).mono ?_
            rintro e w3 ⟨rfl, hb3⟩
            have hb23 := below_step hb2 hb3
            clear hb2 hb3
            have HB3 := Lib.hid hb23
            have HBW := Lib.hid (below_step hb hb23)
            clear hb23 hb
            go_wp2_with fail
            obtain ⟨rs, v, v', rv, Q, f, hql, h2, hG, hQ, hlen, z1, z2⟩ := HR1.out
            refine (reducedTwo (h2.below HB3.out) hlen (by omega) z1 z2 HBW.out.size (hT.below HBW.out)).mono ?_
            rintro e w4 ⟨v3', v4', rfl, h2', hb4⟩
            have HIn : Hid (Inner w w4 zs j x v3' v4') := by
              obtain ⟨Q', f', hG', hQ'⟩ := hG.reduce x HP.out hQ
              exact ⟨rs, _, Q', f', hG', hQ', h2', below_step HBW.out hb4⟩
            have HM : Hid (lenV v4' = q) := by
              obtain ⟨g, c, rfl, _⟩ := h2'.signs.form
              rw [hql]
              rfl
            clear hql h2 hG hQ hlen z1 z2 h2' hb4 HR1 HB3 HBW HP
            go_wp2_with fail
            go_roundw
            case rel => exact ⟨_, _, rfl, rfl, HIn⟩
            case measure => rw [HM.out]; simp [lenV]
          · have hd : decide (prec x ≤ prec s) = false := decide_eq_false hp
            have hp' : prec s < prec x := by omega
            have HP := Lib.hid hp'
            clear hp hp'
            go_wp2_with fail
            refine (implPrecedence s _).mono ?_
            rintro e w2 ⟨rfl, hb2⟩
            go_wp2_with fail
            refine (implPrecedence x _).mono ?_
            rintro e w3 ⟨rfl, hb3⟩
            have hb23 := below_step hb2 hb3
            clear hb2 hb3
            have HB3 := Lib.hid hb23
            have hbs : w.heap.size ≤ w3.heap.size := (below_step hb hb23).size
            have HBW := Lib.hid (below_step hb hb23)
            clear hb23 hb
            obtain ⟨rs, v, v', rv, Q, f, hql, h2, hG, hQ, hlen, z1, z2⟩ := HR1.out
            subst hql
            have HR : Hid (Ready w w3 zs j x b3 (.slice (some ⟨g4, 0, none⟩) (rs.length + 1) c4) (s :: rs) (v :: v' :: rv)) := ⟨⟨Q, f, hG, hQ⟩, (fun t ht => by simp at ht; subst ht; exact HP.out), h2.below HB3.out, HBW.out, by simp [hlen], by simp; omega⟩
            clear h2 hG hQ hlen z1 z2 HR1 HB3 HBW HP
            have HS := Lib.hid HR.out.2.2.1.signs
            have HV := Lib.hid HR.out.fits
            go_wp2_with (at_builtin; refine wpList_append_held _ rfl _ _ 28 rfl w.heap.size 3 ii (.int .i64 0) 8 Tryd.underlying28 HII.out.1 HII.out.2.1 HII.out.2.2.1 HII.out.2.2.2 rfl _ _ _ rfl (HS.out.below (below_new _ _)) ⟨w3.heap.size, 0, none⟩ 1 (.int .i64 x) rfl (cell_one_new _ _ _) rfl HV.out.1 HV.out.2.1 (by simp; omega) ?_; intro v1 w5 hown1 hgrow1)
            have H1 := Lib.hid (HR.out.one hgrow1)
            have HO1 := Lib.hid hown1
            clear hgrow1 hown1
            go_wp2_with fail
            refine (lawsNumber ((j : Int) + 1) _ (by omega) (by omega)).mono ?_
            rintro e w6 ⟨rfl, hb6⟩
            have HB6 := Lib.hid hb6
            have hs6 : w.heap.size ≤ w6.heap.size := Nat.le_trans H1.out.2.size hb6.size
            clear hb6
            go_wp2_with (at_builtin; refine wpList_append_held _ rfl _ _ 34 rfl w.heap.size 9 is (.string ⟨#[]⟩) 16 Tryd.underlying34 HIS.out.1 HIS.out.2.1 HIS.out.2.2.1 HIS.out.2.2.2 rfl _ _ _ rfl ((H1.out.1.below HB6.out).below (below_new _ _)) ⟨w6.heap.size, 0, none⟩ 1 (.string (decS ((j : Int) + 1))) rfl (cell_one_new _ _ _) rfl HV.out.2.2.1 HV.out.2.2.2 (by simp; omega) ?_; intro v2 w8 hown2 hgrow2)
            have HF := Lib.hid (HR.out.two HX.out HL.out HO1.out H1.out.1 H1.out.2 HB6.out hown2 hgrow2)
            clear hown2 hgrow2 HO1 HB6 H1 HS HR HV
            go_wp2_with fail
            go_roundw
            case rel => exact ⟨_, _, j + 1, rfl, rfl, by omega, by go_num, HF⟩
            case measure => simp [intOf]; omega
    · obtain rfl : j = n := by omega
      have HI0 : Hid (Inner w wr zs j 0 a3 a4) := by
        obtain ⟨rs, rv, f, hG, h2, hb⟩ := HO.out
        exact ⟨rs, rv, [], f, hG, (fun y hy => by cases hy), h2, hb⟩
      have HT : Hid (zs.take j = zs) := List.take_of_length_le (by have := HN.out; omega)
      clear HO hlt
      go_wp2_with fail
      obtain ⟨wo, rfl⟩ : ∃ wo : World, wo = wr := ⟨_, rfl⟩
      go_loopw [3, 4] (fun v3 v4 wr => ∃ (b3 b4 : Value), b3 = v3 ∧ b4 = v4 ∧ Hid (Inner w wr zs j 0 b3 b4)) (fun _ v4 _ => lenV v4)
      case atStart => exact ⟨_, _, rfl, rfl, HI0⟩
      case round =>
        obtain ⟨b3, b4, rfl, rfl, HI⟩ := hrel
        clear HI0
        have hb := HI.out.choose_spec.choose_spec.choose_spec.choose_spec.2.2.2
        rcases HI.out.look (by have := HN.out; omega) HB.out with ⟨g4, c4, rfl, f, h2, hG, hQ⟩ | ⟨g4, c4, q, s, rfl, hq, hcell, hR⟩
        · have hv := h2.vals
          rw [HT.out] at hv
          obtain ⟨g3, c3, rfl, _, _, hc3, hm3⟩ := hv.form
          have hcell := hv.cell 0 (.string (grpS zs 0)) rfl
          simp only [List.length_cons, List.length_nil] at hc3
          clear hv h2 hG hQ HI
          go_wp2_with fail
          go_ret
          exact ⟨rfl, hb⟩
        · have HR1 := Lib.hid hR
          clear hR HI hcell
          go_wp2_with fail
          obtain ⟨rs, v, v', rv, Q, f, hql, h2, hG, hQ, hlen, z1, z2⟩ := HR1.out
          refine (reducedTwo h2 hlen (by omega) z1 z2 hb.size (hT.below hb)).mono ?_
          rintro e w4 ⟨v3', v4', rfl, h2', hb4⟩
          have HIn : Hid (Inner w w4 zs j 0 v3' v4') := by
            obtain ⟨Q', f', hG', hQ'⟩ := hG.reduce 0 (by rw [prec_nought]; exact (prec_range s).1) hQ
            exact ⟨rs, _, Q', f', hG', hQ', h2', below_step hb hb4⟩
          have HM : Hid (lenV v4' = q) := by
            obtain ⟨g, c, rfl, _⟩ := h2'.signs.form
            rw [hql]
            rfl
          clear hql h2 hG hQ hlen z1 z2 h2' hb4 HR1
          go_wp2_with fail
          go_roundw
          case rel => exact ⟨_, _, rfl, rfl, HIn⟩
          case measure => rw [HM.out]; simp [lenV]
end Go.Proofs.YtabjfjcaackelaaDoor
