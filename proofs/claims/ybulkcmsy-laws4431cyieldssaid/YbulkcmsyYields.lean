/- THE WALK OF LawS4431CYields (function 3). -/
import Derived.Test.YbulkcmsyLoop
import Derived.Test.YbulkcmsyState2
import Derived.Test.YbulkcmsyMgr
import Derived.Test.YbulkcmsyRange
import Derived.Lib.Builder
import Derived.Deep.QuietTactic
import Derived.BigQuiet
import Derived.Deep.DeepCutAuto
import Derived.Deep.RegionLaw
import Derived.Deep.DrawnRows
namespace Go.Proofs.Ybulkcmsy
open Go.RowKit Go.Shelf
attribute [local go_sem ↓] Go.wp_at_zero Go.wp_at_succ
attribute [local go_sem] Oper.semAt_some

theorem info24 : (Yba.prog.info? 24).map (fun i => (i.zero, i.size, i.bytes)) = some (some (.pointer none), 1, 8) := by kernel_rfl
theorem info4 : (Yba.prog.info? 4).map (fun i => (i.zero, i.size, i.bytes)) = some (some (.bool false), 1, 1) := by kernel_rfl

theorem info31 : (Yba.prog.info? 31).isSome = true := by kernel_rfl
theorem neq24 (a : Addr) (w : World) : (binOp .neq 24 (.pointer (some a)) (.pointer (some a))).run Yba.prog w = .ok (.bool false) w := by
  cases h : Yba.prog.info? 31 with
  | none => have := info31; rw [h] at this; cases this
  | some j => exact Go.Lib.run_neq_ptr_same (P := Yba.prog) (tp := 24) (te := 31) w a (by kernel_rfl) h
attribute [local go_sem] neq24

set_option maxRecDepth 100000 in
theorem yields_big (hb hk kbz : Bool) (sa : Option Addr) (n cap : Nat) (stop : Int) (w : World) (hn : ¬ n ≤ 1024) :
    CallsIn Fence.wide 0 Yba.prog 3 #[.bool hb, .bool hk, .bool kbz, .slice sa n cap, .int .u16 stop] w fun e w' => e = .returned (.bool true) ∧ Below w.heap.size w w' := by
  have hbig : decide ((1024 : Int) < (n : Int)) = true := by simp; omega
  refine callsIn_of_wp_marks Yba.func3 rfl trivial ?_ rfl
  simp only [Yba.ntmps3, List.size_toArray, List.length_cons, List.length_nil, Nat.reduceAdd, Nat.reduceSub, Array.replicate_succ, Array.replicate_zero, List.push_toArray, List.append_toArray, List.nil_append, List.cons_append]
  refine wpIn_wide.2 (wp_mono ?_ calm_le)
  go_wp2_with fail
  exact ⟨_, results_tmp rfl _ _ _, rfl, Below.refl _ _⟩

set_option maxHeartbeats 1600000 in
set_option maxRecDepth 100000 in
theorem yields_some (hb hk kbz : Bool) (sa : Option Addr) (n cap : Nat) (bs : Nat → Bool) (stop : Int) (w : World) (hn : n ≤ 1024) (hs0 : 0 ≤ stop) (hs1 : stop ≤ 65535)
    (hc : ∀ j, j < n → ∃ b off, sa = some ⟨b, off, none⟩ ∧ b < w.heap.size ∧ w.cell? ⟨b, off + j, none⟩ = some (.bool (bs j))) :
    CallsIn Fence.wide 0 Yba.prog 3 #[.bool hb, .bool hk, .bool kbz, .slice sa n cap, .int .u16 stop] w fun e w' => e = .returned (.bool true) ∧ Below w.heap.size w w' := by
  have hbig : decide ((1024 : Int) < (n : Int)) = false := by simp; omega
  obtain ⟨i24, hi24, hz24a, hz24b, hz24c⟩ := info_parts info24
  obtain ⟨i4, hi4, hz4a, hz4b, hz4c⟩ := info_parts info4
  refine callsIn_of_wp_marks Yba.func3 rfl trivial ?_ rfl
  simp only [Yba.ntmps3, List.size_toArray, List.length_cons, List.length_nil, Nat.reduceAdd, Nat.reduceSub, Array.replicate_succ, Array.replicate_zero, List.push_toArray, List.append_toArray, List.nil_append, List.cons_append]
  refine wpIn_wide.2 (wp_mono ?_ calm_le)
  go_wp2_with fail
  refine (leaf (w.heap.size + 1) (w.heap.size + 2) ⟨#[114]⟩ hb _ (by simp)).mono ?_
  rintro e W1 ⟨rfl, t, ht, hr1, hb1⟩
  have hrc := hr1.cell (i := 8) (by omega)
  have hrf := hr1.frozen 8
  have hrl := hr1.lt
  simp only [leafCell, Option.map_none] at hrc
  subst ht
  have hS := st_init (w := w) (kt := none) hr1 (hb1.mono (by simp))
  clear hb1
  go_upto_if 48 with fail
  generalize (((W1.setCell _ _).alloc _).alloc _).alloc _ = Wx at hS ⊢
  clear hrc hrf hrl hr1
  generalize W1.heap.size = mo at hS ⊢
  clear W1
  go_cut [14, 15] from 28 to 66 (fun vA vF wr => ∃ kb kt, St w wr (w.heap.size + 2) mo t kb kt [] (hdA (w.heap.size + 2) t kb kt []) (hdF (w.heap.size + 2) t kb kt []) vA vF (.slice none 0 0))
  case first =>
    cases hk with
    | false =>
      go_wp2_with fail
      go_meet
      case rel => exact ⟨none, none, hS⟩
    | true =>
      go_wp2_with fail
      refine (leaf (w.heap.size + 2) Wx.heap.size ⟨#[]⟩ kbz Wx rfl).mono ?_
      rintro e W2 ⟨rfl, kt, hkt, hr2, hb2⟩
      subst hkt
      have hS2 := hS.below hb2
      have f1 := hS2.rowc.cell (i := 8) (by omega)
      have f2 := hS2.more.cell (i := 6) (by omega)
      have f3 := hS2.more.frozen 6
      have f4 := hS2.more.lt
      simp only [leafCell, moreCell, Option.map_some, Option.map_none] at f1 f2
      have hS3 := hS2.keyed hr2
      clear hS hS2 hr2 hb2
      go_upto_region 12 with fail
      generalize W2.setCell ⟨mo, 6, none⟩ _ = W3 at hS3 ⊢
      clear f1 f2 f3 f4
      generalize Wx.heap.size = kb at hS3 ⊢
      clear Wx W2
      have hl3 := hS3.old.size
      go_upto_region 13 with (at_builtin; refine wpList_append_lies _ rfl (.tmp 59) (.tmp 61) 43 rfl w.heap.size 24 i24 (.pointer none) 1 8 Yba.underlying43 hi24 hz24a hz24b hz24c rfl (by decide) _ _ _ rfl (hS3.all.alloc _) ⟨W3.heap.size, 0, none⟩ 1 1 [.pointer (some ⟨kb, 0, none⟩)] rfl rfl (cell_one_new _ _ _) (by simp [Value.oneCell']) (by omega) (by unfold maxLen; simp [hdA, hds]) (by simp [hdA, hds]) (by simp; omega) _ rfl ?_; intro gA cA W4 hoA hgA hatA hltA)
      have hS4 := (hS3.below ((Below.refl _ _).alloc (Nat.le_refl _) _)).appA hgA hoA hatA
      clear hS3 hoA hgA hatA hltA hl3
      have hl4 := hS4.old.size
      go_wp2_with (at_builtin; refine wpList_append_lies _ rfl (.tmp 63) (.tmp 65) 22 rfl w.heap.size 4 i4 (.bool false) 1 1 Yba.underlying22 hi4 hz4a hz4b hz4c rfl (by decide) _ _ _ rfl (hS4.flg.alloc _) ⟨W4.heap.size, 0, none⟩ 1 1 [.bool kt.isSome] rfl rfl (cell_one_new _ _ _) (by simp [Value.oneCell']) (by omega) (by unfold maxLen; simp [hdF, hds]) (by simp [hdF, hds]) (by simp; omega) _ rfl ?_; intro gF cF W5 hoF hgF hatF hltF)
      have hS5 := (hS4.below ((Below.refl _ _).alloc (Nat.le_refl _) _)).appF hgF hoF
      clear hS4 hoF hgF hatF hltF hl4
      go_meet
      case rel => exact ⟨some kb, kt, hS5⟩
  case rest =>
    clear hS
    obtain ⟨kb, kt, hS⟩ := hcut
    go_wp2_with fail
    go_loopw [14, 15, 69] (fun vA vF i wr => ∃ (k : Nat) (L : List (Nat × Option Addr)) (vT : Value), k ≤ n ∧ i = .int .i64 k ∧ L.length = k ∧ St w wr (w.heap.size + 2) mo t kb kt L (hdA (w.heap.size + 2) t kb kt L) (hdF (w.heap.size + 2) t kb kt L) vA vF vT)
      (fun _ _ i _ => n - (intOf i).toNat)
    case atStart => exact ⟨0, [], _, Nat.zero_le _, rfl, rfl, hS⟩
    case round =>
      clear hS
      obtain ⟨_, L, vT, hkn, rfl, rfl, hS⟩ := hrel
      by_cases hlt : L.length < n
      · have hcx : ∃ b off, sa = some ⟨b, off, none⟩ ∧ wr.cell? ⟨b, off + L.length, none⟩ = some (.bool (bs L.length)) := by
          obtain ⟨b, off, e1, e2, e3⟩ := hc L.length hlt
          exact ⟨b, off, e1, (hS.old.cell (p := ⟨b, off + L.length, none⟩) e2).trans e3⟩
        obtain ⟨b, off, rfl, hcx⟩ := hcx
        go_wp2_with fail
        refine (leaf (w.heap.size + 2) wr.heap.size ⟨#[97]⟩ (bs L.length) wr rfl).mono ?_
        rintro e W2 ⟨rfl, t', ht', hr2, hb2⟩
        have hS2 := hS.below hb2
        have f1 := hS2.rowc.cell (i := 8) (by omega)
        have f2 := hS2.more.cell (i := 7) (by omega)
        have f4 := hS2.more.lt
        have f5 := hS2.rowc.lt
        have f6 := hS2.old.size
        simp only [leafCell, moreCell, Option.map_some] at f1 f2
        clear hS hb2 hcx
        go_upto_region 18 with fail
        generalize wr.heap.size = xx at hr2 ⊢
        go_cut [69] from 69 to 100 (fun i wx => i = (.int .i64 (L.length : Nat)) ∧ ∃ gT cT, St w wx (w.heap.size + 2) mo t kb kt (L ++ [(xx, t')]) (hdA (w.heap.size + 2) t kb kt L) (hdF (w.heap.size + 2) t kb kt L) u14 u15 (.slice (some ⟨gT, 0, none⟩) (L.length + 1) cT))
        case first =>
          go_region_law
            ((refine step_append_lies _ (by rfl) _ _ _ (by rfl) w.heap.size 24 i24 _ 1 8 Yba.underlying43 hi24 hz24a hz24b hz24c rfl (by omega) vT L.length (L.map fun x => ptr x.1) (by rfl) ((hS2.att.alloc _).drew)
                ⟨W2.heap.size, 0, none⟩ 1 1 [.pointer (some ⟨xx, 0, none⟩)] (by rfl) (by rfl) (World.news_of_block (cs := #[.pointer (some ⟨xx, 0, none⟩)]) (t := 24) (fr := (0, 0)) (heap_alloc_new W2 _)) (by simp [Value.oneCell'])
                (by omega) (by unfold maxLen; omega) (by omega) (by simp; omega) (W2.heap.size + 1) (by simp) ?_; intro gT cT w1 hown1 hgrow hat hlt1
              obtain ⟨f1', f2', f3'⟩ := (hS2.below ((Below.refl _ _).alloc (Nat.le_refl _) _)).drew.afterT hgrow
              have hS5 := (hS2.below ((Below.refl _ _).alloc (Nat.le_refl _) _)).drew.appT (World.rowIs.drew (World.rowIs.alloc hr2 _)) hgrow hown1 (by simpa using hat)
              clear hown1 hgrow hat hlt1))
          all_goals
            go_wp2_with fail
            go_meet
            case rel => exact ⟨rfl, gT, cT, hS5⟩
        case rest =>
          clear hS2 f1 f2 f4 f5 f6
          obtain ⟨rfl, gT, cT, hS⟩ := hcut
          have hlw := hS.old.size
          have hlen := hdA_length (w.heap.size + 2) t kb kt L
          have hlenF := hdF_length (w.heap.size + 2) t kb kt L
          have HF : Hid ((hdF (w.heap.size + 2) t kb kt L).length = (hdA (w.heap.size + 2) t kb kt L).length) := hlenF
          clear hlenF
          go_upto_region 20 with (at_builtin; refine wpList_append_lies _ rfl (.tmp 92) (.tmp 94) 43 rfl w.heap.size 24 i24 (.pointer none) 1 8 Yba.underlying43 hi24 hz24a hz24b hz24c rfl (by decide) _ _ _ rfl (hS.all.alloc _) ⟨wc.heap.size, 0, none⟩ 1 1 [.pointer (some ⟨xx, 0, none⟩)] rfl rfl (cell_one_new _ _ _) (by simp [Value.oneCell']) (by omega) (by unfold maxLen; omega) (by omega) (by simp; omega) _ rfl ?_; intro gA cA W4 hoA hgA hatA hltA)
          have hS4 := (hS.below ((Below.refl _ _).alloc (Nat.le_refl _) _)).appA hgA hoA hatA
          clear hS hoA hgA hatA hltA
          have hl4 := hS4.old.size
          have hlenF2 : (hdF (w.heap.size + 2) t kb kt L).length ≤ L.length + 2 := by rw [HF.out]; exact hlen
          go_wp2_with (at_builtin; refine wpList_append_lies _ rfl (.tmp 96) (.tmp 98) 22 rfl w.heap.size 4 i4 (.bool false) 1 1 Yba.underlying22 hi4 hz4a hz4b hz4c rfl (by decide) _ _ _ rfl (hS4.flg.alloc _) ⟨W4.heap.size, 0, none⟩ 1 1 [.bool (bs L.length)] rfl rfl (cell_one_new _ _ _) (by simp [Value.oneCell']) (by omega) (by unfold maxLen; omega) (by omega) (by simp; omega) _ rfl ?_; intro gF cF W5 hoF hgF hatF hltF)
          have hS5 := (hS4.below ((Below.refl _ _).alloc (Nat.le_refl _) _)).appF hgF hoF
          clear hS4 hoF hgF hatF hltF
          go_wp2
          go_roundw
          case rel => exact ⟨L.length + 1, L ++ [(xx, t')], _, by omega, by go_num, by simp, by rw [hdA_snoc, hdF_snoc, ht']; exact hS5⟩
          case measure => simp [intOf]; omega
      · --TAIL
        have hln : L.length = n := by omega
        have hge : ¬ ((L.length : Int) < (n : Int)) := by omega
        clear hc hkn hlt
        have hA0 : 0 < (hdA (w.heap.size + 2) t kb kt L).length := by simp [hdA, hds]
        have hFA := hdF_length (w.heap.size + 2) t kb kt L
        obtain ⟨gA, cA, rfl, _, _⟩ := hS.all.form hA0
        obtain ⟨gF, cF, rfl, _, _⟩ := hS.flg.form (by rw [hFA]; exact hA0)
        have hlA := hdA_length (w.heap.size + 2) t kb kt L
        obtain ⟨H, hH⟩ : ∃ H, hds (w.heap.size + 2) t kb kt L = H := ⟨_, rfl⟩
        have eA : hdA (w.heap.size + 2) t kb kt L = H.map (·.1) := by rw [← hH]; rfl
        have eF : hdF (w.heap.size + 2) t kb kt L = H.map (·.2.isSome) := by rw [← hH]; rfl
        rw [eF] at hS
        rw [eA] at hS hlA hA0 ⊢
        rw [eF]
        simp only [List.length_map] at hS hlA hA0 ⊢
        have HL : Hid (L.length = n) := hln
        have HH : Hid (hds (w.heap.size + 2) t kb kt L = H) := hH
        have hnA : H.length ≤ 1026 := by omega
        clear hln hFA hlA eA eF hH
        go_wp2_with fail
        clear hge
        go_loopw [20, 103] (fun vW i wr => ∃ (j : Nat), j ≤ H.length ∧ i = .int .i64 j ∧ St w wr (w.heap.size + 2) mo t kb kt L (H.map (·.1)) (H.map (·.2.isSome)) (.slice (some ⟨gA, 0, none⟩) H.length cA) (.slice (some ⟨gF, 0, none⟩) H.length cF) vT ∧
            wr.ownsRow w.heap.size 24 1 vW (wants H j).length ((wants H j).map ptr) ∧ (some gA ≠ vW.ownBlock) ∧ (vT.ownBlock = none ∨ vT.ownBlock ≠ vW.ownBlock))
          (fun _ i _ => H.length - (intOf i).toNat)
        case atStart => exact ⟨0, Nat.zero_le _, rfl, hS, World.ownsRow_nil _ _ _ _, by simp [Value.ownBlock], by rcases vT.ownBlock with _ | x <;> simp [Value.ownBlock]⟩
        case round =>
          clear hS
          obtain ⟨j, hj, rfl, hS, hW, hd1, hd2⟩ := hrel
          by_cases hlt : j < H.length
          · obtain ⟨x, tj, hHj⟩ : ∃ x tj, H[j] = (x, tj) := ⟨_, _, rfl⟩
            have hws := wants_succ H j hlt
            rw [hHj] at hws
            have HWS : Hid (wants H (j + 1) = wants H j ++ came x tj) := hws
            have hc1 : wr.cell? ⟨gA, j, none⟩ = some (.pointer (some ⟨x, 0, none⟩)) := by
              have h1 := hS.all
              rw [List.length_map] at h1
              rw [h1.cellAt j (by omega)]
              simp [hlt, hHj, ptr]
            have hc2 : wr.cell? ⟨gF, j, none⟩ = some (.bool tj.isSome) := by
              have h1 := hS.flg
              rw [List.length_map] at h1
              rw [h1.cellAt j (by omega)]
              simp [hlt, hHj]
            have hlw := hS.old.size
            have hwl := wants_length H j
            have i0 : (0 : Int) ≤ (j : Int) := by omega
            have i1 : (j : Int) < (H.length : Int) := by omega
            clear hws hHj
            cases htj : tj.isSome with
            | true =>
              rw [htj] at hc2
              have hcm : came x tj = [x] := by simp [came, htj]
              have HWS' : Hid (wants H (j + 1) = wants H j ++ [x]) := by rw [← hcm]; exact HWS
              clear hcm HWS htj
              go_wp2_with (at_builtin; refine wpList_append_lies _ rfl (.tmp 112) (.tmp 114) 43 rfl w.heap.size 24 i24 (.pointer none) 1 8 Yba.underlying43 hi24 hz24a hz24b hz24c rfl (by decide) _ _ _ rfl (hW.alloc _) ⟨wr.heap.size, 0, none⟩ 1 1 [.pointer (some ⟨x, 0, none⟩)] rfl rfl (cell_one_new _ _ _) (by simp [Value.oneCell']) (by omega) (by unfold maxLen; omega) (by omega) (by simp; omega) _ rfl ?_; intro gW cW W5 hoW hgW hatW hltW)
              have hS' := hS.below ((Below.refl _ _).alloc (Nat.le_refl _) (.cells #[.pointer (some ⟨x, 0, none⟩)] 24))
              have hS5 := hS'.appW (hW.alloc _) (.inr hd1) hd2 hgW
              have hd1' := apart_of_at hS'.all (vW := _) (.inr hd1) hatW
              have hd2' := apart_of_at hS'.att (vW := _) hd2 hatW
              clear hS hS' hgW hatW hltW hW hd1 hd2 hc1 hc2
              go_wp2
              go_roundw
              case rel =>
                refine ⟨j + 1, by omega, by go_num, hS5, ?_, ?_, ?_⟩
                · rw [HWS'.out]; simp only [List.map_append, List.map_cons, List.map_nil, List.length_append, List.length_cons, List.length_nil]; exact hoW
                · rcases hd1' with h | h
                  · cases h
                  · exact h
                · exact hd2'
              case measure => simp [intOf]; omega
            | false =>
              rw [htj] at hc2
              have hcm : came x tj = [] := by simp [came, htj]
              have HWS' : Hid (wants H (j + 1) = wants H j) := by have := HWS.out; rw [hcm, List.append_nil] at this; exact this
              clear hcm HWS htj
              go_wp2
              go_roundw
              case rel => exact ⟨j + 1, by omega, by go_num, hS, by rw [HWS'.out]; exact hW, hd1, hd2⟩
              case measure => simp [intOf]; omega
          · --TAIL2
            obtain rfl : j = H.length := by omega
            have hwl := wants_length H H.length
            have hge2 : ¬ ((H.length : Int) < (H.length : Int)) := by omega
            obtain ⟨S, hSS⟩ : ∃ S, wants H H.length = S := ⟨_, rfl⟩
            rw [hSS] at hW hwl
            have HSS : Hid (wants H H.length = S) := hSS
            have hlw := hS.old.size
            clear hlt hj hSS hA0 hge2
            obtain ⟨aW, cW, rfl⟩ : ∃ aW cW, u20 = .slice aW S.length cW := by
              rcases hW.2 with ⟨hv, hx⟩ | ⟨g, cp, cur, hv, _⟩
              · exact ⟨none, 0, by rw [hv, hx]⟩
              · exact ⟨_, _, hv⟩
            have hr0 : 0 ≤ stop % ((H.length : Int) + 2) := Int.emod_nonneg _ (by omega)
            go_upto_if 126 with fail
            generalize stop % ((H.length : Int) + 2) = r at hr0 ⊢
            go_cut [23] from 126 to 128 (fun v wx => v = .pointer (some ⟨wr.heap.size, 0, none⟩) ∧ ∃ lim : Nat, lim ≤ S.length ∧ wx = wr.alloc (.cells #[.int .i64 lim] 3))
            case first =>
              by_cases hr : (S.length : Int) < r
              · go_wp2_with fail
                go_meet
                case rel => exact ⟨rfl, S.length, Nat.le_refl _, by simp⟩
              · go_wp2_with fail
                go_meet
                case rel => exact ⟨rfl, r.toNat, by omega, by rw [Int.toNat_of_nonneg hr0]⟩
            case rest =>
              clear hr0
              obtain ⟨rfl, lim, hlim, rfl⟩ := hcut
              obtain ⟨cs, hdb, hbuild⟩ := mgr_made (some ⟨w.heap.size + 2, 0, none⟩)
              go_upto_region 33 with (refine wpList_build_one rfl 78 6 (.tmp 129) rfl (.pointer (some ⟨w.heap.size + 2, 0, none⟩)) rfl cs hbuild ?_)
              obtain ⟨w0, hw0⟩ : ∃ w0, (wr.alloc (.cells #[.int .i64 lim] 3)).alloc (.cells cs 78) = w0 := ⟨_, rfl⟩
              have hb0 : Below wr.heap.size wr w0 := by rw [← hw0]; exact ((Below.refl _ _).alloc (Nat.le_refl _) _).alloc (by simp) _
              have hl0 : w0.heap[wr.heap.size]? = some (.cells #[.int .i64 lim] 3 (0, 0)) := by rw [← hw0, Below.heap_alloc _ _ _ (by simp)]; exact World.alloc_heap_new _ _
              have hd0 : w0.cell? ⟨wr.heap.size + 1, 2388, none⟩ = some (.pointer (some ⟨w.heap.size + 2, 0, none⟩)) := by
                have h1 : w0.heap[wr.heap.size + 1]? = some (.cells cs 78 (0, 0)) := by rw [← hw0]; have := World.alloc_heap_new (wr.alloc (.cells #[.int .i64 lim] 3)) (.cells cs 78); rwa [World.size_alloc] at this
                simp [World.cell?, h1, hdb]
              have hs0' : w0.heap.size = wr.heap.size + 2 := by rw [← hw0]; simp
              have hS0 := hS.below hb0
              have hW0 := own_below hW hb0
              clear hbuild hdb
              rw [hw0]
              clear hw0 hS hW
              go_wp2_with fail
              refine (busy6 _ _).mono ?_
              rintro e W9 ⟨rfl, rfl⟩
              go_wp2_with fail
              obtain ⟨aT, cT, hvT, hR⟩ := hS0.rowAt
              obtain ⟨W9, hW9⟩ : ∃ W9, (w0.alloc (.cells #[.slice none 0 0] 43)).alloc (.cells #[.pointer (some ⟨wr.heap.size + 1, 0, none⟩)] 46) = W9 := ⟨_, rfl⟩
              have hb9 : Below w0.heap.size w0 W9 := by rw [← hW9]; exact ((Below.refl _ _).alloc (Nat.le_refl _) _).alloc (by simp) _
              have hg9 : Boxed W9 w0.heap.size 43 (.slice none 0 0) := by rw [← hW9]; exact (Boxed.new w0 43 (.slice none 0 0)).alloc _
              have hm9 : W9.heap[wr.heap.size + 3]? = some (.cells #[.pointer (some ⟨wr.heap.size + 1, 0, none⟩)] 46 (0, 0)) := by rw [← hW9]; have := World.alloc_heap_new (w0.alloc (.cells #[.slice none 0 0] 43)) (.cells #[.pointer (some ⟨wr.heap.size + 1, 0, none⟩)] 46); rwa [World.size_alloc, hs0'] at this
              have hz9 : W9.heap.size = wr.heap.size + 4 := by rw [← hW9]; simp [hs0']
              have hSr : busyRow (w.heap.size + 2) t kb kt (fun k => (L.getD k (0, none)).1) (fun k => (L.getD k (0, none)).2) L.length = S := by
                rw [busyRow_eq, HH.out]; exact HSS.out
              have hLn : L.length ≤ 1024 := by rw [HL.out]; exact hn
              rw [hW9]
              refine wp_range_brk (mb := wr.heap.size + 3) w0 S ?geval rfl ?seq (Got w0 lim) (got_mine w0 lim (by omega)) (fun q => q.length = lim) (got_fresh w0 lim) (fun _ _ h => h.2.1) ⟨⟨_, hg9, World.ownsRow_nil _ _ _ _⟩, hb9, Nat.zero_le _⟩ 134 26 ?assign ?body ?fin
              case geval => rfl
              case seq =>
                intro l J Jx W hB hJ hbW
                refine it8 S hB (w.heap.size + 2) (wr.heap.size + 1) (wr.heap.size + 3) W hJ (by omega) ((hbW.block _ (by omega)).trans hm9) hd0 ?_
                intro yb W1 hJ1 hyb hm1 hy1
                rw [← hSr]
                exact heads_row hB _ mo _ _ yb t kb kt aT _ cT _ _ W1 hJ1 hR hLn (by omega) hyb hm1 hy1
              case assign =>
                intro l x W K hK
                gi_wp2
                exact hK
              case body =>
                rintro l pre x W ⟨⟨v, hv, hrow⟩, hB, hl⟩
                have hc := hv.cell
                rw [hs0'] at hc
                have hlc : W.cell? ⟨wr.heap.size, 0, none⟩ = some (.int .i64 lim) := (hB.cell (p := ⟨wr.heap.size, 0, none⟩) (by simp; omega)).trans (cell_of_cells hl0)
                obtain ⟨a, c, rfl⟩ : ∃ a c, v = .slice a pre.length c := by
                  rcases hrow.2 with ⟨hv, hx⟩ | ⟨g, cp, cur, hv, _⟩
                  · exact ⟨none, 0, by rw [hv, hx]⟩
                  · exact ⟨_, _, hv⟩
                by_cases heq : pre.length = lim
                · have hdec : ((pre.length : Int) = (lim : Int)) := by omega
                  gi_wp2
                  exact ⟨KeepsOthers.refl _, Kept.refl _ _, rfl, pre, x, rfl, heq, ⟨_, hv, hrow⟩, hB, hl⟩
                · have hdec : ¬ ((pre.length : Int) = (lim : Int)) := by omega
                  gi_wp2_with (gi_at_builtin; refine wpListIn_append_own _ rfl _ _ 43 rfl w0.heap.size 24 i24 (.pointer none) 1 8 Yba.underlying43 hi24 hz24a hz24b hz24c rfl (by decide) _ _ _ rfl (hrow.alloc _) ⟨W.heap.size, 0, none⟩ 1 1 [.pointer (some ⟨x, 0, none⟩)] rfl rfl (cell_one_new _ _ _) (by simp [Value.oneCell']) (by unfold maxLen; omega) (by omega) (by have := hB.size; simp; omega) ?_; intro v' w1 hown' hgrow _; obtain ⟨g', cap', rfl⟩ := ownsRow_succ hown'; obtain ⟨hv1, hv2, hr2, hk2, hb2⟩ := hv.appended (by decide) hrow hB.size (Nat.le_refl _) hown' hgrow; have hc1 := hv1.cell; have hf1 := hv1.frozen; rw [hs0'] at hc1 hf1)
                  have e9 : wr.heap.size + 2 = w0.heap.size := hs0'.symm
                  rw [e9]
                  exact ⟨hk2, kept_appended hrow hgrow, ⟨_, hv2, by simp only [List.map_append, List.map_cons, List.map_nil, List.length_append, List.length_cons, List.length_nil]; exact hr2⟩, hB.trans hb2, by simp; omega⟩
              case fin =>
                intro D W hD hfin hK
                obtain ⟨q, hq, hql, ⟨⟨v, hv, hrow⟩, hB, _⟩⟩ : ∃ q, q <+: S ∧ q.length = lim ∧ Got w0 lim q W := by
                  rcases hfin with h | ⟨q, hq, hl, h⟩
                  · exact ⟨S, List.prefix_refl _, Nat.le_antisymm h.2.2 hlim, h⟩
                  · exact ⟨q, hq, hl, h⟩
                clear hfin
                subst hql
                have hc := hv.cell
                rw [hs0'] at hc
                have hlc : W.cell? ⟨wr.heap.size, 0, none⟩ = some (.int .i64 q.length) := (hB.cell (p := ⟨wr.heap.size, 0, none⟩) (by simp; omega)).trans (cell_of_cells hl0)
                have hWW := own_below hW0 hB
                obtain ⟨a, c, rfl⟩ : ∃ a c, v = .slice a q.length c := by
                  rcases hrow.2 with ⟨hv, hx⟩ | ⟨g, cp, cur, hv, _⟩
                  · exact ⟨none, 0, by rw [hv, hx]⟩
                  · exact ⟨_, _, hv⟩
                have hbw9 : Below w.heap.size w W := (hS0.old).trans (hB.mono hS0.old.size)
                clear hS0 hW0 hb0 hl0 hd0 hR hb9 hg9 hm9 hSr hLn hvT hW9 hv
                go_wp2_with fail
                go_loopw [149] (fun i wx => ∃ k : Nat, k ≤ q.length ∧ i = .int .i64 k ∧ Below W.heap.size W wx) (fun i _ => q.length - (intOf i).toNat)
                case atStart => exact ⟨0, Nat.zero_le _, rfl, Below.refl _ _⟩
                case round =>
                  obtain ⟨k, hk', rfl, hbx⟩ := hrel
                  by_cases hlt : k < q.length
                  · have hS0' : 0 < S.length := by omega
                    obtain ⟨g, cq, hgq, _, _⟩ := hrow.form (by omega)
                    obtain ⟨g2, cq2, hgq2, _, _⟩ := hWW.form hS0'
                    cases hgq
                    cases hgq2
                    obtain ⟨x, hx⟩ : ∃ x, q[k]? = some x := ⟨_, List.getElem?_eq_getElem hlt⟩
                    have hx2 : S[k]? = some x := by
                      obtain ⟨r, rfl⟩ := hq
                      rw [List.getElem?_append_left hlt]; exact hx
                    have c1 : wr.cell? ⟨g, k, none⟩ = some (.pointer (some ⟨x, 0, none⟩)) := by
                      have h := hrow.cellAt k (by simpa using hlt)
                      rw [List.getElem?_map, hx] at h
                      exact (hbx.cell (p := ⟨g, k, none⟩) (World.block_lt_of_cell? _ _ h)).trans h
                    have c2 : wr.cell? ⟨g2, k, none⟩ = some (.pointer (some ⟨x, 0, none⟩)) := by
                      have h := hWW.cellAt k (by simp; omega)
                      rw [List.getElem?_map, hx2] at h
                      exact (hbx.cell (p := ⟨g2, k, none⟩) (World.block_lt_of_cell? _ _ h)).trans h
                    have c3 := (hbx.cell (p := ⟨_, 0, none⟩) (World.block_lt_of_cell? _ _ hc)).trans hc
                    have i0 : (0 : Int) ≤ (k : Int) := by omega
                    have i1 : (k : Int) < (q.length : Int) := by omega
                    have i2 : (k : Int) < (S.length : Int) := by omega
                    have i3 : k < S.length := by omega
                    clear hc hlc hx hx2 hrow hWW
                    go_upto_region 43 with fail
                    go_quiet (fail)
                    go_wp2
                    exact ⟨⟨k + 1, by omega, by go_num, below_drewN hbx _⟩, by simp [intOf]; omega⟩
                  · obtain rfl : k = q.length := by omega
                    have hkk : ¬ ((q.length : Int) < (q.length : Int)) := by omega
                    have hKx := (hbx.block _ (Array.getElem?_eq_some_iff.1 hK).1).trans hK
                    clear hc hlc hrow hWW
                    go_wp2
                    refine ⟨by simp, .inl ⟨_, _, rfl, run_takeDeferred hKx, ?_⟩⟩
                    exact ⟨_, results_tmp rfl _ _ _, rfl, below_putObj (hbw9.trans (hbx.mono hbw9.size)) (by omega) _⟩
end Go.Proofs.Ybulkcmsy
