/-
  Seat b6625867a: FnEveryFilterNumbersEachFilterOnceInFreshSlice: the walk.
-/
import Derived.Test.Qxb6625867aJoin
namespace Go.Proofs.Qxb6625867a
open Go.RowKit

theorem Try.info4 : (Try.prog.info? 4).map (fun i => (i.zero, i.size, i.bytes)) = some (some (.bool false), 1, 1) := by kernel_rfl

theorem made_false (n j : Nat) (h : j < n) : ((madeCells #[Value.bool false] n).toList)[j]? = some (.bool false) := by
  rw [toList_madeCells_one]
  simp [h]

set_option maxHeartbeats 4000000 in
set_option maxRecDepth 100000 in
theorem fresh_main (fo g1 g2 g3 : Option Addr) (cf c1 c2 c3 : Nat) (n : Nat) (z1 z2 z3 : List Int) (fs : List Rw) (w : World) (hf : FView w fo fs) (hfn : fs.length = n)
    (v1 : IView .i64 w g1 z1) (v2 : IView .u32 w g2 z2) (v3 : IView .i64 w g3 z3) (hz1 : z1.length = n) (hn : n ≤ 65536) (hz2 : z2.length ≤ 1048576) (hz3 : z3.length ≤ 1048576) :
    Calls Try.prog 4 #[.slice fo n cf, .slice g1 n c1, .slice g2 z2.length c2, .slice g3 z3.length c3] w fun e w' => e = .returned (.bool true) ∧ Below w.heap.size w w' := by
  have q23 : ∀ (w : World) (a : Option Addr) (n c n' c' : Nat), (binOp .neq 23 (.slice a n c) (.slice none n' c')).run Try.prog w = .ok (.bool a.isSome) w := fun w a n c n' c' => by
    have := run_neq_slice_nil_any (P := Try.prog) w 23 3 a n c n' c' Try.underlying23
    simpa using this
  have q24 : ∀ (w : World) (a : Option Addr) (n c n' c' : Nat), (binOp .neq 24 (.slice a n c) (.slice none n' c')).run Try.prog w = .ok (.bool a.isSome) w := fun w a n c n' c' => by
    have := run_neq_slice_nil_any (P := Try.prog) w 24 47 a n c n' c' Try.underlying24
    simpa using this
  obtain ⟨i3, hi3, hx0, hx1, hx2⟩ := info_parts Try.info3
  obtain ⟨i4, hi4, hy0, hy1, hy2⟩ := info_parts Try.info47
  obtain ⟨i5, hi5, hu0, hu1, hu2⟩ := info_parts Try.info4
  obtain ⟨i6, hi6, hs0, hs1, hs2⟩ := info_parts Try.info31
  have HZ1 : Hid (z1.length = n) := hz1
  have HFN : Hid (fs.length = n) := hfn
  have hnb : n ≤ 1048576 := by omega
  clear hz1 hfn
  go_enter Try.func4, Try.ntmps4
  go_wp2_with fail
  have zz := zz9_any fo g1 g2 g3 cf c1 c2 c3 n z2.length z3.length fs w hf (by rw [HFN.out]; unfold maxLen; omega) (by unfold maxLen; omega) (by unfold maxLen; omega) (by unfold maxLen; omega)
  rw [HFN.out] at zz
  refine zz.mono ?_
  rintro e w' ⟨bz, rfl, hw', _⟩
  subst hw'
  clear zz
  cases bz with
  | false =>
    go_wp2
    go_ret
    exact ⟨rfl, Below.refl _ _⟩
  | true =>
    go_wp2_with fail
    have ov := over_any fo g1 g2 g3 cf c1 c2 c3 n z2.length z3.length fs w' hf (by rw [HFN.out]; omega) hnb hz2 hz3
    rw [HFN.out] at ov
    refine ov.mono ?_
    rintro e w2 ⟨bo, rfl, hw2, _⟩
    subst hw2
    clear ov hf
    cases bo with
    | true =>
      go_wp2
      go_ret
      exact ⟨rfl, Below.refl _ _⟩
    | false =>
      have bZ : Below w2.heap.size w2 w2 := Below.refl _ _
      go_upto_if 43 with fail
      go_cut [1] from 23 (fun g wc => ∃ ga gc, g = .slice ga n gc ∧ Below w2.heap.size w2 wc)
      case first =>
        cases g1 with
        | none =>
          go_wp2
          go_meet
          case rel => exact ⟨none, _, rfl, bZ⟩
        | some a1 =>
          obtain ⟨R, hR⟩ : ∃ R, R = w2.heap.size := ⟨_, rfl⟩
          have hRle : R ≤ w2.heap.size := by omega
          have hRge : w2.heap.size ≤ R := by have := (bZ).size; omega
          go_wp2_with (at_make; refine wpList_make_full _ rfl (.tmp 45) (.tmp 45) 23 rfl R 3 i3 (.int .i64 0) 1 Try.underlying23 hi3 hx0 hx1 .i64 .i64 _ _ n rfl rfl rfl rfl (by rw [hx2]; omega) (by unfold maxLen; omega) hRle ?_)
          intro w3 hown hgrow
          rw [← hR] at hown ⊢
          clear hR
          obtain ⟨cur, hcur, hcl⟩ := own_block hown
          have b3' : Below w2.heap.size w2 w3 := (Below.refl _ w2).grown hgrow (Nat.le_refl _) (fun k hk => by cases hk)
          have b3 : Below w2.heap.size w2 w3 := bZ.trans (b3'.mono bZ.size)
          have s3 := (v1.below bZ).below b3'
          obtain ⟨cs, hcs⟩ : ∃ cs, cs = z1.map (Value.int .i64) := ⟨_, rfl⟩
          have HSRC : Hid (0 < cs.length → (some (⟨R, 0, none⟩ : Addr)) = some ⟨R, 0, none⟩ ∧ ∃ ad, some a1 = some ad ∧ ∀ j v, cs[j]? = some v → w3.cell? (ad.add j) = some v) := fun hp => ⟨rfl, by rw [hcs] at hp ⊢; exact s3.source hp⟩
          have hone : ∀ v ∈ cs, v.oneCell' = true := by rw [hcs]; exact ints_one _ _
          have HLEN : Hid (cs.length = Nat.min n n) := by rw [hcs, List.length_map, HZ1.out]; exact (Nat.min_self _).symm
          have hfit : 0 + cs.length ≤ cur.length := by rw [HLEN.out, hcl]; simp
          have HCUR : Hid (w3.heap[R]? = some (.cells cur.toArray 3 (0, 0))) := hcur
          clear hcs hgrow hown s3 hcur b3'
          go_wp2_with (refine wpList_copy_splice rfl (.tmp 47) (.tmp 48) 23 23 rfl 3 Try.underlying23 Try.size3 (some ⟨R, 0, none⟩) (some a1) n n n c1 (by rfl) (by rfl) R 0 cur 3 HCUR.out cs HLEN.out HSRC.out hfit hone w2.heap.size w2 b3 hRge ?_)
          intro w4 _ b4
          go_wp2
          go_meet
          case rel => exact ⟨_, _, rfl, b4⟩
      case rest =>
        obtain ⟨ga, gc, rfl, bA⟩ := hcut
        clear v1 bZ
        go_upto_if 52 with fail
        go_cut [2] from 23 (fun g wc => ∃ ga gc, g = .slice ga z2.length gc ∧ Below w2.heap.size w2 wc)
        case first =>
          cases g2 with
          | none =>
            go_wp2
            go_meet
            case rel => exact ⟨none, _, rfl, bA⟩
          | some a1 =>
            obtain ⟨R, hR⟩ : ∃ R, R = wc.heap.size := ⟨_, rfl⟩
            have hRle : R ≤ wc.heap.size := by omega
            have hRge : w2.heap.size ≤ R := by have := (bA).size; omega
            go_wp2_with (at_make; refine wpList_make_full _ rfl (.tmp 54) (.tmp 54) 24 rfl R 47 i4 (.int .u32 0) 1 Try.underlying24 hi4 hy0 hy1 .i64 .i64 _ _ z2.length rfl rfl rfl rfl (by rw [hy2]; omega) (by unfold maxLen; omega) hRle ?_)
            intro w3 hown hgrow
            rw [← hR] at hown ⊢
            clear hR
            obtain ⟨cur, hcur, hcl⟩ := own_block hown
            have b3' : Below wc.heap.size wc w3 := (Below.refl _ wc).grown hgrow (Nat.le_refl _) (fun k hk => by cases hk)
            have b3 : Below w2.heap.size w2 w3 := bA.trans (b3'.mono bA.size)
            have s3 := (v2.below bA).below b3'
            obtain ⟨cs, hcs⟩ : ∃ cs, cs = z2.map (Value.int .u32) := ⟨_, rfl⟩
            have HSRC : Hid (0 < cs.length → (some (⟨R, 0, none⟩ : Addr)) = some ⟨R, 0, none⟩ ∧ ∃ ad, some a1 = some ad ∧ ∀ j v, cs[j]? = some v → w3.cell? (ad.add j) = some v) := fun hp => ⟨rfl, by rw [hcs] at hp ⊢; exact s3.source hp⟩
            have hone : ∀ v ∈ cs, v.oneCell' = true := by rw [hcs]; exact ints_one _ _
            have HLEN : Hid (cs.length = Nat.min z2.length z2.length) := by rw [hcs, List.length_map]; exact (Nat.min_self _).symm
            have hfit : 0 + cs.length ≤ cur.length := by rw [HLEN.out, hcl]; simp
            have HCUR : Hid (w3.heap[R]? = some (.cells cur.toArray 47 (0, 0))) := hcur
            clear hcs hgrow hown s3 hcur b3'
            go_wp2_with (refine wpList_copy_splice rfl (.tmp 56) (.tmp 57) 24 24 rfl 47 Try.underlying24 Try.size47 (some ⟨R, 0, none⟩) (some a1) z2.length z2.length z2.length c2 (by rfl) (by rfl) R 0 cur 47 HCUR.out cs HLEN.out HSRC.out hfit hone w2.heap.size w2 b3 hRge ?_)
            intro w4 _ b4
            go_wp2
            go_meet
            case rel => exact ⟨_, _, rfl, b4⟩
        case rest =>
          obtain ⟨gb, gbc, rfl, bB⟩ := hcut
          obtain ⟨w5, hw5⟩ : ∃ x, x = wc := ⟨_, rfl⟩
          subst hw5
          clear v2 bA
          go_upto_if 61 with fail
          go_cut [3] from 23 (fun g wc => ∃ ga gc, g = .slice ga z3.length gc ∧ Below w2.heap.size w2 wc)
          case first =>
            cases g3 with
            | none =>
              go_wp2
              go_meet
              case rel => exact ⟨none, _, rfl, bB⟩
            | some a1 =>
              obtain ⟨R, hR⟩ : ∃ R, R = w5.heap.size := ⟨_, rfl⟩
              have hRle : R ≤ w5.heap.size := by omega
              have hRge : w2.heap.size ≤ R := by have := (bB).size; omega
              go_wp2_with (at_make; refine wpList_make_full _ rfl (.tmp 63) (.tmp 63) 23 rfl R 3 i3 (.int .i64 0) 1 Try.underlying23 hi3 hx0 hx1 .i64 .i64 _ _ z3.length rfl rfl rfl rfl (by rw [hx2]; omega) (by unfold maxLen; omega) hRle ?_)
              intro w3 hown hgrow
              rw [← hR] at hown ⊢
              clear hR
              obtain ⟨cur, hcur, hcl⟩ := own_block hown
              have b3' : Below w5.heap.size w5 w3 := (Below.refl _ w5).grown hgrow (Nat.le_refl _) (fun k hk => by cases hk)
              have b3 : Below w2.heap.size w2 w3 := bB.trans (b3'.mono bB.size)
              have s3 := (v3.below bB).below b3'
              obtain ⟨cs, hcs⟩ : ∃ cs, cs = z3.map (Value.int .i64) := ⟨_, rfl⟩
              have HSRC : Hid (0 < cs.length → (some (⟨R, 0, none⟩ : Addr)) = some ⟨R, 0, none⟩ ∧ ∃ ad, some a1 = some ad ∧ ∀ j v, cs[j]? = some v → w3.cell? (ad.add j) = some v) := fun hp => ⟨rfl, by rw [hcs] at hp ⊢; exact s3.source hp⟩
              have hone : ∀ v ∈ cs, v.oneCell' = true := by rw [hcs]; exact ints_one _ _
              have HLEN : Hid (cs.length = Nat.min z3.length z3.length) := by rw [hcs, List.length_map]; exact (Nat.min_self _).symm
              have hfit : 0 + cs.length ≤ cur.length := by rw [HLEN.out, hcl]; simp
              have HCUR : Hid (w3.heap[R]? = some (.cells cur.toArray 3 (0, 0))) := hcur
              clear hcs hgrow hown s3 hcur b3'
              go_wp2_with (refine wpList_copy_splice rfl (.tmp 65) (.tmp 66) 23 23 rfl 3 Try.underlying23 Try.size3 (some ⟨R, 0, none⟩) (some a1) z3.length z3.length z3.length c3 (by rfl) (by rfl) R 0 cur 3 HCUR.out cs HLEN.out HSRC.out hfit hone w2.heap.size w2 b3 hRge ?_)
              intro w4 _ b4
              go_wp2
              go_meet
              case rel => exact ⟨_, _, rfl, b4⟩
          case rest =>
            obtain ⟨gd, gdc, rfl, bD⟩ := hcut
            obtain ⟨w6, hw6⟩ : ∃ x, x = wc := ⟨_, rfl⟩
            subst hw6
            clear v3 bB hi3 hx0 hx1 hx2 hi4 hy0 hy1 hy2 q23 q24
            go_wp2_with fail
            refine (new_any fo ga gb gd n cf n gc z2.length gbc z3.length gdc _).mono ?_
            rintro e w7 ⟨B7, rfl, sd7, b7⟩
            go_wp2_with fail
            refine (zzevery_any B7 n _ sd7 hnb).mono ?_
            rintro e w8 ⟨gF, rfl, ow8, b8⟩
            have b67 : Below w2.heap.size w2 w7 := bD.trans (b7.mono bD.size)
            have hgF := ow8.lt gF rfl
            clear b7 bD
            go_wp2_with (at_make; refine wpList_make_full _ rfl (.tmp 82) (.tmp 82) 32 rfl w8.heap.size 4 i5 (.bool false) 1 Try.underlying32 hi5 hu0 hu1 .i64 .i64 _ _ n rfl rfl rfl rfl (by rw [hu2]; omega) (by unfold maxLen; omega) (Nat.le_refl _) ?_)
            intro w9 own9 hgrow9
            obtain ⟨S, hS⟩ : ∃ S, S = w8.heap.size := ⟨_, rfl⟩
            rw [← hS] at own9 ⊢
            have hSle : S ≤ w8.heap.size := by omega
            have hSge : w8.heap.size ≤ S := by omega
            have b9 : Below S w8 w9 := (Below.refl S w8).grown hgrow9 hSle (fun k hk => by cases hk)
            have CF : Hid (∀ k, k < n → w8.cell? ⟨gF, k, none⟩ = some (.int .u64 k)) := fun k hk => (ow8.cellAt k (by omega)).trans (nums_get n k hk)
            obtain ⟨mc, own9m, hst0⟩ : ∃ mc, w9.ownsRow S 4 1 (.slice (some ⟨S, 0, none⟩) n n) n mc ∧ ∀ j, 0 ≤ j → j < n → mc[j]? = some (.bool false) := ⟨_, own9, fun j _ h => by simpa using made_false n j h⟩
            have HST : Hid (∀ j, 0 ≤ j → j < n → mc[j]? = some (.bool false)) := hst0
            clear hS hgrow9 hst0 own9
            go_wp2_with fail
            go_loopw [16] (fun i wr => ∃ (k : Nat) (cells : List Value), k ≤ n ∧ i = .int .i64 k ∧ Below S w8 wr ∧ wr.ownsRow S 4 1 (.slice (some ⟨S, 0, none⟩) n n) n cells ∧ (∀ j, k ≤ j → j < n → cells[j]? = some (.bool false))) (fun i _ => n - (intOf i).toNat)
            case atStart => exact ⟨0, _, Nat.zero_le _, rfl, b9, own9m, HST.out⟩
            case round =>
              clear b9 own9m HST
              obtain ⟨k, cells, hk, rfl, d, own, hfl⟩ := hrel
              by_cases hlt : k < n
              · have m1 := CF.out k hlt
                have n1 : wr.cell? ⟨gF, k, none⟩ = some (.int .u64 k) := (d.cell (p := ⟨gF, k, none⟩) (Nat.lt_of_lt_of_le (World.block_lt_of_cell? w8 _ m1) hSge)).trans m1
                have n2 : wr.cell? ⟨S, k, none⟩ = some (.bool false) := (own.cellAt k (by omega)).trans (hfl k (Nat.le_refl _) hlt)
                have n3 := own.frozenAt k
                have hst := (own.stored k (.bool true)).1
                have HS : Hid ((wr.setCell ⟨S, k, none⟩ (.bool true)).ownsRow S 4 1 (.slice (some ⟨S, 0, none⟩) n n) n (cells.set k (.bool true))) := hst
                have HF : Hid (∀ j, k + 1 ≤ j → j < n → (cells.set k (.bool true))[j]? = some (.bool false)) := fun j h1 h2 => by rw [List.getElem?_set_ne (by omega)]; exact hfl j (by omega) h2
                have j0 : (0 : Int) ≤ (k : Int) := by omega
                have j1 : (k : Int) < (n : Int) := by omega
                have j2 : ¬ (n : Int) ≤ (k : Int) := by omega
                clear m1 hst hfl own
                go_wp2
                go_roundw
                case rel => exact ⟨k + 1, _, by omega, by go_num, d.setCell (Nat.le_refl S) _, HS.out, HF.out⟩
                case measure => simp [intOf]; omega
              · -- keep
                have d8 : Below w8.heap.size w8 wr := d.mono hSge
                have owF := owns_below ow8 d8
                have b7r : Below w7.heap.size w7 wr := b8.trans (d8.mono b8.size)
                have hgFr : gF < wr.heap.size := (owF.lt gF rfl).2
                obtain ⟨wa, hwa⟩ : ∃ x, x = wr := ⟨_, rfl⟩
                subst hwa
                clear own hfl d d8 ow8 CF
                go_wp2_with (at_make; refine wpList_make_full _ rfl (.tmp 104) (.tmp 104) 27 rfl wa.heap.size 31 i6 (.int .u64 0) 1 Try.underlying27 hi6 hs0 hs1 .i64 .i64 _ _ n rfl rfl rfl rfl (by rw [hs2]; omega) (by unfold maxLen; omega) (Nat.le_refl _) ?_)
                intro w10 own10 hgrow10
                obtain ⟨K, hK⟩ : ∃ K, K = wa.heap.size := ⟨_, rfl⟩
                rw [← hK] at own10 ⊢
                have hKle : K ≤ wa.heap.size := by omega
                have hKge : wa.heap.size ≤ K := by omega
                have b10 : Below K wa w10 := (Below.refl K wa).grown hgrow10 hKle (fun k hk => by cases hk)
                have CF : Hid (∀ k, k < n → wa.cell? ⟨gF, k, none⟩ = some (.int .u64 k)) := fun k hk => (owF.cellAt k (by omega)).trans (nums_get n k hk)
                obtain ⟨mc2, own10m⟩ : ∃ mc, w10.ownsRow K 31 1 (.slice (some ⟨K, 0, none⟩) n n) n mc := ⟨_, own10⟩
                clear hK hgrow10 own10
                go_wp2_with fail
                go_loopw [19] (fun i wr => ∃ (k : Nat) (cells : List Value), k ≤ n ∧ i = .int .i64 k ∧ Below K wa wr ∧ wr.ownsRow K 31 1 (.slice (some ⟨K, 0, none⟩) n n) n cells ∧ UpTo cells k) (fun i _ => n - (intOf i).toNat)
                case atStart => exact ⟨0, _, Nat.zero_le _, rfl, b10, own10m, fun j hj => by omega⟩
                case round =>
                  clear b10 own10m
                  obtain ⟨k, cells, hk, rfl, d, own, hup⟩ := hrel
                  have hlc : cells.length = n := by simpa using own.1
                  by_cases hlt2 : k < n
                  · have m1 := CF.out k hlt2
                    have n1 : wr.cell? ⟨gF, k, none⟩ = some (.int .u64 k) := (d.cell (p := ⟨gF, k, none⟩) (Nat.lt_of_lt_of_le (World.block_lt_of_cell? wa _ m1) hKge)).trans m1
                    obtain ⟨u, hu⟩ : ∃ u, wr.cell? ⟨K, k, none⟩ = some u := ⟨_, (own.cellAt k (by omega)).trans (List.getElem?_eq_getElem (by omega))⟩
                    have n3 := own.frozenAt k
                    have HS : Hid ((wr.setCell ⟨K, k, none⟩ (.int .u64 k)).ownsRow K 31 1 (.slice (some ⟨K, 0, none⟩) n n) n (cells.set k (.int .u64 k))) := (own.stored k (.int .u64 k)).1
                    have HU : Hid (UpTo (cells.set k (.int .u64 k)) (k + 1)) := hup.next (by omega)
                    have j0 : (0 : Int) ≤ (k : Int) := by omega
                    have j1 : (k : Int) < (n : Int) := by omega
                    clear m1 own hup
                    go_wp2
                    go_roundw
                    case rel => exact ⟨k + 1, _, by omega, by go_num, d.setCell (Nat.le_refl K) _, HS.out, HU.out⟩
                    case measure => simp [intOf]; omega
                  · obtain rfl : k = n := by omega
                    have e := hup.all hlc
                    rw [e] at own
                    have da : Below wa.heap.size wa wr := d.mono hKge
                    have owF2 := owns_below owF da
                    have b7s : Below w7.heap.size w7 wr := b7r.trans (da.mono b7r.size)
                    have hM : w7.heap.size ≤ K := by have := b7r.size; omega
                    have ownK := owns_mono own hM
                    have hne : gF ≠ K := by omega
                    clear e hup hlc own owF b7r da CF d
                    go_wp2_with fail
                    go_loopw [20] (fun i wr => ∃ (j : Nat) (cells : List Value), j ≤ k ∧ i = .int .i64 j ∧ Below w7.heap.size w7 wr ∧ wr.ownsRow w7.heap.size 31 1 (.slice (some ⟨K, 0, none⟩) k k) k (nums k) ∧ wr.ownsRow w7.heap.size 31 1 (.slice (some ⟨gF, 0, none⟩) k k) k cells ∧ (∀ m, j ≤ m → m < k → cells[m]? = some (.int .u64 m))) (fun i _ => k - (intOf i).toNat)
                    case atStart => exact ⟨0, _, Nat.zero_le _, rfl, b7s, ownK, owF2, fun m _ hm => nums_get k m hm⟩
                    case round =>
                      clear b7s ownK owF2
                      obtain ⟨j, cells, hj, rfl, d, ownK, ownF, hcm⟩ := hrel
                      by_cases hlt3 : j < k
                      · have n1 : wr.cell? ⟨gF, j, none⟩ = some (.int .u64 j) := (ownF.cellAt j (by omega)).trans (hcm j (Nat.le_refl _) hlt3)
                        have n3 := ownF.frozenAt j
                        have hgM : w7.heap.size ≤ gF := (ownF.lt gF rfl).1
                        have HF : Hid (∀ u, (wr.setCell ⟨gF, j, none⟩ u).ownsRow w7.heap.size 31 1 (.slice (some ⟨gF, 0, none⟩) k k) k (cells.set j u)) := fun u => (ownF.stored j u).1
                        have HK : Hid (∀ u, (wr.setCell ⟨gF, j, none⟩ u).ownsRow w7.heap.size 31 1 (.slice (some ⟨K, 0, none⟩) k k) k (nums k)) := fun u => ownsRow_setCell_other ownK (by simp [Value.ownBlock]; omega) u
                        have HM : Hid (∀ u, ∀ m, j + 1 ≤ m → m < k → (cells.set j u)[m]? = some (.int .u64 m)) := fun u m h1 h2 => by rw [List.getElem?_set_ne (by omega)]; exact hcm m (by omega) h2
                        have j0 : (0 : Int) ≤ (j : Int) := by omega
                        have j1 : (j : Int) < (k : Int) := by omega
                        clear hcm ownF ownK
                        go_wp2
                        go_roundw
                        case rel => exact ⟨j + 1, _, by omega, by go_num, d.setCell hgM _, HK.out _, HF.out _, HM.out _⟩
                        case measure => simp [intOf]; omega
                      · have sd8 := sd7.below d
                        obtain ⟨wb, hwb⟩ : ∃ x, x = wr := ⟨_, rfl⟩
                        subst hwb
                        clear ownF hcm
                        go_wp2_with fail
                        refine (zzevery_any B7 k _ sd8 hnb).mono ?_
                        rintro e w11 ⟨gs, rfl, ow11, b11⟩
                        have ownK2 := owns_below ownK b11
                        have CK : Hid (∀ m, m < k → w11.cell? ⟨K, m, none⟩ = some (.int .u64 m)) := fun m hm => (ownK2.cellAt m (by omega)).trans (nums_get k m hm)
                        have CS : Hid (∀ m, m < k → w11.cell? ⟨gs, m, none⟩ = some (.int .u64 m)) := fun m hm => (ow11.cellAt m (by omega)).trans (nums_get k m hm)
                        have b2f : Below w2.heap.size w2 w11 := b67.trans ((d.mono b67.size).trans (b11.mono (Nat.le_trans b67.size d.size)))
                        clear ownK ownK2 ow11 b11 d sd8
                        go_wp2_with fail
                        go_loopw [22] (fun i wr => ∃ m : Nat, m ≤ k ∧ i = .int .i64 m ∧ Below w11.heap.size w11 wr) (fun i _ => k - (intOf i).toNat)
                        case atStart => exact ⟨0, Nat.zero_le _, rfl, Below.refl _ _⟩
                        case round =>
                          obtain ⟨m, hm, rfl, d⟩ := hrel
                          by_cases hlt4 : m < k
                          · have m1 := CK.out m hlt4
                            have m2 := CS.out m hlt4
                            have n1 : wr.cell? ⟨K, m, none⟩ = some (.int .u64 m) := (d.cell (p := ⟨K, m, none⟩) (World.block_lt_of_cell? w11 _ m1)).trans m1
                            have n2 : wr.cell? ⟨gs, m, none⟩ = some (.int .u64 m) := (d.cell (p := ⟨gs, m, none⟩) (World.block_lt_of_cell? w11 _ m2)).trans m2
                            have j0 : (0 : Int) ≤ (m : Int) := by omega
                            have j1 : (m : Int) < (k : Int) := by omega
                            clear m1 m2
                            go_wp2
                            go_quiet (fail)
                            go_wp2
                            go_roundw
                            case rel => exact ⟨m + 1, by omega, by go_num, below_drewN d nq⟩
                            case measure => simp [intOf]; omega
                          · go_wp2
                            go_ret
                            exact ⟨rfl, b2f.trans (d.mono b2f.size)⟩

set_option maxHeartbeats 1000000 in
set_option maxRecDepth 100000 in
/-- The ways on which the law has nothing to say. -/
theorem fresh_out (fo g1 g2 g3 : Option Addr) (cf c1 c2 c3 n1 n2 n3 : Nat) (fs : List Rw) (w : World) (hf : FView w fo fs) (hl : fs.length ≤ maxLen) (h1 : n1 ≤ maxLen) (h2 : n2 ≤ maxLen) (h3 : n3 ≤ maxLen)
    (hout : (fs.length ≤ 1048576 ∧ n1 ≤ 1048576 ∧ n2 ≤ 1048576 ∧ n3 ≤ 1048576) → 65536 < fs.length ∨ n1 ≠ fs.length) :
    Calls Try.prog 4 #[.slice fo fs.length cf, .slice g1 n1 c1, .slice g2 n2 c2, .slice g3 n3 c3] w fun e w' => e = .returned (.bool true) ∧ Below w.heap.size w w' := by
  have HO := show Hid _ from hout
  clear hout
  go_enter Try.func4, Try.ntmps4
  go_wp2_with fail
  refine (zz9_any fo g1 g2 g3 cf c1 c2 c3 n1 n2 n3 fs w hf hl h1 h2 h3).mono ?_
  rintro e w' ⟨bz, rfl, hw', hbz⟩
  subst hw'
  cases bz with
  | false =>
    go_wp2
    go_ret
    exact ⟨rfl, Below.refl _ _⟩
  | true =>
    obtain ⟨x0, x1, x2, x3⟩ := hbz rfl
    have ho := HO.out ⟨x0, x1, x2, x3⟩
    clear hbz HO
    go_wp2_with fail
    refine (over_any fo g1 g2 g3 cf c1 c2 c3 n1 n2 n3 fs w' hf x0 x1 x2 x3).mono ?_
    rintro e w2 ⟨bo, rfl, hw2, _⟩
    subst hw2
    clear hf
    cases bo with
    | true =>
      go_wp2
      go_ret
      exact ⟨rfl, Below.refl _ _⟩
    | false =>
      by_cases p1 : 65536 < fs.length
      · clear ho
        go_wp2
        go_ret
        exact ⟨rfl, Below.refl _ _⟩
      · have p3 : ((n1 : Int) != (fs.length : Int)) = true := by
          rw [bne_iff_ne]
          rcases ho with h | h
          · exact absurd h p1
          · omega
        clear ho
        go_wp2
        go_ret
        exact ⟨rfl, Below.refl _ _⟩

end Go.Proofs.Qxb6625867a
