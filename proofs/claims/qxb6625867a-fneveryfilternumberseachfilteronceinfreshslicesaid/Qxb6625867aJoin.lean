/-
  Seat b6625867a: FnEveryFilterJoinAtAnyCut: the walk.
-/
import Derived.Test.Qxb6625867aSide
import Derived.Laws.CopyOwn
import Derived.Deep.DeepCutAuto
namespace Go.Proofs.Qxb6625867a
open Go.RowKit

/-- What the walks are told of a slice of integers. -/
def IView (kd : IntKind) (w : World) (ao : Option Addr) (zs : List Int) : Prop :=
  ∀ j (h : j < zs.length), ∃ b off, ao = some ⟨b, off, none⟩ ∧ b < w.heap.size ∧ w.cell? ⟨b, off + j, none⟩ = some (.int kd (zs[j]))

theorem IView.below {kd : IntKind} {w w' : World} {ao : Option Addr} {zs : List Int} (h : IView kd w ao zs) (hb : Below w.heap.size w w') : IView kd w' ao zs := fun k hk => by
  obtain ⟨b, off, e, hlt, c0⟩ := h k hk
  exact ⟨b, off, e, Nat.lt_of_lt_of_le hlt hb.size, (hb.cell (p := ⟨b, off + k, none⟩) hlt).trans c0⟩

/-- The source of a copy. -/
theorem IView.source {kd : IntKind} {w : World} {ao : Option Addr} {zs : List Int} (h : IView kd w ao zs) (hp : 0 < (zs.map (Value.int kd)).length) :
    ∃ ad, ao = some ad ∧ ∀ j v, (zs.map (Value.int kd))[j]? = some v → w.cell? (ad.add j) = some v := by
  have hp' : 0 < zs.length := by simpa using hp
  obtain ⟨b, off, e, _, _⟩ := h 0 hp'
  refine ⟨⟨b, off, none⟩, e, fun j v hj => ?_⟩
  have hj' : j < zs.length := by
    have := List.getElem?_eq_some_iff.1 hj
    simpa using this.1
  obtain ⟨b', off', e', _, c⟩ := h j hj'
  rw [e] at e'
  simp at e'
  obtain ⟨rfl, rfl⟩ := e'
  rw [List.getElem?_map, List.getElem?_eq_getElem hj'] at hj
  simp at hj
  subst hj
  rw [Addr.add_mid]
  exact c

theorem ints_one (kd : IntKind) (zs : List Int) : ∀ v ∈ zs.map (Value.int kd), v.oneCell' = true := by
  intro v hv
  obtain ⟨z, _, rfl⟩ := List.mem_map.1 hv
  rfl

/-- An owned row of one-cell elements, as its block. -/
theorem own_block {w : World} {base : Nat} {e : TypeId} {g n : Nat} {xs : List Value} (h : w.ownsRow base e 1 (.slice (some ⟨g, 0, none⟩) n n) n xs) : ∃ cur : List Value, w.heap[g]? = some (.cells cur.toArray e (0, 0)) ∧ cur.length = n := by
  rcases h.2 with ⟨h', _⟩ | ⟨g', cap', cur, h', _, hg, _, _, hs, _⟩
  · simp at h'
  · simp only [Value.slice.injEq, Option.some.injEq, Addr.mk.injEq, and_true, true_and] at h'
    obtain ⟨rfl, rfl⟩ := h'
    exact ⟨cur.toList, by simpa using hg, by simpa using hs⟩

theorem Try.info3 : (Try.prog.info? 3).map (fun i => (i.zero, i.size, i.bytes)) = some (some (.int .i64 0), 1, 8) := by kernel_rfl
theorem Try.info47 : (Try.prog.info? 47).map (fun i => (i.zero, i.size, i.bytes)) = some (some (.int .u32 0), 1, 4) := by kernel_rfl
theorem Try.size3 : (Try.prog.info? 3).map (·.size) = some 1 := by kernel_rfl
theorem Try.size47 : (Try.prog.info? 47).map (·.size) = some 1 := by kernel_rfl

set_option maxHeartbeats 2000000 in
set_option maxRecDepth 100000 in
theorem join_main (fo g1 g2 g3 : Option Addr) (cf c1 c2 c3 : Nat) (n cut : Nat) (z1 z2 z3 : List Int) (fs : List Rw) (w : World) (hf : FView w fo fs) (hfn : fs.length = n) (hcf : n ≤ cf) (hcf2 : cf ≤ maxLen)
    (v1 : IView .i64 w g1 z1) (v2 : IView .u32 w g2 z2) (v3 : IView .i64 w g3 z3) (hz1 : z1.length = n) (hc1 : n ≤ c1) (hn : n ≤ 1048576) (hz2 : z2.length ≤ 1048576) (hz3 : z3.length ≤ 1048576) (hcut : cut ≤ n) (hnil : fo = none → cf = 0) (hnil1 : g1 = none → c1 = 0) :
    Calls Try.prog 3 #[.slice fo n cf, .slice g1 n c1, .slice g2 z2.length c2, .slice g3 z3.length c3, .int .i64 cut] w fun e w' => e = .returned (.bool true) ∧ Below w.heap.size w w' := by
  have q23 : ∀ (w : World) (a : Option Addr) (n c n' c' : Nat), (binOp .neq 23 (.slice a n c) (.slice none n' c')).run Try.prog w = .ok (.bool a.isSome) w := fun w a n c n' c' => by
    have := run_neq_slice_nil_any (P := Try.prog) w 23 3 a n c n' c' Try.underlying23
    simpa using this
  have q24 : ∀ (w : World) (a : Option Addr) (n c n' c' : Nat), (binOp .neq 24 (.slice a n c) (.slice none n' c')).run Try.prog w = .ok (.bool a.isSome) w := fun w a n c n' c' => by
    have := run_neq_slice_nil_any (P := Try.prog) w 24 47 a n c n' c' Try.underlying24
    simpa using this
  obtain ⟨i3, hi3, hx0, hx1, hx2⟩ := info_parts Try.info3
  obtain ⟨i4, hi4, hy0, hy1, hy2⟩ := info_parts Try.info47
  have k0 : ¬ (cut : Int) < 0 := by omega
  have k1 : ¬ (n : Int) < (cut : Int) := by omega
  have HZ1 : Hid (z1.length = n) := hz1
  have HFN : Hid (fs.length = n) := hfn
  have HN : Hid (fo = none → cf = 0) := hnil
  have HN1 : Hid (g1 = none → c1 = 0) := hnil1
  clear hz1 hfn hnil hnil1
  go_enter Try.func3, Try.ntmps3
  go_wp2_with fail
  have zz := zz5_any fo g1 g2 g3 cf c1 c2 c3 n z2.length z3.length cut fs w hf (by rw [HFN.out]; unfold maxLen; omega) (by unfold maxLen; omega) (by unfold maxLen; omega) (by unfold maxLen; omega)
  rw [HFN.out] at zz
  refine zz.mono ?_
  rintro e w' ⟨bz, rfl, hw', _⟩
  subst hw'
  clear zz
  cases bz with
  | false =>
    go_wp2
    go_ret
    exact ⟨rfl, Below.refl _ _⟩
  | true =>
    go_wp2_with fail
    have ov := over_any fo g1 g2 g3 cf c1 c2 c3 n z2.length z3.length fs w' hf (by rw [HFN.out]; omega) hn hz2 hz3
    rw [HFN.out] at ov
    refine ov.mono ?_
    rintro e w2 ⟨bo, rfl, hw2, _⟩
    subst hw2
    clear ov hf
    cases bo with
    | true =>
      go_wp2
      go_ret
      exact ⟨rfl, Below.refl _ _⟩
    | false =>
      go_upto_if 46 with fail
      go_cut [1] from 20 (fun g wc => ∃ ga gc, g = .slice ga n gc ∧ n ≤ gc ∧ gc ≤ 9223372036854775807 ∧ (ga = none → gc = 0) ∧ Below w2.heap.size w2 wc)
      case first =>
        cases g1 with
        | none =>
          obtain rfl : c1 = 0 := HN1.out rfl
          go_wp2
          go_meet
          case rel => exact ⟨none, 0, rfl, hc1, by omega, (fun _ => rfl), Below.refl _ _⟩
        | some a1 =>
          obtain ⟨R, hR⟩ : ∃ R, R = w2.heap.size := ⟨_, rfl⟩
          have hRle : R ≤ w2.heap.size := by omega
          have hRge : w2.heap.size ≤ R := by have := (Below.refl w2.heap.size w2).size; omega
          go_wp2_with (at_make; refine wpList_make_full _ rfl (.tmp 48) (.tmp 48) 23 rfl R 3 i3 (.int .i64 0) 1 Try.underlying23 hi3 hx0 hx1 .i64 .i64 _ _ n rfl rfl rfl rfl (by rw [hx2]; omega) (by unfold maxLen; omega) hRle ?_)
          intro w3 hown hgrow
          rw [← hR] at hown ⊢
          clear hR
          obtain ⟨cur, hcur, hcl⟩ := own_block hown
          have b3' : Below w2.heap.size w2 w3 := (Below.refl _ w2).grown hgrow (Nat.le_refl _) (fun k hk => by cases hk)
          have b3 : Below w2.heap.size w2 w3 := b3'
          have s3 := v1.below b3'
          obtain ⟨cs, hcs⟩ : ∃ cs, cs = z1.map (Value.int .i64) := ⟨_, rfl⟩
          have HSRC : Hid (0 < cs.length → (some (⟨R, 0, none⟩ : Addr)) = some ⟨R, 0, none⟩ ∧ ∃ ad, some a1 = some ad ∧ ∀ j v, cs[j]? = some v → w3.cell? (ad.add j) = some v) := fun hp => ⟨rfl, by rw [hcs] at hp ⊢; exact s3.source hp⟩
          have hone : ∀ v ∈ cs, v.oneCell' = true := by rw [hcs]; exact ints_one _ _
          have HLEN : Hid (cs.length = Nat.min n n) := by rw [hcs, List.length_map, HZ1.out]; exact (Nat.min_self _).symm
          have hfit : 0 + cs.length ≤ cur.length := by rw [HLEN.out, hcl]; simp
          have HCUR : Hid (w3.heap[R]? = some (.cells cur.toArray 3 (0, 0))) := hcur
          clear hcs hgrow hown s3 hcur b3'
          go_wp2_with (refine wpList_copy_splice rfl (.tmp 50) (.tmp 51) 23 23 rfl 3 Try.underlying23 Try.size3 (some ⟨R, 0, none⟩) (some a1) n n n c1 (by rfl) (by rfl) R 0 cur 3 HCUR.out cs HLEN.out HSRC.out hfit hone w2.heap.size w2 b3 hRge ?_)
          intro w4 _ b4
          go_wp2
          go_meet
          case rel => exact ⟨_, n, rfl, Nat.le_refl _, by omega, (fun h => by cases h), b4⟩
      case rest =>
        obtain ⟨ga, gc, rfl, hgc, hgm, hgn, bA⟩ := hcut
        have HGN : Hid (ga = none → gc = 0) := hgn
        clear hgn v1
        go_upto_if 55 with fail
        go_cut [2] from 20 (fun g wc => ∃ ga gc, g = .slice ga z2.length gc ∧ Below w2.heap.size w2 wc)
        case first =>
          cases g2 with
          | none =>
            go_wp2
            go_meet
            case rel => exact ⟨none, _, rfl, bA⟩
          | some a1 =>
            obtain ⟨R, hR⟩ : ∃ R, R = wc.heap.size := ⟨_, rfl⟩
            have hRle : R ≤ wc.heap.size := by omega
            have hRge : w2.heap.size ≤ R := by have := (bA).size; omega
            go_wp2_with (at_make; refine wpList_make_full _ rfl (.tmp 57) (.tmp 57) 24 rfl R 47 i4 (.int .u32 0) 1 Try.underlying24 hi4 hy0 hy1 .i64 .i64 _ _ z2.length rfl rfl rfl rfl (by rw [hy2]; omega) (by unfold maxLen; omega) hRle ?_)
            intro w3 hown hgrow
            rw [← hR] at hown ⊢
            clear hR
            obtain ⟨cur, hcur, hcl⟩ := own_block hown
            have b3' : Below wc.heap.size wc w3 := (Below.refl _ wc).grown hgrow (Nat.le_refl _) (fun k hk => by cases hk)
            have b3 : Below w2.heap.size w2 w3 := bA.trans (b3'.mono bA.size)
            have s3 := (v2.below bA).below b3'
            obtain ⟨cs, hcs⟩ : ∃ cs, cs = z2.map (Value.int .u32) := ⟨_, rfl⟩
            have HSRC : Hid (0 < cs.length → (some (⟨R, 0, none⟩ : Addr)) = some ⟨R, 0, none⟩ ∧ ∃ ad, some a1 = some ad ∧ ∀ j v, cs[j]? = some v → w3.cell? (ad.add j) = some v) := fun hp => ⟨rfl, by rw [hcs] at hp ⊢; exact s3.source hp⟩
            have hone : ∀ v ∈ cs, v.oneCell' = true := by rw [hcs]; exact ints_one _ _
            have HLEN : Hid (cs.length = Nat.min z2.length z2.length) := by rw [hcs, List.length_map]; exact (Nat.min_self _).symm
            have hfit : 0 + cs.length ≤ cur.length := by rw [HLEN.out, hcl]; simp
            have HCUR : Hid (w3.heap[R]? = some (.cells cur.toArray 47 (0, 0))) := hcur
            clear hcs hgrow hown s3 hcur b3'
            go_wp2_with (refine wpList_copy_splice rfl (.tmp 59) (.tmp 60) 24 24 rfl 47 Try.underlying24 Try.size47 (some ⟨R, 0, none⟩) (some a1) z2.length z2.length z2.length c2 (by rfl) (by rfl) R 0 cur 47 HCUR.out cs HLEN.out HSRC.out hfit hone w2.heap.size w2 b3 hRge ?_)
            intro w4 _ b4
            go_wp2
            go_meet
            case rel => exact ⟨_, _, rfl, b4⟩
        case rest =>
          obtain ⟨gb, gbc, rfl, bB⟩ := hcut
          obtain ⟨w5, hw5⟩ : ∃ x, x = wc := ⟨_, rfl⟩
          subst hw5
          clear v2 bA
          go_upto_if 64 with fail
          go_cut [3] from 20 (fun g wc => ∃ ga gc, g = .slice ga z3.length gc ∧ Below w2.heap.size w2 wc)
          case first =>
            cases g3 with
            | none =>
              go_wp2
              go_meet
              case rel => exact ⟨none, _, rfl, bB⟩
            | some a1 =>
              obtain ⟨R, hR⟩ : ∃ R, R = w5.heap.size := ⟨_, rfl⟩
              have hRle : R ≤ w5.heap.size := by omega
              have hRge : w2.heap.size ≤ R := by have := (bB).size; omega
              go_wp2_with (at_make; refine wpList_make_full _ rfl (.tmp 66) (.tmp 66) 23 rfl R 3 i3 (.int .i64 0) 1 Try.underlying23 hi3 hx0 hx1 .i64 .i64 _ _ z3.length rfl rfl rfl rfl (by rw [hx2]; omega) (by unfold maxLen; omega) hRle ?_)
              intro w3 hown hgrow
              rw [← hR] at hown ⊢
              clear hR
              obtain ⟨cur, hcur, hcl⟩ := own_block hown
              have b3' : Below w5.heap.size w5 w3 := (Below.refl _ w5).grown hgrow (Nat.le_refl _) (fun k hk => by cases hk)
              have b3 : Below w2.heap.size w2 w3 := bB.trans (b3'.mono bB.size)
              have s3 := (v3.below bB).below b3'
              obtain ⟨cs, hcs⟩ : ∃ cs, cs = z3.map (Value.int .i64) := ⟨_, rfl⟩
              have HSRC : Hid (0 < cs.length → (some (⟨R, 0, none⟩ : Addr)) = some ⟨R, 0, none⟩ ∧ ∃ ad, some a1 = some ad ∧ ∀ j v, cs[j]? = some v → w3.cell? (ad.add j) = some v) := fun hp => ⟨rfl, by rw [hcs] at hp ⊢; exact s3.source hp⟩
              have hone : ∀ v ∈ cs, v.oneCell' = true := by rw [hcs]; exact ints_one _ _
              have HLEN : Hid (cs.length = Nat.min z3.length z3.length) := by rw [hcs, List.length_map]; exact (Nat.min_self _).symm
              have hfit : 0 + cs.length ≤ cur.length := by rw [HLEN.out, hcl]; simp
              have HCUR : Hid (w3.heap[R]? = some (.cells cur.toArray 3 (0, 0))) := hcur
              clear hcs hgrow hown s3 hcur b3'
              go_wp2_with (refine wpList_copy_splice rfl (.tmp 68) (.tmp 69) 23 23 rfl 3 Try.underlying23 Try.size3 (some ⟨R, 0, none⟩) (some a1) z3.length z3.length z3.length c3 (by rfl) (by rfl) R 0 cur 3 HCUR.out cs HLEN.out HSRC.out hfit hone w2.heap.size w2 b3 hRge ?_)
              intro w4 _ b4
              go_wp2
              go_meet
              case rel => exact ⟨_, _, rfl, b4⟩
          case rest =>
            obtain ⟨gd, gdc, rfl, bD⟩ := hcut
            obtain ⟨w6, hw6⟩ : ∃ x, x = wc := ⟨_, rfl⟩
            subst hw6
            clear v3 bB hi3 hx0 hx1 hx2 hi4 hy0 hy1 hy2 q23 q24
            go_wp2_with fail
            refine (new_any fo ga gb gd n cf n gc z2.length gbc z3.length gdc _).mono ?_
            rintro e w7 ⟨B7, rfl, sd7, b7⟩
            go_wp2_with fail
            refine (zzevery_any B7 n _ sd7 hn).mono ?_
            rintro e w8 ⟨gw, rfl, ow8, b8⟩
            have b68 : Below w6.heap.size w6 w8 := b7.trans (b8.mono b7.size)
            have bE : Below w2.heap.size w2 w8 := bD.trans (b68.mono bD.size)
            clear sd7 b7 b8 b68 bD
            have f0 : (0 : Int) ≤ (cut : Int) := by omega
            have f1 : (cut : Int) ≤ (cf : Int) := by omega
            have f2 : (cut : Int) ≤ (gc : Int) := by omega
            have f3 : (cut : Int) ≤ (n : Int) := by omega
            unfold maxLen at hcf2
            have hcn : cut ≤ 1048576 := by omega
            have hcn2 : n - cut ≤ 1048576 := by omega
            go_wp2_with fail
            go_region_held3 (fun _ => True) (trivial)
              (first
                | (go_at_call 8; refine (new_any _ _ _ _ _ _ _ _ _ _ _ _ _).mono ?_; rintro e w9 ⟨B9, rfl, sd9, b9⟩; have b9' : Below w8.heap.size w8 w9 := (Below.refl w8.heap.size w8).drew.trans b9)
                | (go_at_call 7; refine (zzevery_any B9 cut _ sd9 hcn).mono ?_; rintro e w10 ⟨gl, rfl, ow10, b10⟩))
            have ow10w := owns_below (owns_below ow8 b9') b10
            have b810 : Below w8.heap.size w8 w10 := b9'.trans (b10.mono b9'.size)
            have bF : Below w2.heap.size w2 w10 := bE.trans (b810.mono bE.size)
            clear sd9 b9 b9' b10 b810 ow8 bE
            obtain ⟨F, hF⟩ : ∃ F, (if cf = cut then fo else Option.map (fun x => x.add cut) fo) = F := ⟨_, rfl⟩
            obtain ⟨GG, hGG⟩ : ∃ F, (if gc = cut then ga else Option.map (fun x => x.add cut) ga) = F := ⟨_, rfl⟩
            go_wp2_with fail
            go_region_held3 (fun _ => True) (trivial)
              (first
                | (go_at_call 8; refine (new_any _ _ _ _ _ _ _ _ _ _ _ _ _).mono ?_; rintro e w11 ⟨B11, rfl, sd11, b11⟩; have b11' : Below w10.heap.size w10 w11 := (Below.refl w10.heap.size w10).drew.trans b11)
                | (go_at_call 7; refine (zzevery_any B11 _ _ sd11 (by first | omega | (simp; omega))).mono ?_; rintro e w12 ⟨gr, rfl, ow12, b12⟩))
            have ow12l := owns_below (owns_below ow10 b11') b12
            have ow12w := owns_below (owns_below ow10w b11') b12
            have b1012 : Below w10.heap.size w10 w12 := b11'.trans (b12.mono b11'.size)
            have bG : Below w2.heap.size w2 w12 := bF.trans (b1012.mono bF.size)
            have CW : Hid (∀ k, k < n → w12.cell? ⟨gw, k, none⟩ = some (.int .u64 k)) := fun k hk => (ow12w.cellAt k (by omega)).trans (nums_get n k hk)
            have CL : Hid (∀ k, k < cut → w12.cell? ⟨gl, k, none⟩ = some (.int .u64 k)) := fun k hk => (ow12l.cellAt k (by omega)).trans (nums_get cut k hk)
            have CR : Hid (∀ k, k < n - cut → w12.cell? ⟨gr, k, none⟩ = some (.int .u64 k)) := fun k hk => (ow12.cellAt k (by omega)).trans (nums_get (n - cut) k hk)
            have hsub : ((n - cut : Nat) : Int) = (n : Int) - (cut : Int) := by omega
            clear ow12l ow12w b1012 ow12 ow10 ow10w b11 b11' b12 sd11 bF hF hGG
            go_wp2_with fail
            go_loopw [18] (fun i wr => ∃ k : Nat, k ≤ cut ∧ i = .int .i64 k ∧ Below w12.heap.size w12 wr) (fun i _ => cut - (intOf i).toNat)
            case atStart => exact ⟨0, Nat.zero_le _, rfl, Below.refl _ _⟩
            case round =>
              obtain ⟨k, hk, rfl, d⟩ := hrel
              by_cases hlt : k < cut
              · have m1 := CW.out k (by omega)
                have m2 := CL.out k hlt
                have n1 : wr.cell? ⟨gw, k, none⟩ = some (.int .u64 k) := (d.cell (p := ⟨gw, k, none⟩) (World.block_lt_of_cell? w12 _ m1)).trans m1
                have n2 : wr.cell? ⟨gl, k, none⟩ = some (.int .u64 k) := (d.cell (p := ⟨gl, k, none⟩) (World.block_lt_of_cell? w12 _ m2)).trans m2
                have i0 : (0 : Int) ≤ (k : Int) := by omega
                have i1 : (k : Int) < (cut : Int) := by omega
                have i2 : (k : Int) < (n : Int) := by omega
                clear m1 m2
                go_wp2
                go_quiet (fail)
                go_wp2
                go_roundw
                case rel => exact ⟨k + 1, by omega, by go_num, below_drewN d nq⟩
                case measure => simp [intOf]; omega
              · go_wp2_with fail
                go_loopw [19] (fun i wr => ∃ j : Nat, j ≤ n - cut ∧ i = .int .i64 j ∧ Below w12.heap.size w12 wr) (fun i _ => n - cut - (intOf i).toNat)
                case atStart => exact ⟨0, Nat.zero_le _, rfl, d⟩
                case round =>
                  clear d
                  obtain ⟨j, hj, rfl, d⟩ := hrel
                  by_cases hltj : j < n - cut
                  · have m1 := CW.out (cut + j) (by omega)
                    have m2 := CR.out j hltj
                    have n1 : wr.cell? ⟨gw, cut + j, none⟩ = some (.int .u64 ((cut : Int) + (j : Int))) := ((d.cell (p := ⟨gw, cut + j, none⟩) (World.block_lt_of_cell? w12 _ m1)).trans m1).trans (by simp)
                    have n2 : wr.cell? ⟨gr, j, none⟩ = some (.int .u64 j) := (d.cell (p := ⟨gr, j, none⟩) (World.block_lt_of_cell? w12 _ m2)).trans m2
                    have i0 : (0 : Int) ≤ (j : Int) := by omega
                    have i1 : (j : Int) < (n : Int) - (cut : Int) := by omega
                    have i2 : (cut : Int) + (j : Int) < (n : Int) := by omega
                    have i3 : (0 : Int) ≤ (cut : Int) + (j : Int) := by omega
                    clear m1 m2
                    go_wp2
                    go_quiet (fail)
                    go_wp2
                    go_roundw
                    case rel => exact ⟨j + 1, by omega, by go_num, below_drewN d nq⟩
                    case measure => simp [intOf]; omega
                  · have hge : ¬ (j : Int) < (n : Int) - (cut : Int) := by omega
                    by_cases hpos : 0 < n
                    · have m1 := CW.out (n - 1) (by omega)
                      have n1 : wr.cell? ⟨gw, n - 1, none⟩ = some (.int .u64 ((n : Int) - 1)) := ((d.cell (p := ⟨gw, n - 1, none⟩) (World.block_lt_of_cell? w12 _ m1)).trans m1).trans (by simp; omega)
                      have i0 : (0 : Int) < (n : Int) := by omega
                      clear m1
                      go_wp2
                      go_ret
                      exact ⟨rfl, bG.trans (d.mono bG.size)⟩
                    · have i0 : ¬ (0 : Int) < (n : Int) := by omega
                      go_wp2
                      go_ret
                      exact ⟨rfl, bG.trans (d.mono bG.size)⟩

set_option maxHeartbeats 1000000 in
set_option maxRecDepth 100000 in
/-- The ways on which the law has nothing to say. -/
theorem join_out (fo g1 g2 g3 : Option Addr) (cf c1 c2 c3 n1 n2 n3 : Nat) (cut : Int) (fs : List Rw) (w : World) (hf : FView w fo fs) (hl : fs.length ≤ maxLen) (h1 : n1 ≤ maxLen) (h2 : n2 ≤ maxLen) (h3 : n3 ≤ maxLen)
    (hout : (fs.length ≤ 1048576 ∧ n1 ≤ 1048576 ∧ n2 ≤ 1048576 ∧ n3 ≤ 1048576) → cut < 0 ∨ (fs.length : Int) < cut ∨ n1 ≠ fs.length) :
    Calls Try.prog 3 #[.slice fo fs.length cf, .slice g1 n1 c1, .slice g2 n2 c2, .slice g3 n3 c3, .int .i64 cut] w fun e w' => e = .returned (.bool true) ∧ Below w.heap.size w w' := by
  have HO := show Hid _ from hout
  clear hout
  go_enter Try.func3, Try.ntmps3
  go_wp2_with fail
  refine (zz5_any fo g1 g2 g3 cf c1 c2 c3 n1 n2 n3 cut fs w hf hl h1 h2 h3).mono ?_
  rintro e w' ⟨bz, rfl, hw', hbz⟩
  subst hw'
  cases bz with
  | false =>
    go_wp2
    go_ret
    exact ⟨rfl, Below.refl _ _⟩
  | true =>
    obtain ⟨x0, x1, x2, x3⟩ := hbz rfl
    have ho := HO.out ⟨x0, x1, x2, x3⟩
    clear hbz HO
    go_wp2_with fail
    refine (over_any fo g1 g2 g3 cf c1 c2 c3 n1 n2 n3 fs w' hf x0 x1 x2 x3).mono ?_
    rintro e w2 ⟨bo, rfl, hw2, _⟩
    subst hw2
    clear hf
    cases bo with
    | true =>
      go_wp2
      go_ret
      exact ⟨rfl, Below.refl _ _⟩
    | false =>
      by_cases p1 : cut < 0
      · clear ho
        go_wp2
        go_ret
        exact ⟨rfl, Below.refl _ _⟩
      · by_cases p2 : (fs.length : Int) < cut
        · clear ho
          go_wp2
          go_ret
          exact ⟨rfl, Below.refl _ _⟩
        · have p3 : ((n1 : Int) != (fs.length : Int)) = true := by
            rw [bne_iff_ne]
            rcases ho with h | h | h
            · exact absurd h p1
            · exact absurd h p2
            · omega
          clear ho
          go_wp2
          go_ret
          exact ⟨rfl, Below.refl _ _⟩

end Go.Proofs.Qxb6625867a
