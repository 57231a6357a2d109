/-
  Seat b6625816a: FnListToolsSplitsAtAnyCut: the walk.
-/
import Derived.Test.Qxb6625816aList
namespace Go.Proofs.Qxb6625816a
open Go.RowKit

/-- The cells of a list of rows, three strings each. -/
def flatS : List T3 → List Value
  | [] => []
  | x :: r => .string x.1 :: .string x.2.1 :: .string x.2.2 :: flatS r

theorem flatS_append (l m : List T3) : flatS (l ++ m) = flatS l ++ flatS m := by
  induction l with
  | nil => rfl
  | cons p r ih => simp [flatS, ih]

theorem flatS_get (l : List T3) : ∀ k (h : k < l.length), (flatS l)[k * 3]? = some (.string (l[k]).1) ∧ (flatS l)[k * 3 + 1]? = some (.string (l[k]).2.1) ∧ (flatS l)[k * 3 + 2]? = some (.string (l[k]).2.2) := by
  induction l with
  | nil => intro k h; simp at h
  | cons p r ih =>
    intro k h
    cases k with
    | zero => simp [flatS]
    | succ k =>
      have h' : k < r.length := by simpa using h
      have := ih k h'
      rw [show (k + 1) * 3 = k * 3 + 1 + 1 + 1 by omega]
      simpa [flatS] using this

/-- A row that the call owns, as what the walks ask of rows. -/
theorem view_of_own {w : World} {base g n cap : Nat} {rs : List T3} (hn : rs.length = n) (h : w.ownsRow base 37 3 (.slice (some ⟨g, 0, none⟩) n cap) n (flatS rs)) : View w (some ⟨g, 0, none⟩) rs := fun k hk => by
  obtain ⟨t0, t1, t2⟩ := flatS_get rs k hk
  exact ⟨g, 0, rfl, (h.lt g rfl).2, by simpa using (h.cellAt (k * 3) (by omega)).trans t0, by simpa using (h.cellAt (k * 3 + 1) (by omega)).trans t1, by simpa using (h.cellAt (k * 3 + 2) (by omega)).trans t2⟩

theorem Try.info37 : (Try.prog.info? 37).map (fun i => (i.zero, i.size, i.bytes)) = some (some (.agg #[.string ⟨#[]⟩, .string ⟨#[]⟩, .string ⟨#[]⟩]), 3, 48) := by kernel_rfl

theorem pview_nil (w : World) : PView w none [] := fun k hk => by simp at hk

/-- b1Server without prompts, the length as a number. -/
theorem server_np (s0 s1 s2 : ByteArray) (ao : Option Addr) (n cap : Nat) (rs : List T3) (hn : rs.length = n) (w : World) (hv : View w ao rs) (hl : rs.length ≤ 2097152) :
    Calls Try.prog 7 #[.string s0, .string s1, .string s2, .slice ao n cap, .slice none 0 0] w fun e w' => ∃ B, e = .returned (.pointer (some ⟨B, 0, none⟩)) ∧ Srv w' B rs ∧ Below w.heap.size w w' := by
  subst hn
  exact server_any s0 s1 s2 ao cap rs none 0 [] w hv hl (pview_nil w) (by simp)

/-- ZZlistTools, its value written out. -/
theorem zzlist_at (B : Nat) (rs : List T3) (n : Nat) (hn : rs.length = n) (w : World) (hs : Srv w B rs) (hl : rs.length ≤ 2097152) :
    Calls Try.prog 8 #[.pointer (some ⟨B, 0, none⟩)] w fun e w' => ∃ g c, e = .returned (.agg #[.slice (some ⟨g, 0, none⟩) n c]) ∧ Infos 0 w' (.slice (some ⟨g, 0, none⟩) n c) rs ∧ Below w.heap.size w w' := by
  subst hn
  refine (zzlist_any B rs w hs hl).mono ?_
  rintro e w' ⟨v, rfl, ⟨g, c, hlo, rfl, hk⟩, hb⟩
  exact ⟨g, c, rfl, ⟨g, c, Nat.zero_le _, rfl, hk⟩, hb⟩

/-- ZZlistLen, the length as a number. -/
theorem len_at (v : Value) (rs : List T3) (n : Int) (hn : (rs.length : Int) = n) (w : World) (h : Infos 0 w v rs) :
    Calls Try.prog 10 #[.agg #[v]] w fun e w' => e = .returned (.int .i64 n) ∧ Below w.heap.size w w' := by
  subst hn
  exact len_any 0 v rs w h

set_option maxHeartbeats 4000000 in
set_option maxRecDepth 100000 in
theorem split_any (ao bo : Option Addr) (ca cb : Nat) (xs ys : List T3) (w : World) (ha : View w ao xs) (hb : View w bo ys) (hl : xs.length ≤ maxLen) (hm : ys.length ≤ maxLen) :
    Calls Try.prog 4 #[.slice ao xs.length ca, .slice bo ys.length cb] w fun e w' => e = .returned (.bool true) ∧ Below w.heap.size w w' := by
  obtain ⟨i, hi, hz0, hz1, hz2⟩ := info_parts Try.info37
  go_enter Try.func4, Try.ntmps4
  go_wp2_with fail
  refine (zz2_any ao bo ca cb xs ys w ha hb hl hm).mono ?_
  rintro e w' ⟨bz, rfl, hw', hbz⟩
  subst hw'
  cases bz with
  | false =>
    go_wp2
    go_ret
    exact ⟨rfl, Below.refl _ _⟩
  | true =>
    obtain ⟨hx, hy⟩ := hbz rfl
    clear hbz
    go_wp2_with fail
    refine (bytes2_any ao bo ca cb xs ys _ ha hb hl hm).mono ?_
    rintro e w0 ⟨t, rfl, nd, hw0⟩
    have b0 : Below w'.heap.size w' w0 := by rw [hw0]; exact below_drewN (Below.refl _ _) nd
    have ha0 := ha.below b0
    have hb0 := hb.below b0
    clear hw0 ha hb hl hm
    by_cases ht : 1048576 < t
    · go_wp2
      go_ret
      exact ⟨rfl, b0⟩
    · go_wp2_with (at_make; refine wpList_make_own _ rfl (.const (.int .i64 0)) (.tmp 41) 22 rfl w0.heap.size 37 i (.agg #[.string ⟨#[]⟩, .string ⟨#[]⟩, .string ⟨#[]⟩]) 3 Try.underlying22 hi hz0 hz1 .i64 .i64 _ (xs.length + ys.length) rfl rfl (by omega) (by rw [hz2]; omega) (by unfold maxLen; omega) (Nat.le_refl _) ?_)
      intro w1 hown1 hgrow1
      obtain ⟨G, hG⟩ : ∃ G, G = w0.heap.size := ⟨_, rfl⟩
      rw [← hG] at hown1 ⊢
      have hGle : G ≤ w0.heap.size := by omega
      have hGge : w0.heap.size ≤ G := by omega
      have b1 : Below G w0 w1 := (Below.refl G w0).grown hgrow1 hGle (fun k hk => by cases hk)
      clear hG hgrow1
      go_wp2_with fail
      go_loopw [5, 6] (fun v i wr => ∃ k : Nat, k ≤ xs.length ∧ i = .int .i64 k ∧ v = .slice (some ⟨G, 0, none⟩) k (xs.length + ys.length) ∧ Below G w0 wr ∧ wr.ownsRow G 37 3 (.slice (some ⟨G, 0, none⟩) k (xs.length + ys.length)) k (flatS (xs.take k))) (fun _ i _ => xs.length - (intOf i).toNat)
      case atStart => exact ⟨0, Nat.zero_le _, rfl, rfl, b1, hown1⟩
      case round =>
        clear b1 hown1
        obtain ⟨k, hk, rfl, rfl, hbel, hown⟩ := hrel
        by_cases hlt : k < xs.length
        · obtain ⟨b, off, rfl, hbw, c0, c1, c2⟩ := ha0 k hlt
          obtain ⟨x0, x1, x2, hxe⟩ : ∃ x0 x1 x2, xs[k] = (x0, x1, x2) := ⟨_, _, _, rfl⟩
          rw [hxe] at c0 c1 c2
          have HX : Hid (xs.take (k + 1) = xs.take k ++ [(x0, x1, x2)]) := by rw [List.take_succ_eq_append_getElem hlt, hxe]; rfl
          have hbG : b < G := by omega
          have n0 : wr.cell? ⟨b, off + k * 3, none⟩ = some (.string x0) := (hbel.cell (p := ⟨b, off + k * 3, none⟩) hbG).trans c0
          have n1 : wr.cell? ⟨b, off + k * 3 + 1, none⟩ = some (.string x1) := (hbel.cell (p := ⟨b, off + k * 3 + 1, none⟩) hbG).trans c1
          have n2 : wr.cell? ⟨b, off + k * 3 + 2, none⟩ = some (.string x2) := (hbel.cell (p := ⟨b, off + k * 3 + 2, none⟩) hbG).trans c2
          have i0 : (0 : Int) ≤ (k : Int) := by omega
          have i1 : (k : Int) < (xs.length : Int) := by omega
          clear c0 c1 c2 hxe ha0 hb0
          go_wp2_with (at_builtin; refine wpList_append_fits _ rfl (.tmp 49) (.tmp 54) 22 rfl G 37 i 3 Try.underlying22 hi hz1 G k (xs.length + ys.length) _ rfl (hown.alloc _) ⟨wr.heap.size, 0, none⟩ 1 1 [.string x0, .string x1, .string x2] rfl rfl ?c1 ?c2 (by omega) ?_)
          case c1 =>
            intro j u hj
            match j, hj with
            | 0, hj => simp at hj; subst hj; simp [Addr.add]
            | 1, hj => simp at hj; subst hj; simp [Addr.add]
            | 2, hj => simp at hj; subst hj; simp [Addr.add]
          case c2 => intro u hu; simp at hu; rcases hu with rfl | rfl | rfl <;> rfl
          intro w2 hown2 hgrow2
          have hGw : G < wr.heap.size := (hown.lt G rfl).2
          have b2 : Below G w0 w2 := (hbel.alloc (by omega) _).grown hgrow2 (by simp; omega) (fun k hk => by simp at hk; omega)
          clear hgrow2 hown hbel
          go_wp2
          go_roundw
          case rel => exact ⟨k + 1, by omega, by go_num, rfl, b2, by rw [HX.out, flatS_append]; exact hown2⟩
          case measure => simp [intOf]; omega
        · obtain rfl : k = xs.length := by omega
          rw [List.take_length] at hown
          go_wp2_with fail
          go_loopw [5, 7] (fun v i wr => ∃ k : Nat, k ≤ ys.length ∧ i = .int .i64 k ∧ v = .slice (some ⟨G, 0, none⟩) (xs.length + k) (xs.length + ys.length) ∧ Below G w0 wr ∧ wr.ownsRow G 37 3 (.slice (some ⟨G, 0, none⟩) (xs.length + k) (xs.length + ys.length)) (xs.length + k) (flatS (xs ++ ys.take k))) (fun _ i _ => ys.length - (intOf i).toNat)
          case atStart => exact ⟨0, Nat.zero_le _, rfl, rfl, hbel, by simpa using hown⟩
          case round =>
            clear hbel hown
            obtain ⟨k, hk, rfl, rfl, hbel, hown⟩ := hrel
            by_cases hlt2 : k < ys.length
            · obtain ⟨b, off, rfl, hbw, c0, c1, c2⟩ := hb0 k hlt2
              obtain ⟨x0, x1, x2, hxe⟩ : ∃ x0 x1 x2, ys[k] = (x0, x1, x2) := ⟨_, _, _, rfl⟩
              rw [hxe] at c0 c1 c2
              have HX : Hid (xs ++ ys.take (k + 1) = xs ++ ys.take k ++ [(x0, x1, x2)]) := by rw [List.take_succ_eq_append_getElem hlt2, hxe, List.append_assoc]; rfl
              have hbG : b < G := by omega
              have n0 : wr.cell? ⟨b, off + k * 3, none⟩ = some (.string x0) := (hbel.cell (p := ⟨b, off + k * 3, none⟩) hbG).trans c0
              have n1 : wr.cell? ⟨b, off + k * 3 + 1, none⟩ = some (.string x1) := (hbel.cell (p := ⟨b, off + k * 3 + 1, none⟩) hbG).trans c1
              have n2 : wr.cell? ⟨b, off + k * 3 + 2, none⟩ = some (.string x2) := (hbel.cell (p := ⟨b, off + k * 3 + 2, none⟩) hbG).trans c2
              have i0 : (0 : Int) ≤ (k : Int) := by omega
              have i1 : (k : Int) < (ys.length : Int) := by omega
              clear c0 c1 c2 hxe ha0 hb0
              go_wp2_with (at_builtin; refine wpList_append_fits _ rfl (.tmp 62) (.tmp 67) 22 rfl G 37 i 3 Try.underlying22 hi hz1 G (xs.length + k) (xs.length + ys.length) _ rfl (hown.alloc _) ⟨wr.heap.size, 0, none⟩ 1 1 [.string x0, .string x1, .string x2] rfl rfl ?d1 ?d2 (by omega) ?_)
              case d1 =>
                intro j u hj
                match j, hj with
                | 0, hj => simp at hj; subst hj; simp [Addr.add]
                | 1, hj => simp at hj; subst hj; simp [Addr.add]
                | 2, hj => simp at hj; subst hj; simp [Addr.add]
              case d2 => intro u hu; simp at hu; rcases hu with rfl | rfl | rfl <;> rfl
              intro w2 hown2 hgrow2
              have hGw : G < wr.heap.size := (hown.lt G rfl).2
              have b2 : Below G w0 w2 := (hbel.alloc (by omega) _).grown hgrow2 (by simp; omega) (fun k hk => by simp at hk; omega)
              clear hgrow2 hown hbel
              go_wp2
              go_roundw
              case rel => exact ⟨k + 1, by omega, by go_num, rfl, b2, by rw [HX.out, flatS_append]; exact hown2⟩
              case measure => simp [intOf]; omega
            · obtain rfl : k = ys.length := by omega
              rw [List.take_length] at hown
              have hj := view_of_own (by simp) hown
              have hlj : (xs ++ ys).length ≤ 2097152 := by simp; omega
              have hlen : (xs ++ ys).length = xs.length + ys.length := by simp
              have bj : Below w0.heap.size w0 wr := hbel.mono hGge
              have ha1 := ha0.below bj
              have hb1 := hb0.below bj
              have bw : Below w'.heap.size w' wr := b0.trans (bj.mono b0.size)
              have hxl : xs.length ≤ 2097152 := by omega
              have hyl : ys.length ≤ 2097152 := by omega
              have HLJ : Hid ((xs ++ ys).length = xs.length + ys.length) := hlen
              clear hown hbel bj ha0 hb0 b0 hlen
              go_wp2_with fail
              refine (server_np _ _ _ _ (xs.length + ys.length) _ (xs ++ ys) HLJ.out _ hj hlj).mono ?_
              rintro e w2 ⟨B2, rfl, srv2, b2⟩
              go_wp2_with fail
              refine (zzlist_at B2 (xs ++ ys) (xs.length + ys.length) HLJ.out _ srv2 hlj).mono ?_
              rintro e w3 ⟨gj, cj, rfl, inj, b3⟩
              have ha3 := (ha1.below b2).below b3
              have hb3 := (hb1.below b2).below b3
              have bw3 := bw.trans ((b2.mono bw.size).trans (b3.mono (Nat.le_trans bw.size b2.size)))
              clear hj srv2 b2 b3 ha1 hb1 bw
              -- la
              obtain ⟨w4, hw4⟩ : ∃ x, x = w3.alloc (.cells #[.slice (some ⟨gj, 0, none⟩) (xs.length + ys.length) cj] 30) := ⟨_, rfl⟩
              have al4 : Below w3.heap.size w3 w4 := by rw [hw4]; exact (Below.refl _ _).alloc (Nat.le_refl _) _
              have cj4 : w4.cell? ⟨w3.heap.size, 0, none⟩ = some (.slice (some ⟨gj, 0, none⟩) (xs.length + ys.length) cj) := by rw [hw4, World.cell?_alloc_at _ _ _ _ rfl]; rfl
              go_wp2_with fail
              rw [← hw4]
              clear hw4
              have ha4 := ha3.below al4
              have hb4 := hb3.below al4
              have inj4 := inj.below al4
              have bw4 := bw3.trans (al4.mono bw3.size)
              clear ha3 hb3 inj bw3 al4
              refine (server_np _ _ _ _ xs.length _ xs rfl _ ha4 hxl).mono ?_
              rintro e w5 ⟨B5, rfl, srv5, b5⟩
              go_wp2_with fail
              refine (zzlist_at B5 xs xs.length rfl _ srv5 hxl).mono ?_
              rintro e w6 ⟨ga, cga, rfl, ina, b6⟩
              have hb6 := (hb4.below b5).below b6
              have inj6 := (inj4.below b5).below b6
              have bw6 := bw4.trans ((b5.mono bw4.size).trans (b6.mono (Nat.le_trans bw4.size b5.size)))
              have J5 : w3.heap.size < w4.heap.size := World.block_lt_of_cell? w4 ⟨w3.heap.size, 0, none⟩ cj4
              have cj6 : w6.cell? ⟨w3.heap.size, 0, none⟩ = some (.slice (some ⟨gj, 0, none⟩) (xs.length + ys.length) cj) := (b6.cell (p := ⟨w3.heap.size, 0, none⟩) (Nat.lt_of_lt_of_le J5 b5.size)).trans ((b5.cell (p := ⟨w3.heap.size, 0, none⟩) J5).trans cj4)
              clear srv5 b5 b6 ha4 hb4 inj4 bw4 cj4 J5
              -- lb
              obtain ⟨w7, hw7⟩ : ∃ x, x = w6.alloc (.cells #[.slice (some ⟨ga, 0, none⟩) xs.length cga] 30) := ⟨_, rfl⟩
              have al7 : Below w6.heap.size w6 w7 := by rw [hw7]; exact (Below.refl _ _).alloc (Nat.le_refl _) _
              have ca7 : w7.cell? ⟨w6.heap.size, 0, none⟩ = some (.slice (some ⟨ga, 0, none⟩) xs.length cga) := by rw [hw7, World.cell?_alloc_at _ _ _ _ rfl]; rfl
              have cj7 : w7.cell? ⟨w3.heap.size, 0, none⟩ = some (.slice (some ⟨gj, 0, none⟩) (xs.length + ys.length) cj) := (al7.cell (p := ⟨w3.heap.size, 0, none⟩) (World.block_lt_of_cell? w6 ⟨w3.heap.size, 0, none⟩ cj6)).trans cj6
              go_wp2_with fail
              rw [← hw7]
              clear hw7
              have hb7 := hb6.below al7
              have inj7 := inj6.below al7
              have ina7 := ina.below al7
              have bw7 := bw6.trans (al7.mono bw6.size)
              clear hb6 inj6 ina bw6 al7 cj6
              refine (server_np _ _ _ _ ys.length _ ys rfl _ hb7 hyl).mono ?_
              rintro e w8 ⟨B8, rfl, srv8, b8⟩
              go_wp2_with fail
              refine (zzlist_at B8 ys ys.length rfl _ srv8 hyl).mono ?_
              rintro e w9 ⟨gb, cgb, rfl, inb, b9⟩
              have b79 : Below w7.heap.size w7 w9 := b8.trans (b9.mono b8.size)
              have inj9 := inj7.below b79
              have ina9 := ina7.below b79
              have bw9 := bw7.trans (b79.mono bw7.size)
              have cj9 := (b79.cell (p := ⟨w3.heap.size, 0, none⟩) (World.block_lt_of_cell? w7 ⟨w3.heap.size, 0, none⟩ cj7)).trans cj7
              have ca9 := (b79.cell (p := ⟨w6.heap.size, 0, none⟩) (World.block_lt_of_cell? w7 ⟨w6.heap.size, 0, none⟩ ca7)).trans ca7
              clear srv8 b8 b9 b79 hb7 inj7 ina7 bw7 cj7 ca7
              obtain ⟨W, hW⟩ : ∃ x, x = w9.alloc (.cells #[.slice (some ⟨gb, 0, none⟩) ys.length cgb] 30) := ⟨_, rfl⟩
              have alW : Below w9.heap.size w9 W := by rw [hW]; exact (Below.refl _ _).alloc (Nat.le_refl _) _
              have cbW : W.cell? ⟨w9.heap.size, 0, none⟩ = some (.slice (some ⟨gb, 0, none⟩) ys.length cgb) := by rw [hW, World.cell?_alloc_at _ _ _ _ rfl]; rfl
              have cjW := (alW.cell (p := ⟨w3.heap.size, 0, none⟩) (World.block_lt_of_cell? w9 ⟨w3.heap.size, 0, none⟩ cj9)).trans cj9
              have caW := (alW.cell (p := ⟨w6.heap.size, 0, none⟩) (World.block_lt_of_cell? w9 ⟨w6.heap.size, 0, none⟩ ca9)).trans ca9
              have injW := inj9.below alW
              have inaW := ina9.below alW
              have inbW := inb.below alW
              have bwW := bw9.trans (alW.mono bw9.size)
              have cj9a : ∀ o, (w9.alloc o).cell? ⟨w3.heap.size, 0, none⟩ = some (.slice (some ⟨gj, 0, none⟩) (xs.length + ys.length) cj) := fun o => (World.cell?_alloc_past _ _ _ (World.block_lt_of_cell? w9 ⟨w3.heap.size, 0, none⟩ cj9)).trans cj9
              clear inj9 ina9 inb bw9 cj9 ca9 alW
              go_wp2_with fail
              rw [← hW]
              clear hW cj9a
              have ltj := World.block_lt_of_cell? W ⟨w3.heap.size, 0, none⟩ cjW
              have lta := World.block_lt_of_cell? W ⟨w6.heap.size, 0, none⟩ caW
              have ltb := World.block_lt_of_cell? W ⟨w9.heap.size, 0, none⟩ cbW
              obtain ⟨J, hJ⟩ : ∃ x, x = w3.heap.size := ⟨_, rfl⟩
              obtain ⟨A, hA⟩ : ∃ x, x = w6.heap.size := ⟨_, rfl⟩
              obtain ⟨B, hB⟩ : ∃ x, x = w9.heap.size := ⟨_, rfl⟩
              rw [← hJ] at cjW ltj ⊢
              rw [← hA] at caW lta ⊢
              rw [← hB] at cbW ltb ⊢
              clear hJ hA hB
              refine (len_at _ (xs ++ ys) (xs.length + ys.length) (by simp) _ injW).mono ?_
              rintro e v1 ⟨rfl, d1⟩
              have ca1 := (d1.cell (p := ⟨A, 0, none⟩) lta).trans caW
              go_wp2_with fail
              refine (len_at _ xs xs.length rfl _ (inaW.below d1)).mono ?_
              rintro e v2 ⟨rfl, d2⟩
              have d12 := d1.trans (d2.mono d1.size)
              have cb2 := (d12.cell (p := ⟨B, 0, none⟩) ltb).trans cbW
              go_wp2_with fail
              refine (len_at _ ys ys.length rfl _ (inbW.below d12)).mono ?_
              rintro e v3 ⟨rfl, d3⟩
              have d13 := d12.trans (d3.mono d12.size)
              clear d1 d2 d3 d12 ca1 cb2
              go_wp2_with fail
              go_loopw [11] (fun i wr => ∃ k : Nat, k ≤ xs.length ∧ i = .int .i64 k ∧ Below W.heap.size W wr) (fun i _ => xs.length - (intOf i).toNat)
              case atStart => exact ⟨0, Nat.zero_le _, rfl, d13⟩
              case round =>
                clear d13
                obtain ⟨k, hk, rfl, d⟩ := hrel
                by_cases hlt3 : k < xs.length
                · have cj0 := (d.cell (p := ⟨J, 0, none⟩) ltj).trans cjW
                  have ca0 := (d.cell (p := ⟨A, 0, none⟩) lta).trans caW
                  obtain ⟨x0, x1, x2, hxe⟩ : ∃ x0 x1 x2, xs[k]? = some (x0, x1, x2) := ⟨_, _, _, List.getElem?_eq_getElem hlt3⟩
                  have hxj : (xs ++ ys)[k]? = some (x0, x1, x2) := by rw [List.getElem?_append_left hlt3]; exact hxe
                  have HXE : Hid (xs[k]? = some (x0, x1, x2)) := hxe
                  have HXJ : Hid ((xs ++ ys)[k]? = some (x0, x1, x2)) := hxj
                  clear hxe hxj
                  go_wp2_with fail
                  refine (info_any 0 _ (xs ++ ys) k k rfl (x0, x1, x2) HXJ.out _ (injW.below d)).mono ?_
                  rintro e v4 ⟨rfl, d4⟩
                  have ca4 := (d4.cell (p := ⟨A, 0, none⟩) (Nat.lt_of_lt_of_le lta d.size)).trans ca0
                  go_wp2_with fail
                  refine (info_any 0 _ xs k k rfl (x0, x1, x2) HXE.out _ ((inaW.below d).below d4)).mono ?_
                  rintro e v5 ⟨rfl, d5⟩
                  have dd := d.trans ((d4.mono d.size).trans (d5.mono (Nat.le_trans d.size d4.size)))
                  clear d d4 d5 ca4 ca0 cj0
                  go_wp2
                  go_roundw
                  case rel => exact ⟨k + 1, by omega, by go_num, dd⟩
                  case measure => simp [intOf]; omega
                · go_wp2_with fail
                  go_loopw [20] (fun i wr => ∃ k : Nat, k ≤ ys.length ∧ i = .int .i64 k ∧ Below W.heap.size W wr) (fun i _ => ys.length - (intOf i).toNat)
                  case atStart => exact ⟨0, Nat.zero_le _, rfl, d⟩
                  case round =>
                    clear d
                    obtain ⟨m, hmy, rfl, d⟩ := hrel
                    by_cases hlt4 : m < ys.length
                    · have cj0 := (d.cell (p := ⟨J, 0, none⟩) ltj).trans cjW
                      have cb0 := (d.cell (p := ⟨B, 0, none⟩) ltb).trans cbW
                      obtain ⟨x0, x1, x2, hxe⟩ : ∃ x0 x1 x2, ys[m]? = some (x0, x1, x2) := ⟨_, _, _, List.getElem?_eq_getElem hlt4⟩
                      have hxj : (xs ++ ys)[xs.length + m]? = some (x0, x1, x2) := by rw [List.getElem?_append_right (by omega), Nat.add_sub_cancel_left]; exact hxe
                      have HXE : Hid (ys[m]? = some (x0, x1, x2)) := hxe
                      have HXJ : Hid ((xs ++ ys)[xs.length + m]? = some (x0, x1, x2)) := hxj
                      clear hxe hxj
                      go_wp2_with fail
                      refine (info_any 0 _ (xs ++ ys) (xs.length + m) (xs.length + m) (by omega) (x0, x1, x2) HXJ.out _ (injW.below d)).mono ?_
                      rintro e v4 ⟨rfl, d4⟩
                      have cb4 := (d4.cell (p := ⟨B, 0, none⟩) (Nat.lt_of_lt_of_le ltb d.size)).trans cb0
                      go_wp2_with fail
                      refine (info_any 0 _ ys m m rfl (x0, x1, x2) HXE.out _ ((inbW.below d).below d4)).mono ?_
                      rintro e v5 ⟨rfl, d5⟩
                      have dd := d.trans ((d4.mono d.size).trans (d5.mono (Nat.le_trans d.size d4.size)))
                      clear d d4 d5 cb4 cb0 cj0
                      go_wp2
                      go_roundw
                      case rel => exact ⟨m + 1, by omega, by go_num, dd⟩
                      case measure => simp [intOf]; omega
                    · go_wp2
                      go_ret
                      exact ⟨rfl, bwW.trans (d.mono bwW.size)⟩

end Go.Proofs.Qxb6625816a
