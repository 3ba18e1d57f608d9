import Derived.Test.YbulkecacOrdE
import Derived.Test.YbulkecacOrdF
import Derived.Test.YbulkecacOrdH
import Derived.Test.YbulkecacOrdI
import Derived.Sort.AssemblyPlain
namespace Go.Proofs.Ybulkecac
open Go.RowKit Go.Sort
set_option linter.unusedSimpArgs false
set_option linter.unusedVariables false

/-- pdqsort's loop: what is left to sort is [p, q) of dk; whatever sorted permutation of that part comes, the whole is one. -/
structure PG (w0 : World) (blk off a b : Nat) (d : Array Int) (p q : Nat) (dk : Array Int) (W : World) : Prop where
  size : dk.size = d.size
  below : Sort.Below ltInt p q dk
  rest : ∀ R, PermIn p q dk R → SortedIn ltInt p q R → PermIn a b d R ∧ SortedIn ltInt a b R
  si : SI w0 blk off dk W

theorem PG.perm {w0 W W' : World} {blk off a b p q : Nat} {d dk dk' : Array Int} (h : PG w0 blk off a b d p q dk W) (hq : q ≤ d.size) (hp : PermIn p q dk dk') (hs : SI w0 blk off dk' W') : PG w0 blk off a b d p q dk' W' :=
  ⟨hp.1.trans h.size, h.below.perm (by rw [h.size]; exact hq) hp, fun R hR hsR => h.rest R (permIn_trans _ _ _ _ _ hp hR) hsR, hs⟩

theorem PG.world {w0 W W' : World} {blk off a b p q : Nat} {d dk : Array Int} (h : PG w0 blk off a b d p q dk W) (hs : SI w0 blk off dk W') : PG w0 blk off a b d p q dk W' :=
  ⟨h.size, h.below, h.rest, hs⟩

set_option maxRecDepth 100000 in
set_option maxHeartbeats 16000000 in
/-- slices.pdqsortOrdered at int32. -/
theorem pdq_ (w0 : World) (blk off cap : Nat) : ∀ (n a b lim : Nat) (d : Array Int) (w : World), b - a < n → SI w0 blk off d w → a ≤ b → b ≤ d.size → lim < 1000 → Sort.Below ltInt a b d → d.size < 2305843009213693952 →
    Calls Yba.prog 22 #[.slice (some ⟨blk, off, none⟩) d.size cap, .int .i64 a, .int .i64 b, .int .i64 lim] w fun e w' =>
      e = .returned (.tuple #[]) ∧ ∃ d', PermIn a b d d' ∧ SortedIn ltInt a b d' ∧ SI w0 blk off d' w' := by
  intro n
  induction n with
  | zero => intro a b lim d w h; omega
  | succ n IH =>
    intro a b lim d w hn S hab hb hlim hB hsz
    have IH' : Hid _ := IH
    clear IH
    have S0 : Hid (PG w0 blk off a b d a b d w) := ⟨rfl, hB, fun R h1 h2 => ⟨h1, h2⟩, S⟩
    clear S hB
    go_enter Yba.func22, Yba.ntmps22
    go_wp2_with fail
    go_loopg [1, 2, 3, 8, 9] (b - a) (fun g va vb vl v8 v9 wr => ∃ (p q l : Nat) (wb wp : Bool) (dk : Array Int), va = .int .i64 p ∧ vb = .int .i64 q ∧ vl = .int .i64 l ∧ v8 = .bool wb ∧ v9 = .bool wp ∧ a ≤ p ∧ p ≤ q ∧ q ≤ b ∧ l < 1000 ∧ q - p ≤ g ∧ Hid (PG w0 blk off a b d p q dk wr))
    case atStart => exact ⟨a, b, lim, true, true, d, rfl, rfl, rfl, rfl, rfl, by omega, hab, by omega, hlim, Nat.le_refl _, S0⟩
    case round =>
      clear S0
      obtain ⟨p, q, l, wb, wp, dk, rfl, rfl, rfl, rfl, rfl, hap, hpq, hqb, hl, hg, G0⟩ := hrel
      have hsk := G0.out.size
      obtain ⟨L, HL, hL1, hL2⟩ : ∃ L : Nat, Hid (L = q - p) ∧ (q : Int) - (p : Int) = (L : Int) ∧ L ≤ d.size := ⟨q - p, rfl, by omega, by omega⟩
      have v1 : IntKind.i64.wrap (L : Int) = L := by rw [IntKind.wrap_i64]; omega
      by_cases h12 : L ≤ 12
      · have h12z : (L : Int) ≤ 12 := by omega
        go_wp2_with fail
        rw [← hsk]
        refine (insertion_ w0 blk off cap p q dk _ G0.out.si hpq (by omega) (by omega)).mono ?_
        rintro e w' ⟨rfl, S2⟩
        have S3 : Hid _ := S2
        clear S2
        go_wp2_with fail
        (try simp only [Exit.inBlock, Exit.then]); refine bodyPost_ret (results_none rfl _ _ _) rfl ?_
        obtain ⟨h1, h2⟩ := insertionSort_holds swo_ltInt dk p q hpq (by omega)
        obtain ⟨k1, k2⟩ := G0.out.rest _ h1 h2
        exact ⟨rfl, _, k1, k2, S3.out⟩
      · have h12z : ¬ (L : Int) ≤ 12 := by omega
        have hpq2 : p < q := by have := HL.out; omega
        rcases Nat.eq_zero_or_pos l with h0 | h0
        · subst h0
          go_wp2_with fail
          rw [← hsk]
          refine (heap_ w0 blk off cap p q dk _ G0.out.si hpq (by omega) (by omega)).mono ?_
          rintro e w' ⟨rfl, S2⟩
          have S3 : Hid _ := S2
          clear S2
          go_wp2_with fail
          (try simp only [Exit.inBlock, Exit.then]); refine bodyPost_ret (results_none rfl _ _ _) rfl ?_
          obtain ⟨h1, h2⟩ := heapSort_holds swo_ltInt dk p q hpq (by omega)
          obtain ⟨k1, k2⟩ := G0.out.rest _ h1 h2
          exact ⟨rfl, _, k1, k2, S3.out⟩
        · obtain ⟨l1, rfl⟩ : ∃ l1, l = l1 + 1 := ⟨l - 1, by omega⟩
          have hlz : ¬ ((l1 + 1 : Nat) : Int) = 0 := by omega
          obtain ⟨lz, hlz1, HLZ⟩ : ∃ z : Int, ((l1 + 1 : Nat) : Int) = z ∧ Hid (z = (l1 : Int) + 1) := ⟨_, rfl, by show _ = _; omega⟩
          rw [hlz1] at hlz ⊢
          have hlz2 : 1 ≤ lz ∧ lz < 1000 := by have := HLZ.out; omega
          clear hlz1
          have hlzb : (lz == 0) = false := by simpa using hlz
          go_upto_if 35 with fail
          go_cut [3] from 35 to 41 (fun v wx => ∃ (l2 : Nat) (d2 : Array Int), v = .int .i64 l2 ∧ l2 < 1000 ∧ d2.size = d.size ∧ Hid (PG w0 blk off a b d p q d2 wx))
          case first =>
            cases wb with
            | true =>
              go_wp2_with fail
              go_meet
              case rel => exact ⟨l1 + 1, dk, by rw [show lz = ((l1 + 1 : Nat) : Int) by have := HLZ.out; omega], by omega, hsk, G0⟩
            | false =>
              go_wp2_with fail
              rw [← hsk]
              refine (break_ w0 blk off cap p q dk _ G0.out.si hpq (by omega) (by omega)).mono ?_
              rintro e w' ⟨rfl, d2, hp2, S2⟩
              have G2 : Hid _ := G0.out.perm (by omega) hp2 S2
              clear hp2 S2 G0
              rw [hsk]
              go_wp2_with fail
              go_meet
              case rel => exact ⟨l1, d2, by congr 1; have := HLZ.out; omega, by omega, G2.out.size, G2⟩
          case rest =>
            clear G0 hsk hlz hlz2 HLZ hlzb
            obtain ⟨l2, d2, rfl, hl2, hsk, G0⟩ := hcut
            clear hl h0
            go_wp2_with fail
            rw [← hsk]
            refine (pivot_ w0 blk off cap p q d2 _ G0.out.si hpq2 (by omega) (by omega)).mono ?_
            rintro e w3 ⟨x, t, rfl, hx1, hx2, S2⟩
            have G1 : Hid _ := G0.out.world S2
            clear S2 G0
            rw [hsk]
            go_upto_if 50 with fail
            go_cut [11, 12] from 50 to 60 (fun v v2 wx => ∃ (x2 : Nat) (t2 : Int) (d3 : Array Int), v = .int .i64 x2 ∧ v2 = .int .i64 t2 ∧ p ≤ x2 ∧ x2 < q ∧ d3.size = d.size ∧ Hid (PG w0 blk off a b d p q d3 wx))
            case first =>
              by_cases ht : t = 2
              · subst ht
                go_wp2_with fail
                rw [← hsk]
                refine (reverse_ w0 blk off cap p q d2 _ G1.out.si hpq (by omega) (by omega)).mono ?_
                rintro e w' ⟨rfl, d3, hp3, S3⟩
                have G3 : Hid _ := G1.out.perm (by omega) hp3 S3
                clear hp3 S3 G1
                rw [hsk]
                go_wp2_with fail
                go_meet
                case rel => exact ⟨q - 1 - (x - p), 1, d3, by first | rfl | go_num | (congr 1; omega), rfl, by omega, by omega, G3.out.size, G3⟩
              · go_wp2_with fail
                go_meet
                case rel => exact ⟨x, t, d2, rfl, rfl, hx1, hx2, hsk, G1⟩
            case rest =>
              clear G1 hsk hx1 hx2
              obtain ⟨x2, t2, d3, rfl, rfl, hx1, hx2, hsk, G1⟩ := hcut
              go_upto_region 15 with fail
              go_cut [68] from 61 to 68 (fun v wx => ∃ t3 : Bool, v = .bool t3 ∧ wx = wc)
              case first =>
                cases wb <;> cases wp <;> by_cases ht2 : t2 = 1
                all_goals
                  go_wp2_with fail
                  go_meet
                  case rel => exact ⟨_, rfl, rfl⟩
              case rest =>
                obtain ⟨t3, rfl, rfl⟩ := hcut
                go_upto_if 68 with fail
                go_cut [] from 69 to 72 (fun wx => ∃ (d4 : Array Int), d4.size = d.size ∧ Hid (PG w0 blk off a b d p q d4 wx))
                case first =>
                  cases t3 with
                  | false =>
                    go_wp2_with fail
                    go_meet
                    case rel => exact ⟨d3, hsk, G1⟩
                  | true =>
                    go_wp2_with fail
                    rw [← hsk]
                    refine (pins_ w0 blk off cap p q d3 _ G1.out.si hpq2 (by omega) (by omega)).mono ?_
                    rintro e w' ⟨rfl, S2⟩
                    obtain ⟨h1, h2⟩ := partialInsertionSort_holds swo_ltInt d3 p q hpq2 (by omega) G1.out.below
                    generalize Sort.partialInsertionSort ltInt d3 p q = r at h1 h2 S2 ⊢
                    obtain ⟨d4, r2⟩ := r
                    have G2 : Hid _ := G1.out.perm (by omega) h1 S2
                    have H2 : Hid _ := h2
                    clear h1 h2 S2 G1
                    rw [hsk]
                    cases r2 with
                    | false =>
                      go_wp2_with fail
                      go_meet
                      case rel => exact ⟨d4, G2.out.size, G2⟩
                    | true =>
                      go_wp2_with fail
                      (try simp only [Exit.inBlock, Exit.then]); refine bodyPost_ret (results_none rfl _ _ _) rfl ?_
                      obtain ⟨k1, k2⟩ := G2.out.rest _ (permIn_refl _ _ _) (H2.out (by trivial))
                      exact ⟨rfl, _, k1, k2, G2.out.si⟩
                case rest =>
                  clear G1 hsk
                  obtain ⟨d4, hsk, G2⟩ := hcut
                  go_upto_region 17 with fail
                  go_cut [87] from 73 to 87 (fun v wx => ∃ t4 : Bool, v = .bool t4 ∧ Hid (t4 = true → 0 < p ∧ ltInt d4[p - 1]! d4[x2]! = false) ∧ Hid (PG w0 blk off a b d p q d4 wx))
                  case first =>
                    rcases Nat.eq_zero_or_pos p with hp0 | hp0
                    · subst hp0
                      go_wp2_with fail
                      go_big_region
                      have G3 : Hid (PG w0 blk off a b d 0 q d4 _) := G2.out.world G2.out.si.drew
                      clear G2
                      generalize World.drew _ = w5 at G3 ⊢
                      go_wp2_with fail
                      go_meet
                      case rel => exact ⟨false, rfl, (fun h => by cases h), G3⟩
                    · obtain ⟨m, rfl⟩ : ∃ m, p = m + 1 := ⟨p - 1, by omega⟩
                      have eN : ((m + 1 : Nat) : Int) = (m : Int) + 1 := by omega
                      rw [eN]
                      have g1 : decide ((m : Int) + 1 > 0) = true := decide_eq_true (by omega)
                      have g2 : (0 : Int) < (m : Int) + 1 := by omega
                      have b1 : (m : Int) < (d.size : Int) := by omega
                      have b2 : (x2 : Int) < (d.size : Int) := by omega
                      have SS : Hid (SI w0 blk off d4 wc) := G2.out.si
                      cases hlv : ltInt d4[m]! d4[x2]! with
                      | true =>
                        obtain ⟨x, hx⟩ : ∃ x, x = d4[m]! := ⟨_, rfl⟩
                        obtain ⟨y, hy⟩ : ∃ x, x = d4[x2]! := ⟨_, rfl⟩
                        have c1 := SS.out.cell (m) (by omega)
                        have c2 := SS.out.cell (x2) (by omega)
                        have hlx : ltInt x y = true := by rw [hx, hy]; exact hlv
                        have HLV : Hid _ := hlv
                        clear hlv
                        rw [← hx] at c1
                        rw [← hy] at c2
                        clear hx hy
                        go_wp2_with fail
                        go_quiet ((go_at_call 33; exact Calls.quiet_of_same (less_ _ _ _)))
                        have SK : Hid (SI w0 blk off d4 _) := SS.out.drewN nq
                        clear SS c1 c2
                        generalize World.drewN _ nq = w5 at SK ⊢
                        simp only [hlx]
                        clear hlx
                        have hlv := HLV.out
                        clear HLV

                        go_wp2_with fail
                        go_meet
                        case rel => exact ⟨false, rfl, (fun h => by cases h), G2.out.world SK.out⟩
                      | false =>
                        obtain ⟨x, hx⟩ : ∃ x, x = d4[m]! := ⟨_, rfl⟩
                        obtain ⟨y, hy⟩ : ∃ x, x = d4[x2]! := ⟨_, rfl⟩
                        have c1 := SS.out.cell (m) (by omega)
                        have c2 := SS.out.cell (x2) (by omega)
                        have hlx : ltInt x y = false := by rw [hx, hy]; exact hlv
                        have HLV : Hid _ := hlv
                        clear hlv
                        rw [← hx] at c1
                        rw [← hy] at c2
                        clear hx hy
                        go_wp2_with fail
                        go_quiet ((go_at_call 33; exact Calls.quiet_of_same (less_ _ _ _)))
                        have SK : Hid (SI w0 blk off d4 _) := SS.out.drewN nq
                        clear SS c1 c2
                        generalize World.drewN _ nq = w5 at SK ⊢
                        simp only [hlx]
                        clear hlx
                        have hlv := HLV.out
                        clear HLV

                        go_wp2_with fail
                        go_meet
                        case rel => exact ⟨true, rfl, fun _ => ⟨by omega, hlv⟩, G2.out.world SK.out⟩
                  case rest =>
                    clear G2
                    obtain ⟨t4, rfl, HT4, G3⟩ := hcut
                    cases t4 with
                    | true =>
                      obtain ⟨mid, HM⟩ : ∃ r, Hid (r = Sort.partitionEqual ltInt d4 p q x2) := ⟨_, rfl⟩
                      obtain ⟨mid, d5⟩ := mid
                      obtain ⟨k1, k2, k3, k4, k5⟩ := round_eq swo_ltInt (partitionEqual_holds ltInt) (HT4.out rfl).1 hx1 hx2 (by omega) G3.out.below (HT4.out rfl).2 HM.out.symm
                      have K4 : Hid (Sort.Below ltInt mid q d5) := k4
                      have K5 : Hid (∀ R, PermIn mid q d5 R → SortedIn ltInt mid q R → PermIn p q d4 R ∧ SortedIn ltInt p q R) := k5
                      clear k4 k5
                      go_wp2_with fail
                      rw [← hsk]
                      refine (partEq_ w0 blk off cap p q x2 d4 _ G3.out.si hx1 hx2 (by omega) (by omega)).mono ?_
                      rw [← HM.out]
                      rintro e w6 ⟨rfl, S6⟩
                      have G6 : Hid (PG w0 blk off a b d mid q d5 w6) := ⟨k3.trans hsk, K4.out, fun R h1 h2 => (fun hh => G3.out.rest R hh.1 hh.2) (K5.out R h1 h2), S6⟩
                      clear S6 G3 K4 K5
                      rw [hsk]
                      go_wp2
                      go_roundg (q - mid)
                      case measure => omega
                      case rel => exact ⟨mid, q, l2, wb, wp, d5, rfl, rfl, rfl, rfl, rfl, by omega, by omega, hqb, hl2, Nat.le_refl _, G6⟩
                    | false =>
                      obtain ⟨r, HM⟩ : ∃ r, Hid (r = Sort.partition ltInt d4 p q x2) := ⟨_, rfl⟩
                      obtain ⟨mid, ap, d5⟩ := r
                      obtain ⟨k1, k2, k3, k4, k5, k6, k7⟩ := round_part swo_ltInt (partition_holds ltInt) hx1 hx2 (by omega) G3.out.below HM.out.symm
                      have K4 : Hid _ := k4
                      have K5 : Hid _ := k5
                      have K6 : Hid _ := k6
                      have K7 : Hid _ := k7
                      clear k4 k5 k6 k7
                      go_wp2_with fail
                      rw [← hsk]
                      refine (part_ w0 blk off cap p q x2 d4 _ G3.out.si hx1 hx2 (by omega) (by omega)).mono ?_
                      rw [← HM.out]
                      rintro e w6 ⟨rfl, S6⟩
                      have S6' : Hid _ := S6
                      clear S6
                      have hs5 : d5.size = d.size := k3.trans hsk
                      rw [hsk]
                      obtain ⟨B, HB, hB1, hB2⟩ : ∃ B : Nat, Hid (B = L / 8) ∧ (L : Int) / 8 = (B : Int) ∧ B ≤ d.size := ⟨L / 8, rfl, by omega, by omega⟩
                      have hB3 : (L : Int).tdiv 8 = (B : Int) := by rw [Int.tdiv_eq_ediv_of_nonneg (by omega)]; exact hB1
                      have v2 : IntKind.i64.wrap (B : Int) = B := by rw [IntKind.wrap_i64]; omega
                      by_cases hlr : mid - p < q - mid
                      · have hlrz : (mid : Int) - (p : Int) < (q : Int) - (mid : Int) := by omega
                        go_wp2_with fail
                        rw [← hs5]
                        refine (IH'.out p mid l2 d5 _ (by omega) S6'.out k1 (by omega) hl2 K4.out (by omega)).mono ?_
                        rintro e w7 ⟨rfl, d6, j1, j2, S7⟩
                        obtain ⟨j3, j4⟩ := K6.out d6 j1 j2
                        have G7 : Hid (PG w0 blk off a b d (mid + 1) q d6 w7) := ⟨j1.1.trans hs5, j3, fun R h1 h2 => (fun hh => G3.out.rest R hh.1 hh.2) (j4 R h1 h2), S7⟩
                        clear S7 j1 j2 j3 j4 S6' K4 K5 K6 K7 G3
                        rw [hs5]
                        go_wp2
                        go_roundg (q - (mid + 1))
                        case measure => omega
                        case rel => exact ⟨mid + 1, q, l2, _, ap, d6, by go_num, rfl, rfl, rfl, rfl, by omega, by omega, hqb, hl2, Nat.le_refl _, G7⟩
                      · have hlrz : ¬ (mid : Int) - (p : Int) < (q : Int) - (mid : Int) := by omega
                        have HC : Hid _ := fun W hW => IH'.out (mid + 1) q l2 d5 W (by omega) hW (by omega) (by omega) hl2 K5.out (by omega)
                        rw [show ((mid + 1 : Nat) : Int) = (mid : Int) + 1 by omega] at HC
                        go_wp2_with fail
                        rw [← hs5]
                        refine (HC.out _ S6'.out).mono ?_
                        rintro e w7 ⟨rfl, d6, j1, j2, S7⟩
                        obtain ⟨j3, j4⟩ := K7.out d6 j1 j2
                        have G7 : Hid (PG w0 blk off a b d p mid d6 w7) := ⟨j1.1.trans hs5, j3, fun R h1 h2 => (fun hh => G3.out.rest R hh.1 hh.2) (j4 R h1 h2), S7⟩
                        clear S7 j1 j2 j3 j4 S6' K4 K5 K6 K7 G3 HC
                        rw [hs5]
                        go_wp2
                        go_roundg (mid - p)
                        case measure => omega
                        case rel => exact ⟨p, mid, l2, _, ap, d6, rfl, rfl, rfl, rfl, rfl, hap, k1, by omega, hl2, Nat.le_refl _, G7⟩

set_option maxRecDepth 100000 in
/-- slices.Sort at int32: the row holds a sorted permutation; nothing else has been turned. -/
theorem sort_ (blk off cap : Nat) (d : Array Int) (w : World) (S : SI w blk off d w) (hsz : d.size < 2305843009213693952) :
    Calls Yba.prog 13 #[.slice (some ⟨blk, off, none⟩) d.size cap] w fun e w' =>
      e = .returned (.tuple #[]) ∧ ∃ d', PermIn 0 d.size d d' ∧ SortedIn ltInt 0 d.size d' ∧ SI w blk off d' w' := by
  have S0 : Hid (SI w blk off d w) := S
  clear S
  have hk : bitsLen d.size ≤ 62 := (bitsLen_le_iff d.size 62).2 (by omega)
  have wr : IntKind.u64.wrap (d.size : Int) = d.size := by rw [IntKind.wrap_u64]; omega
  have C1 : Hid (∀ W, _) := fun W => len_ d.size (by omega) W
  have C2 : Hid _ := pdq_ w blk off cap (d.size + 1) 0 d.size (bitsLen d.size) d w (by omega) S0.out (Nat.zero_le _) (Nat.le_refl _) (by omega) (Or.inl rfl) hsz
  go_enter Yba.func13, Yba.ntmps13
  go_wp2_with fail
  refine (C1.out _).mono ?_
  rintro e w1 ⟨rfl, rfl⟩
  go_wp2_with fail
  refine Calls.mono C2.out ?_
  rintro e w2 ⟨rfl, d', h1, h2, S2⟩
  have R : Hid _ := (⟨d', h1, h2, S2⟩ : ∃ d', PermIn 0 d.size d d' ∧ SortedIn ltInt 0 d.size d' ∧ SI w1 blk off d' w2)
  clear h1 h2 S2
  go_wp2_with fail
  go_end0
  exact ⟨rfl, R.out⟩

set_option maxRecDepth 100000 in
theorem ins_nil (w : World) : Calls Yba.prog 27 #[.slice none 0 0, .int .i64 0, .int .i64 0] w fun e w' => e = .returned (.tuple #[]) ∧ w' = w := by
  go_enter Yba.func27, Yba.ntmps27
  go_wp2_with fail
  go_loopg [6] 0 (fun g v wr => v = .int .i64 1 ∧ wr = w)
  case atStart => exact ⟨rfl, rfl⟩
  case round =>
    obtain ⟨rfl, rfl⟩ := hrel
    go_wp2
    go_end0
    exact ⟨rfl, rfl⟩

set_option maxRecDepth 100000 in
theorem pdq_nil (w : World) : Calls Yba.prog 22 #[.slice none 0 0, .int .i64 0, .int .i64 0, .int .i64 0] w fun e w' => e = .returned (.tuple #[]) ∧ w' = w := by
  go_enter Yba.func22, Yba.ntmps22
  go_wp2_with fail
  go_loopg [1, 2, 3, 8, 9] 0 (fun g va vb vl v8 v9 wr => va = .int .i64 0 ∧ vb = .int .i64 0 ∧ vl = .int .i64 0 ∧ v8 = .bool true ∧ v9 = .bool true ∧ wr = w)
  case atStart => exact ⟨rfl, rfl, rfl, rfl, rfl, rfl⟩
  case round =>
    obtain ⟨rfl, rfl, rfl, rfl, rfl, rfl⟩ := hrel
    go_wp2_with fail
    refine (ins_nil _).mono ?_
    rintro e w1 ⟨rfl, rfl⟩
    go_wp2_with fail
    (try simp only [Exit.inBlock, Exit.then]); refine bodyPost_ret (results_none rfl _ _ _) rfl ?_
    exact ⟨rfl, rfl⟩

set_option maxRecDepth 100000 in
/-- slices.Sort at a nil slice. -/
theorem sort_nil (w : World) : Calls Yba.prog 13 #[.slice none 0 0] w fun e w' => e = .returned (.tuple #[]) ∧ w' = w := by
  have C1 : Hid (∀ W, Calls Yba.prog 23 #[.int .u64 0] W fun e w' => e = .returned (.int .i64 0) ∧ w' = W) := fun W => len_ 0 (by omega) W
  go_enter Yba.func13, Yba.ntmps13
  go_wp2_with fail
  refine (C1.out _).mono ?_
  rintro e w1 ⟨rfl, rfl⟩
  go_wp2_with fail
  refine (pdq_nil _).mono ?_
  rintro e w2 ⟨rfl, rfl⟩
  go_wp2_with fail
  go_end0
  exact ⟨rfl, rfl⟩
end Go.Proofs.Ybulkecac
