import Derived.Test.YbulkecacOrdB
namespace Go.Proofs.Ybulkecac
open Go.RowKit Go.Sort
set_option linter.unusedSimpArgs false
set_option linter.unusedVariables false

theorem sift_end {hi F root : Nat} (d : Array Int) (h : hi ≤ 2 * root + 1) : siftDown ltInt hi F root d = d := by rw [siftDown, dif_pos h]
theorem sift_right {hi F root : Nat} (d : Array Int) (h1 : 2 * root + 2 < hi) (h2 : ltInt d[F + (2 * root + 1)]! d[F + (2 * root + 1) + 1]! = true) :
    siftDown ltInt hi F root d = if ltInt d[F + root]! d[F + (2 * root + 2)]! = true then siftDown ltInt hi F (2 * root + 2) (swp d (F + root) (F + (2 * root + 2))) else d := by
  rw [siftDown, dif_neg (by omega), if_pos (by rw [h2]; simp; omega)]
  cases ltInt d[F + root]! d[F + (2 * root + 2)]!
  · simp
  · simp [h1]
theorem sift_left {hi F root : Nat} (d : Array Int) (h1 : 2 * root + 1 < hi) (h2 : 2 * root + 2 < hi → ltInt d[F + (2 * root + 1)]! d[F + (2 * root + 1) + 1]! = false) :
    siftDown ltInt hi F root d = if ltInt d[F + root]! d[F + (2 * root + 1)]! = true then siftDown ltInt hi F (2 * root + 1) (swp d (F + root) (F + (2 * root + 1))) else d := by
  rw [siftDown, dif_neg (by omega), if_neg (by simp; intro h; exact h2 (by omega))]
  cases ltInt d[F + root]! d[F + (2 * root + 1)]!
  · simp
  · simp

set_option maxRecDepth 100000 in
set_option maxHeartbeats 4000000 in
/-- slices.siftDownOrdered at int32. -/
theorem sift_ (w0 : World) (blk off cap lo hi F : Nat) (d : Array Int) (w : World) (S : SI w0 blk off d w) (hlo : lo ≤ d.size) (hb : F + hi ≤ d.size) (hsz : d.size < 2305843009213693952) :
    Calls Yba.prog 46 #[.slice (some ⟨blk, off, none⟩) d.size cap, .int .i64 lo, .int .i64 hi, .int .i64 F] w fun e w' =>
      e = .returned (.tuple #[]) ∧ SI w0 blk off (Sort.siftDown ltInt hi F lo d) w' := by
  have S0 : Hid (SI w0 blk off d w) := S
  clear S
  go_enter Yba.func46, Yba.ntmps46
  go_wp2_with fail
  go_loopg [8] (hi - lo) (fun g vr wr => ∃ (r : Nat) (dk : Array Int), vr = .int .i64 r ∧ r ≤ d.size ∧ hi - r ≤ g ∧ dk.size = d.size ∧ Hid (SI w0 blk off dk wr) ∧ Hid (siftDown ltInt hi F r dk = siftDown ltInt hi F lo d))
  case atStart => exact ⟨lo, d, rfl, hlo, Nat.le_refl _, rfl, S0, rfl⟩
  case round =>
    clear S0
    obtain ⟨r, dk, rfl, hr, hg, hsk, S1, HO⟩ := hrel
    by_cases h0 : hi ≤ 2 * r + 1
    · have h0z : (hi : Int) ≤ 2 * (r : Int) + 1 := by omega
      go_wp2
      go_end0
      exact ⟨rfl, by rw [← HO.out, sift_end _ h0]; exact S1.out⟩
    · have h0z : ¬ (hi : Int) ≤ 2 * (r : Int) + 1 := by omega
      go_wp2_with fail
      clear h0z
      obtain ⟨c, hc⟩ : ∃ c : Nat, c = 2 * r + 1 := ⟨_, rfl⟩
      obtain ⟨c', hc'⟩ : ∃ c : Nat, c = 2 * r + 2 := ⟨_, rfl⟩
      obtain ⟨pc, hpc⟩ : ∃ p : Nat, p = F + c := ⟨_, rfl⟩
      obtain ⟨pc', hpc'⟩ : ∃ p : Nat, p = F + c' := ⟨_, rfl⟩
      obtain ⟨pr, hpr⟩ : ∃ p : Nat, p = F + r := ⟨_, rfl⟩
      have e1 : 2 * (r : Int) + 1 = (c : Int) := by omega
      simp only [e1]
      clear e1
      have e2 : (c : Int) + 1 = (c' : Int) := by omega
      have e3 : (F : Int) + (c : Int) = (pc : Int) := by omega
      have e4 : (F : Int) + (c' : Int) = (pc' : Int) := by omega
      have e5 : (pc : Int) + 1 = (pc' : Int) := by omega
      have e6 : (F : Int) + (r : Int) = (pr : Int) := by omega
      have q1 : ¬ (hi : Int) ≤ (c : Int) := by omega
      have n1 : pc < d.size := by omega
      have n2 : pr < d.size := by omega
      have n3 : r < c := by omega
      have n4 : c < c' := by omega
      have n5 : c < hi := by omega
      have n7 : c' < hi → pc' < d.size := by omega
      have n8 : pc < pc' := by omega
      have b1 : (pc : Int) < (d.size : Int) := by omega
      have b3 : (pr : Int) < (d.size : Int) := by omega
      have k1 : IntKind.i64.wrap (c : Int) = c := by rw [IntKind.wrap_i64]; omega
      have k2 : IntKind.i64.wrap (c' : Int) = c' := by rw [IntKind.wrap_i64]; omega
      have k3 : IntKind.i64.wrap (pc : Int) = pc := by rw [IntKind.wrap_i64]; omega
      have k4 : IntKind.i64.wrap (pc' : Int) = pc' := by rw [IntKind.wrap_i64]; omega
      have k5 : IntKind.i64.wrap (pr : Int) = pr := by rw [IntKind.wrap_i64]; omega
      have HC : Hid (c = 2 * r + 1 ∧ c' = 2 * r + 2 ∧ pc = F + c ∧ pc' = F + c' ∧ pr = F + r) := ⟨hc, hc', hpc, hpc', hpr⟩
      clear hc hc' hpc hpc' hpr
      by_cases h2 : c' < hi
      · have b2 : (pc' : Int) < (d.size : Int) := by omega
        have q2 : (c' : Int) < (hi : Int) := by omega
        have q3 : decide ((c' : Int) < (hi : Int)) = true := decide_eq_true q2
        cases hlv : ltInt dk[pc]! dk[pc']! with
        | true =>
          obtain ⟨x, hx⟩ : ∃ x, x = dk[pc]! := ⟨_, rfl⟩
          obtain ⟨y, hy⟩ : ∃ x, x = dk[pc']! := ⟨_, rfl⟩
          have c1 := S1.out.cell (pc) (by omega)
          have c2 := S1.out.cell (pc') (by omega)
          have hlx : ltInt x y = true := by rw [hx, hy]; exact hlv
          have HLV : Hid _ := hlv
          clear hlv
          rw [← hx] at c1
          rw [← hy] at c2
          clear hx hy
          go_wp2_with fail
          go_quiet ((go_at_call 33; exact Calls.quiet_of_same (less_ _ _ _)))
          have SK : Hid (SI w0 blk off dk _) := S1.out.drewN nq
          clear S1 c1 c2
          generalize World.drewN _ nq = w2 at SK ⊢
          simp only [hlx]
          clear hlx
          have hlv := HLV.out
          clear HLV

          obtain ⟨hc, hc', hpc, hpc', hpr⟩ := HC.out
          have h1v : Hid (ltInt dk[F + (2 * r + 1)]! dk[F + (2 * r + 1) + 1]! = true) := by rw [← hc, ← hpc, (by omega : pc + 1 = pc')]; exact hlv
          clear hlv hc hc' hpc hpc' hpr
          go_wp2_with fail
          cases hlv : ltInt dk[pr]! dk[pc']! with
          | true =>
            obtain ⟨x, hx⟩ : ∃ x, x = dk[pr]! := ⟨_, rfl⟩
            obtain ⟨y, hy⟩ : ∃ x, x = dk[pc']! := ⟨_, rfl⟩
            have c1 := SK.out.cell (pr) (by omega)
            have c2 := SK.out.cell (pc') (by omega)
            have hlx : ltInt x y = true := by rw [hx, hy]; exact hlv
            have HLV : Hid _ := hlv
            clear hlv
            rw [← hx] at c1
            rw [← hy] at c2
            clear hx hy
            go_wp2_with fail
            go_quiet ((go_at_call 33; exact Calls.quiet_of_same (less_ _ _ _)))
            have SL : Hid (SI w0 blk off dk _) := SK.out.drewN nq
            clear SK c1 c2
            generalize World.drewN _ nq = w3 at SL ⊢
            simp only [hlx]
            clear hlx
            have hlv := HLV.out
            clear HLV
            obtain ⟨x, hx⟩ : ∃ x, x = dk[pr]! := ⟨_, rfl⟩
            obtain ⟨y, hy⟩ : ∃ x, x = dk[pc']! := ⟨_, rfl⟩
            have c1 := SL.out.cell (pr) (by omega)
            have c2 := SL.out.cell (pc') (by omega)
            have f1 := SL.out.froz (pr) (by omega)
            have f2 := SL.out.froz (pc') (by omega)
            obtain ⟨u, c3⟩ := SL.out.cell2 (pr) (pc') (by omega) (by omega) (.int .i32 y)
            have S2 := SL.out.swap (pr) (pc') (by omega) (by omega)
            rw [← hx] at c1 S2
            rw [← hy] at c2 S2
            have S3 : Hid _ := S2
            clear S2 hx hy SL
            go_wp2_with fail
            go_big_region
            have SM : Hid (SI w0 blk off (swp dk (pr) (pc')) _) := S3.out.drew
            clear S3 c1 c2 c3 f1 f2
            generalize World.drew _ = w4 at SM ⊢

            go_wp2
            go_roundg (hi - c')
            case measure => omega
            case rel =>
              obtain ⟨hc, hc', hpc, hpc', hpr⟩ := HC.out
              exact ⟨c', swp dk pr pc', by first | rfl | go_num, by omega, Nat.le_refl _, by rw [size_swp]; exact hsk, SM, (show _ = _ from by rw [← HO.out, hpr, hpc', hc', sift_right dk (by omega) h1v.out, if_pos (by rw [← hc', ← hpc', ← hpr]; exact hlv)])⟩
          | false =>
            obtain ⟨x, hx⟩ : ∃ x, x = dk[pr]! := ⟨_, rfl⟩
            obtain ⟨y, hy⟩ : ∃ x, x = dk[pc']! := ⟨_, rfl⟩
            have c1 := SK.out.cell (pr) (by omega)
            have c2 := SK.out.cell (pc') (by omega)
            have hlx : ltInt x y = false := by rw [hx, hy]; exact hlv
            have HLV : Hid _ := hlv
            clear hlv
            rw [← hx] at c1
            rw [← hy] at c2
            clear hx hy
            go_wp2_with fail
            go_quiet ((go_at_call 33; exact Calls.quiet_of_same (less_ _ _ _)))
            have SL : Hid (SI w0 blk off dk _) := SK.out.drewN nq
            clear SK c1 c2
            generalize World.drewN _ nq = w3 at SL ⊢
            simp only [hlx]
            clear hlx
            have hlv := HLV.out
            clear HLV

            go_wp2
            (try simp only [Exit.inBlock, Exit.then]); refine bodyPost_ret (results_none rfl _ _ _) rfl ?_
            obtain ⟨hc, hc', hpc, hpc', hpr⟩ := HC.out
            exact ⟨rfl, by rw [← HO.out, sift_right dk (by omega) h1v.out, if_neg (by rw [← hc', ← hpc', ← hpr, hlv]; simp)]; exact SL.out⟩

        | false =>
          obtain ⟨x, hx⟩ : ∃ x, x = dk[pc]! := ⟨_, rfl⟩
          obtain ⟨y, hy⟩ : ∃ x, x = dk[pc']! := ⟨_, rfl⟩
          have c1 := S1.out.cell (pc) (by omega)
          have c2 := S1.out.cell (pc') (by omega)
          have hlx : ltInt x y = false := by rw [hx, hy]; exact hlv
          have HLV : Hid _ := hlv
          clear hlv
          rw [← hx] at c1
          rw [← hy] at c2
          clear hx hy
          go_wp2_with fail
          go_quiet ((go_at_call 33; exact Calls.quiet_of_same (less_ _ _ _)))
          have SK : Hid (SI w0 blk off dk _) := S1.out.drewN nq
          clear S1 c1 c2
          generalize World.drewN _ nq = w2 at SK ⊢
          simp only [hlx]
          clear hlx
          have hlv := HLV.out
          clear HLV

          obtain ⟨hc, hc', hpc, hpc', hpr⟩ := HC.out
          have h1v : Hid (2 * r + 2 < hi → ltInt dk[F + (2 * r + 1)]! dk[F + (2 * r + 1) + 1]! = false) := fun _ => by rw [← hc, ← hpc, (by omega : pc + 1 = pc')]; exact hlv
          clear hlv hc hc' hpc hpc' hpr
          go_wp2_with fail
          cases hlv : ltInt dk[pr]! dk[pc]! with
          | true =>
            obtain ⟨x, hx⟩ : ∃ x, x = dk[pr]! := ⟨_, rfl⟩
            obtain ⟨y, hy⟩ : ∃ x, x = dk[pc]! := ⟨_, rfl⟩
            have c1 := SK.out.cell (pr) (by omega)
            have c2 := SK.out.cell (pc) (by omega)
            have hlx : ltInt x y = true := by rw [hx, hy]; exact hlv
            have HLV : Hid _ := hlv
            clear hlv
            rw [← hx] at c1
            rw [← hy] at c2
            clear hx hy
            go_wp2_with fail
            go_quiet ((go_at_call 33; exact Calls.quiet_of_same (less_ _ _ _)))
            have SL : Hid (SI w0 blk off dk _) := SK.out.drewN nq
            clear SK c1 c2
            generalize World.drewN _ nq = w3 at SL ⊢
            simp only [hlx]
            clear hlx
            have hlv := HLV.out
            clear HLV
            obtain ⟨x, hx⟩ : ∃ x, x = dk[pr]! := ⟨_, rfl⟩
            obtain ⟨y, hy⟩ : ∃ x, x = dk[pc]! := ⟨_, rfl⟩
            have c1 := SL.out.cell (pr) (by omega)
            have c2 := SL.out.cell (pc) (by omega)
            have f1 := SL.out.froz (pr) (by omega)
            have f2 := SL.out.froz (pc) (by omega)
            obtain ⟨u, c3⟩ := SL.out.cell2 (pr) (pc) (by omega) (by omega) (.int .i32 y)
            have S2 := SL.out.swap (pr) (pc) (by omega) (by omega)
            rw [← hx] at c1 S2
            rw [← hy] at c2 S2
            have S3 : Hid _ := S2
            clear S2 hx hy SL
            go_wp2_with fail
            go_big_region
            have SM : Hid (SI w0 blk off (swp dk (pr) (pc)) _) := S3.out.drew
            clear S3 c1 c2 c3 f1 f2
            generalize World.drew _ = w4 at SM ⊢

            go_wp2
            go_roundg (hi - c)
            case measure => omega
            case rel =>
              obtain ⟨hc, hc', hpc, hpc', hpr⟩ := HC.out
              exact ⟨c, swp dk pr pc, by first | rfl | go_num, by omega, Nat.le_refl _, by rw [size_swp]; exact hsk, SM, (show _ = _ from by rw [← HO.out, hpr, hpc, hc, sift_left dk (by omega) h1v.out, if_pos (by rw [← hc, ← hpc, ← hpr]; exact hlv)])⟩
          | false =>
            obtain ⟨x, hx⟩ : ∃ x, x = dk[pr]! := ⟨_, rfl⟩
            obtain ⟨y, hy⟩ : ∃ x, x = dk[pc]! := ⟨_, rfl⟩
            have c1 := SK.out.cell (pr) (by omega)
            have c2 := SK.out.cell (pc) (by omega)
            have hlx : ltInt x y = false := by rw [hx, hy]; exact hlv
            have HLV : Hid _ := hlv
            clear hlv
            rw [← hx] at c1
            rw [← hy] at c2
            clear hx hy
            go_wp2_with fail
            go_quiet ((go_at_call 33; exact Calls.quiet_of_same (less_ _ _ _)))
            have SL : Hid (SI w0 blk off dk _) := SK.out.drewN nq
            clear SK c1 c2
            generalize World.drewN _ nq = w3 at SL ⊢
            simp only [hlx]
            clear hlx
            have hlv := HLV.out
            clear HLV

            go_wp2
            (try simp only [Exit.inBlock, Exit.then]); refine bodyPost_ret (results_none rfl _ _ _) rfl ?_
            obtain ⟨hc, hc', hpc, hpc', hpr⟩ := HC.out
            exact ⟨rfl, by rw [← HO.out, sift_left dk (by omega) h1v.out, if_neg (by rw [← hc, ← hpc, ← hpr, hlv]; simp)]; exact SL.out⟩

      · have q2 : ¬ (c' : Int) < (hi : Int) := by omega
        have q3 : decide ((c' : Int) < (hi : Int)) = false := decide_eq_false q2
        go_wp2_with fail
        go_big_region
        have SK : Hid (SI w0 blk off dk _) := S1.out.drew
        clear S1
        generalize World.drew _ = w2 at SK ⊢
        obtain ⟨hc, hc', hpc, hpc', hpr⟩ := HC.out
        have h1v : Hid (2 * r + 2 < hi → ltInt dk[F + (2 * r + 1)]! dk[F + (2 * r + 1) + 1]! = false) := fun h => absurd h (by omega)
        clear hc hc' hpc hpc' hpr
        go_wp2_with fail
        cases hlv : ltInt dk[pr]! dk[pc]! with
        | true =>
          obtain ⟨x, hx⟩ : ∃ x, x = dk[pr]! := ⟨_, rfl⟩
          obtain ⟨y, hy⟩ : ∃ x, x = dk[pc]! := ⟨_, rfl⟩
          have c1 := SK.out.cell (pr) (by omega)
          have c2 := SK.out.cell (pc) (by omega)
          have hlx : ltInt x y = true := by rw [hx, hy]; exact hlv
          have HLV : Hid _ := hlv
          clear hlv
          rw [← hx] at c1
          rw [← hy] at c2
          clear hx hy
          go_wp2_with fail
          go_quiet ((go_at_call 33; exact Calls.quiet_of_same (less_ _ _ _)))
          have SL : Hid (SI w0 blk off dk _) := SK.out.drewN nq
          clear SK c1 c2
          generalize World.drewN _ nq = w3 at SL ⊢
          simp only [hlx]
          clear hlx
          have hlv := HLV.out
          clear HLV
          obtain ⟨x, hx⟩ : ∃ x, x = dk[pr]! := ⟨_, rfl⟩
          obtain ⟨y, hy⟩ : ∃ x, x = dk[pc]! := ⟨_, rfl⟩
          have c1 := SL.out.cell (pr) (by omega)
          have c2 := SL.out.cell (pc) (by omega)
          have f1 := SL.out.froz (pr) (by omega)
          have f2 := SL.out.froz (pc) (by omega)
          obtain ⟨u, c3⟩ := SL.out.cell2 (pr) (pc) (by omega) (by omega) (.int .i32 y)
          have S2 := SL.out.swap (pr) (pc) (by omega) (by omega)
          rw [← hx] at c1 S2
          rw [← hy] at c2 S2
          have S3 : Hid _ := S2
          clear S2 hx hy SL
          go_wp2_with fail
          go_big_region
          have SM : Hid (SI w0 blk off (swp dk (pr) (pc)) _) := S3.out.drew
          clear S3 c1 c2 c3 f1 f2
          generalize World.drew _ = w4 at SM ⊢

          go_wp2
          go_roundg (hi - c)
          case measure => omega
          case rel =>
            obtain ⟨hc, hc', hpc, hpc', hpr⟩ := HC.out
            exact ⟨c, swp dk pr pc, by first | rfl | go_num, by omega, Nat.le_refl _, by rw [size_swp]; exact hsk, SM, (show _ = _ from by rw [← HO.out, hpr, hpc, hc, sift_left dk (by omega) h1v.out, if_pos (by rw [← hc, ← hpc, ← hpr]; exact hlv)])⟩
        | false =>
          obtain ⟨x, hx⟩ : ∃ x, x = dk[pr]! := ⟨_, rfl⟩
          obtain ⟨y, hy⟩ : ∃ x, x = dk[pc]! := ⟨_, rfl⟩
          have c1 := SK.out.cell (pr) (by omega)
          have c2 := SK.out.cell (pc) (by omega)
          have hlx : ltInt x y = false := by rw [hx, hy]; exact hlv
          have HLV : Hid _ := hlv
          clear hlv
          rw [← hx] at c1
          rw [← hy] at c2
          clear hx hy
          go_wp2_with fail
          go_quiet ((go_at_call 33; exact Calls.quiet_of_same (less_ _ _ _)))
          have SL : Hid (SI w0 blk off dk _) := SK.out.drewN nq
          clear SK c1 c2
          generalize World.drewN _ nq = w3 at SL ⊢
          simp only [hlx]
          clear hlx
          have hlv := HLV.out
          clear HLV

          go_wp2
          (try simp only [Exit.inBlock, Exit.then]); refine bodyPost_ret (results_none rfl _ _ _) rfl ?_
          obtain ⟨hc, hc', hpc, hpc', hpr⟩ := HC.out
          exact ⟨rfl, by rw [← HO.out, sift_left dk (by omega) h1v.out, if_neg (by rw [← hc, ← hpc, ← hpr, hlv]; simp)]; exact SL.out⟩


theorem size_sift (hi F : Nat) : ∀ (n root : Nat) (d : Array Int), hi - root ≤ n → (siftDown ltInt hi F root d).size = d.size := by
  intro n
  induction n with
  | zero => intro root d h; rw [sift_end d (by omega)]
  | succ n ih =>
    intro root d h
    unfold siftDown
    split
    · rfl
    · split
      · split
        · rfl
        · split
          · rw [ih _ _ (by omega), size_swp]
          · rfl
      · split
        · rfl
        · rw [ih _ _ (by omega), size_swp]

set_option maxRecDepth 100000 in
set_option maxHeartbeats 4000000 in
/-- slices.heapSortOrdered at int32. -/
theorem heap_ (w0 : World) (blk off cap a b : Nat) (d : Array Int) (w : World) (S : SI w0 blk off d w) (hab : a ≤ b) (hb : b ≤ d.size) (hsz : d.size < 2305843009213693952) :
    Calls Yba.prog 28 #[.slice (some ⟨blk, off, none⟩) d.size cap, .int .i64 a, .int .i64 b] w fun e w' =>
      e = .returned (.tuple #[]) ∧ SI w0 blk off (Sort.heapSort ltInt d a b) w' := by
  have S0 : Hid (SI w0 blk off d w) := S
  clear S
  obtain ⟨hi, HI, hI1, hI2⟩ : ∃ hi : Nat, Hid (hi = b - a) ∧ (b : Int) - (a : Int) = (hi : Int) ∧ a + hi ≤ d.size := ⟨b - a, rfl, by omega, by omega⟩
  have hk0 : IntKind.i64.wrap (hi : Int) = hi := by rw [IntKind.wrap_i64]; omega
  obtain ⟨t, ht, HT⟩ : ∃ t : Int, ((hi : Int) - 1).tdiv 2 = t ∧ Hid (t = (((hi - 1) / 2 + 1 : Nat) : Int) - 1) := ⟨_, rfl, by
    show _ = _
    rcases Nat.eq_zero_or_pos hi with h | h
    · subst h; rfl
    · rw [Int.tdiv_eq_ediv_of_nonneg (by omega)]; omega⟩
  have ht1 : -1 ≤ t ∧ t ≤ (hi : Int) := by have := HT.out; omega
  have hk1 : IntKind.i64.wrap t = t := by rw [IntKind.wrap_i64]; omega
  go_enter Yba.func28, Yba.ntmps28
  go_wp2_with fail
  go_loopg [9] ((hi - 1) / 2 + 1) (fun g vi wr => ∃ (dk : Array Int), vi = .int .i64 ((g : Int) - 1) ∧ g ≤ d.size + 1 ∧ dk.size = d.size ∧ Hid (SI w0 blk off dk wr) ∧ Hid (heapBuild ltInt hi a g dk = heapBuild ltInt hi a ((hi - 1) / 2 + 1) d))
  case atStart => exact ⟨d, by rw [HT.out], by omega, rfl, S0, rfl⟩
  case round =>
    clear S0
    obtain ⟨dk, rfl, hgd, hsk, S1, HO⟩ := hrel
    rcases Nat.eq_zero_or_pos gk with h0 | h0
    · subst h0
      have HO' : Hid (dk = heapBuild ltInt hi a ((hi - 1) / 2 + 1) d) := HO.out
      clear HO
      go_wp2_with fail
      go_loopg [10] hi (fun g vi wr => ∃ (dj : Array Int), vi = .int .i64 ((g : Int) - 1) ∧ g ≤ hi ∧ dj.size = d.size ∧ Hid (SI w0 blk off dj wr) ∧ Hid (heapPop ltInt a g dj = heapPop ltInt a hi dk))
      case atStart => exact ⟨dk, by first | rfl | go_num, Nat.le_refl _, hsk, S1, rfl⟩
      case round =>
        clear S1
        obtain ⟨dj, rfl, hgj, hsj, SJ, HJ⟩ := hrel
        rcases Nat.eq_zero_or_pos gk with h0 | h0
        · subst h0
          go_wp2_with fail
          go_end0
          exact ⟨rfl, by unfold Sort.heapSort; rw [← HI.out, ← HO'.out, ← HJ.out]; exact SJ.out⟩
        · obtain ⟨k, rfl⟩ : ∃ k, gk = k + 1 := ⟨gk - 1, by omega⟩
          have eK : ((k + 1 : Nat) : Int) - 1 = (k : Int) := by omega
          simp only [eK]
          have q1 : (0 : Int) ≤ (k : Int) := by omega
          obtain ⟨p, HP, hP1, hP2⟩ : ∃ p : Nat, Hid (p = a + k) ∧ (a : Int) + (k : Int) = (p : Int) ∧ p < d.size := ⟨_, rfl, by omega, by omega⟩
          have b1 : (a : Int) < (d.size : Int) := by omega
          have b2 : (p : Int) < (d.size : Int) := by omega
          have b3 : a < d.size := by omega
          have k1 : IntKind.i64.wrap (p : Int) = p := by rw [IntKind.wrap_i64]; omega
          go_wp2_with fail
          obtain ⟨x, hx⟩ : ∃ x, x = dj[a]! := ⟨_, rfl⟩
          obtain ⟨y, hy⟩ : ∃ x, x = dj[p]! := ⟨_, rfl⟩
          have c1 := SJ.out.cell (a) (by omega)
          have c2 := SJ.out.cell (p) (by omega)
          have f1 := SJ.out.froz (a) (by omega)
          have f2 := SJ.out.froz (p) (by omega)
          obtain ⟨u, c3⟩ := SJ.out.cell2 (a) (p) (by omega) (by omega) (.int .i32 y)
          have S2 := SJ.out.swap (a) (p) (by omega) (by omega)
          rw [← hx] at c1 S2
          rw [← hy] at c2 S2
          have S3 : Hid _ := S2
          clear S2 hx hy SJ
          go_wp2_with fail
          go_big_region
          have SK : Hid (SI w0 blk off (swp dj (a) (p)) _) := S3.out.drew
          clear S3 c1 c2 c3 f1 f2
          generalize World.drew _ = w2 at SK ⊢

          go_wp2_with fail
          have hsw : (swp dj a p).size = d.size := by rw [size_swp]; exact hsj
          rw [← hsw]
          refine (sift_ w0 blk off cap 0 k a (swp dj a p) _ SK.out (by omega) (by omega) (by omega)).mono ?_
          rintro e w' ⟨rfl, S2⟩
          rw [hsw]
          have S3 : Hid _ := S2
          clear S2 SK
          go_wp2
          go_roundg k
          case measure => omega
          case rel => exact ⟨_, by first | rfl | go_num, by omega, by rw [size_sift k a _ 0 _ (Nat.le_refl _)]; exact hsw, S3, (show _ = _ from by rw [← HJ.out, HP.out]; rfl)⟩
    · obtain ⟨k, rfl⟩ : ∃ k, gk = k + 1 := ⟨gk - 1, by omega⟩
      have eK : ((k + 1 : Nat) : Int) - 1 = (k : Int) := by omega
      simp only [eK]
      have q1 : (0 : Int) ≤ (k : Int) := by omega
      go_wp2_with fail
      rw [← hsk]
      refine (sift_ w0 blk off cap k hi a dk _ S1.out (by omega) (by omega) (by omega)).mono ?_
      rintro e w' ⟨rfl, S2⟩
      rw [hsk]
      have S3 : Hid _ := S2
      clear S2 S1
      go_wp2
      go_roundg k
      case measure => omega
      case rel => exact ⟨_, by first | rfl | go_num, by omega, by rw [size_sift hi a _ k dk (Nat.le_refl _)]; exact hsk, S3, HO⟩
end Go.Proofs.Ybulkecac
