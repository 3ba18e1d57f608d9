import Derived.Test.YbulkecacArrE
namespace Go.Proofs.Ybulkecac
open Go.RowKit Go.Sort
open Go.ChangeMaps (setBlock)
open Go.MapKept (heap_set)
set_option linter.unusedSimpArgs false
set_option linter.unusedVariables false

theorem encS_length (N : Nat) (ss : List (Int × Nat)) : (encS N ss).length = 2 * ss.length := by
  induction ss with
  | nil => rfl
  | cons a l ih => simp only [encS, List.flatMap_cons, List.length_append, List.length_cons, List.length_nil] at ih ⊢; omega

/-- the says so far, in a row of the call's own -/
structure Sy (w0 : World) (N : Nat) (v : Value) (ss : List (Int × Nat)) (W : World) : Prop where
  row : W.ownsRow w0.heap.size 102 2 v ss.length (encS N ss)
  kept : w0.grownBy W none

section
variable {w0 W W' : World} {N : Nat} {v : Value} {ss : List (Int × Nat)}

theorem Sy.grown (h : Sy w0 N v ss W) (hg : W.grownBy W' none) : Sy w0 N v ss W' :=
  ⟨h.row.kept hg (by cases v.ownBlock <;> simp), h.kept.trans hg⟩

theorem Sy.size (h : Sy w0 N v ss W) : w0.heap.size ≤ W.heap.size := h.kept.size

theorem Sy.ne (h : Sy w0 N v ss W) {b : Nat} (hb : b < w0.heap.size) : some b ≠ v.ownBlock := fun e => by
  have := (h.row.lt b e.symm).1
  omega

/-- one say more -/
theorem Sy.step (h : Sy w0 N v ss W) {W1 : World} (hW : W.grownBy W1 none) (x : Int) (j : Nat) {v' : Value} (hr : W'.ownsRow w0.heap.size 102 2 v' (ss.length + 1) (encS N ss ++ [.int .i32 x, .pointer (some ⟨N + 1 + j, 0, none⟩)])) (hg : W1.grownBy W' v.ownBlock) : Sy w0 N v' (ss ++ [(x, j)]) W' :=
  ⟨by rw [encS_snoc, List.length_append]; exact hr, (h.kept.trans hW).andThen hg (fun j hj => Or.inl (h.row.lt j hj).1)⟩
end


theorem shapeEs_mem {N k : Nat} {e : MapEntry} (h : e ∈ (shapeEs N k).toList) : ∃ i, i < k ∧ e = { key := shapeKey i, val := .pointer (some ⟨N + 1 + i, 0, none⟩), born := i } := by
  simp only [shapeEs, List.mem_map, List.mem_range] at h
  obtain ⟨i, hi, rfl⟩ := h
  exact ⟨i, hi, rfl⟩

theorem shapeEs_has {N k i : Nat} (h : i < k) : ({ key := shapeKey i, val := .pointer (some ⟨N + 1 + i, 0, none⟩), born := i } : MapEntry) ∈ (shapeEs N k).toList := by
  simp only [shapeEs, List.mem_map, List.mem_range]
  exact ⟨i, h, rfl⟩

theorem left0 (N k : Nat) : (leftOf (shapeEs N k) #[]).size = k := by
  have h : leftOf (shapeEs N k) #[] = shapeEs N k := by
    unfold leftOf
    exact Array.filter_eq_self.2 (by intro a _; simp)
  rw [h]
  simp [shapeEs]

theorem shapeEs_nodup (N k : Nat) : ((shapeEs N k).toList.map (·.born)).Nodup := by
  simp only [shapeEs, List.map_map]
  rw [show ((fun x : MapEntry => x.born) ∘ fun i => ({ key := shapeKey i, val := .pointer (some ⟨N + 1 + i, 0, none⟩), born := i } : MapEntry)) = id from rfl, List.map_id]
  exact List.nodup_range


/-- the range over the schemas under way: g entries are left; pd: the schema in hand -/
structure It (w0 : World) (N k : Nat) (rs : List (Int × Nat)) (bs : Nat → BB) (r : Nat) (pd : Option Nat) (g : Nat) (v : Value) (ss : List (Int × Nat)) (seen : Array Nat) (c0 : Nat) (W : World) : Prop where
  sy : Sy w0 N v ss W
  it : W.heap[r]? = some (.mapIter (some (N + 4 + k)) k seen c0)
  c0k : k ≤ c0
  new : w0.heap.size ≤ r
  ne : some r ≠ v.ownBlock
  left : (leftOf (shapeEs N k) seen).size = g
  len : ss.length + 4096 * g + (if pd = none then 0 else 4096) ≤ 4096 + 4096 * k
  sound : ∀ p ∈ ss, Said k rs bs p.1 p.2
  rules : ∀ p ∈ rs, (max p.1 (-1), p.2) ∈ ss
  bares : ∀ i, i < k → seen.contains i = true → pd ≠ some i → ∀ x ∈ (bs i).says, (x, i) ∈ ss

theorem It.next {w0 : World} {N k : Nat} {rs : List (Int × Nat)} {bs : Nat → BB} {r g : Nat} {v : Value} {ss : List (Int × Nat)} {seen : Array Nat} {c0 : Nat} {W w1 : World} (h : It w0 N k rs bs r none g v ss seen c0 W)
    (hal : w1 = W ∨ w1 = W.drew) (i : Nat) (hi : i < k) (he : ({ key := shapeKey i, val := .pointer (some ⟨N + 1 + i, 0, none⟩), born := i } : MapEntry) ∈ (leftOf (shapeEs N k) seen).toList) :
    It w0 N k rs bs r (some i) (leftOf (shapeEs N k) (seen.push i)).size v ss (seen.push i) k (setBlock w1 r (.mapIter (some (N + 4 + k)) k (seen.push i) k)) ∧ (leftOf (shapeEs N k) (seen.push i)).size < g := by
  have hr1 : w1.heap[r]? = some (.mapIter (some (N + 4 + k)) k seen c0) := by rcases hal with rfl | rfl <;> exact h.it
  have hset := heap_set (o' := .mapIter (some (N + 4 + k)) k (seen.push i) k) hr1
  have hg : W.grownBy (setBlock w1 r (.mapIter (some (N + 4 + k)) k (seen.push i) k)) (some r) := by
    rcases hal with rfl | rfl <;> exact ⟨rfl, rfl, rfl, by simp [setBlock], fun j _ hj => hset.2 j (fun e1 => hj (by rw [e1]))⟩
  have hsh := left_shrinks (shapeEs N k) seen _ he
  have hl := h.left
  have hlen := h.len
  simp only at hsh hlen
  refine ⟨⟨⟨h.sy.row.kept hg (Or.inr h.ne.symm), h.sy.kept.andThen hg (fun j hj => Or.inl (by cases hj; exact h.new))⟩, hset.1, Nat.le_refl _, h.new, h.ne, rfl, ?_, h.sound, h.rules, fun j hj hc hne => ?_⟩, by omega⟩
  · simp at hlen ⊢; omega
  · rw [contains_push] at hc
    rcases Bool.or_eq_true_iff.1 hc with hc | hc
    · exact h.bares j hj hc (by simp)
    · exact absurd (by simpa using hc : j = i) (fun e => hne (by rw [e]))

/-- other steps: a say of schema i more, new blocks -/
theorem It.grown {w0 : World} {N k : Nat} {rs : List (Int × Nat)} {bs : Nat → BB} {r g : Nat} {pd : Option Nat} {v : Value} {ss : List (Int × Nat)} {seen : Array Nat} {c0 : Nat} {W W' : World} (h : It w0 N k rs bs r pd g v ss seen c0 W)
    (hg : W.grownBy W' none) : It w0 N k rs bs r pd g v ss seen c0 W' :=
  ⟨h.sy.grown hg, (hg.block r (Array.getElem?_eq_some_iff.1 h.it).1 (by simp)).trans h.it, h.c0k, h.new, h.ne, h.left, h.len, h.sound, h.rules, h.bares⟩

theorem It.fin {w0 : World} {N k : Nat} {rs : List (Int × Nat)} {bs : Nat → BB} {r g i : Nat} {v v' : Value} {ss ss' : List (Int × Nat)} {seen : Array Nat} {c0 : Nat} {W W' : World} (h : It w0 N k rs bs r (some i) g v ss seen c0 W)
    (hs : Sy w0 N v' ss' W') (hit : W'.heap[r]? = W.heap[r]?) (hne : some r ≠ v'.ownBlock) (hl : ss'.length ≤ ss.length + 4096) (hsub : ∀ p ∈ ss, p ∈ ss') (hsnd : ∀ p ∈ ss', p ∈ ss ∨ (p.2 = i ∧ p.1 ∈ (bs i).says)) (hik : i < k) (hall : ∀ x ∈ (bs i).says, (x, i) ∈ ss') :
    It w0 N k rs bs r none g v' ss' seen c0 W' := by
  have hlen := h.len
  simp at hlen
  refine ⟨hs, hit.trans h.it, h.c0k, h.new, hne, h.left, by simp; omega, fun p hp => ?_, fun p hp => hsub _ (h.rules p hp), fun j hj hc _ x hx => ?_⟩
  · rcases hsnd p hp with hp | ⟨h1, h2⟩
    · exact h.sound p hp
    · exact Or.inr ⟨by omega, by rw [h1]; exact h2⟩
  · by_cases e : j = i
    · subst e; exact hall x hx
    · exact hsub _ (h.bares j hj hc (fun e' => e (by cases e'; rfl)) x hx)

/-- an append to the says, seen from the range -/
theorem Sy.app {w0 W W1 W' : World} {N r : Nat} {v : Value} {ss : List (Int × Nat)} (h : Sy w0 N v ss W) (hrl : r < W.heap.size) (hne : some r ≠ v.ownBlock) (hW : W.grownBy W1 none) (x : Int) (j : Nat) {gg n cc H : Nat}
    (hr : W'.ownsRow w0.heap.size 102 2 (.slice (some ⟨gg, 0, none⟩) n cc) (ss.length + 1) (encS N ss ++ [.int .i32 x, .pointer (some ⟨N + 1 + j, 0, none⟩)])) (hg : W1.grownBy W' v.ownBlock) (hat : v.ownBlock = some gg ∨ gg = H) (hH : W.heap.size ≤ H) :
    Sy w0 N (.slice (some ⟨gg, 0, none⟩) n cc) (ss ++ [(x, j)]) W' ∧ W'.heap[r]? = W.heap[r]? ∧ some r ≠ some gg := by
  refine ⟨h.step hW x j hr hg, (hg.block r (Nat.lt_of_lt_of_le hrl hW.size) hne).trans (hW.block r hrl (by simp)), ?_⟩
  rcases hat with h1 | h1
  · rw [← h1]; exact hne
  · intro e; cases e; omega

/-- behind the first two loops: all is said -/
structure SyD (w0 : World) (N k : Nat) (rs : List (Int × Nat)) (bs : Nat → BB) (v : Value) (ss : List (Int × Nat)) (W : World) : Prop where
  sy : Sy w0 N v ss W
  len : ss.length ≤ 1300000
  iff : ∀ x h, (x, h) ∈ ss ↔ Said k rs bs x h

set_option maxRecDepth 100000 in
set_option maxHeartbeats 8000000 in
theorem arr_ (N k : Nat) (tt : Nat → Option Nat) (rs : List (Int × Nat)) (bs : Nat → BB) (w : World) (P : PS N k tt rs bs w) :
    Calls Yba.prog 12 #[.pointer (some ⟨N + 5 + k, 0, none⟩)] w fun o w' => o = .returned (.tuple #[]) ∧ ArrPost N k tt rs bs w w' := by
  obtain ⟨vr, p3, hR⟩ := P.p3
  have P' : Hid _ := P
  have hrs := P.rs4
  clear P
  obtain ⟨nr, hnr, HNR⟩ : ∃ n, n ≤ 4096 ∧ Hid (n = rs.length) := ⟨_, hrs, rfl⟩
  obtain ⟨vra, vrc, rfl⟩ : ∃ a c, vr = .slice a nr c := by
    have hnr := HNR.out
    rcases hR with ⟨h1, rfl⟩ | ⟨g, cap, rfl, _⟩
    · rw [hnr, h1]; exact ⟨_, _, rfl⟩
    · rw [hnr]; exact ⟨_, _, rfl⟩
  have HR : Hid _ := hR
  clear hR hrs
  have S0 : Hid (Sy w N (.slice none 0 0) [] w) := ⟨World.ownsRow_nil _ _ _ _, grefl _ _⟩
  go_enter Yba.func12, Yba.ntmps12
  go_upto_block 0 with fail
  go_cut [2, 4] from 19 to 40 (fun v v4 wx => ∃ ss, Hid (ss = rs.map fun p => (max p.1 (-1), p.2)) ∧ Hid (Sy w N v ss wx))
  case first =>
    go_wp2_with fail
    go_loopg [2, 19] nr (fun g v vi wr => ∃ (i : Nat) (ss : List (Int × Nat)), vi = .int .i64 i ∧ i ≤ nr ∧ nr - i ≤ g ∧ ss.length = i ∧ Hid (ss = (rs.take i).map fun p => (max p.1 (-1), p.2)) ∧ Hid (Sy w N v ss wr))
    case atStart => exact ⟨0, [], rfl, by omega, by omega, rfl, rfl, S0⟩
    case round =>
      clear S0
      obtain ⟨i, ss, rfl, hi, hg, hsl, HSS, S1⟩ := hrel
      by_cases hlt : i < nr
      · have hz : (i : Int) < (nr : Int) := by omega
        obtain ⟨g, cap, e1, e2, e3⟩ : ∃ g cap, Value.slice vra nr vrc = .slice (some ⟨g, 0, none⟩) nr cap ∧ nr ≤ cap ∧ ∀ p, p < nr → ∃ R Q, w.cell? ⟨g, p, none⟩ = some (.pointer (some ⟨R, 0, none⟩)) ∧ w.cell? ⟨R, 3, none⟩ = some (.pointer (some ⟨N + 1 + (rs[p]!).2, 0, none⟩)) ∧
            w.cell? ⟨R, 4, none⟩ = some (.slice (some ⟨Q, 0, none⟩) 1 1) ∧ w.cell? ⟨Q, 0, none⟩ = some (.int .i32 (rs[p]!).1) := by
          have hnr := HNR.out
          rcases HR.out with ⟨h1, _⟩ | ⟨g, cap, h1, h2, h3⟩
          · rw [h1] at hnr; simp at hnr; omega
          · exact ⟨g, cap, by rw [h1, hnr], by omega, fun p hp => h3 p (by omega)⟩
        obtain ⟨rfl, rfl⟩ : vra = some ⟨g, 0, none⟩ ∧ vrc = cap := by cases e1; exact ⟨rfl, rfl⟩
        clear e1
        obtain ⟨R, Q, c1, c2, c3, c4⟩ := e3 i hlt
        obtain ⟨sp, hsp⟩ : ∃ x, x = (rs[i]!).1 := ⟨_, rfl⟩
        obtain ⟨hd, hhd⟩ : ∃ x, x = (rs[i]!).2 := ⟨_, rfl⟩
        rw [← hsp] at c4
        rw [← hhd] at c2
        have q1 := gcell S1.out.kept c1
        have q2 := gcell S1.out.kept c2
        have q3 := gcell S1.out.kept c3
        have q4 := gcell S1.out.kept c4
        have neR := S1.out.ne (World.block_lt_of_cell? _ _ c2)
        have neQ := S1.out.ne (World.block_lt_of_cell? _ _ c4)
        simp only at neR neQ
        have HE : Hid _ := e3
        have HSP : Hid _ := hsp
        have HHD : Hid _ := hhd
        clear e3 c1 c2 c3 c4 hsp hhd
        have hszw := S1.out.size
        go_upto_region 4 with fail
        go_region_held3 (fun w' => w'.cell? ⟨R, 3, none⟩ = some (.pointer (some ⟨N + 1 + hd, 0, none⟩)) ∧ w'.cell? ⟨R, 4, none⟩ = some (.slice (some ⟨Q, 0, none⟩) 1 1) ∧ w'.cell? ⟨Q, 0, none⟩ = some (.int .i32 sp))
          (first
            | go_keep
            | (go_split_ands
               refine ⟨?_, ?_, ?_⟩
               · (exact hgrow.cell (by assumption) neR)
               · (exact hgrow.cell (by assumption) neR)
               · (exact hgrow.cell (by assumption) neQ)))
          ((refine stepA A102 (by rfl) _ _ (by rfl) w.heap.size _ _ _ (by rfl) ((S1.out.row.alloc _).drew) wr.heap.size #[.int .i32 (max sp (-1)), .pointer (some ⟨N + 1 + hd, 0, none⟩)] (by rfl) (heap_alloc_new wr _) rfl (by simp [Value.oneCell']) (by omega) (by simp; omega) (wr.heap.size + 1) (by simp) ?_; intro gg cc w1 hown1 hgrow hat hlt1))
        have S2 : Hid (Sy w N _ (ss ++ [(max sp (-1), hd)]) w1) := S1.out.step ((World.grownBy_alloc wr _ none).trans (gdrew _ none)) (max sp (-1)) hd hown1 hgrow
        rw [hsl] at S2
        clear hown1 hgrow hat hlt1 S1 neR neQ q1 q2 q3 q4
        go_wp2
        go_roundg (nr - (i + 1))
        case measure => omega
        case rel =>
          refine ⟨i + 1, ss ++ [(max sp (-1), hd)], by go_num, by omega, Nat.le_refl _, by simp; omega, ?_, S2⟩
          show _ = _
          have hnr := HNR.out
          rw [HSS.out, List.take_add_one, List.map_append, HSP.out, HHD.out]
          have : rs[i]? = some rs[i]! := by rw [List.getElem!_eq_getElem?_getD, List.getElem?_eq_getElem (by omega)]; rfl
          rw [this]
          rfl
      · have hz : ¬ (i : Int) < (nr : Int) := by omega
        go_wp2_with fail
        go_meet
        case rel =>
          refine ⟨ss, ?_, S1⟩
          show _ = _
          rw [HSS.out, List.take_of_length_le (by have := HNR.out; omega)]
  case rest =>
    clear S0 p3 HR HNR hnr
    obtain ⟨ss0, HSS0, S0⟩ := hcut
    have hk3 := P'.out.k300
    have p2 := gcell S0.out.kept P'.out.p2
    have hm : wc.heap[N + 4 + k]? = some (.map (shapeEs N k) k) := (P'.out.kept S0.out.kept).map
    have hrg := run_range_map (P := Yba.prog) wc 69 74 44 (N + 4 + k) (shapeEs N k) k Yba.underlying69 hm
    obtain ⟨r, hr⟩ : ∃ r, r = wc.heap.size := ⟨_, rfl⟩
    have I0 : Hid (It w N k rs bs r none k u2 ss0 #[] k (wc.alloc (.mapIter (some (N + 4 + k)) k #[] k))) := by
      have hS := S0.out.grown (World.grownBy_alloc wc (.mapIter (some (N + 4 + k)) k #[] k) none)
      refine ⟨hS, by rw [hr]; exact heap_alloc_new _ _, Nat.le_refl _, by rw [hr]; exact S0.out.size, fun e => ?_, left0 N k, ?_, ?_, ?_, fun i _ hc => by simp at hc⟩
      · have := (S0.out.row.lt r e.symm).2; omega
      · rw [HSS0.out, List.length_map]; have := P'.out.rs4; simp; omega
      · intro p hp
        rw [HSS0.out] at hp
        obtain ⟨q, hq, rfl⟩ := List.mem_map.1 hp
        exact Or.inl ⟨q.1, hq, rfl⟩
      · intro p hp
        rw [HSS0.out]
        exact List.mem_map.2 ⟨p, hp, rfl⟩
    go_upto_block 2 with fail
    rw [← hr]
    generalize hwa : wc.alloc _ = wa at I0 ⊢
    clear hwa hrg p2 hm S0 HSS0 hr
    go_cut [2, 6, 7, 8, 9] from 46 to 107 (fun v v6 v7 v8 v9 wx => ∃ ss, Hid (SyD w N k rs bs v ss wx))
    case first =>
      go_wp2_with fail
      go_loopg [2, 6, 7, 8, 9] k (fun g v v6 v7 v8 v9 wr => ∃ ss seen c0, Hid (It w N k rs bs r none g v ss seen c0 wr))
      case atStart => exact ⟨_, _, _, I0⟩
      case round =>
        clear I0
        obtain ⟨ss, seen, c0, I1⟩ := hrel
        have hm : wr.heap[N + 4 + k]? = some (.map (shapeEs N k) k) := (P'.out.kept I1.out.sy.kept).map
        rcases run_next_at (P := Yba.prog) wr 0 r (N + 4 + k) k c0 seen (shapeEs N k) k I1.out.it hm (fun x hx => by obtain ⟨i, hi, rfl⟩ := shapeEs_mem hx; exact hi) I1.out.c0k with ⟨h0, hrun⟩ | ⟨e, he, w1, hal, hrun⟩
        · go_wp2_with fail
          go_meet
          case rel =>
            refine ⟨ss, I1.out.sy, ?_, fun x h => ⟨fun hx => I1.out.sound _ hx, fun hx => ?_⟩⟩
            · have := I1.out.len; omega
            · rcases hx with ⟨s, hs, rfl⟩ | ⟨hh, hx⟩
              · exact I1.out.rules _ hs
              · exact I1.out.bares h hh (all_seen _ _ h0 _ (shapeEs_has hh)) (by simp) x hx
        · obtain ⟨hem, hes⟩ := mem_left he
          obtain ⟨i, hik, rfl⟩ := shapeEs_mem hem
          obtain ⟨I2, hsh⟩ := I1.out.next hal i hik he
          have hm2 : (setBlock w1 r (.mapIter (some (N + 4 + k)) k (seen.push i) k)).heap[N + 4 + k]? = some (.map (shapeEs N k) k) := (P'.out.kept I2.sy.kept).map
          have hen := run_entry_at (P := Yba.prog) _ r (N + 4 + k) k seen (shapeEs N k) k _ I2.it hm2 hem (shapeEs_nodup N k)
          simp only at hrun hen
          generalize hwB : setBlock w1 r _ = wB at I2 hm2 hen hrun
          generalize hgB : (leftOf (shapeEs N k) (seen.push i)).size = gB at I2 hsh
          have I3 : Hid _ := I2
          clear I2 I1 hm hm2 hal hes hem he hwB hgB w1
          have hB := (P'.out.kept I3.out.sy.kept).bare i hik
          obtain ⟨bb, hbi⟩ : ∃ bb, bs i = bb := ⟨_, rfl⟩
          cases bb using BB.elim with
          | none =>
            rw [hbi] at hB
            have c5 : wB.cell? ⟨N + 1 + i, 5, none⟩ = some (.slice none 0 0) := hB
            clear hB
            go_wp2
            go_roundg gB
            case measure => omega
            case rel => exact ⟨ss, _, _, I3.out.fin I3.out.sy rfl I3.out.ne (by omega) (fun p hp => hp) (fun p hp => Or.inl hp) hik (by rw [hbi]; simp [BB.says])⟩
          | row x =>
            rw [hbi] at hB
            obtain ⟨g, g2, e, c5, c0', he, hE, c9, c9'⟩ := hB
            have PB := P'.out.kept I3.out.sy.kept
            have C : Hid _ := bareRow_ N k i e g x wB he hE PB.p0 PB.c3 PB.f0 PB.f1 PB.f2 c5 c0'
            clear PB hE
            have hsn := fun (w : World) (a : Option Addr) (n c n' c' : Nat) => Lib.run_eql_slice_nil (P := Yba.prog) w 90 33 a n c n' c' Yba.underlying90
            have hlen3 : ss.length < 4000000 := by have := I3.out.len; omega
            go_wp2_with fail
            refine Calls.mono C.out ?_
            rintro o w4 ⟨⟨gt, t, c, rfl, hx⟩, hg4⟩
            have I4 : Hid _ := I3.out.grown hg4
            have hsz4 := I4.out.sy.size
            have HG4 : Hid _ := hg4
            clear hg4 C c5 c0' c9 c9'
            go_wp2_with (at_builtin; refine wpA A102 (by rfl) _ _ (by rfl) w.heap.size _ _ _ (by rfl) (I4.out.sy.row.alloc _) w4.heap.size #[.int .i32 x, .pointer (some ⟨N + 1 + i, 0, none⟩)] (by rfl) (heap_alloc_new w4 _) rfl (by simp [Value.oneCell']) hlen3 (by simp; omega) (w4.heap.size + 1) (by simp) ?_; intro gg cc w5 hown1 hgrow hat hlt1)
            obtain ⟨S5, h5, n5⟩ := I4.out.sy.app (r := r) (Array.getElem?_eq_some_iff.1 I4.out.it).1 I4.out.ne (World.grownBy_alloc w4 _ none) x i hown1 hgrow hat (by omega)
            have I5 : Hid _ := I4.out.fin S5 h5 n5 (by simp) (fun p hp => List.mem_append_left _ hp) (fun p hp => by
              rcases List.mem_append.1 hp with hp | hp
              · exact Or.inl hp
              · rw [List.mem_singleton] at hp; subst hp; exact Or.inr ⟨rfl, by rw [hbi]; simp [BB.says]⟩) hik (by rw [hbi]; simp [BB.says])
            clear S5 h5 n5 hown1 hgrow hat hlt1
            go_roundg gB
            case measure => omega
            case rel => exact ⟨_, _, _, I5⟩
          | prs ps =>
            clear hB
            have hB := P'.out.bare i hik
            rw [hbi] at hB
            obtain ⟨g, g2, g3, c3, c5, c9, c9', hc3, hpr⟩ := hB
            replace c5 := gcell I3.out.sy.kept c5
            replace c9 := gcell I3.out.sy.kept c9
            replace c9' := gcell I3.out.sy.kept c9'
            have HPR : Hid _ := hpr
            have HPW : Hid (∀ x ∈ ps, -2147483648 ≤ x ∧ x ≤ 2147483647) := fun x hx => P'.out.bsW i x (by rw [hbi]; exact hx)
            obtain ⟨np, HNP, hnp⟩ : ∃ n, Hid (n = ps.length) ∧ n ≤ 4096 := ⟨_, rfl, by have := P'.out.bs4 i; rw [hbi] at this; exact this⟩
            rw [← HNP.out] at c9' hc3
            clear hpr
            have hsn := fun (w : World) (a : Option Addr) (n c n' c' : Nat) => Lib.run_eql_slice_nil (P := Yba.prog) w 90 33 a n c n' c' Yba.underlying90
            have hlen3 : ss.length + 4096 < 4000000 := by have := I3.out.len; omega
            go_wp2_with fail
            go_loopg [2, 7, 8, 9, 80] np (fun g v v7 v8 v9 vq wr => ∃ (q : Nat) (s2 : List (Int × Nat)), vq = .int .i64 q ∧ q ≤ np ∧ np - q ≤ g ∧ s2.length ≤ ss.length + q ∧ Hid (Sy w N v s2 wr) ∧ wr.heap[r]? = wB.heap[r]? ∧ some r ≠ v.ownBlock ∧ Hid (∀ p ∈ ss, p ∈ s2) ∧ Hid (∀ p ∈ s2, p ∈ ss ∨ (p.2 = i ∧ p.1 ∈ ps)) ∧ Hid (∀ q', q' < q → (ps[q']!, i) ∈ s2) ∧ Hid (0 < q → ∃ s3, s2 = s3 ++ [(ps[q - 1]!, i)]))
            case atStart => exact ⟨0, ss, rfl, by omega, by omega, by omega, I3.out.sy, rfl, I3.out.ne, fun p hp => hp, fun p hp => Or.inl hp, fun q h => absurd h (by omega), fun h => absurd h (by omega)⟩
            case round =>
              obtain ⟨q, s2, rfl, hq, hgq, hl2, S2, hit, hne, HA, HB, HC, HD⟩ := hrel
              by_cases hlt : q < np
              · have hz : (q : Int) < (np : Int) := by omega
                obtain ⟨x, hx⟩ : ∃ x, x = ps[q]! := ⟨_, rfl⟩
                have hxm : x ∈ ps := by
                  have hl : q < ps.length := by have := HNP.out; omega
                  rw [hx, getElem!_pos ps q hl]; exact List.getElem_mem hl
                have hxb := HPW.out x hxm
                have cq := gcell S2.out.kept (HPR.out q (by have := HNP.out; omega))
                rw [← hx] at cq
                obtain ⟨pu, hpu⟩ : ∃ z, z = pairU x q := ⟨_, rfl⟩
                rw [← hpu] at cq
                obtain ⟨ux, hux⟩ : ∃ z, z = IntKind.u32.wrap x := ⟨_, rfl⟩
                have hux0 : 0 ≤ ux ∧ ux < 4294967296 := by rw [hux, IntKind.wrap_u32]; omega
                have e1 : pu / 4294967296 = ux := by rw [hpu]; unfold pairU; rw [← hux]; omega
                have e2 : IntKind.i32.wrap ux = x := by rw [hux, IntKind.wrap_u32, IntKind.wrap_i32]; omega
                have hpu0 : 0 ≤ pu ∧ pu < 18446744073709551616 := by rw [hpu]; unfold pairU; rw [← hux]; omega
                have HX : Hid _ := hx
                clear hx hux hpu
                go_upto_region 16 with fail
                go_cut [100] from 88 to 100 (fun v wx => ∃ t : Bool, v = .bool t ∧ wx = wr ∧ Hid (t = false → ∃ s3, s2 = s3 ++ [(x, i)]))
                case first =>
                  rcases Nat.eq_zero_or_pos q with hq0 | hq0
                  · subst hq0
                    go_wp2_with fail
                    go_meet
                    case rel => exact ⟨true, rfl, rfl, fun h => by cases h⟩
                  · obtain ⟨s3, hs3⟩ := HD.out hq0
                    obtain ⟨y, hy⟩ : ∃ y, y = ps[q - 1]! := ⟨_, rfl⟩
                    rw [← hy] at hs3
                    obtain ⟨m, hm⟩ : ∃ m, m = s3.length := ⟨_, rfl⟩
                    have hl3 : s2.length = m + 1 := by rw [hs3, hm]; simp
                    obtain ⟨gv, cv, rfl, hgv, hgl⟩ := S2.out.row.form (by omega)
                    rw [hl3]
                    have cl : wr.cell? ⟨gv, m * 2, none⟩ = some (.int .i32 y) := by
                      have := S2.out.row.cells (g := gv) rfl (m * 2) (.int .i32 y) (by
                        rw [hs3, encS_snoc, List.getElem?_append_right (by rw [encS_length, hm]; omega), encS_length, hm]
                        rw [show s3.length * 2 - 2 * s3.length = 0 by omega]; rfl)
                      rw [addr_add0] at this
                      exact this
                    have e3 : (((m + 1 : Nat) : Int)) - 1 = (m : Int) := by omega
                    have e4 : (m : Int) < ((m + 1 : Nat) : Int) := by omega
                    have e5 : ¬ (q : Int) = 0 := by omega
                    have e6 : ((q : Int) == 0) = false := by simp; omega
                    have hm4 : m < 4000000 := by omega
                    have HL3 : Hid _ := hl3
                    have HS3 : Hid _ := hs3
                    clear hs3 hy hl3 hm
                    by_cases hyx : y = x
                    · subst hyx
                      go_wp2_with fail
                      rw [← HL3.out]
                      go_meet
                      case rel => exact ⟨false, rfl, rfl, fun _ => ⟨s3, HS3.out⟩⟩
                    · go_wp2_with fail
                      rw [← HL3.out]
                      go_meet
                      case rel => exact ⟨true, by simp [hyx], rfl, fun h => by cases h⟩
                case rest =>
                  obtain ⟨t, rfl, rfl, HT⟩ := hcut
                  cases t with
                  | false =>
                    go_wp2
                    go_roundg (np - (q + 1))
                    case measure => omega
                    case rel =>
                      obtain ⟨s3, hs3⟩ := HT.out (by trivial)
                      refine ⟨q + 1, s2, by go_num, by omega, Nat.le_refl _, by omega, S2, hit, hne, HA, HB, fun q' hq' => ?_, fun _ => ⟨s3, by rw [hs3, HX.out]; rfl⟩⟩
                      by_cases e : q' < q
                      · exact HC.out q' e
                      · obtain rfl : q' = q := by omega
                        rw [← HX.out, hs3]; simp
                  | true =>
                    have hszw := S2.out.size
                    have hl4 : s2.length < 4000000 := by omega
                    go_wp2_with (at_builtin; refine wpA A102 (by rfl) _ _ (by rfl) w.heap.size _ _ _ (by rfl) (S2.out.row.alloc _) wc.heap.size #[.int .i32 x, .pointer (some ⟨N + 1 + i, 0, none⟩)] (by rfl) (heap_alloc_new wc _) rfl (by simp [Value.oneCell']) hl4 (by simp; omega) (wc.heap.size + 1) (by simp) ?_; intro gg cc w5 hown1 hgrow hat hlt1)
                    have hrl : r < wc.heap.size := by
                      have := (Array.getElem?_eq_some_iff.1 (hit.trans I3.out.it)).1
                      exact this
                    obtain ⟨S5, h5, n5⟩ := S2.out.app (r := r) hrl hne (World.grownBy_alloc wc _ none) x i hown1 hgrow hat (by omega)
                    have S5' : Hid _ := S5
                    clear S5 hown1 hgrow hat hlt1
                    go_roundg (np - (q + 1))
                    case measure => omega
                    case rel =>
                      refine ⟨q + 1, s2 ++ [(x, i)], by go_num, by omega, Nat.le_refl _, by simp; omega, S5', h5.trans hit, n5, fun p hp => List.mem_append_left _ (HA.out p hp), fun p hp => ?_, fun q' hq' => ?_, fun _ => ⟨s2, by rw [HX.out]; rfl⟩⟩
                      · rcases List.mem_append.1 hp with hp | hp
                        · exact HB.out p hp
                        · rw [List.mem_singleton] at hp; subst hp; exact Or.inr ⟨rfl, hxm⟩
                      · by_cases e : q' < q
                        · exact List.mem_append_left _ (HC.out q' e)
                        · obtain rfl : q' = q := by omega
                          rw [← HX.out]; simp
              · have hz : ¬ (q : Int) < (np : Int) := by omega
                obtain rfl : q = np := by omega
                go_wp2
                go_roundg gB
                case measure => omega
                case rel =>
                  refine ⟨s2, _, _, I3.out.fin S2.out hit hne (by omega) HA.out (fun p hp => by rw [hbi]; exact HB.out p hp) hik (fun x hx => ?_)⟩
                  rw [hbi] at hx
                  obtain ⟨q', hq', rfl⟩ := List.getElem_of_mem (show x ∈ ps from hx)
                  have := HC.out q' (by have := HNP.out; omega)
                  rw [getElem!_pos ps q' hq'] at this
                  exact this
    case rest =>
      obtain ⟨ss, D⟩ := hcut
      refine ‹∀ (a : Act) (w : World), Code.wp Yba.prog _ _ a w → _› _ _ ?_
      exact arrTail _ (by kernel_rfl) _ _ _ _ _ _ _ _ _ _ _ _ _ _ _ _ _ _ _ _ _ _ _ _ _ _ _ _ _ _ _ _ _ _ _ _ _ _ _ _ _ _ _ _ _ _ _ _ _ _ _ _ _ _ _ _ _ _ _ _ _ _ _ _ _ _ _ _ _ _ _ _ _ _ _ _ _ _ _ _ _ _ _ _ _ _ _ _ _ _ _ _ _ _ _ _ _ _ _ _ _ _ _ _ _ _ _ _ _ _ _ _ _ _ _ _ _ _ _ _ _ _ _ _ _ _ _ _ _ _ _ _ _ _ _ _ _ _ _ _ _ _ _ _ _ _ _ _ _ _ _ _ _ _ _ w _ N k tt rs bs _ ss P'.out D.out.sy.row D.out.sy.kept D.out.len D.out.iff
end Go.Proofs.Ybulkecac
