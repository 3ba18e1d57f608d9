import Derived.Test.YbulkecacArrD
import Derived.Test.YbulkecacArrA
import Derived.Deep.RegionLaw
namespace Go.Proofs.Ybulkecac
open Go.RowKit Go.Sort
set_option linter.unusedSimpArgs false
set_option linter.unusedVariables false

/-- the code from region n on -/
def headIs (n : Nat) : Code → Bool
  | .region m _ _ => m == n
  | .seq a _ => headIs n a
  | _ => false
def dropTo (n : Nat) : Code → Option Code
  | .seq a b => if headIs n a = true then some (.seq a b) else dropTo n b
  | c => if headIs n c = true then some c else none

/-- what arrangeSpeakers leaves -/
structure ArrPost (N k : Nat) (tt : Nat → Option Nat) (rs : List (Int × Nat)) (bs : Nat → BB) (w w' : World) : Prop where
  spk : ∃ (V : Nat → Value) (L : Nat → List Int), ∀ j, j < k → w'.cell? ⟨N + 1 + j, 11, none⟩ = some (V j) ∧ w'.ownsRow w.heap.size 21 1 (V j) (L j).length ((L j).map (Value.int .i32)) ∧ (L j).Pairwise (· < ·) ∧ ∀ x, x ∈ L j ↔ ∃ h, Said k rs bs x h ∧ Rch tt h j
  other : ∀ b, b < w.heap.size → ¬ (N + 1 ≤ b ∧ b < N + 1 + k) → w'.heap[b]? = w.heap[b]?
  sch : ∀ j, j < k → ∀ o, o ≠ 11 → w'.cell? ⟨N + 1 + j, o, none⟩ = w.cell? ⟨N + 1 + j, o, none⟩
  size : w.heap.size ≤ w'.heap.size
  os : w'.os = w.os
  tape : w'.tape = w.tape
  out : w'.output = w.output

theorem ownsRow_mono {w : World} {B B' : Nat} {e : TypeId} {size : Nat} {v : Value} {n : Nat} {xs : List Value} (h : w.ownsRow B e size v n xs) (hB : B' ≤ B) : w.ownsRow B' e size v n xs := by
  refine ⟨h.1, ?_⟩
  rcases h.2 with h0 | ⟨g, cap, cur, h1, h2, h3⟩
  · exact Or.inl h0
  · exact Or.inr ⟨g, cap, cur, h1, by omega, h3⟩

theorem last_lt {l : List Int} {y sp : Int} (hp : (l ++ [y]).Pairwise (· < ·)) (hle : ∀ x ∈ l ++ [y], x ≤ sp) (hne : y ≠ sp) : ∀ x ∈ l ++ [y], x < sp := by
  intro x hx
  have hy := hle y (by simp)
  rcases List.mem_append.1 hx with h | h
  · have := (List.pairwise_append.1 hp).2.2 x h y (by simp)
    omega
  · rw [List.mem_singleton] at h; omega

set_option maxHeartbeats 8000000 in
set_option maxRecDepth 1000000 in
theorem arrTail (c : Code) (hc : Yba.f12.body.bind (dropTo 19) = some c) (x0 x1 x3 x4 x5 x6 x7 x8 x9 x10 x11 x12 x13 x14 x15 x16 x17 x18 x19 x20 x21 x22 x23 x24 x25 x26 x27 x28 x29 x30 x31 x32 x33 x34 x35 x36 x37 x38 x39 x40 x41 x42 x43 x44 x45 x46 x47 x48 x49 x50 x51 x52 x53 x54 x55 x56 x57 x58 x59 x60 x61 x62 x63 x64 x65 x66 x67 x68 x69 x70 x71 x72 x73 x74 x75 x76 x77 x78 x79 x80 x81 x82 x83 x84 x85 x86 x87 x88 x89 x90 x91 x92 x93 x94 x95 x96 x97 x98 x99 x100 x101 x102 x103 x104 x105 x106 x107 x108 x109 x110 x111 x112 x113 x114 x115 x116 x117 x118 x119 x120 x121 x122 x123 x124 x125 x126 x127 x128 x129 x130 x131 x132 x133 x134 x135 x136 x137 x138 x139 x140 x141 x142 x143 x144 x145 x146 x147 x148 x149 x150 x151 x152 x153 x154 x155 : Value) (w wc : World) (N k : Nat) (tt : Nat → Option Nat) (rs : List (Int × Nat)) (bs : Nat → BB) (v : Value) (ss : List (Int × Nat))
    (P : PS N k tt rs bs w) (hrow : wc.ownsRow w.heap.size 102 2 v ss.length (encS N ss)) (hk : w.grownBy wc none) (hlen : ss.length ≤ 1300000) (hiff : ∀ x h, (x, h) ∈ ss ↔ Said k rs bs x h) :
    Code.wp Yba.prog c (bodyPost Yba.prog Yba.f12 fun e w' => e = .returned (.tuple #[]) ∧ ArrPost N k tt rs bs w w') ⟨#[x0, x1, v, x3, x4, x5, x6, x7, x8, x9, x10, x11, x12, x13, x14, x15, x16, x17, x18, x19, x20, x21, x22, x23, x24, x25, x26, x27, x28, x29, x30, x31, x32, x33, x34, x35, x36, x37, x38, x39, x40, x41, x42, x43, x44, x45, x46, x47, x48, x49, x50, x51, x52, x53, x54, x55, x56, x57, x58, x59, x60, x61, x62, x63, x64, x65, x66, x67, x68, x69, x70, x71, x72, x73, x74, x75, x76, x77, x78, x79, x80, x81, x82, x83, x84, x85, x86, x87, x88, x89, x90, x91, x92, x93, x94, x95, x96, x97, x98, x99, x100, x101, x102, x103, x104, x105, x106, x107, x108, x109, x110, x111, x112, x113, x114, x115, x116, x117, x118, x119, x120, x121, x122, x123, x124, x125, x126, x127, x128, x129, x130, x131, x132, x133, x134, x135, x136, x137, x138, x139, x140, x141, x142, x143, x144, x145, x146, x147, x148, x149, x150, x151, x152, x153, x154, x155], []⟩ wc := by
  conv at hc => lhs; whnf
  injection hc with hc
  subst hc
  have C : Hid _ := sortF_ N w.heap.size v ss wc hrow hlen
  have hrowb : ∀ j, v.ownBlock = some j → w.heap.size ≤ j := fun j hj => (hrow.lt j hj).1
  have P' : Hid _ := P
  clear P hrow
  go_wp2_with fail
  refine Calls.mono C.out ?_
  rintro o wS ⟨rfl, s2, hm2, hl2, hp2, hC2, hg2⟩
  have hkS : w.grownBy wS none := hk.andThen hg2 (fun j hj => Or.inl (hrowb j hj))
  have PS' := P'.out.kept hkS
  have hbig : N + 6 + k ≤ w.heap.size := by
    have := World.block_lt_of_cell? _ _ P'.out.p0
    simp only at this
    omega
  have K0 : Hid (Sk wS N k (fun _ => .slice none 0 0) (fun _ => []) wS) :=
    ⟨PS'.spk, PS'.frz, fun _ _ => World.ownsRow_nil _ _ _ _, fun _ _ _ _ _ => Or.inl rfl, fun _ _ _ => rfl, fun _ _ _ _ => rfl, Nat.le_refl _, rfl, rfl, rfl, by have := hkS.size; omega⟩
  have SP0 : Hid (Spk tt k (s2.take 0) (fun _ => [])) := fun j hj => ⟨.nil, by simp, fun x => by simp⟩
  have HSAID : Hid (∀ x h, (x, h) ∈ s2 ↔ Said k rs bs x h) := fun x h => (hm2 (x, h)).trans (hiff x h)
  have HP2 : Hid _ := hp2
  have HK : Hid _ := hkS
  have HTO : Hid (∀ j, j < k → wS.cell? ⟨N + 1 + j, 3, none⟩ = some (.pointer ((tt j).map fun j => ⟨N + 1 + j, 0, none⟩))) := PS'.tos
  have HK2 : Hid (∀ p ∈ s2, p.2 < k) := fun p hp => by
    rcases (HSAID.out p.1 p.2).1 hp with ⟨s, hs, _⟩ | ⟨h, _⟩
    · exact P'.out.rsk (s, p.2) hs
    · exact h
  obtain ⟨n, HN, hn⟩ : ∃ n, Hid (n = s2.length) ∧ n ≤ 1300000 := ⟨_, rfl, by omega⟩
  obtain ⟨va, vc, rfl, HC⟩ : ∃ va vc, v = .slice va n vc ∧ Hid (0 < n → ∃ g, va = some ⟨g, 0, none⟩ ∧ n ≤ vc ∧ w.heap.size ≤ g ∧ g < wS.heap.size ∧ ∀ p, p < n → wS.cell? ⟨g, p * 2, none⟩ = some (.int .i32 (s2[p]!).1) ∧ wS.cell? ⟨g, p * 2 + 1, none⟩ = some (.pointer (some ⟨N + 1 + (s2[p]!).2, 0, none⟩))) := by
    have hn := HN.out
    rcases hC2 with ⟨h1, h2⟩ | ⟨g, c, h1, h2, h3, h4, h5⟩
    · rw [h1] at hn
      exact ⟨none, 0, by rw [h2, hn]; rfl, fun h => by simp at hn; omega⟩
    · exact ⟨some ⟨g, 0, none⟩, c, by rw [h1, hn], fun _ => ⟨g, rfl, by omega, h3, h4, fun p hp => h5 p (by omega)⟩⟩
  clear hm2 hl2 hp2 hC2 hg2 hkS PS' C hk hlen hiff hrowb
  go_wp2_with fail
  go_loopg [11, 12, 13, 112] n (fun g v11 v12 v13 vi wr => ∃ (i : Nat) (V : Nat → Value) (L : Nat → List Int), vi = .int .i64 i ∧ i ≤ n ∧ n - i ≤ g ∧ Hid (Sk wS N k V L wr) ∧ Hid (Spk tt k (s2.take i) L))
  case atStart => exact ⟨0, _, _, rfl, by omega, by omega, K0, SP0⟩
  case round =>
    clear K0 SP0
    obtain ⟨i, V, L, rfl, hi, hgi, K1, SP1⟩ := hrel
    by_cases hlt : i < n
    · have hz : (i : Int) < (n : Int) := by omega
      obtain ⟨g, rfl, hgn, hgw, hgs, hcell⟩ := HC.out (by omega)
      obtain ⟨sp, hsp⟩ : ∃ x, x = (s2[i]!).1 := ⟨_, rfl⟩
      obtain ⟨hd, hhd⟩ : ∃ x, x = (s2[i]!).2 := ⟨_, rfl⟩
      obtain ⟨c1, c2⟩ := hcell i hlt
      rw [← hsp] at c1
      rw [← hhd] at c2
      have hgo := K1.out.other g hgs (by omega)
      replace c1 := (World.cell?_of_block (a := ⟨g, i * 2, none⟩) hgo).trans c1
      replace c2 := (World.cell?_of_block (a := ⟨g, i * 2 + 1, none⟩) hgo).trans c2
      have hmem : (sp, hd) ∈ s2 := by
        have hl : i < s2.length := by have := HN.out; omega
        rw [hsp, hhd, getElem!_pos s2 i hl]; exact List.getElem_mem hl
      have hdk : hd < k := HK2.out _ hmem
      have HTK : Hid (s2.take (i + 1) = s2.take i ++ [(sp, hd)]) := by
        show _ = _
        have hl : i < s2.length := by have := HN.out; omega
        rw [List.take_add_one, List.getElem?_eq_getElem hl, hsp, hhd, getElem!_pos s2 i hl]
        rfl
      have HLE : Hid (∀ p ∈ s2.take i, p.1 ≤ sp) := fun p hp => by
        have hl : i < s2.length := by have := HN.out; omega
        obtain ⟨q, hq, rfl⟩ := List.getElem_of_mem hp
        have hq' : q < i := by simp at hq; omega
        rw [List.getElem_take]
        have := List.pairwise_iff_getElem.1 HP2.out q i (by omega) hl hq'
        rw [hsp, getElem!_pos s2 i hl]
        exact this
      clear hcell hgo hsp hhd hmem
      have hwsz := K1.out.size
      go_upto_block 8 with fail
      generalize hwa : wr.alloc _ = wa
      obtain ⟨sb, hsb⟩ : ∃ b, b = wr.heap.size := ⟨_, rfl⟩
      rw [← hsb]
      have hga : wr.grownBy wa none := by rw [← hwa]; exact World.grownBy_alloc _ _ _
      have s0 : wa.cell? ⟨sb, 0, none⟩ = some (.int .i32 sp) := by rw [← hwa, hsb]; simp
      have K2 : Hid (Sk wS N k V L wa) := K1.out.grown hga
      have NE0 : Hid (∀ j, j < k → some sb ≠ (V j).ownBlock) := fun j hj e => by
        have := ((K1.out.row j hj).lt sb e.symm).2; omega
      have hsbS : wS.heap.size ≤ sb := by omega
      have SM0 : Hid (SpM tt k (s2.take i) sp hd (some hd) L) := SP1.out.start sp hd
      clear hwa hga hsb K1 SP1 c1 c2 hwsz
      go_wp2_with fail
      go_loopg [12, 13] (k - hd) (fun g v12 v13 wr => ∃ (o : Option Nat) (V : Nat → Value) (L : Nat → List Int), v12 = .pointer (o.map fun j => ⟨N + 1 + j, 0, none⟩) ∧ (∀ s, o = some s → s < k ∧ k - s ≤ g) ∧ wr.cell? ⟨sb, 0, none⟩ = some (.int .i32 sp) ∧ Hid (Sk wS N k V L wr) ∧ Hid (SpM tt k (s2.take i) sp hd o L) ∧ Hid (∀ j, j < k → some sb ≠ (V j).ownBlock))
      case atStart => exact ⟨some hd, V, L, rfl, fun s e => by cases e; exact ⟨hdk, Nat.le_refl _⟩, s0, K2, SM0, NE0⟩
      case round =>
        clear K2 SM0 NE0 s0
        obtain ⟨o, V, L, rfl, hok, s0, K2, SM, NE⟩ := hrel
        cases o with
        | none =>
          go_wp2
          go_roundg (n - (i + 1))
          case measure => omega
          case rel => exact ⟨i + 1, V, L, by go_num, by omega, Nat.le_refl _, K2, (show Spk tt k (s2.take (i + 1)) L from by rw [HTK.out]; exact SM.out.fin)⟩
        | some s =>
          obtain ⟨hsk, hgs2⟩ := hok s rfl
          have cs := K2.out.cell s hsk
          have fs := K2.out.frz s hsk
          have ct : wr.cell? ⟨N + 1 + s, 3, none⟩ = some (.pointer ((tt s).map fun j => ⟨N + 1 + j, 0, none⟩)) := (K2.out.sch s hsk 3 (by decide)).trans (HTO.out s hsk)
          obtain ⟨m, HM, hm⟩ : ∃ m, Hid (m = (L s).length) ∧ m ≤ 1300001 := ⟨_, rfl, by
            have := (SM.out.2 s hsk).2.1
            have h2 : (s2.take i).length ≤ i := by simp; omega
            split at this <;> omega⟩
          obtain ⟨a, c, hV⟩ : ∃ a c, V s = .slice a m c := by
            rcases (K2.out.row s hsk).2 with ⟨h1, h2⟩ | ⟨g, cap, cur, h1, _⟩
            · exact ⟨none, 0, by rw [h1, HM.out, h2]⟩
            · exact ⟨_, _, by rw [h1, HM.out]⟩
          have HV : Hid _ := hV
          rw [hV] at cs
          clear hV
          have HALL : Hid (∀ x ∈ L s, x ≤ sp) := fun x hx => by
            rcases ((SM.out.2 s hsk).2.2 x).1 hx with ⟨h', hm', _⟩ | ⟨rfl, _⟩
            · exact HLE.out _ hm'
            · exact Int.le_refl _
          go_upto_region 27 with fail
          go_cut [143] from 129 to 143 (fun v wx => ∃ t : Bool, v = .bool t ∧ Hid (t = true → sp ∈ L s) ∧ Hid (t = false → ∀ x ∈ L s, x < sp) ∧ Hid (wr.grownBy wx none))
          case first =>
            rcases Nat.eq_zero_or_pos m with hm0 | hm0
            · subst hm0
              go_big_region
              go_wp2_with fail
              go_meet
              case rel =>
                have hl0 : L s = [] := List.length_eq_zero_iff.1 HM.out.symm
                exact ⟨false, rfl, (fun h => by cases h), (fun _ => by rw [hl0]; simp), gdrew _ _⟩
            · obtain ⟨l0, y, hly⟩ : ∃ l0 y, L s = l0 ++ [y] := by
                have hne : L s ≠ [] := fun e => by rw [e] at HM; have := HM.out; simp at this; omega
                exact ⟨_, _, (List.dropLast_concat_getLast hne).symm⟩
              obtain ⟨q, rfl⟩ : ∃ q, m = q + 1 := ⟨m - 1, by omega⟩
              have hlq : l0.length = q := by have := HM.out; rw [hly] at this; simp at this; omega
              have hro := K2.out.row s hsk
              rw [HV.out] at hro
              obtain ⟨gv, cv, hve, hgv, hgl⟩ := hro.form (by rw [hly]; simp)
              obtain ⟨rfl, rfl⟩ : a = some ⟨gv, 0, none⟩ ∧ c = cv := ⟨(Value.slice.inj hve).1, (Value.slice.inj hve).2.2⟩
              have cl : wr.cell? ⟨gv, q, none⟩ = some (.int .i32 y) := by
                have := hro.cells (g := gv) rfl q (.int .i32 y) (by rw [hly]; simp [hlq])
                rw [addr_add0] at this
                exact this
              have e3 : (((q + 1 : Nat) : Int)) - 1 = (q : Int) := by omega
              have e4 : (q : Int) < ((q + 1 : Nat) : Int) := by omega
              have e5 : decide (((q + 1 : Nat) : Int) > 0) = true := decide_eq_true (by omega)
              have e6 : (0 : Int) < ((q + 1 : Nat) : Int) := by omega
              have HLY : Hid _ := hly
              clear hly hlq hro hve hgv
              by_cases hyx : y = sp
              · subst hyx
                go_quiet (fail)
                go_wp2_with fail
                go_meet
                case rel => exact ⟨true, by simp, (fun _ => by rw [HLY.out]; simp), (fun h => by cases h), gdrewN _ _ _⟩
              · go_quiet (fail)
                go_wp2_with fail
                go_meet
                case rel =>
                  have hall := HALL.out
                  have hpw := (SM.out.2 s hsk).1
                  rw [HLY.out] at hall hpw
                  exact ⟨false, by simp [hyx], (fun h => by cases h), (fun _ => by rw [HLY.out]; exact last_lt hpw hall hyx), gdrewN _ _ _⟩
          case rest =>
            obtain ⟨t, rfl, HT1, HT2, HGW⟩ := hcut
            have K3 : Hid (Sk wS N k V L wc) := K2.out.grown HGW.out
            replace s0 := gcell HGW.out s0
            replace cs := gcell HGW.out cs
            replace ct := gcell HGW.out ct
            replace fs := K3.out.frz s hsk
            clear K2
            cases t with
            | true =>
              go_wp2
              go_roundg (n - (i + 1))
              case measure => omega
              case rel => exact ⟨i + 1, V, L, by go_num, by omega, Nat.le_refl _, K3, (show Spk tt k (s2.take (i + 1)) L from by rw [HTK.out]; exact SM.out.brk hsk (HT1.out (by trivial)))⟩
            | false =>
              have neS := K3.out.ne hsk (b := N + 1 + s) (by have := K3.out.big; omega)
              have neB := NE.out s hsk
              rw [HV.out] at neS neB
              have hszc := K3.out.size
              have hro : Hid (wc.ownsRow wS.heap.size 21 1 (.slice a m c) m ((L s).map (Value.int .i32))) := by have := K3.out.row s hsk; rw [HV.out, ← HM.out] at this; exact this
              have kA : (wc.alloc (.cells #[.int .i32 sp] 21)).drew.cell? ⟨N + 1 + s, 11, none⟩ = some (.slice a m c) ∧ (wc.alloc (.cells #[.int .i32 sp] 21)).drew.cell? ⟨sb, 0, none⟩ = some (.int .i32 sp) ∧ (wc.alloc (.cells #[.int .i32 sp] 21)).drew.frozen? ⟨N + 1 + s, 11, none⟩ = false :=
                ⟨gcell (World.grownBy_alloc wc _ none) cs, gcell (World.grownBy_alloc wc _ none) s0, (World.frozen?_of_block ((World.grownBy_alloc wc _ none).block (N + 1 + s) (by have := K3.out.big; omega) (by simp))).trans fs⟩
              have KA : Hid _ := kA
              clear kA
              go_upto_region 28 with fail
              have kA1 : (wc.alloc (.cells #[.int .i32 sp] 21)).cell? ⟨N + 1 + s, 11, none⟩ = some (.slice a m c) := KA.out.1
              go_region_law ((refine stepA A21 (by rfl) _ _ (by rfl) wS.heap.size _ _ _ (by rfl) ((hro.out.alloc _).drew) wc.heap.size #[.int .i32 sp] (by rfl) (heap_alloc_new wc _) rfl (by simp [Value.oneCell']) (by omega) (by simp; omega) (wc.heap.size + 1) (by simp) ?_; intro gg cc w1 hown1 hgrow hat hlt1; have c7 := hgrow.cell KA.out.1 neS; have f7 := (World.frozen?_of_block (hgrow.block (N + 1 + s) (by have := K3.out.big; simp; omega) neS)).trans KA.out.2.2; have s7 := hgrow.cell KA.out.2.1 neB))
              all_goals
                have hsbl : sb < wc.heap.size := World.block_lt_of_cell? _ _ s0
                rw [HM.out] at hown1
                rw [← HM.out] at hown1
                have K4 : Hid (Sk wS N k (Sk.upd V s (.slice (some ⟨gg, 0, none⟩) (m + 1) cc)) (Sk.upd L s (L s ++ [sp])) (w1.setCell ⟨N + 1 + s, 11, none⟩ (.slice (some ⟨gg, 0, none⟩) (m + 1) cc))) :=
                  K3.out.app ((World.grownBy_alloc wc _ none).trans (gdrew _ none)) hsk sp (by rw [← HM.out]; exact hown1) (by rw [HV.out]; exact hgrow) (by rw [HV.out]; exact hat) (by omega)
                have NE4 : Hid (∀ j, j < k → some sb ≠ (Sk.upd V s (.slice (some ⟨gg, 0, none⟩) (m + 1) cc) j).ownBlock) := fun j hj => by
                  unfold Sk.upd
                  by_cases e : j = s
                  · rw [if_pos e]
                    show some sb ≠ some gg
                    rcases hat with h | h
                    · rw [← h]; exact neB
                    · intro e'; cases e'; omega
                  · rw [if_neg e]; exact NE.out j hj
                have s8 : (w1.setCell ⟨N + 1 + s, 11, none⟩ (.slice (some ⟨gg, 0, none⟩) (m + 1) cc)).cell? ⟨sb, 0, none⟩ = some (.int .i32 sp) := by
                  rw [World.cell?_setCell_other _ _ _ _ (by intro e; simp only [Addr.mk.injEq] at e; omega)]; exact s7
                have ct8 : (w1.setCell ⟨N + 1 + s, 11, none⟩ (.slice (some ⟨gg, 0, none⟩) (m + 1) cc)).cell? ⟨N + 1 + s, 3, none⟩ = some (.pointer ((tt s).map fun j => ⟨N + 1 + j, 0, none⟩)) := (K4.out.sch s hsk 3 (by decide)).trans (HTO.out s hsk)
                generalize hw9 : w1.setCell _ _ = w9 at K4 s8 ct8 ⊢
                clear hw9 c7 f7 s7 hown1 hgrow kA1 KA hro K3 s0 cs ct fs neS neB
                go_wp2
                go_roundg (k - s - 1)
                case measure => omega
                case rel => exact ⟨tt s, _, _, rfl, fun s' e => ⟨(P'.out.toLt s s' e).2, by have := (P'.out.toLt s s' e).1; omega⟩, s8, K4, SM.out.next P'.out.toLt hsk (HT2.out (by trivial)), NE4⟩
    · have hz : ¬ (i : Int) < (n : Int) := by omega
      go_wp2
      go_end0
      have hin : s2.take i = s2 := List.take_of_length_le (by have := HN.out; omega)
      have SP2 := SP1.out
      rw [hin] at SP2
      refine ⟨rfl, ⟨V, L, fun j hj => ⟨K1.out.cell j hj, ownsRow_mono (K1.out.row j hj) HK.out.size, (SP2 j hj).1, fun x => ?_⟩⟩, fun b hb hn => ?_, fun j hj o ho => ?_, Nat.le_trans HK.out.size K1.out.size, K1.out.os.trans HK.out.os, K1.out.tape.trans HK.out.tape, K1.out.out.trans HK.out.output⟩
      · rw [(SP2 j hj).2.2 x]
        exact ⟨fun ⟨h, h1, h2⟩ => ⟨h, (HSAID.out x h).1 h1, h2⟩, fun ⟨h, h1, h2⟩ => ⟨h, (HSAID.out x h).2 h1, h2⟩⟩
      · exact (K1.out.other b (Nat.lt_of_lt_of_le hb HK.out.size) hn).trans (HK.out.block b hb (by simp))
      · exact (K1.out.sch j hj o ho).trans (World.cell?_of_block (HK.out.block _ (by show N + 1 + j < _; omega) (by simp)))
end Go.Proofs.Ybulkecac
