import Derived.Test.YbulkecacPS
import Derived.Test.YbulkecacLay
import Derived.Shelf.SlSortCmp.NoneTotal
namespace Go.Proofs.Ybulkecac
open Go.RowKit Go.Sort Go.Shelf
set_option linter.unusedSimpArgs false
set_option linter.unusedVariables false

/-- cmp.Compare at int32. -/
theorem compare_ (x y : Int) (w : World) : Calls Yba.prog 21 #[.int .i32 x, .int .i32 y] w fun e w' => e = .returned (.int .i64 (Lib.compareInt x y)) ∧ w' = w := by
  unfold Lib.compareInt
  by_cases h1 : x < y
  · go_enter Yba.func21, Yba.ntmps21
    go_wp2_with (go_at_call 26; refine (nan_ _ _).mono ?_; rintro e w' ⟨rfl, rfl⟩)
    go_ret
    exact ⟨rfl, rfl⟩
  · by_cases h2 : y < x
    · go_enter Yba.func21, Yba.ntmps21
      go_wp2_with (go_at_call 26; refine (nan_ _ _).mono ?_; rintro e w' ⟨rfl, rfl⟩)
      go_ret
      exact ⟨rfl, rfl⟩
    · go_enter Yba.func21, Yba.ntmps21
      go_wp2_with (go_at_call 26; refine (nan_ _ _).mono ?_; rintro e w' ⟨rfl, rfl⟩)
      go_ret
      exact ⟨rfl, rfl⟩

def encP (N : Nat) (p : Int × Nat) : List Value := [.int .i32 p.1, .pointer (some ⟨N + 1 + p.2, 0, none⟩)]

/-- arrangeSpeakers' closure: the two sayings by their speakers. -/
theorem closure_ (x y : Int) (a b : Value) (W : World) (ha : a.oneCell' = true) (hb : b.oneCell' = true) : Calls Yba.prog 20 #[.agg #[.int .i32 x, a], .agg #[.int .i32 y, b]] W fun e w' => e = .returned (.int .i64 (Lib.compareInt x y)) ∧ ∃ q os', w' = grow (W.drewN q) os' := by
  have C : Hid (∀ W, _) := fun W => compare_ x y W
  generalize Lib.compareInt x y = r at C ⊢
  go_enter Yba.func20, Yba.ntmps20
  go_wp2_with fail
  refine (C.out _).mono ?_
  rintro e w' ⟨rfl, rfl⟩
  go_wp2_with fail
  go_ret
  exact ⟨rfl, 0, _, by rw [alloc_eq_grow, alloc_eq_grow, grow_grow]; rfl⟩

theorem ltSp (x y : Int × Nat) : ltOf (fun x y : Int × Nat => Lib.compareInt x.1 y.1) x y = decide (x.1 < y.1) := by
  unfold ltOf Lib.compareInt
  by_cases h1 : x.1 < y.1
  · simp [h1]
  · by_cases h2 : y.1 < x.1 <;> simp [h1, h2]

theorem swoSp : SWO (ltOf fun x y : Int × Nat => Lib.compareInt x.1 y.1) where
  irrefl x := by rw [ltSp]; simp
  trans x y z h1 h2 := by rw [ltSp] at *; simp at *; omega
  ntrans x y z h1 h2 := by rw [ltSp] at *; simp at *; omega

theorem encS_get (N : Nat) : ∀ (ss : List (Int × Nat)) (t : Nat), t < 2 * ss.length → (encS N ss)[t]? = some ((encP N ss[t / 2]!)[t % 2]!)
  | [], t, h => by simp at h
  | a :: l, 0, _ => by simp [encS, encP]
  | a :: l, 1, _ => by simp [encS, encP]
  | a :: l, t + 2, h => by
    have ih := encS_get N l t (by simp at h; omega)
    have e : encS N (a :: l) = encP N a ++ encS N l := rfl
    rw [e, List.getElem?_append_right (by simp [encP]), show t + 2 - (encP N a).length = t by simp [encP], ih]
    rw [show (t + 2) / 2 = t / 2 + 1 by omega, show (t + 2) % 2 = t % 2 by omega]
    rfl

/-- a slice of sayings, as read -/
def CellsS (N B : Nat) (W : World) (v : Value) (ss : List (Int × Nat)) : Prop :=
  (ss = [] ∧ v = .slice none 0 0) ∨ ∃ g c, v = .slice (some ⟨g, 0, none⟩) ss.length c ∧ ss.length ≤ c ∧ B ≤ g ∧ g < W.heap.size ∧ ∀ p, p < ss.length → W.cell? ⟨g, p * 2, none⟩ = some (.int .i32 (ss[p]!).1) ∧ W.cell? ⟨g, p * 2 + 1, none⟩ = some (.pointer (some ⟨N + 1 + (ss[p]!).2, 0, none⟩))

theorem grownBy_sortK {w : World} {enc : Int × Nat → List Value} {g n : Nat} {os : Array Obj} (d : Array (Int × Nat)) : w.grownBy (sortWorldK enc 2 w g 0 n d os) (some g) := by
  unfold sortWorldK putRowK
  refine ⟨rfl, rfl, rfl, by simp, fun k hk hne => ?_⟩
  rw [heap_grow_old _ _ (by simpa using hk)]
  have : g ≠ k := fun e => hne (by rw [e])
  simp [putRow, mapBlock, Sort.ahead, Array.getElem?_modify, this]

theorem sortF_ (N B : Nat) (v : Value) (ss : List (Int × Nat)) (W : World) (hrow : W.ownsRow B 102 2 v ss.length (encS N ss)) (hlen : ss.length ≤ 1300000) :
    Calls Yba.prog 19 #[v, .func (.func 20) #[] #[]] W fun o w' => o = .returned (.tuple #[]) ∧ ∃ s2 : List (Int × Nat), (∀ p, p ∈ s2 ↔ p ∈ ss) ∧ s2.length = ss.length ∧ s2.Pairwise (fun a b => a.1 ≤ b.1) ∧ CellsS N B w' v s2 ∧ W.grownBy w' v.ownBlock := by
  have hcells := fun g hg => hrow.cells (g := g) hg
  rcases hrow.2 with ⟨rfl, h0⟩ | ⟨g, cap, cur, rfl, hB, hg, hcap, hm, hs, ht⟩
  · have hss : ss = [] := List.length_eq_zero_iff.1 h0
    refine (AnyF.slices_SortFunc_none { Yba.lsf with } none 0 _ W).mono ?_
    rintro o w' ⟨rfl, rfl⟩
    exact ⟨rfl, [], by rw [hss]; simp, by rw [hss], .nil, Or.inl ⟨rfl, rfl⟩, ⟨rfl, rfl, rfl, Nat.le_refl _, fun _ _ _ => rfl⟩⟩
  · have hgl : g < W.heap.size := (Array.getElem?_eq_some_iff.1 hg).1
    have eg : ∀ args w, (callFunc 20 args).run Yba.prog w = .ok (.enter 20 args) w := enters_of Yba.func20 (by kernel_rfl) rfl
    have hH : HoldsK (encP N) 2 W g 0 ss.toArray := by
      intro t ht'
      rw [size_flatK] at ht'
      have ht2 : t < 2 * ss.length := by simpa [Nat.mul_comm] using ht'
      refine ⟨?_, by simp [World.frozen?, hg]⟩
      rw [get_flatK _ _ _ _ ht']
      have := hcells g rfl t _ (encS_get N ss t ht2)
      rw [show (⟨g, 0, none⟩ : Addr).add t = ⟨g, 0 + t, none⟩ by unfold Addr.add; split <;> simp_all] at this
      simpa using this
    have hcon := AnyQ.slices_SortFunc Yba.lsf 2 Yba.isAgg102 Yba.sizeOf102 (encP N) (fun _ => rfl) (fun x v hv => by simp [encP] at hv; rcases hv with rfl | rfl <;> rfl) (fun x y => Lib.compareInt x.1 y.1) swoSp 20 #[] g 0 cap ss.toArray W eg
      (fun _ _ _ _ x y => closure_ x.1 y.1 _ _ _ rfl rfl) hH hgl (by simp; omega)
    have hcon' : Calls Yba.prog 19 #[.slice (some ⟨g, 0, none⟩) ss.length cap, .func (.func 20) #[] #[]] W _ := hcon
    refine hcon'.mono ?_
    rintro o w' ⟨rfl, d', n, os, hp, hsd, rfl⟩
    have hsz : d'.size = ss.length := by rw [hp.1]; simp
    have hperm : d'.toList.Perm ss := by
      have := hp.2.2
      rw [show ss.toArray.size = ss.length by simp] at this
      rw [show (d'.extract 0 ss.length) = d' by rw [← hsz]; simp, show (ss.toArray.extract 0 ss.length) = ss.toArray by simp] at this
      simpa using this
    have hK : HoldsK (encP N) 2 (sortWorldK (encP N) 2 W g 0 n d' os) g 0 d' := by
      unfold sortWorldK
      apply holdsK_grow
      · simpa [putRowK] using hgl
      · apply holdsK_putRowK (d0 := ss.toArray)
        · exact hH
        · rw [hsz]; simp
    refine ⟨rfl, d'.toList, fun p => hperm.mem_iff, by simp [hsz], ?_, Or.inr ⟨g, cap, by simp [hsz], by simp [hsz]; exact hcap, hB, Nat.lt_of_lt_of_le hgl (grownBy_sortK d').size, fun p hp' => ?_⟩, grownBy_sortK d'⟩
    · rw [List.pairwise_iff_getElem]
      intro i j hi hj hij
      have := hsd i j (Nat.zero_le _) hij (by simp at hj; simp; omega)
      rw [ltSp] at this
      simp at hi hj
      rw [getElem!_pos d' i hi, getElem!_pos d' j hj] at this
      simp at this
      simpa using this
    · have hp'' : p < d'.size := by simpa using hp'
      have h0 := (hK.cell (i := p) (c := 0) hp'' (by omega)).1
      have h1 := (hK.cell (i := p) (c := 1) hp'' (by omega)).1
      simp only [Nat.zero_add, Nat.add_zero] at h0 h1
      have e : d'.toList[p]! = d'[p]! := by rw [getElem!_pos d'.toList p (by simpa using hp''), getElem!_pos d' p hp'']; simp
      rw [e]
      exact ⟨h0, h1⟩

end Go.Proofs.Ybulkecac
