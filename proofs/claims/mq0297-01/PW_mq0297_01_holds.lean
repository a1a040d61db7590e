import PyProof.Rows.All
import Wide.All
import OpenK.AllK
import Wide.FinOn
import PyProof.ForAny
import Lean
import PySem.Challenge.RW_mq0297_01
set_option Elab.async false
set_option linter.all false
set_option compiler.extract_closed false
set_option genInjectivity false
set_option maxRecDepth 100000

section S_Kru
namespace Mine

/- the stretches: the closed ones, and the one that grows -/
noncomputable def cutR (R : Int) (ring gs : List Int) : Nat → List (List Int) × List Int
  | 0 => ([], [])
  | i + 1 => if R < 64 * gs.getD i 0 then ((cutR R ring gs i).1 ++ [(cutR R ring gs i).2 ++ [ring.getD i 0]], []) else ((cutR R ring gs i).1, (cutR R ring gs i).2 ++ [ring.getD i 0])
noncomputable def rowsOf (c : List (List Int) × List Int) : List (List Int) := match c.1 with
  | [] => [c.2]
  | r :: rs => (c.2 ++ r) :: rs
noncomputable def minL : List Int → Int
  | [] => 0
  | x :: xs => xs.foldl min x
noncomputable def strOut (n : Nat) (rows : List (List Int)) : List Int := (List.range n).flatMap fun p => (rows.filter fun r => r.contains (p : Int)).map minL

theorem k_getD_mem {α : Type} {xs : List α} {i : Nat} {d : α} (h : i < xs.length) : xs.getD i d ∈ xs := by
  rw [List.getD_eq_getElem?_getD, List.getElem?_eq_getElem h]; exact List.getElem_mem h
theorem k_mem_getD {α : Type} {xs : List α} {d x : α} (h : x ∈ xs) : ∃ i, i < xs.length ∧ xs.getD i d = x := by
  obtain ⟨i, hi, e⟩ := List.getElem_of_mem h
  exact ⟨i, hi, by rw [List.getD_eq_getElem?_getD, List.getElem?_eq_getElem hi]; exact e⟩
theorem k_getD_l {α : Type} {xs ys : List α} {i : Nat} {d : α} (h : i < xs.length) : (xs ++ ys).getD i d = xs.getD i d := by
  rw [List.getD_eq_getElem?_getD, List.getD_eq_getElem?_getD, List.getElem?_append_left h]
theorem k_getD_r {α : Type} {xs ys : List α} {i : Nat} {d : α} (h : xs.length ≤ i) : (xs ++ ys).getD i d = ys.getD (i - xs.length) d := by
  rw [List.getD_eq_getElem?_getD, List.getD_eq_getElem?_getD, List.getElem?_append_right h]
theorem k_take {α : Type} {as : List α} {i : Nat} {d : α} (h : i < as.length) : as.take (i + 1) = as.take i ++ [as.getD i d] := by
  rw [List.take_add_one, List.getElem?_eq_getElem h, List.getD_eq_getElem?_getD, List.getElem?_eq_getElem h]; rfl
theorem k_nodup_inj {xs : List Int} (h : xs.Nodup) {i j : Nat} (hi : i < xs.length) (hj : j < xs.length) (e : xs.getD i 0 = xs.getD j 0) : i = j := by
  rw [List.getD_eq_getElem?_getD, List.getD_eq_getElem?_getD, List.getElem?_eq_getElem hi, List.getElem?_eq_getElem hj] at e
  have e := Option.some.inj (congrArg some e)
  simp only [Option.getD_some] at e
  rcases Nat.lt_trichotomy i j with h1 | h1 | h1
  · exact absurd e ((List.pairwise_iff_getElem.mp h) i j hi hj h1)
  · exact h1
  · exact absurd e.symm ((List.pairwise_iff_getElem.mp h) j i hj hi h1)

theorem foldl_min_le : ∀ (xs : List Int) (x : Int), xs.foldl min x ≤ x ∧ ∀ y ∈ xs, xs.foldl min x ≤ y
  | [], x => ⟨Int.le_refl _, fun _ h => nomatch h⟩
  | a :: xs, x => by
    obtain ⟨h1, h2⟩ := foldl_min_le xs (min x a)
    rw [List.foldl_cons]
    refine ⟨by lia, fun y hy => ?_⟩
    rcases List.mem_cons.mp hy with rfl | hy
    · lia
    · exact h2 y hy
theorem foldl_min_mem : ∀ (xs : List Int) (x : Int), xs.foldl min x ∈ x :: xs
  | [], x => .head _
  | a :: xs, x => by
    rw [List.foldl_cons]
    have := foldl_min_mem xs (min x a)
    rcases List.mem_cons.mp this with h | h
    · rw [h]
      rcases Int.le_total x a with h1 | h1
      · rw [Int.min_eq_left h1]; exact .head _
      · rw [Int.min_eq_right h1]; exact .tail _ (.head _)
    · exact .tail _ (.tail _ h)
theorem minL_eq {row : List Int} {m : Int} (h : m ∈ row) (hle : ∀ y ∈ row, m ≤ y) : minL row = m := by
  cases row with
  | nil => exact nomatch h
  | cons x xs =>
    show xs.foldl min x = m
    have h1 := hle _ (foldl_min_mem xs x)
    have h2 := foldl_min_le xs x
    rcases List.mem_cons.mp h with rfl | h
    · exact Int.le_antisymm h2.1 h1
    · exact Int.le_antisymm (h2.2 m h) h1

/-! the rows -/
section
variable (R : Int) (ring gs : List Int)
noncomputable def rid (k : Nat) : Nat := (cutR R ring gs k).1.length
noncomputable def Fr0 (n k : Nat) : Nat := if rid R ring gs k < rid R ring gs n then rid R ring gs k else 0
theorem rid_cut {k : Nat} (h : R < 64 * gs.getD k 0) : rid R ring gs (k + 1) = rid R ring gs k + 1 := by
  unfold rid; rw [cutR, if_pos h]; simp
theorem rid_no {k : Nat} (h : ¬ R < 64 * gs.getD k 0) : rid R ring gs (k + 1) = rid R ring gs k := by
  unfold rid; rw [cutR, if_neg h]
theorem rid_mono {i : Nat} : ∀ {j : Nat}, i ≤ j → rid R ring gs i ≤ rid R ring gs j
  | 0, h => by have : i = 0 := by lia
               rw [this]; exact Nat.le_refl _
  | j + 1, h => by
    rcases Nat.lt_or_ge i (j + 1) with h1 | h1
    · have := rid_mono (i := i) (j := j) (by lia)
      by_cases hc : R < 64 * gs.getD j 0
      · rw [rid_cut _ _ _ hc]; lia
      · rw [rid_no _ _ _ hc]; lia
    · have : i = j + 1 := by lia
      rw [this]; exact Nat.le_refl _
theorem rid_const {i : Nat} : ∀ {j : Nat}, i ≤ j → (∀ m, i ≤ m → m < j → ¬ R < 64 * gs.getD m 0) → rid R ring gs i = rid R ring gs j
  | 0, h, _ => by have : i = 0 := by lia
                  rw [this]
  | j + 1, h, hc => by
    rcases Nat.lt_or_ge i (j + 1) with h1 | h1
    · rw [rid_no _ _ _ (hc j (by lia) (by lia))]
      exact rid_const (by lia) fun m h2 h3 => hc m h2 (by lia)
    · have : i = j + 1 := by lia
      rw [this]
theorem rid_const' {i : Nat} : ∀ {j : Nat}, i ≤ j → rid R ring gs i = rid R ring gs j → (∀ m, i ≤ m → m < j → ¬ R < 64 * gs.getD m 0)
  | 0, _, _, m, _, h => by lia
  | j + 1, h, e, m, h1, h2 => fun hc => by
    have a1 := rid_mono R ring gs (show i ≤ m by lia)
    have a2 := rid_mono R ring gs (show m + 1 ≤ j + 1 by lia)
    rw [rid_cut _ _ _ hc] at a2
    lia
theorem rid_count : ∀ (k : Nat), k ≤ gs.length → rid R ring gs k = (gs.take k).countP (fun g => decide (R < 64 * g))
  | 0, _ => by simp [rid, cutR]
  | k + 1, h => by
    rw [k_take (d := 0) (show k < gs.length by lia), List.countP_append]
    by_cases hc : R < 64 * gs.getD k 0
    · rw [rid_cut _ _ _ hc, rid_count k (by lia)]; simp [hc, -List.getD_eq_getElem?_getD]
    · rw [rid_no _ _ _ hc, rid_count k (by lia)]; simp [hc, -List.getD_eq_getElem?_getD]

structure CutOk (i : Nat) (c : List (List Int) × List Int) : Prop where
  flat : c.1.flatten ++ c.2 = ring.take i
  closed : ∀ t, t < c.1.length → ∀ x ∈ c.1.getD t [], ∃ k, k < i ∧ x = ring.getD k 0 ∧ rid R ring gs k = t
  grow : ∀ x ∈ c.2, ∃ k, k < i ∧ x = ring.getD k 0 ∧ rid R ring gs k = c.1.length
  ne : ∀ row ∈ c.1, row ≠ []
theorem cut_ok : ∀ i, i ≤ ring.length → CutOk R ring gs i (cutR R ring gs i)
  | 0, _ => ⟨rfl, (fun _ h => nomatch h), (fun _ h => nomatch h), (fun _ h => nomatch h)⟩
  | i + 1, h => by
    have ih := cut_ok i (by lia)
    have hg : ∀ x ∈ (cutR R ring gs i).2 ++ [ring.getD i 0], ∃ k, k < i + 1 ∧ x = ring.getD k 0 ∧ rid R ring gs k = (cutR R ring gs i).1.length := fun x hx => by
      rcases List.mem_append.mp hx with hx | hx
      · obtain ⟨k, a, b, c⟩ := ih.grow x hx
        exact ⟨k, by lia, b, c⟩
      · exact ⟨i, by lia, List.mem_singleton.mp hx, rfl⟩
    have hcl : ∀ t, t < (cutR R ring gs i).1.length → ∀ x ∈ (cutR R ring gs i).1.getD t [], ∃ k, k < i + 1 ∧ x = ring.getD k 0 ∧ rid R ring gs k = t := fun t ht x hx => by
      obtain ⟨k, a, b, c⟩ := ih.closed t ht x hx
      exact ⟨k, by lia, b, c⟩
    by_cases hc : R < 64 * gs.getD i 0
    · rw [cutR, if_pos hc]
      refine ⟨?_, fun t ht x hx => ?_, (fun _ h => nomatch h), fun row hr => ?_⟩
      · rw [k_take (d := 0) (by lia), ← ih.flat]; simp
      · simp only [List.length_append, List.length_singleton] at ht
        dsimp only at hx
        rcases Nat.lt_or_ge t (cutR R ring gs i).1.length with h1 | h1
        · rw [k_getD_l h1] at hx; exact hcl t h1 x hx
        · have e : t = (cutR R ring gs i).1.length := by lia
          rw [k_getD_r h1, e, Nat.sub_self] at hx
          rw [e]
          exact hg x hx
      · rcases List.mem_append.mp hr with hr | hr
        · exact ih.ne row hr
        · rw [List.mem_singleton.mp hr]; simp
    · rw [cutR, if_neg hc]
      exact ⟨by rw [k_take (d := 0) (by lia), ← ih.flat]; simp, hcl, hg, ih.ne⟩

structure RowsOk (rows : List (List Int)) : Prop where
  perm : rows.flatten.Perm ring
  row : ∀ t, t < rows.length → ∀ x ∈ rows.getD t [], ∃ k, k < ring.length ∧ x = ring.getD k 0 ∧ Fr0 R ring gs ring.length k = t
  ne : ∀ row ∈ rows, row ≠ []
  len : rows.length = max 1 (rid R ring gs ring.length)
theorem rows_ok (h0 : 0 < ring.length) : RowsOk R ring gs (rowsOf (cutR R ring gs ring.length)) := by
  have C := cut_ok R ring gs ring.length (Nat.le_refl _)
  have hn : rid R ring gs ring.length = (cutR R ring gs ring.length).1.length := rfl
  generalize hc : cutR R ring gs ring.length = c at C hn ⊢
  obtain ⟨c1, c2⟩ := c
  have hf := C.flat
  rw [List.take_length] at hf
  cases c1 with
  | nil =>
    show RowsOk R ring gs [c2]
    simp only [List.flatten_nil, List.nil_append] at hf
    refine ⟨by simp [hf], fun t ht x hx => ?_, fun row hr => ?_, by rw [hn]; rfl⟩
    · simp only [List.length_singleton] at ht
      have : t = 0 := by lia
      subst this
      obtain ⟨k, a, b, e⟩ := C.grow x hx
      refine ⟨k, a, b, ?_⟩
      unfold Fr0
      rw [hn]; simp
    · rw [List.mem_singleton.mp hr]
      show c2 ≠ []
      intro e
      rw [← hf, e] at h0
      exact absurd h0 (by simp)
  | cons r rs =>
    show RowsOk R ring gs ((c2 ++ r) :: rs)
    refine ⟨?_, fun t ht x hx => ?_, fun row hr => ?_, by rw [hn]; simp⟩
    · rw [← hf]
      simp only [List.flatten_cons, List.append_assoc]
      rw [← List.append_assoc r]
      exact List.perm_append_comm
    · have hcl : ∀ t, t < (r :: rs).length → ∀ x ∈ (r :: rs).getD t [], ∃ k, k < ring.length ∧ x = ring.getD k 0 ∧ Fr0 R ring gs ring.length k = t := fun t ht x hx => by
        obtain ⟨k, a, b, e⟩ := C.closed t ht x hx
        refine ⟨k, a, b, ?_⟩
        unfold Fr0
        rw [e, if_pos (by rw [hn]; exact ht)]
      cases t with
      | zero =>
        have hx : x ∈ c2 ++ r := hx
        rcases List.mem_append.mp hx with hx | hx
        · obtain ⟨k, a, b, e⟩ := C.grow x hx
          refine ⟨k, a, b, ?_⟩
          unfold Fr0
          rw [hn]
          have e : rid R ring gs k = (r :: rs).length := e
          rw [e, if_neg (Nat.lt_irrefl _)]
        · exact hcl 0 (by simp) x hx
      | succ t => exact hcl (t + 1) ht x hx
    · rcases List.mem_cons.mp hr with rfl | hr
      · intro e
        have := List.append_eq_nil_iff.mp e
        exact C.ne r (.head _) this.2
      · exact C.ne row (.tail _ hr)
end

/-! which row holds a place -/
theorem filter_one : ∀ {rows : List (List Int)} {p : Int}, rows.flatten.Nodup → p ∈ rows.flatten → ∃ row, row ∈ rows ∧ p ∈ row ∧ rows.filter (fun r => r.contains p) = [row]
  | [], _, _, h => by simp at h
  | r :: rs, p, hn, h => by
    rw [List.flatten_cons] at hn h
    have hn' := List.nodup_append.mp hn
    by_cases hr : p ∈ r
    · refine ⟨r, .head _, hr, ?_⟩
      rw [List.filter_cons, if_pos (by simpa using hr)]
      have : rs.filter (fun r => r.contains p) = [] := by
        rw [List.filter_eq_nil_iff]
        intro r' hr' hc
        have hc : p ∈ r' := by simpa using hc
        exact hn'.2.2 p hr p (List.mem_flatten.mpr ⟨r', hr', hc⟩) rfl
      rw [this]
    · rcases List.mem_append.mp h with h | h
      · exact absurd h hr
      · obtain ⟨row, h1, h2, h3⟩ := filter_one hn'.2.1 h
        refine ⟨row, .tail _ h1, h2, ?_⟩
        rw [List.filter_cons, if_neg (by simpa using hr), h3]

/- the circle: H is the place's height on the ring -/
structure Circ (hs ring gs : List Int) : Prop where
  pos : 0 < ring.length
  hlen : hs.length = ring.length
  glen : gs.length = ring.length
  perm : ring.Perm ((List.range ring.length).map Int.ofNat)
  gpos : ∀ k, k < gs.length → 0 ≤ gs.getD k 0
  step : ∀ k, k + 1 < ring.length → hs.getD (ring.getD (k + 1) 0).toNat 0 = hs.getD (ring.getD k 0).toNat 0 + 64 * gs.getD k 0
  last : hs.getD (ring.getD 0 0).toNat 0 + 4096 = hs.getD (ring.getD (ring.length - 1) 0).toNat 0 + 64 * gs.getD (ring.length - 1) 0

noncomputable def dst (hs : List Int) (a b : Nat) : Int := min ((hs.getD a 0 - hs.getD b 0).natAbs : Int) (4096 - ((hs.getD a 0 - hs.getD b 0).natAbs : Int))

section
variable {hs ring gs : List Int} (C : Circ hs ring gs)
noncomputable def pl (ring : List Int) (k : Nat) : Nat := (ring.getD k 0).toNat
noncomputable def Hk (hs ring : List Int) (k : Nat) : Int := hs.getD (pl ring k) 0
include C
theorem Circ.nodup : ring.Nodup := by
  refine (C.perm.nodup_iff).mpr ?_
  exact List.Pairwise.map _ (fun a b h e => h (Int.ofNat.inj e)) List.nodup_range
theorem Circ.bound {k : Nat} (h : k < ring.length) : 0 ≤ ring.getD k 0 ∧ ring.getD k 0 < ring.length := by
  have := C.perm.mem_iff.mp (k_getD_mem (d := 0) h)
  obtain ⟨j, hj, e⟩ := List.mem_map.mp this
  rw [← e]
  have := List.mem_range.mp hj
  simp only [Int.ofNat_eq_natCast]
  lia
theorem Circ.place {p : Nat} (h : p < ring.length) : ∃ k, k < ring.length ∧ ring.getD k 0 = (p : Int) := by
  have : (p : Int) ∈ ring := C.perm.mem_iff.mpr (List.mem_map.mpr ⟨p, List.mem_range.mpr h, rfl⟩)
  exact k_mem_getD this
theorem Circ.mono {i : Nat} : ∀ {j : Nat}, i ≤ j → j < ring.length → Hk hs ring i ≤ Hk hs ring j
  | 0, h, _ => by have : i = 0 := by lia
                  rw [this]; exact Int.le_refl _
  | j + 1, h, hj => by
    rcases Nat.lt_or_ge i (j + 1) with h1 | h1
    · have := Circ.mono (i := i) (j := j) (by lia) (by lia)
      have h2 := C.step j hj
      have h3 := C.gpos j (by rw [C.glen]; lia)
      unfold Hk pl at *
      lia
    · have : i = j + 1 := by lia
      rw [this]; exact Int.le_refl _
/- an edge no longer than R stays in its row -/
theorem Circ.near {R : Int} {i j : Nat} (hij : i < j) (hj : j < ring.length) (hd : dst hs (pl ring i) (pl ring j) ≤ R) : Fr0 R ring gs ring.length i = Fr0 R ring gs ring.length j := by
  have m1 := C.mono (show i ≤ j by lia) hj
  have hgn := C.glen
  have l0 := C.last
  have g0 := C.gpos (ring.length - 1) (by rw [C.glen]; lia)
  have eH : hs.getD (pl ring i) 0 - hs.getD (pl ring j) 0 = Hk hs ring i - Hk hs ring j := rfl
  unfold dst at hd
  rw [eH] at hd
  have l1 : Hk hs ring 0 + 4096 = Hk hs ring (ring.length - 1) + 64 * gs.getD (ring.length - 1) 0 := l0
  clear l0 eH
  have st : ∀ m, m + 1 < ring.length → Hk hs ring (m + 1) = Hk hs ring m + 64 * gs.getD m 0 := fun m hm => C.step m hm
  have mo : ∀ a b, a ≤ b → b < ring.length → Hk hs ring a ≤ Hk hs ring b := fun a b h1 h2 => C.mono h1 h2
  by_cases hf : Hk hs ring j - Hk hs ring i ≤ R
  · have e := rid_const R ring gs (show i ≤ j by lia) fun m h1 h2 hc => by
      have a1 := st m (by lia)
      have a2 := mo i m h1 (by lia)
      have a3 := mo (m + 1) j (by lia) hj
      lia
    unfold Fr0
    rw [e]
  · have hf2 : 4096 - (Hk hs ring j - Hk hs ring i) ≤ R := by lia
    have b1 := mo j (ring.length - 1) (by lia) (by lia)
    have b2 := mo 0 i (by lia) (by lia)
    have e1 := rid_const R ring gs (show j ≤ ring.length by lia) fun m h1 h2 hc => by
      rcases Nat.lt_or_ge (m + 1) ring.length with h3 | h3
      · have a1 := st m h3
        have a2 := mo j m h1 (by lia)
        have a3 := mo (m + 1) (ring.length - 1) (by lia) (by lia)
        lia
      · have : m = ring.length - 1 := by lia
        subst this
        lia
    have e2 := rid_const R ring gs (show 0 ≤ i by lia) fun m h1 h2 hc => by
      have a1 := st m (by lia)
      have a2 := mo 0 m (by lia) (by lia)
      have a3 := mo (m + 1) i (by lia) (by lia)
      lia
    have e3 : rid R ring gs 0 = 0 := rfl
    unfold Fr0
    rw [e1, ← e2, e3, if_neg (Nat.lt_irrefl _)]
    split <;> rfl
theorem Circ.dst_step {k : Nat} (h : k + 1 < ring.length) : dst hs (pl ring k) (pl ring (k + 1)) ≤ 64 * gs.getD k 0 ∧ dst hs (pl ring (k + 1)) (pl ring k) ≤ 64 * gs.getD k 0 := by
  have a := C.step k h
  have b := C.gpos k (by rw [C.glen]; lia)
  have a : hs.getD (pl ring (k + 1)) 0 = hs.getD (pl ring k) 0 + 64 * gs.getD k 0 := a
  unfold dst
  rw [a]
  lia
theorem Circ.dst_last : dst hs (pl ring 0) (pl ring (ring.length - 1)) ≤ 64 * gs.getD (ring.length - 1) 0 ∧ dst hs (pl ring (ring.length - 1)) (pl ring 0) ≤ 64 * gs.getD (ring.length - 1) 0 := by
  have a : Hk hs ring 0 + 4096 = Hk hs ring (ring.length - 1) + 64 * gs.getD (ring.length - 1) 0 := C.last
  have b := C.mono (show 0 ≤ ring.length - 1 by lia) (by have := C.pos; lia)
  unfold Hk at a b
  unfold dst
  lia
/- places of one row are joined by edges no longer than R -/
theorem Circ.same {R : Int} {g : Nat → Int} (hg : ∀ a b, a < ring.length → b < ring.length → a ≠ b → dst hs a b ≤ R → g a = g b) {i j : Nat} (hij : i ≤ j) (hj : j < ring.length) (e : Fr0 R ring gs ring.length i = Fr0 R ring gs ring.length j) : g (pl ring i) = g (pl ring j) := by
  have nd := C.nodup
  have plb : ∀ k, k < ring.length → pl ring k < ring.length := fun k hk => by have := C.bound hk; unfold pl; lia
  have plne : ∀ k l, k < ring.length → l < ring.length → k ≠ l → pl ring k ≠ pl ring l := fun k l hk hl hne e => by
    have b1 := C.bound hk
    have b2 := C.bound hl
    refine hne (k_nodup_inj nd hk hl ?_)
    unfold pl at e
    lia
  have run : ∀ {a b : Nat}, a ≤ b → b < ring.length → (∀ m, a ≤ m → m < b → ¬ R < 64 * gs.getD m 0) → g (pl ring a) = g (pl ring b) := by
    intro a b hab hb
    induction b with
    | zero => intro _; have : a = 0 := by lia
              rw [this]
    | succ b ih =>
      intro hc
      rcases Nat.lt_or_ge a (b + 1) with h1 | h1
      · rw [ih (by lia) (by lia) fun m h2 h3 => hc m h2 (by lia)]
        have := hc b (by lia) (by lia)
        exact hg _ _ (plb _ (by lia)) (plb _ hb) (plne _ _ (by lia) hb (by lia)) (by have := (C.dst_step hb).1; lia)
      · have : a = b + 1 := by lia
        rw [this]
  have m1 := rid_mono R ring gs hij
  have m2 := rid_mono R ring gs (show j ≤ ring.length by lia)
  by_cases hr : rid R ring gs i = rid R ring gs j
  · exact run hij hj (rid_const' R ring gs hij hr)
  · unfold Fr0 at e
    have hj2 : rid R ring gs j = rid R ring gs ring.length := by
      by_cases h : rid R ring gs j < rid R ring gs ring.length
      · rw [if_pos h, if_pos (by lia)] at e; exact absurd e hr
      · lia
    rw [if_pos (by lia), hj2, if_neg (Nat.lt_irrefl _)] at e
    have c1 := rid_const' R ring gs (show j ≤ ring.length by lia) hj2
    have c2 := rid_const' R ring gs (show 0 ≤ i by lia) (by rw [e]; rfl)
    have g1 := run (show 0 ≤ i by lia) (by lia) c2
    have g2 := run (show j ≤ ring.length - 1 by lia) (by lia) fun m h1 h2 => c1 m h1 (by lia)
    rw [← g1, g2]
    refine hg _ _ (plb _ (by lia)) (plb _ (by lia)) (plne _ _ (by lia) (by lia) fun h => ?_) ?_
    · apply hr
      have : i = 0 := by lia
      have : j = 0 := by lia
      rw [‹i = 0›, ‹j = 0›]
    · have := C.dst_last.1
      have := c1 (ring.length - 1) (by lia) (by lia)
      lia
end
end Mine
end S_Kru

section S_Top
open PySem PySem.W PyProof.Rows
set_option maxRecDepth 100000
set_option maxHeartbeats 8000000
namespace Mine
set_option synthInstance.maxSize 1 in
open_top hd for PySem.Challenge.rw_mq0297_01
end Mine
end S_Top

section S_Base
open PySem PySem.W PyProof.Rows PySem.Spec PySem.Calls
set_option maxRecDepth 100000
namespace Mine
/- a call of the def at f: from any frame, with this ledger, it comes back by Post -/
noncomputable def Call (w : World) (f : Addr) (args : List Value) (news : List (Addr × Obj)) (nd nu : Nat) (Post : Value → List (Addr × Obj) → Prop) : Prop :=
  ∀ (p : Program) (loose : List Str) (mean : ExcName → Option Value) (mg mb : Str → Option Value) (dp un : Nat) (gd : Option (List Code)) (cn : Str) (cs : Scope) (a : Addr) (ccd : Value) (cl : List (Str × Addr)) (outer : List Env) (A₀ : Around) (base h₀ : Heap) (L : Addr) (m : Str → Option Value) (s : Shared)
    (Q E : Value → Shared → Prop),
    Below A₀ base outer h₀ → Fr h₀ L s.heap m → (Mine.hd.heap_39 w.params).In h₀ → News h₀ L s.heap news → Top p loose mean mg mb h₀ → cs.kind = .function → dp + nd < recursionLimit → un + nu < cLine → 0 < s.toks →
    (∀ r news' h' tk', 0 < tk' → Fr h₀ L h' m → News h₀ L h' news' → Post r news' → Q r { s with heap := h', toks := tk' }) →
    wpAny (model PySem.Challenge.rw_mq0297_01.row.prog w) (ktrTop dp un gd cn cs L a ccd cl outer) (call (.ref f) args) Q E s
end Mine
end S_Base

section S_Flo
namespace Mine
open PySem PySem.Float64

/- the double n / 4096 -/
@[irreducible] def fl (n : Int) : UInt64 := ofFrac (decide (n < 0)) n.natAbs 4096

theorem pow1074 : (2 : Nat) ^ 1074 = 4096 * 2 ^ 1062 := by
  rw [show (1074 : Nat) = 12 + 1062 from rfl, Nat.pow_add]
theorem V_inj {t u : Nat} (h : V t = V u) : t = u := by
  rcases Nat.lt_trichotomy t u with h1 | h1 | h1
  · have := V_lt h1; lia
  · exact h1
  · have := V_lt h1; lia

theorem right_exact {r : UInt64} {neg : Bool} {W D t : Nat} (hr : Right r neg W D) (_ht : t < infMag) (hD : 0 < D) (hW : W = D * V t) (hs : 2 * V t < (2 ^ 54 - 1) * 2 ^ 2045) : r = pack neg t := by
  obtain ⟨u, e, hu, hi, hn⟩ := hr
  have hu' : u < infMag := by
    rcases Nat.lt_or_ge u infMag with h | h
    · exact h
    · have h2 : u = infMag := by lia
      have h3 := hi.mp h2
      rw [hW, show 2 * (D * V t) = D * (2 * V t) by ac_rfl] at h3
      have := Nat.le_of_mul_le_mul_left h3 hD
      lia
  have h1 := (hn hu' t).1
  rw [hW] at h1
  have h0 : dist (D * V t) (D * V t) = 0 := by unfold dist; lia
  rw [h0] at h1
  have h2 : D * V t = D * V u := by unfold dist at h1; lia
  have h3 := Nat.eq_of_mul_eq_mul_left hD h2
  rw [e, V_inj h3]

theorem rep (N : Nat) (h : N < 2 ^ 53) : ∃ t, t < infMag ∧ V t = N * 2 ^ 1062 := by
  by_cases h0 : N = 0
  · exact ⟨0, by decide +kernel, by rw [h0, V_zero]; lia⟩
  · have h1 := Nat.log2_self_le h0
    have h2 := @Nat.lt_log2_self N
    have h3 : N.log2 < 53 := (Nat.log2_lt h0).mpr h
    have hj : 2 ^ (52 - N.log2) * 2 ^ N.log2 = 2 ^ 52 := by rw [← Nat.pow_add]; congr 1; lia
    have hj2 : 2 ^ (52 - N.log2) * 2 ^ (N.log2 + 1) = 2 ^ 53 := by rw [← Nat.pow_add]; congr 1; lia
    have a1 : 2 ^ 52 ≤ N * 2 ^ (52 - N.log2) := by
      rw [← hj, Nat.mul_comm]; exact Nat.mul_le_mul_right _ h1
    have a2 : N * 2 ^ (52 - N.log2) < 2 ^ 53 := by
      rw [← hj2, Nat.mul_comm (2 ^ (52 - N.log2))]; exact Nat.mul_lt_mul_of_pos_right h2 (Nat.two_pow_pos _)
    refine ⟨(1062 - (52 - N.log2)) * 2 ^ 52 + N * 2 ^ (52 - N.log2), ?_, ?_⟩
    · have hi : infMag = 2047 * 2 ^ 52 := rfl
      lia
    · rw [V_at (by lia) (.inl a1), Nat.mul_assoc, ← Nat.pow_add]
      congr 2
      lia

theorem small {N : Nat} (h : N < 2 ^ 53) : 2 * (N * 2 ^ 1062) < (2 ^ 54 - 1) * 2 ^ 2045 := by
  have h1 : N * 2 ^ 1062 ≤ 2 ^ 53 * 2 ^ 1062 := Nat.mul_le_mul_right _ (by lia)
  have h2 : 2 * (2 ^ 53 * 2 ^ 1062) < (2 ^ 54 - 1) * 2 ^ 2045 := by decide +kernel
  lia

theorem fl_of_right {r : UInt64} {n : Int} {W D : Nat} (h : n.natAbs < 2 ^ 53) (hr : Right r (decide (n < 0)) W D) (hD : 0 < D) (hW : W = D * (n.natAbs * 2 ^ 1062)) : r = fl n := by
  obtain ⟨t, ht, hv⟩ := rep n.natAbs h
  have hs : 2 * V t < (2 ^ 54 - 1) * 2 ^ 2045 := by rw [hv]; exact small h
  have h1 := right_exact hr ht hD (by rw [hW, hv]) hs
  have h2 : Right (fl n) (decide (n < 0)) (n.natAbs * 2 ^ 1062) 1 := by unfold fl; exact ofFrac_right (by decide) (by rw [pow1074]; generalize (2 : Nat) ^ 1062 = K; rw [Nat.mul_one]; ac_rfl) (by decide)
  have h3 := right_exact h2 ht (by decide) (by rw [hv]; lia) hs
  rw [h1, h3]

theorem fl_pack {n : Int} (h : n.natAbs < 2 ^ 53) : ∃ t, t < infMag ∧ V t = n.natAbs * 2 ^ 1062 ∧ fl n = pack (decide (n < 0)) t := by
  obtain ⟨t, ht, hv⟩ := rep n.natAbs h
  have hs : 2 * V t < (2 ^ 54 - 1) * 2 ^ 2045 := by rw [hv]; exact small h
  have h2 : Right (fl n) (decide (n < 0)) (n.natAbs * 2 ^ 1062) 1 := by unfold fl; exact ofFrac_right (by decide) (by rw [pow1074]; generalize (2 : Nat) ^ 1062 = K; rw [Nat.mul_one]; ac_rfl) (by decide)
  exact ⟨t, ht, hv, right_exact h2 ht (by decide) (by rw [hv]; lia) hs⟩

theorem sgn_abs (n : Int) (K : Nat) : sgn (decide (n < 0)) (n.natAbs * K) = n * (K : Int) := by
  rw [sgn_mul]
  congr 1
  unfold sgn
  by_cases h : n < 0
  · simp [h]; lia
  · simp [h]; lia

theorem fl_dec {n : Int} (h : n.natAbs < 2 ^ 53) : ∃ m e, decode (fl n) = .fin (decide (n < 0)) m e ∧ val (fl n) = n * ((2 ^ 1062 : Nat) : Int) ∧ m * 2 ^ (e + 1074).toNat = n.natAbs * 2 ^ 1062 := by
  obtain ⟨t, ht, hv, e⟩ := fl_pack h
  obtain ⟨m, ex, hd, hm⟩ := decode_pack (decide (n < 0)) ht
  refine ⟨m, ex, by rw [e]; exact hd, ?_, by rw [hm, hv]⟩
  rw [e, val_pack _ ht, hv, sgn_abs]

theorem two_pos : (0 : Int) < ((2 ^ 1062 : Nat) : Int) := Int.ofNat_lt.mpr (Nat.two_pow_pos _)

theorem mulK_eq {K : Int} (hK : 0 < K) {n : Int} : n * K = 0 ↔ n = 0 := by
  constructor
  · intro h; rcases Int.mul_eq_zero.mp h with h | h
    · exact h
    · lia
  · intro h; rw [h, Int.zero_mul]
theorem mulK_lt {K : Int} (hK : 0 < K) {n : Int} : n * K < 0 ↔ n < 0 := by
  constructor
  · intro h
    by_cases h2 : n < 0
    · exact h2
    · have := Int.mul_nonneg (show 0 ≤ n by lia) (Int.le_of_lt hK); lia
  · intro h; exact Int.mul_neg_of_neg_of_pos h hK

theorem fl_zero : fl 0 = zero false := by decide +kernel

theorem fl_add {a b : Int} (ha : a.natAbs < 2 ^ 52) (hb : b.natAbs < 2 ^ 52) : add (fl a) (fl b) = fl (a + b) := by
  obtain ⟨m, e, hd, hv, _⟩ := fl_dec (n := a) (by lia)
  obtain ⟨k, f, hd2, hv2, _⟩ := fl_dec (n := b) (by lia)
  have R := add_right hd hd2
  have hs : val (fl a) + val (fl b) = (a + b) * ((2 ^ 1062 : Nat) : Int) := by rw [hv, hv2, Int.add_mul]
  rw [hs] at R
  by_cases h0 : a + b = 0
  · rw [R.1 ((mulK_eq two_pos).mpr h0), h0, fl_zero]
    by_cases h1 : a < 0
    · have : ¬ b < 0 := by lia
      simp [this]
    · simp [h1]
  · have h1 := R.2 (fun h => h0 ((mulK_eq two_pos).mp h))
    rw [Int.natAbs_mul, Int.natAbs_natCast, show decide ((a + b) * ((2 ^ 1062 : Nat) : Int) < 0) = decide (a + b < 0) from decide_eq_decide.mpr (mulK_lt two_pos)] at h1
    exact fl_of_right (by lia) h1 (by decide) (by lia)

theorem fl_sub {a b : Int} (ha : a.natAbs < 2 ^ 52) (hb : b.natAbs < 2 ^ 52) : sub (fl a) (fl b) = fl (a - b) := by
  obtain ⟨m, e, hd, hv, _⟩ := fl_dec (n := a) (by lia)
  obtain ⟨k, f, hd2, hv2, _⟩ := fl_dec (n := b) (by lia)
  have R := sub_right hd hd2
  have hs : val (fl a) - val (fl b) = (a - b) * ((2 ^ 1062 : Nat) : Int) := by rw [hv, hv2, Int.sub_mul]
  rw [hs] at R
  by_cases h0 : a - b = 0
  · rw [R.1 ((mulK_eq two_pos).mpr h0), h0, fl_zero]
    by_cases h1 : a < 0
    · have : b < 0 := by lia
      simp [this]
    · simp [h1]
  · have h1 := R.2 (fun h => h0 ((mulK_eq two_pos).mp h))
    rw [Int.natAbs_mul, Int.natAbs_natCast, show decide ((a - b) * ((2 ^ 1062 : Nat) : Int) < 0) = decide (a - b < 0) from decide_eq_decide.mpr (mulK_lt two_pos)] at h1
    exact fl_of_right (by lia) h1 (by decide) (by lia)

theorem fl_mul {a b c : Int} (ha : 0 ≤ a) (hb : 0 ≤ b) (ha2 : a < 2 ^ 52) (hb2 : b < 2 ^ 52) (hc2 : c < 2 ^ 52) (h : a * b = c * 4096) : mul (fl a) (fl b) = fl c := by
  have hc : 0 ≤ c := by have := Int.mul_nonneg ha hb; lia
  obtain ⟨m, e, hd, hv, _⟩ := fl_dec (n := a) (by lia)
  obtain ⟨k, f, hd2, hv2, _⟩ := fl_dec (n := b) (by lia)
  have R := mul_right hd hd2
  rw [hv, hv2, Int.natAbs_mul, Int.natAbs_mul, Int.natAbs_natCast] at R
  have e1 : decide (a < 0) = false := by simp; lia
  have e2 : decide (b < 0) = false := by simp; lia
  have e3 : decide (c < 0) = false := by simp; lia
  rw [e1, e2] at R
  refine fl_of_right (by lia) (by rw [e3]; exact R) (Nat.two_pow_pos _) ?_
  have hn : a.natAbs * b.natAbs = c.natAbs * 4096 := by rw [← Int.natAbs_mul, h, Int.natAbs_mul]; rfl
  rw [pow1074]
  generalize (2 : Nat) ^ 1062 = K
  calc a.natAbs * K * (b.natAbs * K) = (a.natAbs * b.natAbs) * (K * K) := by ac_rfl
    _ = c.natAbs * 4096 * (K * K) := by rw [hn]
    _ = 4096 * K * (c.natAbs * K) := by ac_rfl

theorem fl_div {a b c : Int} (hb : 0 < b) (ha2 : a.natAbs < 2 ^ 52) (hb2 : b < 2 ^ 52) (hc2 : c.natAbs < 2 ^ 52) (h : a * 4096 = c * b) : div (fl a) (fl b) = fl c := by
  obtain ⟨m, e, hd, hv, _⟩ := fl_dec (n := a) (by lia)
  obtain ⟨k, f, hd2, hv2, hk⟩ := fl_dec (n := b) (by lia)
  have hk0 : k ≠ 0 := by
    intro h0
    rw [h0, Nat.zero_mul] at hk
    have : 0 < b.natAbs * 2 ^ 1062 := Nat.mul_pos (by lia) (Nat.two_pow_pos _)
    lia
  have R := div_right hd hd2 hk0
  rw [hv, hv2, Int.natAbs_mul, Int.natAbs_mul, Int.natAbs_natCast] at R
  have e2 : decide (b < 0) = false := by simp; lia
  have e1 : decide (a < 0) = decide (c < 0) := by
    apply decide_eq_decide.mpr
    constructor
    · intro h1
      have : c * b < 0 := by rw [← h]; lia
      exact (mulK_lt hb).mp this
    · intro h1
      have := Int.mul_neg_of_neg_of_pos h1 hb
      lia
  rw [e2, e1, Bool.bne_false] at R
  refine fl_of_right (by lia) R (Nat.mul_pos (by lia) (Nat.two_pow_pos _)) ?_
  have hn : a.natAbs * 4096 = c.natAbs * b.natAbs := by rw [← Int.natAbs_mul, ← h, Int.natAbs_mul]; rfl
  rw [pow1074]
  generalize (2 : Nat) ^ 1062 = K
  calc a.natAbs * K * (4096 * K) = (a.natAbs * 4096) * (K * K) := by ac_rfl
    _ = c.natAbs * b.natAbs * (K * K) := by rw [hn]
    _ = b.natAbs * K * (c.natAbs * K) := by ac_rfl

theorem fl_cmp {a b : Int} (ha : a.natAbs < 2 ^ 52) (hb : b.natAbs < 2 ^ 52) : cmp (fl a) (fl b) = some (compare a b) := by
  obtain ⟨m, e, hd, hv, _⟩ := fl_dec (n := a) (by lia)
  obtain ⟨k, f, hd2, hv2, _⟩ := fl_dec (n := b) (by lia)
  rw [cmp_right hd hd2, hv, hv2]
  have hpos := two_pos
  generalize ((2 ^ 1062 : Nat) : Int) = K at *
  congr 1
  rcases Int.lt_trichotomy a b with h | h | h
  · rw [Int.compare_eq_lt.mpr h, Int.compare_eq_lt.mpr (Int.mul_lt_mul_of_pos_right h hpos)]
  · subst h; simp
  · rw [Int.compare_eq_gt.mpr h, Int.compare_eq_gt.mpr (Int.mul_lt_mul_of_pos_right h hpos)]

theorem fl_isZero {a : Int} (ha : a.natAbs < 2 ^ 52) : isZero (fl a) = decide (a = 0) := by
  obtain ⟨m, e, hd, hv, hk⟩ := fl_dec (n := a) (by lia)
  unfold isZero
  rw [hd]
  by_cases h : a = 0
  · have : m = 0 := by
      rw [h] at hk
      have h2 : 0 < 2 ^ (e + 1074).toNat := Nat.two_pow_pos _
      generalize 2 ^ (e + 1074).toNat = K at *
      rw [show (0 : Int).natAbs = 0 from rfl, Nat.zero_mul] at hk
      exact (Nat.mul_eq_zero.mp hk).resolve_right (by lia)
    simp [this, h]
  · have : m ≠ 0 := by
      intro h0
      rw [h0, Nat.zero_mul] at hk
      have : 0 < a.natAbs * 2 ^ 1062 := Nat.mul_pos (by lia) (Nat.two_pow_pos _)
      lia
    simp only [h, decide_false]
    cases m with
    | zero => exact absurd rfl this
    | succ m => rfl

theorem ofFrac_fl {neg : Bool} {n d : Nat} {c : Int} (hd : 0 < d) (hn : neg = decide (c < 0)) (hc : c.natAbs < 2 ^ 52) (h : n * 4096 = c.natAbs * d) : ofFrac neg n d = fl c := by
  subst hn
  refine fl_of_right (W := c.natAbs * 2 ^ 1062) (D := 1) (by lia) (ofFrac_right hd ?_ (by decide)) (by decide) (by lia)
  rw [pow1074]
  generalize (2 : Nat) ^ 1062 = K
  calc n * (4096 * K) * 1 = n * 4096 * K := by rw [Nat.mul_one]; ac_rfl
    _ = c.natAbs * d * K := by rw [h]
    _ = c.natAbs * K * d := by ac_rfl

theorem fl_abs {a : Int} (ha : a.natAbs < 2 ^ 52) : abs (fl a) = fl a.natAbs := by
  obtain ⟨t, ht, hv, e⟩ := fl_pack (n := a) (by lia)
  obtain ⟨u, hu, hw, e2⟩ := fl_pack (n := (a.natAbs : Int)) (by lia)
  have htu : t = u := V_inj (by rw [hv, hw, Int.natAbs_natCast])
  subst htu
  have hi : infMag = 2047 * 2 ^ 52 := rfl
  have h1 : isNaN (pack (decide (a < 0)) t) = false := by
    obtain ⟨m, ex, hd, _⟩ := decode_pack (decide (a < 0)) ht
    unfold isNaN; rw [hd]
  unfold abs
  rw [e, e2, h1]
  have p1 := pack_toNat (decide (a < 0)) (t := t) (by lia)
  have e3 : decide (((a.natAbs : Nat) : Int) < 0) = false := by simp
  simp only [Bool.false_eq_true, if_false]
  rw [e3, p1]
  congr 1
  split <;> lia

theorem fl_inf {a : Int} (ha : a.natAbs < 2 ^ 52) : isInf (fl a) = false := by
  obtain ⟨m, e, hd, hv, hk⟩ := fl_dec (n := a) (by lia)
  unfold isInf
  rw [hd]

theorem fl_trunc {a : Int} (h0 : 0 ≤ a) (ha : a < 2 ^ 52) : ∃ m e, decode (fl a) = .fin false m e ∧ truncOf false m e = a / 4096 := by
  obtain ⟨m, e, hd, hv, hk⟩ := fl_dec (n := a) (by lia)
  have e1 : decide (a < 0) = false := by simp; lia
  rw [e1] at hd
  have he := decode_ge hd
  refine ⟨m, e, hd, ?_⟩
  unfold truncOf floorOf sgn
  simp only [Bool.false_eq_true, if_false]
  obtain ⟨A, rfl⟩ := Int.eq_ofNat_of_zero_le h0
  simp only [Int.natAbs_natCast] at hk
  split
  · rename_i hge
    have e2 : (e + 1074).toNat = e.toNat + 12 + 1062 := by lia
    rw [e2, Nat.pow_add, ← Nat.mul_assoc] at hk
    have := Nat.eq_of_mul_eq_mul_right (Nat.two_pow_pos _) hk
    rw [Nat.pow_add, ← Nat.mul_assoc] at this
    rw [← this]
    generalize e.toNat = c
    clear hk this
    have h9 : ((m * 2 ^ c * 2 ^ 12 : Nat) : Int) = (m : Int) * 2 ^ c * 4096 := by rw [Int.natCast_mul, Int.natCast_mul, Int.natCast_pow]; rfl
    rw [h9, Int.mul_ediv_cancel _ (by decide)]
  · rename_i hlt
    rw [Int.fdiv_eq_ediv_of_nonneg _ (by exact Int.le_of_lt (by exact_mod_cast Nat.two_pow_pos _))]
    have h4 : m * 4096 = A * 2 ^ (-e).toNat := by
      have e3 : (e + 1074).toNat + (-e).toNat = 1074 := by lia
      have h5 : m * 2 ^ (e + 1074).toNat * 2 ^ (-e).toNat = A * 2 ^ 1062 * 2 ^ (-e).toNat := by rw [hk]
      rw [Nat.mul_assoc, ← Nat.pow_add, e3, pow1074] at h5
      have h6 : m * 4096 * 2 ^ 1062 = A * 2 ^ (-e).toNat * 2 ^ 1062 := by
        generalize (2 : Nat) ^ 1062 = K at *
        calc m * 4096 * K = m * (4096 * K) := by ac_rfl
          _ = A * K * 2 ^ (-e).toNat := h5
          _ = _ := by ac_rfl
      exact Nat.eq_of_mul_eq_mul_right (Nat.two_pow_pos _) h6
    have h7 : m / 2 ^ (-e).toNat = A / 4096 := by
      rw [← Nat.mul_div_mul_right m (2 ^ (-e).toNat) (show 0 < 4096 by decide), h4, Nat.mul_comm A, Nat.mul_div_mul_left _ _ (Nat.two_pow_pos _)]
    have h8 : ((m / 2 ^ (-e).toNat : Nat) : Int) = ((A / 4096 : Nat) : Int) := by rw [h7]
    rw [Int.natCast_ediv, Int.natCast_pow] at h8
    exact h8


/- the rest by one turn -/
theorem fl_fmod {a b : Int} (hb : 0 < b) (ha2 : a.natAbs < 2 ^ 52) (hb2 : b < 2 ^ 52) : ∃ t, t < infMag ∧ V t = a.natAbs % b.natAbs * 2 ^ 1062 ∧ fmod (fl a) (fl b) = pack (decide (a < 0)) t := by
  obtain ⟨m, e, hd, hv, hm⟩ := fl_dec (n := a) (by lia)
  obtain ⟨k, f, hd2, hv2, hk⟩ := fl_dec (n := b) (by lia)
  have hk0 : k ≠ 0 := by
    intro h0
    rw [h0, Nat.zero_mul] at hk
    have : 0 < b.natAbs * 2 ^ 1062 := Nat.mul_pos (by lia) (Nat.two_pow_pos _)
    lia
  have he := decode_ge hd
  have hf := decode_ge hd2
  have hrb : a.natAbs % b.natAbs < 2 ^ 53 := by
    have := Nat.mod_lt a.natAbs (show 0 < b.natAbs by lia)
    lia
  obtain ⟨t, ht, hvt⟩ := rep (a.natAbs % b.natAbs) hrb
  refine ⟨t, ht, hvt, ?_⟩
  have hfm : fmod (fl a) (fl b) = ofBin (decide (a < 0)) (m * 2 ^ (e - min e f).toNat % (k * 2 ^ (f - min e f).toNat)) (min e f) := by
    unfold fmod
    rw [hd, hd2]
    simp only [align, sgn, Bool.false_eq_true, if_false, Int.toNat_natCast]
    rw [if_neg (by simpa using hk0)]
  rw [hfm]
  have hp : m * 2 ^ (e - min e f).toNat * 2 ^ (min e f + 1074).toNat = a.natAbs * 2 ^ 1062 := by
    rw [← hm, Nat.mul_assoc, ← Nat.pow_add]; congr 2; lia
  have hq : k * 2 ^ (f - min e f).toNat * 2 ^ (min e f + 1074).toNat = b.natAbs * 2 ^ 1062 := by
    rw [← hk, Nat.mul_assoc, ← Nat.pow_add]; congr 2; lia
  have hM : (m * 2 ^ (e - min e f).toNat % (k * 2 ^ (f - min e f).toNat)) * 2 ^ (min e f + 1074).toNat = a.natAbs % b.natAbs * 2 ^ 1062 := by
    rw [← Nat.mul_mod_mul_right, hp, hq, Nat.mul_mod_mul_right]
  generalize m * 2 ^ (e - min e f).toNat % (k * 2 ^ (f - min e f).toNat) = M at *
  have hs := shift_one M (min e f) 1074 (by lia)
  have R : Right (ofBin (decide (a < 0)) M (min e f)) (decide (a < 0)) (M * 2 ^ (min e f + 1074).toNat) 1 := by
    unfold ofBin
    exact ofFrac_right (shift_pos _ _ _ (by decide)) (by rw [Nat.mul_one]; exact hs) (by decide)
  exact right_exact R ht (by decide) (by rw [hM, hvt]; lia) (by rw [hvt]; exact small hrb)

theorem fl_pack_eq {n : Int} {t : Nat} (h : n.natAbs < 2 ^ 53) (hv : V t = n.natAbs * 2 ^ 1062) : pack (decide (n < 0)) t = fl n := by
  obtain ⟨u, hu, hw, e⟩ := fl_pack h
  rw [e, V_inj (hv.trans hw.symm)]

theorem lt_fl {a b : Int} (ha : a.natAbs < 2 ^ 52) (hb : b.natAbs < 2 ^ 52) : lt (fl a) (fl b) = decide (a < b) := by
  unfold lt
  rw [fl_cmp ha hb]
  rcases Int.lt_trichotomy a b with h | h | h
  · rw [Int.compare_eq_lt.mpr h]; simp [h]
  · subst h; simp
  · rw [Int.compare_eq_gt.mpr h]; simp; lia

theorem fl_mod {a b : Int} (hb : 0 < b) (ha2 : a.natAbs < 2 ^ 51) (hb2 : b < 2 ^ 51) : (divmod (fl a) (fl b)).2 = fl (a % b) := by
  obtain ⟨t, ht, hv, e⟩ := fl_fmod (a := a) hb (by lia) (by lia)
  obtain ⟨N, rfl⟩ := Int.eq_ofNat_of_zero_le (Int.le_of_lt hb)
  simp only [Int.natAbs_natCast] at hv
  have hsb : signBit (fl (N : Int)) = false := by
    obtain ⟨u, hu, hw, e2⟩ := fl_pack (n := (N : Int)) (by lia)
    have hi : infMag = 2047 * 2 ^ 52 := rfl
    unfold signBit
    rw [e2, pack_toNat _ (by lia)]
    have : ¬ ((N : Int) < 0) := by lia
    simp [this]
    lia
  have hz : fl 0 = zero false := fl_zero
  have hN : 0 < N := by lia
  have key : ∀ r : Int, r.natAbs < 2 ^ 52 → fmod (fl a) (fl (N : Int)) = fl r → (r = 0 → a % (N : Int) = 0) → (0 < r → a % (N : Int) = r) → (r < 0 → a % (N : Int) = r + N) → (divmod (fl a) (fl (N : Int))).2 = fl (a % (N : Int)) := by
    intro r hr hfm h0 h1 h2
    unfold divmod
    simp only [hfm]
    rw [fl_isZero hr]
    by_cases hr0 : r = 0
    · simp only [hr0, decide_true, if_true]
      rw [h0 hr0, fl_zero]
      unfold copysign
      rw [hsb]
      decide +kernel
    · simp only [hr0, decide_false, Bool.false_eq_true, if_false]
      rw [← hz, lt_fl (by lia) (by decide), lt_fl hr (by decide)]
      have e1 : decide ((N : Int) < 0) = false := by simp
      rw [e1]
      by_cases hneg : r < 0
      · simp only [hneg, decide_true]
        simp only [Bool.false_bne, if_true]
        rw [fl_add hr (by lia), h2 hneg]
      · simp only [hneg, decide_false]
        simp only [bne_self_eq_false, Bool.false_eq_true, if_false]
        rw [h1 (by lia)]
  by_cases ha : a < 0
  · by_cases hr0 : a.natAbs % N = 0
    · -- minus nought
      have hV : V t = 0 := by rw [hv, hr0, Nat.zero_mul]
      have ht0 : t = 0 := V_inj (hV.trans V_zero.symm)
      have ha0 : a % (N : Int) = 0 := by
        have h1 : (N : Int) ∣ a := by
          have := Nat.dvd_of_mod_eq_zero hr0
          exact Int.natAbs_dvd_natAbs.mp (by rw [Int.natAbs_natCast]; exact this)
        exact Int.emod_eq_zero_of_dvd h1
      unfold divmod
      simp only [e, ha, decide_true, ht0]
      have hzz : isZero (pack true 0) = true := by decide +kernel
      rw [hzz]
      simp only [if_true]
      rw [ha0, fl_zero]
      unfold copysign
      rw [hsb]
      decide +kernel
    · have hlt := Nat.mod_lt a.natAbs hN
      refine key (-((a.natAbs % N : Nat) : Int)) (by lia) ?_ (by lia) (by lia) (fun _ => ?_)
      · rw [e]
        have h1 : decide (a < 0) = decide (-((a.natAbs % N : Nat) : Int) < 0) := by
          apply decide_eq_decide.mpr; constructor <;> intro <;> lia
        rw [h1]
        exact fl_pack_eq (by lia) (by rw [hv, Int.natAbs_neg, Int.natAbs_natCast])
      · have h2 : a = -((a.natAbs : Nat) : Int) := by lia
        have h3 := Nat.div_add_mod a.natAbs N
        generalize hq : a.natAbs / N = q at *
        generalize hrr : a.natAbs % N = r at *
        have h4 : a = (-((r : Nat) : Int) + N) + (N : Int) * (-(q : Int) - 1) := by
          rw [h2, ← h3]
          push_cast
          rw [Int.mul_sub, Int.mul_neg, Int.mul_one]
          lia
        rw [h4, Int.add_mul_emod_self_left]
        exact Int.emod_eq_of_lt (by lia) (by lia)
  · obtain ⟨A, rfl⟩ := Int.eq_ofNat_of_zero_le (show 0 ≤ a by lia)
    simp only [Int.natAbs_natCast] at hv ha2
    have hlt := Nat.mod_lt A hN
    refine key ((A % N : Nat) : Int) (by lia) ?_ (fun h => by rw [← Int.natCast_emod]; exact h) (fun h => by rw [← Int.natCast_emod]) (by lia)
    rw [e]
    have h1 : decide (((A : Nat) : Int) < 0) = decide (((A % N : Nat) : Int) < 0) := by
      apply decide_eq_decide.mpr; constructor <;> intro <;> lia
    rw [h1]
    exact fl_pack_eq (by lia) (by rw [hv, Int.natAbs_natCast])

end Mine
end S_Flo

section S_Toks
namespace Mine
open PySem

theorem setGen_toks (s : Shared) (g : Nat) (x : GenState) : (s.setGen g x).toks = s.toks := rfl

theorem runs_toks {M : Model} {Γ : Ctx} {p : Pos} {t : Sem Fin} {fs : List Frame} {s s' : Shared} {e : End} (h : Runs M Γ p t fs s e s') : s.toks ≤ s'.toks := by
  induction h <;> (try simp only [setGen_toks] at *) <;> (try dsimp only at *) <;> lia

theorem wakes_toks {M : Model} {Γ : Ctx} {p : Pos} {g : Nat} {r : Resume} {s s' : Shared} {res : GenResult} (h : Wakes M Γ p g r s res s') : s.toks ≤ s'.toks := by
  unfold Wakes at h
  split at h
  · exact h.elim
  · split at h
    · obtain ⟨e₁, s₁, hr, _, _, rfl⟩ := h
      have := runs_toks hr
      simpa only [setGen_toks] using this
    · rw [h.2]; exact Nat.le_refl _
    · rw [h.2]; exact Nat.le_refl _
  · obtain ⟨e₁, s₁, hr, _, _, rfl⟩ := h
    have := runs_toks hr
    simpa only [setGen_toks] using this
  · rw [h.2]; exact Nat.le_refl _
  · rw [h.2]; exact Nat.le_refl _

theorem wp_toks {α : Type} {M : Model} {Γ : Ctx} {Q : α → Pos → Shared → Prop} {E : Value → Pos → Shared → Prop} (n : Nat) (t : Sem α) :
    ∀ (p : Pos) (s : Shared), n ≤ s.toks → Sem.wp M Γ t (fun a p' s' => n ≤ s'.toks → Q a p' s') (fun e p' s' => n ≤ s'.toks → E e p' s') p s → Sem.wp M Γ t Q E p s := by
  induction t with
  | pure a => intro p s hn h; rw [Sem.wp] at h ⊢; exact h hn
  | raise e => intro p s hn h; rw [Sem.wp] at h ⊢; exact h hn
  | unsupported w => intro p s hn h; rw [Sem.wp] at h; exact h.elim
  | finish e => intro p s hn h; rw [Sem.wp] at h; exact h.elim
  | rule tag k ih => intro p s hn h; rw [Sem.wp] at h ⊢; exact ih () p s hn h
  | «at» p' k ih => intro p s hn h; rw [Sem.wp] at h ⊢; exact ih () p' s hn h
  | load a part k ih => intro p s hn h; rw [Sem.wp] at h ⊢; obtain ⟨o, ho, h⟩ := h; exact ⟨o, ho, ih o p s hn h⟩
  | update a part f k ih => intro p s hn h; rw [Sem.wp] at h ⊢; exact ⟨h.1, ih () p _ hn h.2⟩
  | alloc o k ih => intro p s hn h; rw [Sem.wp] at h ⊢; exact ih _ p _ hn h
  | loadIfAlive a k ih => intro p s hn h; rw [Sem.wp] at h ⊢; exact ih _ p s hn h
  | point l k ih => intro p s hn h; rw [Sem.wp] at h ⊢; exact ih _ p s hn h
  | register a k ih => intro p s hn h; rw [Sem.wp] at h; exact h.elim
  | fresh k ih => intro p s hn h; rw [Sem.wp] at h ⊢; exact ih _ p _ (Nat.le_succ_of_le hn) h
  | ask k ih => intro p s hn h; rw [Sem.wp] at h ⊢; exact ih _ p s hn h
  | choose src m k ih => intro p s hn h; rw [Sem.wp] at h ⊢; exact ⟨h.1, ih _ p _ hn h.2⟩
  | os q l k ih => intro p s hn h; rw [Sem.wp] at h ⊢; exact ih _ p _ hn h
  | call c hd g l k ih =>
    intro p s hn h
    rw [Sem.wp] at h ⊢
    obtain ⟨r, s', hr, hR⟩ := h
    exact ⟨r, s', hr, ih r p s' (Nat.le_trans hn (runs_toks hr)) hR⟩
  | handled own k ih => intro p s hn h; rw [Sem.wp] at h ⊢; exact ih _ p s hn h
  | newGen c k ih => intro p s hn h; rw [Sem.wp] at h ⊢; exact ih _ p _ hn h
  | genState g k ih => intro p s hn h; rw [Sem.wp] at h ⊢; obtain ⟨st, hst, h⟩ := h; exact ⟨st, hst, ih _ p s hn h⟩
  | resume g r l k ih =>
    intro p s hn h
    rw [Sem.wp] at h ⊢
    obtain ⟨res, s', hr, hR⟩ := h
    exact ⟨res, s', hr, ih res p s' (Nat.le_trans hn (wakes_toks hr)) hR⟩
  | yield v g l k ih => intro p s hn h; rw [Sem.wp] at h; exact h.elim
  | stack k ih => intro p s hn h; rw [Sem.wp] at h ⊢; exact ih _ p s hn h
  | fork c k ih => intro p s hn h; rw [Sem.wp] at h; exact h.elim
  | thread k ih => intro p s hn h; rw [Sem.wp] at h ⊢; exact ih _ p s hn h
  | await a tk d l k ih => intro p s hn h; rw [Sem.wp] at h; exact h.elim

/- the count of tokens never falls -/
theorem wpAny_le {α : Type} {M : Model} {A : Around} {t : Sem α} {Q : α → Shared → Prop} {E : Value → Shared → Prop} {s : Shared}
    (h : wpAny M A t (fun a s' => s.toks ≤ s'.toks → Q a s') (fun e s' => s.toks ≤ s'.toks → E e s') s) : wpAny M A t Q E s :=
  fun Γ p hΓ => wp_toks s.toks t p s (Nat.le_refl _) (h Γ p hΓ)
end Mine
end S_Toks

section S_Rules
set_option maxRecDepth 100000
namespace Mine
open PySem PySem.W PyProof.Rows PySem.Spec PySem.Calls PySem.SeqAt

noncomputable abbrev tupO (vs : List Value) : Obj := { cls := .type "tuple", data := .seq vs.toArray 0 }

theorem booked {w : World} {h : Heap} (X : (Mine.hd.heap_39 w.params).In h) : NoneBooked h := by
  have := X 2 _ rfl
  exact ⟨fun _ => none, ⟨_, _, _, this, rfl, fun e he => by simp at he, fun _ => rfl⟩, rfl⟩

theorem eqAt_float {A : Around} {s : Shared} {a b : Int} {t u : Tok} (hb : NoneBooked s.heap) (ht : 0 < t) (hu : 0 < u) (htu : t = u → a = b) (ha : a.natAbs < 2 ^ 52) (hb2 : b.natAbs < 2 ^ 52) :
    EqAt A s (.float (fl a) t) (.float (fl b) u) (decide (a = b)) := fun prog w E Q h => by
  unfold eqBool
  refine wpAny_holding ?_
  refine wpAny_ite ?_
  split
  · rename_i he
    have he := eq_of_beq he
    injection he with h1 h2
    have : a = b := by
      have hc := fl_cmp ha hb2
      rw [h1, fl_cmp hb2 hb2] at hc
      have hc := Option.some.inj hc
      rw [show compare b b = Ordering.eq by simp] at hc
      exact (Int.compare_eq_eq.mp hc.symm)
    rw [decide_eq_true this] at h
    exact wpAny_bind (wpAny_rule (wpAny_pure h))
  · refine wpAny_bind ?_
    show wpAny _ _ (isSame.created (fl a == fl b && !Float64.isNaN (fl a)) t u) _ _ s
    have fin : wpAny (model prog w) A (truthOfDropped (.bool (decide (a = b)))) Q E s := wpAny_truthy_bool h
    have rest : wpAny (model prog w) A (do truthOfDropped (← richCompare .Eq (.float (fl a) t) (.float (fl b) u))) Q E s := by
      refine wpAny_bind (AutoFloatOps.eq_0 (Q := fun v s' => wpAny (model prog w) A (truthOfDropped v) Q E s') ?_)
      rw [fl_cmp ha hb2]
      have e1 : (some (compare a b) == some Ordering.eq) = decide (a = b) := by
        rcases Int.lt_trichotomy a b with h | h | h
        · rw [Int.compare_eq_lt.mpr h]; simp; lia
        · subst h; simp
        · rw [Int.compare_eq_gt.mpr h]; simp; lia
      rw [e1]
      exact fin
    have yes : ∀ {c : Bool}, c = (fl a == fl b && !Float64.isNaN (fl a)) → c = true → Q true s := by
      intro c hc ht
      rw [ht] at hc
      have hc := hc.symm
      simp only [Bool.and_eq_true] at hc
      have h1 := eq_of_beq hc.1
      have : a = b := by
        have hc := fl_cmp ha hb2
        rw [h1, fl_cmp hb2 hb2] at hc
        have hc := Option.some.inj hc
        rw [show compare b b = Ordering.eq by simp] at hc
        exact (Int.compare_eq_eq.mp hc.symm)
      rwa [decide_eq_true this] at h
    unfold isSame.created
    refine wpAny_ite ?_
    split
    · rename_i h0
      exfalso
      rcases Bool.or_eq_true_iff.mp h0 with h1 | h1
      · exact absurd (eq_of_beq h1) (Nat.ne_of_gt ht)
      · exact absurd (eq_of_beq h1) (Nat.ne_of_gt hu)
    refine wpAny_ite ?_
    split
    · rename_i hne he
      refine wpAny_pure ?_
      simp only [if_true]
      rw [decide_eq_true (htu (eq_of_beq he))] at h
      exact wpAny_pure h
    refine wpAny_ite ?_
    split
    · refine wpAny_pure ?_
      simp only [Bool.false_eq_true, if_false]
      exact rest
    rename_i hc
    refine wpAny_bind (wpAny_sharingNotTold_none hb ?_)
    simp only [Bool.false_eq_true, if_false]
    refine wpAny_bind (wpAny_sharingNotTold_none hb ?_)
    simp only [Bool.false_eq_true, if_false]
    refine wpAny_bind (wpAny_rule (wpAny_bind (wpAny_askSetting (wpAny_pure ?_))))
    split
    · exact wpAny_pure (yes rfl (by simpa using hc))
    · exact rest

/- richCompare Lt gives b and leaves the state -/
noncomputable def LtAt (A : Around) (s : Shared) (y x : Value) (b : Bool) : Prop :=
  ∀ (prog : Program) (w : World) (E : Value → Shared → Prop) (Q : Value → Shared → Prop), Q (.bool b) s → wpAny (model prog w) A (richCompare .Lt y x) Q E s
theorem ltAt_float {A : Around} {s : Shared} {a b : Int} {t u : Tok} (ha : a.natAbs < 2 ^ 52) (hb : b.natAbs < 2 ^ 52) : LtAt A s (.float (fl a) t) (.float (fl b) u) (decide (a < b)) := fun prog w E Q h => by
  refine AutoFloatOps.lt_0 (Q := Q) ?_
  have := lt_fl ha hb
  unfold Float64.lt at this
  rw [this]
  exact h
theorem ltAt_int {A : Around} {s : Shared} {a b : Int} {t u : Tok} : LtAt A s (.int a t) (.int b u) (decide (a < b)) := fun prog w E Q h =>
  (PyProof.Rows.lt_int (Q := Q) h : wpAny (model prog w) A (compareOp .Lt (.int a t) (.int b u)) Q E s)
theorem eqAt_int {A : Around} {s : Shared} {a b : Int} {t u : Tok} : EqAt A s (.int a t) (.int b u) (a == b) := (PySem.MeetsSeq.EqGives.int a b t u).at A s

noncomputable def lexF (e l : Nat → Bool) : List Nat → Bool
  | [] => false
  | j :: r => if e j then lexF e l r else l j

open AutoSeq1 (wpAny_loadPart') in
theorem tuple_ltAt (l b : Addr) (items items2 : Array Value) (n n2 : Nat) (e lt : Nat → Bool) (hsz : items.size = items2.size) :
    Meets (Builtin.«tuple.__lt__» ⟨[.ref l, .ref b], []⟩)
      (fun A R s => s.heap.get? l = some { cls := .type "tuple", dict := none, data := .seq items n, slots := #[] } ∧ s.heap.get? b = some { cls := .type "tuple", dict := none, data := .seq items2 n2, slots := #[] } ∧
        (∀ j (h1 : j < items.size) (h2 : j < items2.size), EqAt A.in1 s items[j] items2[j] (e j)) ∧ (∀ j (h1 : j < items.size) (h2 : j < items2.size), LtAt A.in1 s items[j] items2[j] (lt j)) ∧
        R (.ok (.ret (.bool (lexF e lt (List.range items.size))))) s) :=
  .of_wp fun prog w A R s h => by
    obtain ⟨hp, g, d, tk, os⟩ := s; obtain ⟨hl, hb, he, hlt', h⟩ := h
    have f2 := AutoSeq1.sub_tuple_tuple
    have hZ : (items.toList.zip items2.toList).length = items.size := by simp [hsz]
    wp_walk using wpAny_loadPart' hl, wpAny_loadPart' hb, wpAny_forIn_list _ (fun rest b s' => b.1 = none ∧ s' = ⟨hp, g, d, tk, os⟩ ∧ ∃ i, rest = (items.toList.zip items2.toList).drop i ∧
      R (.ok (.ret (.bool (lexF e lt ((List.range items.size).drop i))))) ⟨hp, g, d, tk, os⟩) _
    case turn =>
      rintro ⟨y, x⟩ rest b s' ⟨hb', rfl, i, hz, hR⟩
      have hlt : i < (items.toList.zip items2.toList).length := by
        rcases Nat.lt_or_ge i (items.toList.zip items2.toList).length with h' | h'
        · exact h'
        · rw [List.drop_of_length_le h'] at hz; cases hz
      have h1 : i < items.size := hZ ▸ hlt
      have h2 : i < items2.size := hsz ▸ h1
      rw [List.drop_eq_getElem_cons hlt] at hz
      injection hz with hyx hrest
      have hy : y = items[i] := by have := congrArg Prod.fst hyx; simpa using this
      have hx : x = items2[i] := by have := congrArg Prod.snd hyx; simpa using this
      subst hy hx
      have hd : (List.range items.size).drop i = i :: (List.range items.size).drop (i + 1) := by simp [List.drop_eq_getElem_cons, h1]
      rw [hd, lexF] at hR
      refine wpAny_bind (he i h1 h2 prog w _ _ ?_)
      cases hy : e i with
      | true =>
        rw [hy] at hR
        wp_walk
        exact ⟨rfl, rfl, i + 1, hrest, by simpa using hR⟩
      | false =>
        rw [hy] at hR
        simp only [Bool.not_false, if_true]
        refine wpAny_bind (wpAny_rule ?_)
        refine wpAny_bind (hlt' i h1 h2 prog w _ _ ?_)
        wp_walk
        exact ⟨_, rfl, by simpa using hR⟩
    case fin =>
      rintro ⟨b1, b2⟩ s' ⟨hb', rfl, i, hz, hR⟩
      simp only at hb'
      subst hb'
      have hge : items.size ≤ i := by
        rcases Nat.lt_or_ge i (items.toList.zip items2.toList).length with h' | h'
        · rw [List.drop_eq_getElem_cons h'] at hz; cases hz
        · exact hZ ▸ h'
      rw [List.drop_of_length_le (by simpa using hge)] at hR
      wp_walk
      exact ⟨_, rfl, by simpa [Builtin.Tuple.tupleCompareSizes, hsz, lexF] using hR⟩
    case h =>
      exact ⟨rfl, rfl, 0, rfl, by simpa using h⟩


/- the order of triples -/
noncomputable def klt (x y : Int × Int × Int) : Bool := if x.1 = y.1 then (if x.2.1 = y.2.1 then decide (x.2.2 < y.2.2) else decide (x.2.1 < y.2.1)) else decide (x.1 < y.1)
noncomputable def plt (x y : Int × Int) : Bool := if x.1 = y.1 then decide (x.2 < y.2) else decide (x.1 < y.1)

/- v is a triple of the ledger: a double with a token that ct knows, two ints -/
noncomputable def Tup3 (ct : Tok → Int) (rest : List (Addr × Obj)) (v : Value) (k : Int × Int × Int) : Prop :=
  ∃ (b : Addr) (t t2 t3 : Tok), v = .ref b ∧ 0 < t ∧ ct t = k.1 ∧ k.1.natAbs < 2 ^ 52 ∧ (b, tupO [.float (fl k.1) t, .int k.2.1 t2, .int k.2.2 t3]) ∈ rest
noncomputable def Tup2 (rest : List (Addr × Obj)) (v : Value) (k : Int × Int) : Prop :=
  ∃ (b : Addr) (t2 t3 : Tok), v = .ref b ∧ (b, tupO [.int k.1 t2, .int k.2 t3]) ∈ rest

section
variable {prog : Program} {w : World} {A : Around} {E : Value → Shared → Prop} {s : Shared} {h₀ : Heap} {L D : Addr} {m : Str → Option Value} {news news' rest : List (Addr × Obj)}

theorem lt3_gen {b b' : Addr} {x0 x1 x2 y0 y1 y2 : Value} {e0 e1 e2 l0 l1 l2 : Bool} {Q : Value → Shared → Prop} (ho : s.heap.get? b = some (tupO [x0, x1, x2])) (ho' : s.heap.get? b' = some (tupO [y0, y1, y2]))
    (a0 : EqAt A.in1 s x0 y0 e0) (a1 : EqAt A.in1 s x1 y1 e1) (a2 : EqAt A.in1 s x2 y2 e2) (c0 : LtAt A.in1 s x0 y0 l0) (c1 : LtAt A.in1 s x1 y1 l1) (c2 : LtAt A.in1 s x2 y2 l2) (hu : A.units < cLine)
    (h : Q (.bool (if e0 then (if e1 then (if e2 then false else l2) else l1) else l0)) s) : wpAny (model prog w) A (compareOp .Lt (.ref b) (.ref b')) Q E s := by
  refine cmp_ofLt ?_
  refine richCompare_meets_room (op := .Lt) (a := .ref b) (b := .ref b') ⟨_, ho, rfl⟩ ⟨_, ho', rfl⟩ PySem.F.slot_tuple_lt PySem.F.entry_tuple_lt (PySem.F.args_tuple_lt_2 _ _)
    (tuple_ltAt b b' [x0, x1, x2].toArray [y0, y1, y2].toArray 0 0 (fun j => if j = 0 then e0 else if j = 1 then e1 else e2) (fun j => if j = 0 then l0 else if j = 1 then l1 else l2) rfl)
    ⟨ho, ho', ?_, ?_, ?_⟩ hu
  · intro j j1 j2
    match j, j1, j2 with
    | 0, _, _ => exact a0
    | 1, _, _ => exact a1
    | 2, _, _ => exact a2
    | j + 3, j1, _ => exact absurd j1 (by simp)
  · intro j j1 j2
    match j, j1, j2 with
    | 0, _, _ => exact c0
    | 1, _, _ => exact c1
    | 2, _, _ => exact c2
    | j + 3, j1, _ => exact absurd j1 (by simp)
  · exact show Value.bool _ ≠ Value.notImplemented ∧ Q _ s from ⟨(fun x => nomatch x), h⟩
theorem lt2_gen {b b' : Addr} {x0 x1 y0 y1 : Value} {e0 e1 l0 l1 : Bool} {Q : Value → Shared → Prop} (ho : s.heap.get? b = some (tupO [x0, x1])) (ho' : s.heap.get? b' = some (tupO [y0, y1]))
    (a0 : EqAt A.in1 s x0 y0 e0) (a1 : EqAt A.in1 s x1 y1 e1) (c0 : LtAt A.in1 s x0 y0 l0) (c1 : LtAt A.in1 s x1 y1 l1) (hu : A.units < cLine)
    (h : Q (.bool (if e0 then (if e1 then false else l1) else l0)) s) : wpAny (model prog w) A (compareOp .Lt (.ref b) (.ref b')) Q E s := by
  refine cmp_ofLt ?_
  refine richCompare_meets_room (op := .Lt) (a := .ref b) (b := .ref b') ⟨_, ho, rfl⟩ ⟨_, ho', rfl⟩ PySem.F.slot_tuple_lt PySem.F.entry_tuple_lt (PySem.F.args_tuple_lt_2 _ _)
    (tuple_ltAt b b' [x0, x1].toArray [y0, y1].toArray 0 0 (fun j => if j = 0 then e0 else e1) (fun j => if j = 0 then l0 else l1) rfl)
    ⟨ho, ho', ?_, ?_, ?_⟩ hu
  · intro j j1 j2
    match j, j1, j2 with
    | 0, _, _ => exact a0
    | 1, _, _ => exact a1
    | j + 2, j1, _ => exact absurd j1 (by simp)
  · intro j j1 j2
    match j, j1, j2 with
    | 0, _, _ => exact c0
    | 1, _, _ => exact c1
    | j + 2, j1, _ => exact absurd j1 (by simp)
  · exact show Value.bool _ ≠ Value.notImplemented ∧ Q _ s from ⟨(fun x => nomatch x), h⟩

theorem lt3_N {ct : Tok → Int} {v v' : Value} {k k' : Int × Int × Int} {Q : Value → Shared → Prop} (F : Fr h₀ L s.heap m) (N : News h₀ L s.heap news) (X : (Mine.hd.heap_39 w.params).In h₀)
    (hs : ∀ p ∈ rest, p ∈ news) (ha : Tup3 ct rest v k) (hb : Tup3 ct rest v' k') (hu : A.units < cLine) (h : Q (.bool (klt k k')) s) : wpAny (model prog w) A (compareOp .Lt v v') Q E s := by
  obtain ⟨b, t, t2, t3, rfl, h0, h1, h2, hm⟩ := ha
  obtain ⟨b', t', t2', t3', rfl, h0', h1', h2', hm'⟩ := hb
  have nb : NoneBooked s.heap := booked (X.keeps F.keep)
  refine lt3_gen (N _ (hs _ hm)).1 (N _ (hs _ hm')).1 (eqAt_float nb h0 h0' (fun e => by rw [← h1, ← h1', e]) h2 h2') eqAt_int eqAt_int (ltAt_float h2 h2') ltAt_int ltAt_int hu ?_
  have e : (if decide (k.1 = k'.1) then (if k.2.1 == k'.2.1 then (if k.2.2 == k'.2.2 then false else decide (k.2.2 < k'.2.2)) else decide (k.2.1 < k'.2.1)) else decide (k.1 < k'.1)) = klt k k' := by
    unfold klt
    by_cases e1 : k.1 = k'.1
    · by_cases e2 : k.2.1 = k'.2.1
      · by_cases e3 : k.2.2 = k'.2.2
        · simp [e1, e2, e3]
        · simp [e1, e2, e3]
      · simp [e1, e2]
    · simp [e1]
  rw [e]
  exact h

theorem lt2_N {v v' : Value} {k k' : Int × Int} {Q : Value → Shared → Prop} (N : News h₀ L s.heap news)
    (hs : ∀ p ∈ rest, p ∈ news) (ha : Tup2 rest v k) (hb : Tup2 rest v' k') (hu : A.units < cLine) (h : Q (.bool (plt k k')) s) : wpAny (model prog w) A (compareOp .Lt v v') Q E s := by
  obtain ⟨b, t2, t3, rfl, hm⟩ := ha
  obtain ⟨b', t2', t3', rfl, hm'⟩ := hb
  refine lt2_gen (N _ (hs _ hm)).1 (N _ (hs _ hm')).1 eqAt_int eqAt_int ltAt_int ltAt_int hu ?_
  have e : (if k.1 == k'.1 then (if k.2 == k'.2 then false else decide (k.2 < k'.2)) else decide (k.1 < k'.1)) = plt k k' := by
    unfold plt
    by_cases e1 : k.1 = k'.1
    · by_cases e2 : k.2 = k'.2
      · simp [e1, e2]
      · simp [e1, e2]
    · simp [e1]
  rw [e]
  exact h

variable {vs : List Value} {n : Nat} {k : Int} {t u : Tok}

theorem isL_N (N : News h₀ L s.heap news) (hm : (D, listOf vs.toArray n) ∈ news) : s.heap.IsList D vs.toArray := PySem.IsL.isList (n := n) (N _ hm).1
theorem isT_N (N : News h₀ L s.heap news) (hm : (D, tupO vs) ∈ news) : IsTup s.heap D vs.toArray := ⟨_, (N _ hm).1, rfl, 0, rfl⟩

theorem len_N {Q : Value → Shared → Prop} (N : News h₀ L s.heap news) (hm : (D, listOf vs.toArray n) ∈ news) (hz : vs.length < 2 ^ 62) (h : Q (.int vs.length (s.toks + 1)) { s with toks := s.toks + 1 + 1 }) :
    wpAny (model prog w) A (call (.builtin "len") [.ref D]) Q E s := by
  refine len_list (isL_N N hm) ?_ ?_
  · rw [List.size_toArray]; lia
  · rw [List.size_toArray]; exact h

theorem get_N {Q : Value → Shared → Prop} (N : News h₀ L s.heap news) (hm : (D, listOf vs.toArray n) ∈ news) (h0 : 0 ≤ k) (h1 : k < vs.length) (hz : vs.length < 2 ^ 62) (h : Q (vs.getD k.toNat .none) s) :
    wpAny (model prog w) A (getItem (.ref D) (.int k u)) Q E s := by
  refine wpAny_getItem_list (isL_N N hm) h0 (by lia) ?_ h
  have : k.toNat < vs.length := by lia
  simp [this]
theorem sub_N {value slice : Expr} {Q : Value → Shared → Prop} (N : News h₀ L s.heap news) (hm : (D, listOf vs.toArray n) ∈ news) (h0 : 0 ≤ k) (h1 : k < vs.length) (hz : vs.length < 2 ^ 62) (h : Q (vs.getD k.toNat .none) s)
    (hs : subscripted slice false (.ref D) (.int k u) = operate [.ref D, .int k u] (getItem (.ref D) (.int k u)) := by with_unfolding_all rfl) :
    wpAny (model prog w) A (subscriptTail value slice (.ref D) (.int k u)) Q E s :=
  tail_any (isL_N N hm).typeIs slot_list_getitem.lookup (get_N N hm h0 h1 hz h) hs
theorem set_N {v : Value} {Q : Unit → Shared → Prop} (F : Fr h₀ L s.heap m) (N : News h₀ L s.heap news) (U : Upd D (listOf vs.toArray n) (listOf (vs.set k.toNat v).toArray n) news news') (h0 : 0 ≤ k) (h1 : k < vs.length) (hz : vs.length < 2 ^ 62)
    (h : ∀ h', Fr h₀ L h' m → News h₀ L h' news' → Q () { s with heap := h' }) : wpAny (model prog w) A (setItem (.ref D) (.int k t) v) Q E s := by
  obtain ⟨pre, post, rfl, rfl, a, b⟩ := U.split
  have z := N (D, listOf vs.toArray n) (List.mem_append.mpr (.inr (.head _)))
  refine ki_setAt z.1 h0 (by lia) (by rw [List.size_toArray]; exact h1) (h _ (F.change (Heap.SameBut.update ..) z.2.1 z.2.2) (ki_turn _ N a b ?_ ?_))
  · show vs.toArray.setIfInBounds k.toNat v = (vs.set k.toNat v).toArray
    apply Array.toList_inj.mp
    simp
  · simp
theorem pop_N {Q : Value → Shared → Prop} (F : Fr h₀ L s.heap m) (N : News h₀ L s.heap news) (U : Upd D (listOf vs.toArray n) (listOf vs.dropLast.toArray (n + 1)) news news') (h1 : 0 < vs.length) (hz : vs.length ≤ 1000)
    (h : ∀ h', Fr h₀ L h' m → News h₀ L h' news' → Q (vs.getD (vs.length - 1) .none) { s with heap := h' }) : wpAny (model prog w) A (call (.builtin "list.pop") [.ref D]) Q E s := by
  have hne : vs ≠ [] := by intro e; rw [e] at h1; simp at h1
  have e1 : vs = vs.dropLast ++ [vs.getLast hne] := (List.dropLast_concat_getLast hne).symm
  have e2 : vs.getD (vs.length - 1) .none = vs.getLast hne := by
    rw [List.getLast_eq_getElem, List.getD_eq_getElem?_getD, List.getElem?_eq_getElem (by lia)]; rfl
  rw [e2] at h
  refine kl_pop F N (p := vs.dropLast) (y := vs.getLast hne) ?_ U (by rw [sizeLine_eq]; simp; lia) h
  have e := kpa_last (vs.getLast hne) vs.dropLast
  rw [← e1] at e
  simpa using e
theorem truthy_N {Q : Bool → Shared → Prop} (N : News h₀ L s.heap news) (hm : (D, listOf vs.toArray n) ∈ news) (hz : vs.length < 2 ^ 62) (h : Q (!vs.isEmpty) { s with toks := s.toks + 1 + 1 }) : wpAny (model prog w) A (truthy (.ref D)) Q E s := by
  refine wpAny_truthy_list (isL_N N hm) (by rw [List.size_toArray]; lia) ?_
  have : vs.toArray.isEmpty = vs.isEmpty := by cases vs <;> rfl
  rw [this]; exact h
theorem append_N {v : Value} {Q : Value → Shared → Prop} (F : Fr h₀ L s.heap m) (N : News h₀ L s.heap news) (U : Upd D (listOf vs.toArray n) (listOf (vs ++ [v]).toArray (n + 1)) news news') (hz : vs.length ≤ 1000)
    (h : ∀ h', Fr h₀ L h' m → News h₀ L h' news' → Q .none { s with heap := h' }) : wpAny (model prog w) A (call (.builtin "list.append") [.ref D, v]) Q E s := by
  refine append_K F N (its := vs.toArray) (n := n) (x := v) ?_ h (by rw [List.size_toArray, sizeLine_eq]; lia)
  rw [List.push_toArray]; exact U
end

theorem News.sub {h₀ h : Heap} {L : Addr} {a b : List (Addr × Obj)} (N : News h₀ L h b) (hs : ∀ p ∈ a, p ∈ b) : News h₀ L h a := fun p hp => N p (hs p hp)

end Mine
end S_Rules

section S_Loops
set_option maxRecDepth 100000
namespace Mine
open PySem PySem.W PyProof.Rows PySem.Spec PySem.Calls PySem.SeqAt

noncomputable def PosThen (P : Shared → Prop) (s : Shared) : Prop := 0 < s.toks → P s
theorem posThen_intro {P : Shared → Prop} {h : Heap} {g : Array GenState} {d : Drawn} {x : Nat} {o : OsState} (k : ∀ tk, 0 < tk → P ⟨h, g, d, tk, o⟩) : PosThen P ⟨h, g, d, x, o⟩ := fun h0 => k x h0
theorem posThen_same {P : Shared → Prop} {s : Shared} (k : P s) : PosThen P s := fun _ => k

noncomputable def WDone (J : Nat → Shared → Prop) (n : Nat) (s : Shared) : Prop := ∃ k, k < n ∧ J k s
noncomputable def FDone (P : Shared → Prop) (s : Shared) : Prop := P s
noncomputable def WPost (J : Nat → Shared → Prop) (n : Nat) (Q : Flow → Shared → Prop) (f : Flow) (s : Shared) : Prop :=
  match f with
  | .ret v => Q (.ret v) s
  | .brk => Q .next s
  | _ => WDone J n s
noncomputable def FPost (J : Nat → Shared → Prop) (i : Nat) (Q : Flow → Shared → Prop) (f : Flow) (s : Shared) : Prop :=
  match f with
  | .ret v => Q (.ret v) s
  | .brk => Q .next s
  | _ => FDone (J (i + 1)) s

section
variable {prog : Program} {w : World} {A : Around} {E : Value → Shared → Prop} {s : Shared} {env : Env}

theorem execs_pos {st : Stmt} {rest : List Stmt} {Q : Flow → Shared → Prop} (h0 : 0 < s.toks)
    (h : wpAny (model prog w) A (exec st env) (fun f s' => PosThen (fun s' => match f with | .next => wpAny (model prog w) A (execs rest env) Q E s' | f => Q f s') s') E s) :
    wpAny (model prog w) A (execs (st :: rest) env) Q E s := by
  refine wpAny_le ?_
  have e : execs (st :: rest) env = (do match ← exec st env with | .next => execs rest env | f => pure f) := rfl
  rw [e]
  refine wpAny_bind (wpAny_le (wpAny_mono h (fun f s' h' hle => ?_) (fun e s' h' _ _ => h')))
  have h'' := h' (Nat.lt_of_lt_of_le h0 hle)
  cases f with
  | next => exact wpAny_mono h'' (fun _ _ q _ => q) (fun _ _ q _ => q)
  | brk => exact wpAny_pure fun _ => h''
  | cont => exact wpAny_pure fun _ => h''
  | ret v => exact wpAny_pure fun _ => h''

theorem my_while {test : Expr} {body : List Stmt} {pos : Pos} {Q : Flow → Shared → Prop} (J : Nat → Shared → Prop) (n₀ : Nat) (h0 : J n₀ s)
    (turn : ∀ n s₁, J n s₁ → s.toks ≤ s₁.toks → wpAny (model prog w) A (isTrue test env (eval test env)) (fun b s₂ =>
      if b = true then wpAny (model prog w) A (execs body env) (WPost J n Q) E s₂ else Q .next s₂) E s₁)
    (hE : PassesOwn (model prog w) A env E := by passes_own) :
    wpAny (model prog w) A (exec (.While test body [] pos) env) Q E s := by
  refine wpAny_While (codeAny_whileLoop (fun n s' => J n s' ∧ s.toks ≤ s'.toks) ?_ n₀ ⟨h0, Nat.le_refl _⟩)
  rintro n s₁ ⟨hJ, hle⟩
  refine wpAny_mono (wpAny_le (t := isTrue test env (eval test env)) (Q := fun b s₂ => (if b = true then wpAny (model prog w) A (execs body env) (WPost J n Q) E s₂ else Q .next s₂) ∧ s.toks ≤ s₂.toks) (E := E)
    (wpAny_mono (turn n s₁ hJ hle) (fun b s₂ h₂ h3 => ⟨h₂, Nat.le_trans hle h3⟩) fun _ _ e _ => e)) (fun b s₂ h₂ => ?_) hE
  obtain ⟨h₂, hle2⟩ := h₂
  cases b with
  | false =>
    simp only [Bool.false_eq_true, if_false] at h₂ ⊢
    exact wpAny_execs_nil h₂
  | true =>
    simp only [if_true] at h₂ ⊢
    refine wpAny_mono (wpAny_le (t := execs body env) (Q := fun f s₃ => WPost J n Q f s₃ ∧ s.toks ≤ s₃.toks) (E := E) (wpAny_mono h₂ (fun f s₃ h₃ h4 => ⟨h₃, Nat.le_trans hle2 h4⟩) fun _ _ e _ => e)) (fun f s₃ h₃ => ?_) hE
    obtain ⟨h₃, hle3⟩ := h₃
    cases f with
    | next => obtain ⟨k, hk, hJ'⟩ := h₃; exact ⟨k, hk, hJ', hle3⟩
    | cont => obtain ⟨k, hk, hJ'⟩ := h₃; exact ⟨k, hk, hJ', hle3⟩
    | brk => exact h₃
    | ret v => exact h₃

theorem my_for {target : Expr} {it : Value} {body : List Stmt} {Q : Flow → Shared → Prop} (J : Nat → Shared → Prop) (n : Nat) (h0 : J 0 s)
    (turn : ∀ i s₁, i < n → J i s₁ → s.toks ≤ s₁.toks → wpAny (model prog w) A (pyNext it) (fun r s₂ => ∃ v, r = some v ∧ wpAny (model prog w) A (assign target env v) (fun _ s₃ =>
      wpAny (model prog w) A (execs body env) (FPost J i Q) E s₃) E s₂) E s₁)
    (last : ∀ s₁, J n s₁ → s.toks ≤ s₁.toks → wpAny (model prog w) A (pyNext it) (fun r s₂ => r = none ∧ Q .next s₂) E s₁)
    (ht : ∀ v, letOwnedTupleGo target it v = pure () := by intro _; rfl)
    (hE : PassesOwn (model prog w) A env E := by passes_own) :
    codeAny (model prog w) A (.forLoop target it body [] env) (fun r s' => match r with | .ok f => Q f s' | .error e => cameBackBy (model prog w) A env E e s') s := by
  refine codeAny_forLoop (fun k s' => ∃ i, i ≤ n ∧ k = n + 1 - i ∧ J i s' ∧ s.toks ≤ s'.toks) ?_ (n + 1) ⟨0, Nat.zero_le _, rfl, h0, Nat.le_refl _⟩ ht
  rintro k s₁ ⟨i, hi, rfl, hJ, hle⟩
  by_cases hlt : i < n
  · refine wpAny_mono (wpAny_le (t := pyNext it) (Q := fun r s₂ => (∃ v, r = some v ∧ wpAny (model prog w) A (assign target env v) (fun _ s₃ => wpAny (model prog w) A (execs body env) (FPost J i Q) E s₃) E s₂) ∧ s.toks ≤ s₂.toks) (E := E)
      (wpAny_mono (turn i s₁ hlt hJ hle) (fun b s₂ h₂ h3 => ⟨h₂, Nat.le_trans hle h3⟩) fun _ _ e _ => e)) (fun r s₂ h₂ => ?_) hE
    obtain ⟨⟨v, rfl, h₂⟩, hle2⟩ := h₂
    refine wpAny_mono (wpAny_le (t := assign target env v) (Q := fun _ s₃ => wpAny (model prog w) A (execs body env) (FPost J i Q) E s₃ ∧ s.toks ≤ s₃.toks) (E := E) (wpAny_mono h₂ (fun f s₃ h₃ h4 => ⟨h₃, Nat.le_trans hle2 h4⟩) fun _ _ e _ => e)) (fun f s₃ h₃ => ?_) hE
    obtain ⟨h₃, hle3⟩ := h₃
    refine wpAny_mono (wpAny_le (t := execs body env) (Q := fun f s₄ => FPost J i Q f s₄ ∧ s.toks ≤ s₄.toks) (E := E) (wpAny_mono h₃ (fun f s₄ h₄ h5 => ⟨h₄, Nat.le_trans hle3 h5⟩) fun _ _ e _ => e)) (fun f s₄ h₄ => ?_) hE
    obtain ⟨h₄, hle4⟩ := h₄
    cases f with
    | next => exact ⟨n + 1 - (i + 1), by lia, i + 1, hlt, rfl, h₄, hle4⟩
    | cont => exact ⟨n + 1 - (i + 1), by lia, i + 1, hlt, rfl, h₄, hle4⟩
    | brk => exact h₄
    | ret v => exact h₄
  · have hin : i = n := by lia
    subst hin
    refine wpAny_mono (last s₁ hJ hle) (fun r s₂ h₂ => ?_) hE
    obtain ⟨rfl, h₂⟩ := h₂
    exact wpAny_execs_nil h₂
end

section
variable {prog : Program} {w : World} {A : Around} {E : Value → Shared → Prop} {s : Shared} {h₀ : Heap} {L D I : Addr} {m : Str → Option Value} {news news' rest : List (Addr × Obj)} {vs : List Value} {n : Nat}

/- o is an iterator of the list (tuple) l that stands ahead of item i -/
noncomputable def ListIt (o : Obj) (l : Addr) (i : Nat) : Prop := o.cls = .type "list_iterator" ∧ o.data = .fields #[.ref l, .int i 0]
noncomputable def TupIt (o : Obj) (l : Addr) (i : Nat) : Prop := o.cls = .type "tuple_iterator" ∧ o.data = .fields #[.ref l, .int i 0]

theorem News.but {h h' : Heap} {a : Addr} (N : News h₀ L h news) (hs : ∀ b o, b ≠ a → h.get? b = some o → h'.get? b = some o) (hn : ∀ p ∈ news, p.1 ≠ a) : News h₀ L h' news :=
  fun p hp => ⟨hs _ _ (hn p hp) (N p hp).1, (N p hp).2⟩
theorem Fr.but {h h' : Heap} {a : Addr} (F : Fr h₀ L h m) (hs : ∀ b o, b ≠ a → h.get? b = some o → h'.get? b = some o) (hL : a ≠ L) (h0 : h₀.get? a = none) : Fr h₀ L h' m :=
  ⟨F.ns.at' fun o e => hs L o (Ne.symm hL) e, fun b o e => hs b o (fun q => by rw [q, h0] at e; cases e) (F.keep b o e), F.above⟩

theorem iter_list {Q : Value → Shared → Prop} (F : Fr h₀ L s.heap m) (N : News h₀ L s.heap news) (hm : (D, listOf vs.toArray n) ∈ news)
    (h : ∀ I o h', ListIt o D 0 → Fr h₀ L h' m → News h₀ L h' ((I, o) :: news) → (∀ p ∈ news, p.1 < I) → Q (.ref I) { s with heap := h' }) : wpAny (model prog w) A (pyIter (.ref D)) Q E s :=
  wpAny_pyIter_list (isL_N N hm) (h _ _ _ ⟨rfl, rfl⟩ (F.push _) (N.push F _) fun p hp => Heap.lt_size (N p hp).1)
theorem next_list {i : Nat} {o : Obj} {Q : Option Value → Shared → Prop} (F : Fr h₀ L s.heap m) (N : News h₀ L s.heap ((I, o) :: news)) (ho : ListIt o D i) (hm : (D, listOf vs.toArray n) ∈ news) (hi : i < vs.length) (hsep : ∀ p ∈ news, p.1 ≠ I)
    (h : ∀ o' h', ListIt o' D (i + 1) → Fr h₀ L h' m → News h₀ L h' ((I, o') :: news) → Q (some (vs.getD i .none)) { s with heap := h' }) : wpAny (model prog w) A (pyNext (.ref I)) Q E s := by
  have z := N (I, o) (.head _)
  have N' : News h₀ L s.heap news := fun p hp => N p (.tail _ hp)
  refine wpAny_pyNext_list_item (l := D) (i := i) (items := vs.toArray) ⟨o, z.1, ho.1, ho.2⟩ (isL_N N' hm) (x := vs.getD i .none) (by simp [hi]) fun h' hit hs => ?_
  obtain ⟨o', ho', a1, a2⟩ := hit
  refine h o' h' ⟨a1, a2⟩ (Fr.but F (fun b o hb e => (hs.2 b hb).trans e) z.2.1 z.2.2) fun p hp => ?_
  rcases List.mem_cons.mp hp with rfl | hp
  · exact ⟨ho', z.2⟩
  · exact News.but N' (fun b o hb e => (hs.2 b hb).trans e) hsep p hp
theorem next_list_end {i : Nat} {o : Obj} {Q : Option Value → Shared → Prop} (hh : A.handled = none) (F : Fr h₀ L s.heap m) (N : News h₀ L s.heap ((I, o) :: news)) (ho : ListIt o D i) (hm : (D, listOf vs.toArray n) ∈ news) (hi : vs.length ≤ i) (hsep : ∀ p ∈ news, p.1 ≠ I)
    (h : ∀ h', Fr h₀ L h' m → News h₀ L h' news → Q none { s with heap := h' }) : wpAny (model prog w) A (pyNext (.ref I)) Q E s := by
  have z := N (I, o) (.head _)
  have N' : News h₀ L s.heap news := fun p hp => N p (.tail _ hp)
  refine wpAny_pyNext_list_end hh (l := D) (i := i) (items := vs.toArray) ⟨o, z.1, ho.1, ho.2⟩ (isL_N N' hm) (by simp [hi]) fun h' hs => ?_
  exact h h' (Fr.but F hs z.2.1 z.2.2) (News.but N' hs hsep)
end

section
variable {prog : Program} {w : World} {A : Around} {E : Value → Shared → Prop} {s : Shared} {h₀ : Heap} {L : Addr} {m : Str → Option Value} {news : List (Addr × Obj)} {env : Env} {x : Str} {Q : Unit → Shared → Prop}
theorem st_any {v : Value} (F : Fr h₀ L s.heap m) (N : News h₀ L s.heap news) (h : ∀ h', Fr h₀ L h' (fun y => if y = x then some v else m y) → News h₀ L h' news → Q () { s with heap := h', toks := s.toks + 1 })
    (hL : env.locals = L := by rfl) (hl : env.kindOf x = some .local := by rfl) (hp : (env.scope.kind == .class || (env.scope.kind == .module && env.locals != env.globals)) = false := by rfl) : wpAny (model prog w) A (storeName env x v) Q E s := by
  subst hL
  exact wpAny_storeName_local hl F.ns (fun h' hn hs => h h' (F.set hn hs) (N.set hs)) hp
theorem rsh1 {a : Int} {t u : Tok} {Q : Value → Shared → Prop} (h : Q (.int (a / 2) s.toks) { s with toks := s.toks + 1 }) : wpAny (model prog w) A (binaryOp .RShift (.int a t) (.int 1 u)) Q E s := by
  refine rshift_int (by decide) ?_
  have : a.fdiv (2 ^ (1 : Int).toNat) = a / 2 := by
    show a.fdiv 2 = a / 2
    exact Int.fdiv_eq_ediv_of_nonneg _ (by decide)
  rw [this]; exact h
end
end Mine
end S_Loops

section S_Enter
set_option maxRecDepth 100000
namespace Mine
open PySem PySem.W PyProof.Rows PySem.Spec PySem.Calls PySem.SeqAt

/- how a body comes to its end -/
noncomputable def BodyPost (g : Heap) (L : Addr) (s : Shared) (Post : Value → List (Addr × Obj) → Prop) (f : Flow) (s' : Shared) : Prop :=
  ∃ h' tk' m' news', s' = { s with heap := h', toks := tk' } ∧ Fr g L h' m' ∧ News g L h' news' ∧ Post (match f with | .ret v => v | _ => .none) news'
theorem call_def {w : World} {f : Addr} {args : List Value} {news : List (Addr × Obj)} {nd nu : Nat} {Post : Value → List (Addr × Obj) → Prop}
    {name qual : Str} {params : Arguments} {body : List Stmt} {scope : Scope} {dV kV doc pm cdv ct oc : Value} {an od : Option Addr} {osl : Array (Option Value)} {binds : List (Str × Value)}
    (ho : (Mine.hd.heap_39 w.params).lookup f = some ⟨oc, od, .func (fnOf name qual params body scope dV kV doc pm an cdv ct), osl⟩) (hcd : codeIn (Mine.hd.heap_39 w.params) cdv qual = true)
    (hbind : ∀ s : Shared, (Mine.hd.heap_39 w.params).In s.heap → BindsTo s (fnOf name qual params body scope dV kV doc pm an cdv ct) ⟨args, []⟩ binds) (hloc : ∀ y ∈ binds, scope.names.lookup y.1 = some .local)
    (hco : scope.isCoroutine = false) (hgen : scope.isGenerator = false) (hk : scope.kind = .function) (hcell : ∀ x ∈ scope.names, x.2 ≠ .cell)
    (h : ∀ (p : Program) (loose : List Str) (mean : ExcName → Option Value) (mg mb : Str → Option Value) (dp un : Nat) (gd : Option (List Code)) (outer : List Env) (A₀ : Around) (base g : Heap) (L : Addr) (s : Shared),
      Below A₀ base outer g → Fr g L s.heap (fun y => binds.reverse.lookup y) → (Mine.hd.heap_39 w.params).In g → News g L s.heap news → Top p loose mean mg mb g → dp + nd < recursionLimit + 1 → un + nu < cLine + 3 → 0 < s.toks →
      wpAny (model PySem.Challenge.rw_mq0297_01.row.prog w) (ktrTop dp un gd qual scope L f cdv [] outer) (execs body (envX qual scope L f cdv [])) (BodyPost g L s Post) (fun _ _ => False) s) :
    Call w f args news nd nu Post := by
  intro p loose mean mg mb dp un gd cn cs a ccd cl outer A₀ base h₀ L m s Q E B F X N T hks hd hu htk hret
  refine wpAny_le (wpAny_call ?_)
  refine code_def B F X N T rfl rfl hks ho hcd (by show dp < recursionLimit; lia) (hbind s (X.keeps F.keep)) hloc (fun g L' h₁ FG F' N' B' X' T' => ?_) hco hgen hk hcell
  refine wpAny_mono (h p loose mean mg mb (dp + 1) (un + 3) gd _ _ _ _ L' _ B' F' X' N' T' (by lia) (by lia) (by show 0 < s.toks + binds.length; lia)) (fun fl s' hb => ?_) fun _ _ e => e.elim
  obtain ⟨h', tk', m', news', rfl, F2, N2, hp⟩ := hb
  exact leaveK_ F2 N2 fun F3 N3 hle => hret _ _ _ _ (Nat.lt_of_lt_of_le htk hle) F3 N3 hp

theorem Call.use {w : World} {f : Addr} {args : List Value} {news : List (Addr × Obj)} {nd nu : Nat} {Post : Value → List (Addr × Obj) → Prop} (C : Call w f args news nd nu Post)
    {p : Program} {loose : List Str} {mean : ExcName → Option Value} {mg mb : Str → Option Value} {dp un : Nat} {gd : Option (List Code)} {cn : Str} {cs : Scope} {a : Addr} {ccd : Value} {cl : List (Str × Addr)} {outer : List Env} {A₀ : Around} {base h₀ : Heap} {L : Addr} {m : Str → Option Value} {s : Shared} {Q E : Value → Shared → Prop}
    (B : Below A₀ base outer h₀) (F : Fr h₀ L s.heap m) (X : (Mine.hd.heap_39 w.params).In h₀) (N : News h₀ L s.heap news) (T : Top p loose mean mg mb h₀) (hk : cs.kind = .function) (hd : dp + nd < recursionLimit) (hu : un + nu < cLine) (htk : 0 < s.toks)
    (h : ∀ r news' h' tk', 0 < tk' → Fr h₀ L h' m → News h₀ L h' news' → Post r news' → Q r { s with heap := h', toks := tk' }) :
    wpAny (model PySem.Challenge.rw_mq0297_01.row.prog w) (ktrTop dp un gd cn cs L a ccd cl outer) (call (.ref f) args) Q E s := C _ _ _ _ _ _ _ _ _ _ _ _ _ _ _ _ _ _ _ _ _ _ B F X N T hk hd hu htk h

noncomputable def mp (rest : Str → Option Value) : List (Str × Value) → Str → Option Value
  | [], z => rest z
  | (x, v) :: r, z => if z = x then some v else mp rest r z
theorem fr_ps {g h : Heap} {L : Addr} {m : Str → Option Value} {ps : List (Str × Value)} (F : Fr g L h m) (hp : ∀ p ∈ ps, m p.1 = some p.2) : Fr g L h (mp m ps) := by
  have e : mp m ps = m := by
    funext z
    clear F
    induction ps with
    | nil => rfl
    | cons p r ih =>
      obtain ⟨x, v⟩ := p
      show (if z = x then some v else mp m r z) = m z
      by_cases hz : z = x
      · rw [if_pos hz, hz]; exact (hp (x, v) (.head _)).symm
      · rw [if_neg hz]; exact ih fun q hq => hp q (.tail _ hq)
  rw [e]; exact F
theorem getD_mem {α : Type} {xs : List α} {i : Nat} {d : α} (h : i < xs.length) : xs.getD i d ∈ xs := by
  rw [List.getD_eq_getElem?_getD, List.getElem?_eq_getElem h]; exact List.getElem_mem h
end Mine
end S_Enter

section S_EnterC
set_option maxRecDepth 100000
namespace Mine
open PySem PySem.W PyProof.Rows PySem.Spec PySem.Calls PySem.SeqAt
section
variable {prog : Program} {w : World} {A A₀ : Around} {s : Shared} {h₀ base : Heap} {L f : Addr} {m : Str → Option Value} {env : Env} {news : List (Addr × Obj)} {outer : List Env} {fo : Obj} {R : Result → Shared → Prop}
  {name qual : Str} {params : Arguments} {body : List Stmt} {scope : Scope} {dV kV doc pm cdv ct : Value} {an : Option Addr} {args : Args} {binds : List (Str × Value)}

/- the library's callX_cells, with the count of tokens told -/
theorem enter_cells (B : Below A₀ base outer h₀) (F : Fr h₀ L s.heap m) (N : News h₀ L s.heap news) (hlim : h₀.NoLimit) (hA : A.frames = some (env :: outer)) (hf : env.frame = some L) (hke : env.scope.kind = .function)
    (ho : s.heap.get? f = some fo) (hd : fo.data = .func (fnX name qual params body scope [] dV kV doc pm an cdv ct)) (hcd : s.heap.CodeRec cdv qual) (hroom : A.depth < recursionLimit)
    (hbind : BindsTo s (fnX name qual params body scope [] dV kV doc pm an cdv ct) args binds)
    (hkind : ∀ n, ∀ x ∈ binds, scope.names.lookup x.1 = some .local ∨ (scope.names.lookup x.1 = some .cell ∧ ((cellsFrom n scope.names []).lookup x.1).isSome = true))
    (hnd : ((cellsFrom 0 scope.names []).map (·.1)).Nodup)
    (h : ∀ g L' h₁ tk cells, s.toks ≤ tk → Fr h₀ L g m → Fr g L' h₁ (bindL (envOfC qual scope L' f cdv).kindOf binds fun _ => none) → News g L' h₁ (cells ++ news) →
      CellsAre (bindC (envOfC qual scope L' f cdv).kindOf binds fun _ => none) (cellsFrom (L' + 1) scope.names []) cells → Below A base (env :: outer) g → h₀.StaysIn g → (∀ p ∈ news, p.1 < L') →
      wpAny (model prog w) (A.deeper (envOfC qual scope L' f cdv)) (execs body (envOfC qual scope L' f cdv))
        (fun fl s' => LeaveK h₀ L m g R (match fl with | .ret v => v | _ => .none) s') (fun _ _ => False) { s with heap := h₁, toks := tk })
    (hco : scope.isCoroutine = false) (hgen : scope.isGenerator = false) (hk : scope.kind = .function) : codeAny (model prog w) A (.call (.ref f) args) R s := by
  obtain ⟨FG, BG, st, lv⟩ := groundX (R := R) B F N hA hf hke
  refine codeAny_call_function hroom ho hd hco hgen rfl hcd (hbind _ _ _ _ ?_)
  refine wpAny_le (wpAny_newFunctionEnv_cells hk (hkind _) fun env' he s' x hle => ?_)
  subst he
  refine ⟨(hlim.keeps F.keep).keeps x.toInCall.keep, codeAny_func ?_⟩
  obtain ⟨h₁, tk, rfl, _⟩ := x.done
  have hk₁ := x.toInCall.keep
  obtain ⟨cells, NC, Y⟩ := Cl.news (h₀ := s.heap) (Nat.le_refl _) fun n c hm => ⟨x.cell n c (lookup_of_mem_nodup (cellsFrom_names scope.names 0 (s.heap.objs.size + 1) [] [] rfl ▸ hnd) hm), x.above n c hm⟩
  refine wpAny_mono (h _ s.heap.objs.size h₁ tk cells hle FG ⟨x.toInCall.ns, fun b o e => hk₁ b o (of_hideAll _ e), Nat.le_of_eq (hideAll_size _ _)⟩ (fun p hp => ?_) Y BG st (fun p hp => Heap.lt_size (N p hp).1)) (fun fl s' hl => lv _ _ hl) fun _ _ y => y.elim
  rcases List.mem_append.mp hp with hp | hp
  · refine ⟨(NC p hp).1, (NC p hp).2.1, ?_⟩
    cases q : (hideAll s.heap (news.map (·.1))).get? p.1 with
    | none => rfl
    | some o => have := of_hideAll _ q; rw [(NC p hp).2.2] at this; cases this
  · exact ⟨hk₁ _ _ (N p hp).1, Nat.ne_of_lt (Heap.lt_size (N p hp).1), hideAll_none _ (List.mem_map_of_mem hp)⟩
end

theorem call_defP {w : World} {f : Addr} {args : List Value} {news : List (Addr × Obj)} {nd nu : Nat} {Post : Value → List (Addr × Obj) → Prop}
    {name qual : Str} {params : Arguments} {body : List Stmt} {scope : Scope} {dV kV doc pm cdv ct oc : Value} {an od : Option Addr} {osl : Array (Option Value)} {binds : List (Str × Value)}
    (ho : (Mine.hd.heap_39 w.params).lookup f = some ⟨oc, od, .func (fnOf name qual params body scope dV kV doc pm an cdv ct), osl⟩) (hcd : codeIn (Mine.hd.heap_39 w.params) cdv qual = true)
    (hbind : ∀ s : Shared, (Mine.hd.heap_39 w.params).In s.heap → BindsTo s (fnOf name qual params body scope dV kV doc pm an cdv ct) ⟨args, []⟩ binds)
    (hkind : (binds.all fun y => scope.names.lookup y.1 == some .local || scope.names.lookup y.1 == some .cell) = true) (hnd : ((cellsFrom 0 scope.names []).map (·.1)).Nodup)
    (hco : scope.isCoroutine = false) (hgen : scope.isGenerator = false) (hk : scope.kind = .function)
    (h : ∀ (p : Program) (loose : List Str) (mean : ExcName → Option Value) (mg mb : Str → Option Value) (dp un : Nat) (gd : Option (List Code)) (outer : List Env) (A₀ : Around) (base g : Heap) (L : Addr) (cells : List (Addr × Obj)) (s : Shared),
      Below A₀ base outer g → Fr g L s.heap (bindL (envOfC qual scope L f cdv).kindOf binds fun _ => none) → (Mine.hd.heap_39 w.params).In g → News g L s.heap (cells ++ news) →
      CellsAre (bindC (envOfC qual scope L f cdv).kindOf binds fun _ => none) (cellsFrom (L + 1) scope.names []) cells → (∀ p ∈ news, p.1 < L) →
      Top p loose mean mg mb g → dp + nd < recursionLimit + 1 → un + nu < cLine + 3 → 0 < s.toks →
      wpAny (model PySem.Challenge.rw_mq0297_01.row.prog w) (ktrTop dp un gd qual scope L f cdv (cellsFrom (L + 1) scope.names []) outer) (execs body (envX qual scope L f cdv (cellsFrom (L + 1) scope.names []))) (BodyPost g L s Post) (fun _ _ => False) s) :
    Call w f args news nd nu Post := by
  intro p loose mean mg mb dp un gd cn cs a ccd cl outer A₀ base h₀ L m s Q E B F X N T hks hd hu htk hret
  refine wpAny_le (wpAny_call ?_)
  refine enter_cells B F N T.nolimit rfl rfl hks ((X.keeps F.keep) _ _ ho) rfl (codeRec_of (X.keeps F.keep) hcd) (by show dp < recursionLimit; lia) (hbind s (X.keeps F.keep)) (kindsX hkind) hnd (fun g L' h₁ tk cells htk' FG F' N' Y B' st hlt => ?_) hco hgen hk
  refine wpAny_mono (h p loose mean mg mb (dp + 1) (un + 3) gd _ _ _ _ L' cells _ B' F' (X.keeps st) N' Y hlt (T.keeps st) (by lia) (by lia) (Nat.lt_of_lt_of_le htk htk')) (fun fl s' hb => ?_) fun _ _ e => e.elim
  obtain ⟨h', tk', m', news', rfl, F2, N2, hp⟩ := hb
  exact leaveK_ F2 N2 fun F3 N3 hle => hret _ _ _ _ (Nat.lt_of_lt_of_le htk hle) F3 N3 hp
end Mine
end S_EnterC

section S_EnterH
set_option maxRecDepth 100000
namespace Mine
open PySem PySem.W PyProof.Rows PySem.Spec PySem.Calls PySem.SeqAt
/- Call, with a word of the ground besides -/
noncomputable def CallH (H : Heap → Prop) (w : World) (f : Addr) (args : List Value) (news : List (Addr × Obj)) (nd nu : Nat) (Post : Value → List (Addr × Obj) → Prop) : Prop :=
  ∀ (p : Program) (loose : List Str) (mean : ExcName → Option Value) (mg mb : Str → Option Value) (dp un : Nat) (gd : Option (List Code)) (cn : Str) (cs : Scope) (a : Addr) (ccd : Value) (cl : List (Str × Addr)) (outer : List Env) (A₀ : Around) (base h₀ : Heap) (L : Addr) (m : Str → Option Value) (s : Shared)
    (Q E : Value → Shared → Prop),
    Below A₀ base outer h₀ → Fr h₀ L s.heap m → (Mine.hd.heap_39 w.params).In h₀ → News h₀ L s.heap news → Top p loose mean mg mb h₀ → H h₀ → cs.kind = .function → dp + nd < recursionLimit → un + nu < cLine → 0 < s.toks →
    (∀ r news' h' tk', 0 < tk' → Fr h₀ L h' m → News h₀ L h' news' → Post r news' → Q r { s with heap := h', toks := tk' }) →
    wpAny (model PySem.Challenge.rw_mq0297_01.row.prog w) (ktrTop dp un gd cn cs L a ccd cl outer) (call (.ref f) args) Q E s

theorem call_defH {H : Heap → Prop} (hH : ∀ h g, h.StaysIn g → H h → H g) {w : World} {f : Addr} {args : List Value} {news : List (Addr × Obj)} {nd nu : Nat} {Post : Value → List (Addr × Obj) → Prop}
    {name qual : Str} {params : Arguments} {body : List Stmt} {scope : Scope} {dV kV doc pm cdv ct oc : Value} {an od : Option Addr} {osl : Array (Option Value)} {binds : List (Str × Value)}
    (ho : (Mine.hd.heap_39 w.params).lookup f = some ⟨oc, od, .func (fnOf name qual params body scope dV kV doc pm an cdv ct), osl⟩) (hcd : codeIn (Mine.hd.heap_39 w.params) cdv qual = true)
    (hbind : ∀ s : Shared, (Mine.hd.heap_39 w.params).In s.heap → BindsTo s (fnOf name qual params body scope dV kV doc pm an cdv ct) ⟨args, []⟩ binds)
    (hkind : (binds.all fun y => scope.names.lookup y.1 == some .local || scope.names.lookup y.1 == some .cell) = true) (hnd : ((cellsFrom 0 scope.names []).map (·.1)).Nodup)
    (hco : scope.isCoroutine = false) (hgen : scope.isGenerator = false) (hk : scope.kind = .function)
    (h : ∀ (p : Program) (loose : List Str) (mean : ExcName → Option Value) (mg mb : Str → Option Value) (dp un : Nat) (gd : Option (List Code)) (outer : List Env) (A₀ : Around) (base g : Heap) (L : Addr) (cells : List (Addr × Obj)) (s : Shared),
      Below A₀ base outer g → Fr g L s.heap (bindL (envOfC qual scope L f cdv).kindOf binds fun _ => none) → (Mine.hd.heap_39 w.params).In g → News g L s.heap (cells ++ news) →
      CellsAre (bindC (envOfC qual scope L f cdv).kindOf binds fun _ => none) (cellsFrom (L + 1) scope.names []) cells → (∀ p ∈ news, p.1 < L) →
      Top p loose mean mg mb g → H g → dp + nd < recursionLimit + 1 → un + nu < cLine + 3 → 0 < s.toks →
      wpAny (model PySem.Challenge.rw_mq0297_01.row.prog w) (ktrTop dp un gd qual scope L f cdv (cellsFrom (L + 1) scope.names []) outer) (execs body (envX qual scope L f cdv (cellsFrom (L + 1) scope.names []))) (BodyPost g L s Post) (fun _ _ => False) s) :
    CallH H w f args news nd nu Post := by
  intro p loose mean mg mb dp un gd cn cs a ccd cl outer A₀ base h₀ L m s Q E B F X N T hHd hks hd hu htk hret
  refine wpAny_le (wpAny_call ?_)
  refine enter_cells B F N T.nolimit rfl rfl hks ((X.keeps F.keep) _ _ ho) rfl (codeRec_of (X.keeps F.keep) hcd) (by show dp < recursionLimit; lia) (hbind s (X.keeps F.keep)) (kindsX hkind) hnd (fun g L' h₁ tk cells htk' FG F' N' Y B' st hlt => ?_) hco hgen hk
  refine wpAny_mono (h p loose mean mg mb (dp + 1) (un + 3) gd _ _ _ _ L' cells _ B' F' (X.keeps st) N' Y hlt (T.keeps st) (hH _ _ st hHd) (by lia) (by lia) (Nat.lt_of_lt_of_le htk htk')) (fun fl s' hb => ?_) fun _ _ e => e.elim
  obtain ⟨h', tk', m', news', rfl, F2, N2, hp⟩ := hb
  exact leaveK_ F2 N2 fun F3 N3 hle => hret _ _ _ _ (Nat.lt_of_lt_of_le htk hle) F3 N3 hp

theorem CallH.use {H : Heap → Prop} {w : World} {f : Addr} {args : List Value} {news : List (Addr × Obj)} {nd nu : Nat} {Post : Value → List (Addr × Obj) → Prop} (C : CallH H w f args news nd nu Post)
    {p : Program} {loose : List Str} {mean : ExcName → Option Value} {mg mb : Str → Option Value} {dp un : Nat} {gd : Option (List Code)} {cn : Str} {cs : Scope} {a : Addr} {ccd : Value} {cl : List (Str × Addr)} {outer : List Env} {A₀ : Around} {base h₀ : Heap} {L : Addr} {m : Str → Option Value} {s : Shared} {Q E : Value → Shared → Prop}
    (B : Below A₀ base outer h₀) (F : Fr h₀ L s.heap m) (X : (Mine.hd.heap_39 w.params).In h₀) (N : News h₀ L s.heap news) (T : Top p loose mean mg mb h₀) (hH : H h₀) (hk : cs.kind = .function) (hd : dp + nd < recursionLimit) (hu : un + nu < cLine) (htk : 0 < s.toks)
    (h : ∀ r news' h' tk', 0 < tk' → Fr h₀ L h' m → News h₀ L h' news' → Post r news' → Q r { s with heap := h', toks := tk' }) :
    wpAny (model PySem.Challenge.rw_mq0297_01.row.prog w) (ktrTop dp un gd cn cs L a ccd cl outer) (call (.ref f) args) Q E s := C _ _ _ _ _ _ _ _ _ _ _ _ _ _ _ _ _ _ _ _ _ _ B F X N T hH hk hd hu htk h
end Mine
end S_EnterH

section S_Ranges
set_option maxRecDepth 100000
namespace Mine
open PySem PySem.W PyProof.Rows PySem.Spec PySem.Calls PySem.SeqAt

noncomputable abbrev rngO (a b : Int) (t u v : Tok) : Obj := { cls := .type "range", data := .fields #[.int a t, .int b u, .int 1 v] }
noncomputable abbrev rngIt (x left step : Int) : Obj := { cls := .type "range_iterator", data := .fields #[rawInt x, rawInt left, rawInt step] }

theorem sub_rngit_reversed : isSubtype (.type "range_iterator") (.type "reversed") = pure false := by rw [isSubtype_type]; kernel_rfl

theorem range_rev (r : Addr) (n : Int) (t u v : Tok) (h0 : 0 ≤ n) (h1 : n < 2 ^ 60) :
    Meets (Builtin.«range.__reversed__» ⟨[.ref r], []⟩) (fun _ R s => s.heap.get? r = some (rngO 0 n t u v) ∧ R (.ok (.ret (Value.ref s.heap.objs.size))) { s with heap := s.heap.push (rngIt (n - 1) n (-1)) }) := by
  refine .of_wp fun prog w A R s h => ?_
  obtain ⟨hp, g, d, tk, os⟩ := s
  obtain ⟨hl, h⟩ := h
  have hs : Builtin.Range.rangeSize 0 n 1 = n := by rw [rangeSize_one]; split <;> lia
  have hb : (Builtin.Range.rangeFitsLong 0 && Builtin.Range.rangeFitsLong n && Builtin.Range.rangeFitsLong 1 && Builtin.Range.rangeFitsLong (-1) && Builtin.Range.rangeFitsLong (0 - 1) && Builtin.Range.rangeFitsLong n) = true := by
    simp only [Builtin.Range.rangeFitsLong, Bool.and_eq_true, decide_eq_true_eq]
    lia
  unfold Builtin.«range.__reversed__»
  wp_walk
  rw [hs, hb]
  simp only [Bool.not_true, Bool.false_eq_true, if_false, if_true]
  have e1 : (0 : Int) + (n - 1) * 1 = n - 1 := by lia
  rw [e1]
  wp_walk
  exact ⟨_, rfl, h⟩

section
variable {prog : Program} {w : World} {A : Around} {E : Value → Shared → Prop} {s : Shared} {h₀ : Heap} {L I r : Addr} {m : Str → Option Value} {news : List (Addr × Obj)}

theorem call_range_rev {n : Int} {t u v : Tok} {Q : Value → Shared → Prop} (hr : s.heap.get? r = some (rngO 0 n t u v)) (h0 : 0 ≤ n) (h1 : n < 2 ^ 60)
    (h : Q (.ref s.heap.objs.size) { s with heap := s.heap.push (rngIt (n - 1) n (-1)) }) : wpAny (model prog w) A (call (.builtin "range.__reversed__") [.ref r]) Q E s :=
  call_meets PySem.F.slot_range_reversed ⟨_, hr, rfl⟩ PySem.F.entry_range_reversed (PySem.F.args_range_reversed_1 _) (range_rev r n t u v h0 h1) ⟨hr, h⟩

theorem code_reversed_range {n : Int} {t u v : Tok} {Q₁ : Value → Shared → Prop} (hr : s.heap.get? r = some (rngO 0 n t u v)) (h0 : 0 ≤ n) (h1 : n < 2 ^ 60)
    (h : Q₁ (.ref s.heap.objs.size) { s with heap := s.heap.push (rngIt (n - 1) n (-1)) }) :
    codeAny (model prog w) A (.call (.builtin "reversed.__new__") ⟨[.type "reversed", .ref r], []⟩) (wants Q₁ E) s := by
  have hT : s.TypeIs (.ref r) "range" := ⟨_, hr, rfl⟩
  refine codeAny_of_tree ?_
  show wpAny _ A.in1 (do checkBuiltinCall "reversed.__new__" ⟨[.type "reversed", .ref r], []⟩; again (.builtin "reversed.__new__" ⟨[.type "reversed", .ref r], []⟩)) _ _ s
  refine wpAny_bind (wpAny_of_eq (PySem.F.newCall_reversed_1 _) (wpAny_pure ⟨plainId_quiet PySem.F.plain_reversed_new _, codeAny_builtin PySem.F.entry_reversed_new ?_⟩))
  rw [Around.under_plainId PySem.F.plain_reversed_new _]
  unfold Builtin.«reversed.__new__»
  refine wpAny_bind (wpAny_of_eq (newClass_reversed _) ?_)
  try dsimp only
  refine wpAny_bind (wpAny_of_eq (a := ()) (by first | rfl | kernel_rfl) ?_)
  refine wpAny_bind (wpAny_of_eq (a := ()) (by first | rfl | kernel_rfl) ?_)
  try dsimp only
  refine wpAny_bind (wpAny_specialOf hT PySem.F.slot_range_reversed.lookup ?_)
  try dsimp only
  refine wpAny_bind (wpAny_of_eq (PySem.F.slot_range_reversed.bind _) ?_)
  try dsimp only
  first
  | rw [if_neg (show ¬ ((Value.builtin "range.__reversed__" == Value.none) = true) from Bool.false_ne_true)]
  | (show wpAny _ _ (if (Value.builtin "range.__reversed__" == Value.none) = true then _ else _) _ _ _; rw [if_neg (show ¬ ((Value.builtin "range.__reversed__" == Value.none) = true) from Bool.false_ne_true)])
  refine wpAny_bind (wpAny_rule ?_)
  refine wpAny_bind (m := runValue (.call (.builtin "range.__reversed__") ⟨[.ref r], []⟩)) (show wpAny _ _ (call (.builtin "range.__reversed__") [.ref r]) _ _ _ from call_range_rev hr h0 h1 ?_)
  first
  | exact wpAny_pure h
  | exact wpAny_bind (wpAny_pure (wpAny_pure h))

theorem rev_N {n : Int} {t u v : Tok} {Q : Value → Shared → Prop} (F : Fr h₀ L s.heap m) (N : News h₀ L s.heap news) (hm : (r, rngO 0 n t u v) ∈ news) (h0 : 0 ≤ n) (h1 : n < 2 ^ 60)
    (h : ∀ I h', Fr h₀ L h' m → News h₀ L h' ((I, rngIt (n - 1) n (-1)) :: news) → (∀ p ∈ news, p.1 < I) → Q (.ref I) { s with heap := h' }) : wpAny (model prog w) A (call (.type "reversed") [.ref r]) Q E s := by
  refine callType_other (U := "range_iterator") (Q₁ := fun obj s₁ => obj = .ref s.heap.objs.size ∧ s₁ = { s with heap := s.heap.push (rngIt (n - 1) n (-1)) }) (by decide +kernel) PySem.F.create_reversed ⟨_, _, PySem.F.mro_reversed⟩ PySem.F.made_reversed sub_rngit_reversed (PySem.F.typeCall_reversed_1 _) (code_reversed_range (N _ hm).1 h0 h1 ⟨rfl, rfl⟩) ?_
  rintro obj s₁ ⟨rfl, rfl⟩
  exact ⟨⟨_, Heap.get?_push_size _ rfl, rfl⟩, h _ _ (F.push _) (N.push F _) fun p hp => Heap.lt_size (N p hp).1⟩

theorem range_N {n : Int} {T : Tok} {Q : Value → Shared → Prop} (F : Fr h₀ L s.heap m) (N : News h₀ L s.heap news)
    (h : ∀ r h' t u v, Fr h₀ L h' m → News h₀ L h' ((r, rngO 0 n t u v) :: news) → (∀ p ∈ news, p.1 < r) → Q (.ref r) { s with heap := h', toks := s.toks + 1 + 1 }) :
    wpAny (model prog w) A (call (.type "range") [.int n T]) Q E s :=
  call_range_1 (h _ _ _ _ _ (F.push _) (N.push F _) fun p hp => Heap.lt_size (N p hp).1)

theorem iter_range {n : Int} {t u v : Tok} {Q : Value → Shared → Prop} (F : Fr h₀ L s.heap m) (N : News h₀ L s.heap news) (hm : (r, rngO 0 n t u v) ∈ news) (h0 : 0 ≤ n) (h1 : n < 2 ^ 60)
    (h : ∀ I h', Fr h₀ L h' m → News h₀ L h' ((I, rngIt 0 n 1) :: news) → (∀ p ∈ news, p.1 < I) → Q (.ref I) { s with heap := h' }) : wpAny (model prog w) A (pyIter (.ref r)) Q E s := by
  refine wpAny_pyIter_range (N _ hm).1 (small_one (by lia) (by lia) (by lia) (by lia)) ?_
  have hs : Builtin.Range.rangeSize 0 n 1 = n := by rw [rangeSize_one]; split <;> lia
  rw [hs]
  exact h _ _ (F.push _) (N.push F _) fun p hp => Heap.lt_size (N p hp).1
theorem iter_rngit {x left step : Int} {Q : Value → Shared → Prop} (N : News h₀ L s.heap news) (hm : (I, rngIt x left step) ∈ news) (h : Q (.ref I) s) : wpAny (model prog w) A (pyIter (.ref I)) Q E s :=
  wpAny_pyIter_rangeiter (N _ hm).1 h
theorem next_rng {x left step : Int} {Q : Option Value → Shared → Prop} (F : Fr h₀ L s.heap m) (N : News h₀ L s.heap ((I, rngIt x left step) :: news)) (hl : 0 < left) (hsep : ∀ p ∈ news, p.1 ≠ I)
    (h : ∀ h', Fr h₀ L h' m → News h₀ L h' ((I, rngIt (x + step) (left - 1) step) :: news) → Q (some (.int x s.toks)) { s with heap := h', toks := s.toks + 1 }) : wpAny (model prog w) A (pyNext (.ref I)) Q E s := by
  have z := N _ (.head _)
  refine wpAny_pyNext_range_item z.1 hl fun h' hit hs => h h' (Fr.but F (fun b o hb e => (hs.2 b hb).trans e) z.2.1 z.2.2) fun p hp => ?_
  rcases List.mem_cons.mp hp with rfl | hp
  · exact ⟨hit, z.2⟩
  · exact News.but (fun p hp => N p (.tail _ hp)) (fun b o hb e => (hs.2 b hb).trans e) hsep p hp
theorem next_rng_end {x left step : Int} {Q : Option Value → Shared → Prop} (hh : A.handled = none) (F : Fr h₀ L s.heap m) (N : News h₀ L s.heap ((I, rngIt x left step) :: news)) (hl : left ≤ 0) (hsep : ∀ p ∈ news, p.1 ≠ I)
    (h : ∀ h', Fr h₀ L h' m → News h₀ L h' news → Q none { s with heap := h' }) : wpAny (model prog w) A (pyNext (.ref I)) Q E s := by
  have z := N _ (.head _)
  exact wpAny_pyNext_range_end hh z.1 hl fun h' hs => h h' (Fr.but F hs z.2.1 z.2.2) (News.but (fun p hp => N p (.tail _ hp)) hs hsep)
end

section
variable {prog : Program} {w : World} {A : Around} {E : Value → Shared → Prop} {s : Shared}
theorem fdiv_pos {a b : Int} {t u : Tok} {Q : Value → Shared → Prop} (hb : 0 < b) (hb2 : b < 100000) (h : Q (.int (a / b) s.toks) { s with toks := s.toks + 1 }) : wpAny (model prog w) A (binaryOp .FloorDiv (.int a t) (.int b u)) Q E s := by
  refine floordiv_int (by lia) ?_ (.inl (PyProof.noPylong_small (by lia)))
  rw [Int.fdiv_eq_ediv_of_nonneg _ (Int.le_of_lt hb)]; exact h
theorem mod_pos {a b : Int} {t u : Tok} {Q : Value → Shared → Prop} (hb : 0 < b) (h : Q (.int (a % b) s.toks) { s with toks := s.toks + 1 }) : wpAny (model prog w) A (binaryOp .Mod (.int a t) (.int b u)) Q E s := by
  refine mod_int' (by lia) ?_
  rw [Int.fmod_eq_emod_of_nonneg _ (Int.le_of_lt hb)]; exact h
end
theorem Tup3.mono {ct : Tok → Int} {r r' : List (Addr × Obj)} {v : Value} {k : Int × Int × Int} (h : Tup3 ct r v k) (hs : ∀ p ∈ r, p ∈ r') : Tup3 ct r' v k := by
  obtain ⟨b, t, t2, t3, e, h0, h1, h2, hm⟩ := h
  exact ⟨b, t, t2, t3, e, h0, h1, h2, hs _ hm⟩
theorem Tup2.mono {r r' : List (Addr × Obj)} {v : Value} {k : Int × Int} (h : Tup2 r v k) (hs : ∀ p ∈ r, p ∈ r') : Tup2 r' v k := by
  obtain ⟨b, t2, t3, e, hm⟩ := h
  exact ⟨b, t2, t3, e, hs _ hm⟩
/- the two first entries change places -/
theorem News.swap {h₀ h : Heap} {L : Addr} {x y : Addr × Obj} {r : List (Addr × Obj)} (N : News h₀ L h (x :: y :: r)) : News h₀ L h (y :: x :: r) := News.sub N fun p hp => by
  rcases List.mem_cons.mp hp with rfl | hp
  · exact .tail _ (.head _)
  · rcases List.mem_cons.mp hp with rfl | hp
    · exact .head _
    · exact .tail _ (.tail _ hp)
end Mine
end S_Ranges

section S_FloR
set_option maxRecDepth 100000
namespace Mine
open PySem PySem.W PyProof.Rows PySem.Spec PySem.Calls PySem.SeqAt

theorem fl_lit0 : fl 0 = 0x0000000000000000 := by decide +kernel
theorem fl_lit05 : fl 2048 = 0x3fe0000000000000 := by decide +kernel
theorem fl_lit1 : fl 4096 = 0x3ff0000000000000 := by decide +kernel
theorem fl_lit2 : fl 8192 = 0x4000000000000000 := by decide +kernel
theorem fl_lit4 : fl 16384 = 0x4010000000000000 := by decide +kernel
theorem fl_lit6 : fl 24576 = 0x4018000000000000 := by decide +kernel

/- words that the arithmetic does not open -/
@[irreducible] def Max3 (a b c d : Int) : Prop := max (max a b) c = d
@[irreducible] def Min3 (a b c d : Int) : Prop := min (min a b) c = d
@[irreducible] def Six (a : Int) : Prop := a % 6 = 0
@[irreducible] def Prod3 (a b c d : Int) : Prop := a * b = c * d
theorem prod3 {a b c d : Int} (h : a * b = c * d) : Prod3 a b c d := by unfold Prod3; exact h
noncomputable def val3 (a b c : Int) (i : Nat) : Int := if i = 0 then a else if i = 1 then b else c
noncomputable def tok3 (a b c : Tok) (i : Nat) : Tok := if i = 0 then a else if i = 1 then b else c
noncomputable def val2 (a b : Int) (i : Nat) : Int := if i = 0 then a else b
noncomputable def tok2 (a b : Tok) (i : Nat) : Tok := if i = 0 then a else b

section
variable {prog : Program} {w : World} {A : Around} {E : Value → Shared → Prop} {s : Shared} {h₀ : Heap} {L D : Addr} {m : Str → Option Value} {news news' : List (Addr × Obj)} {a b c : Int} {t u v : Tok} {Q : Value → Shared → Prop}

theorem const_fl {n : Int} {x : UInt64} {env : Env} {k : Nat} {pos : Pos} (e : fl n = x) (h : Q (.float (fl n) s.toks) { s with toks := s.toks + 1 }) : wpAny (model prog w) A (eval (.Constant (.float x) k pos) env) Q E s :=
  AutoFloatOps.wpAny_Constant_float (e ▸ h)
theorem addF (ha : a.natAbs < 2 ^ 52) (hb : b.natAbs < 2 ^ 52) (h : Q (.float (fl (a + b)) s.toks) { s with toks := s.toks + 1 }) : wpAny (model prog w) A (binaryOp .Add (.float (fl a) t) (.float (fl b) u)) Q E s := by
  refine AutoFloatOps.add_0 ?_
  rw [fl_add ha hb]
  exact h
theorem subF (ha : a.natAbs < 2 ^ 52) (hb : b.natAbs < 2 ^ 52) (h : Q (.float (fl (a - b)) s.toks) { s with toks := s.toks + 1 }) : wpAny (model prog w) A (binaryOp .Sub (.float (fl a) t) (.float (fl b) u)) Q E s := by
  refine AutoFloatOps.sub_0 ?_
  rw [fl_sub ha hb]
  exact h
theorem iaddF (ha : a.natAbs < 2 ^ 52) (hb : b.natAbs < 2 ^ 52) (h : Q (.float (fl (a + b)) s.toks) { s with toks := s.toks + 1 }) : wpAny (model prog w) A (inplaceOp .Add (.float (fl a) t) (.float (fl b) u)) Q E s := by
  refine AutoFloatOps.iadd_0 ?_
  rw [fl_add ha hb]
  exact h
theorem mulF (e : Prod3 a b c 4096) (ha : 0 ≤ a) (hb : 0 ≤ b) (ha2 : a < 2 ^ 52) (hb2 : b < 2 ^ 52) (hc2 : c < 2 ^ 52) (h : Q (.float (fl c) s.toks) { s with toks := s.toks + 1 }) : wpAny (model prog w) A (binaryOp .Mult (.float (fl a) t) (.float (fl b) u)) Q E s := by
  refine AutoFloatOps.mul_0 ?_
  unfold Prod3 at e
  rw [fl_mul ha hb ha2 hb2 hc2 e]
  exact h
theorem divF (e : Prod3 a 4096 c b) (hb : 0 < b) (ha2 : a.natAbs < 2 ^ 52) (hb2 : b < 2 ^ 52) (hc2 : c.natAbs < 2 ^ 52) (h : Q (.float (fl c) s.toks) { s with toks := s.toks + 1 }) : wpAny (model prog w) A (binaryOp .Div (.float (fl a) t) (.float (fl b) u)) Q E s := by
  refine AutoFloatOps.truediv_1 (by rw [fl_isZero (by lia)]; simp; lia) ?_
  unfold Prod3 at e
  rw [fl_div hb ha2 hb2 hc2 e]
  exact h
theorem div6F (e : Six a) (ha2 : a.natAbs < 2 ^ 51) (h : Q (.float (fl (a / 6)) s.toks) { s with toks := s.toks + 1 }) : wpAny (model prog w) A (binaryOp .Div (.float (fl a) t) (.float (fl 24576) u)) Q E s :=
  divF (c := a / 6) (prod3 (by unfold Six at e; lia)) (by decide) (by lia) (by decide) (by lia) h
/- a quotient whose value is not asked -/
theorem divF_any (hb : b ≠ 0) (hb2 : b.natAbs < 2 ^ 52) (h : ∀ x : UInt64, Q (.float x s.toks) { s with toks := s.toks + 1 }) : wpAny (model prog w) A (binaryOp .Div (.float (fl a) t) (.float (fl b) u)) Q E s := by
  refine AutoFloatOps.truediv_1 (by rw [fl_isZero hb2]; simp; exact hb) ?_
  exact h _
theorem modF (hb : 0 < b) (ha2 : a.natAbs < 2 ^ 51) (hb2 : b < 2 ^ 51) (h : Q (.float (fl (a % b)) s.toks) { s with toks := s.toks + 1 }) : wpAny (model prog w) A (binaryOp .Mod (.float (fl a) t) (.float (fl b) u)) Q E s := by
  refine AutoFloatOps.mod_1 (by rw [fl_isZero (by lia)]; simp; lia) ?_
  rw [fl_mod hb ha2 hb2]
  exact h
theorem cmp_eq (ha : a.natAbs < 2 ^ 52) (hb : b.natAbs < 2 ^ 52) : (Float64.cmp (fl a) (fl b) == some Ordering.eq) = decide (a = b) := by
  rw [fl_cmp ha hb]
  rcases Int.lt_trichotomy a b with h | h | h
  · rw [Int.compare_eq_lt.mpr h]; simp; lia
  · subst h; simp
  · rw [Int.compare_eq_gt.mpr h]; simp; lia
theorem cmp_lt (ha : a.natAbs < 2 ^ 52) (hb : b.natAbs < 2 ^ 52) : (Float64.cmp (fl a) (fl b) == some Ordering.lt) = decide (a < b) := by
  rw [fl_cmp ha hb]
  rcases Int.lt_trichotomy a b with h | h | h
  · rw [Int.compare_eq_lt.mpr h]; simp; lia
  · subst h; simp
  · rw [Int.compare_eq_gt.mpr h]; simp; lia
theorem cmp_gt (ha : a.natAbs < 2 ^ 52) (hb : b.natAbs < 2 ^ 52) : (Float64.cmp (fl a) (fl b) == some Ordering.gt) = decide (b < a) := by
  rw [fl_cmp ha hb]
  rcases Int.lt_trichotomy a b with h | h | h
  · rw [Int.compare_eq_lt.mpr h]; simp; lia
  · subst h; simp
  · rw [Int.compare_eq_gt.mpr h]; simp; lia
theorem eqF (ha : a.natAbs < 2 ^ 52) (hb : b.natAbs < 2 ^ 52) (h : Q (.bool (decide (a = b))) s) : wpAny (model prog w) A (compareOp .Eq (.float (fl a) t) (.float (fl b) u)) Q E s := by
  refine AutoFloatOps.eq_0 ?_
  rw [cmp_eq ha hb]; exact h
theorem neF (ha : a.natAbs < 2 ^ 52) (hb : b.natAbs < 2 ^ 52) (h : Q (.bool (!decide (a = b))) s) : wpAny (model prog w) A (compareOp .NotEq (.float (fl a) t) (.float (fl b) u)) Q E s := by
  refine AutoFloatOps.ne_0 ?_
  show Q (.bool (!(Float64.cmp (fl a) (fl b) == some Ordering.eq))) s
  rw [cmp_eq ha hb]; exact h
theorem leF (ha : a.natAbs < 2 ^ 52) (hb : b.natAbs < 2 ^ 52) (h : Q (.bool (decide (a ≤ b))) s) : wpAny (model prog w) A (compareOp .LtE (.float (fl a) t) (.float (fl b) u)) Q E s := by
  refine AutoFloatOps.le_0 ?_
  rw [cmp_eq ha hb, cmp_lt ha hb, ← Bool.decide_or]
  have : (a < b ∨ a = b) ↔ a ≤ b := by lia
  rw [decide_eq_decide.mpr this]; exact h
theorem gtF (ha : a.natAbs < 2 ^ 52) (hb : b.natAbs < 2 ^ 52) (h : Q (.bool (decide (b < a))) s) : wpAny (model prog w) A (compareOp .Gt (.float (fl a) t) (.float (fl b) u)) Q E s := by
  refine AutoFloatOps.gt_0 ?_
  rw [cmp_gt ha hb]; exact h
theorem absF (ha : a.natAbs < 2 ^ 52) (h : Q (.float (fl a.natAbs) s.toks) { s with toks := s.toks + 1 }) : wpAny (model prog w) A (call (.builtin "abs") [.float (fl a) t]) Q E s := by
  refine PySem.Flt.call_abs_float ?_
  rw [fl_abs ha]; exact h
theorem intF (h0 : 0 ≤ a) (ha : a < 2 ^ 52) (h : Q (.int (a / 4096) s.toks) { s with toks := s.toks + 1 }) : wpAny (model prog w) A (call (.type "int") [.float (fl a) t]) Q E s := by
  obtain ⟨mm, e, hd, ht⟩ := fl_trunc h0 ha
  refine call_int_float hd ?_
  rw [ht]; exact h
theorem ofInt_fl (ha : a.natAbs < 2 ^ 40) : Float64.ofInt a = fl (a * 4096) := by
  unfold Float64.ofInt
  refine ofFrac_fl (by decide) ?_ (by lia) (by lia)
  apply decide_eq_decide.mpr; lia
theorem subFI (ha : a.natAbs < 2 ^ 52) (hb : b.natAbs < 2 ^ 39) (h : Q (.float (fl (a - b * 4096)) s.toks) { s with toks := s.toks + 1 }) : wpAny (model prog w) A (binaryOp .Sub (.float (fl a) t) (.int b u)) Q E s := by
  refine AutoFloatOps.sub_fi_1 (by rw [ofInt_fl (by lia), fl_inf (by lia)]; exact Bool.false_ne_true) ?_
  rw [ofInt_fl (by lia), fl_sub ha (by lia)]
  exact h
/- a whole number through a whole number -/
theorem divII (e : a * 4096 = c * b) (hb : 0 < b) (hc2 : c.natAbs < 2 ^ 52) (h : Q (.float (fl c) s.toks) { s with toks := s.toks + 1 }) : wpAny (model prog w) A (binaryOp .Div (.int a t) (.int b u)) Q E s := by
  have hs : decide (a < 0) = decide (c < 0) := by
    apply decide_eq_decide.mpr
    constructor
    · intro h1
      have : c * b < 0 := by lia
      exact (mulK_lt hb).mp this
    · intro h1
      have := Int.mul_neg_of_neg_of_pos h1 hb
      lia
  have ef : Float64.ofFrac (decide (a < 0) != decide (b < 0)) a.natAbs b.natAbs = fl c := by
    have e2 : decide (b < 0) = false := by simp; lia
    rw [e2, Bool.bne_false, hs]
    refine ofFrac_fl (by lia) rfl hc2 ?_
    have := congrArg Int.natAbs e
    rw [Int.natAbs_mul, Int.natAbs_mul] at this
    exact this
  refine AutoIntOps.truediv_2 (by simp; lia) (by rw [ef, fl_inf hc2]; exact Bool.false_ne_true) ?_
  rw [ef]
  exact h

theorem grow_N {h' : Heap} (N : News h₀ L s.heap news) (hk : ∀ b o, s.heap.get? b = some o → h'.get? b = some o) : News h₀ L h' news := fun p hp => ⟨hk _ _ (N p hp).1, (N p hp).2⟩

theorem arg1 (bt : Nat → Nat → Bool) : argBest bt 1 = if bt 1 0 then 1 else 0 := rfl
theorem arg2 (bt : Nat → Nat → Bool) : argBest bt 2 = if bt 2 (argBest bt 1) then 2 else argBest bt 1 := rfl
theorem best3_max (x y z : Int) : val3 x y z (argBest (fun i j => decide (val3 x y z i > val3 x y z j)) 2) = max (max x y) z := by
  have e0 : val3 x y z 0 = x := rfl
  have e1 : val3 x y z 1 = y := rfl
  have e2 : val3 x y z 2 = z := rfl
  rw [arg2, arg1]
  by_cases h1 : y > x
  · have d1 : decide (val3 x y z 1 > val3 x y z 0) = true := by simp [e0, e1, h1]
    simp only [d1, if_true]
    by_cases h2 : z > y
    · have d2 : decide (val3 x y z 2 > val3 x y z 1) = true := by simp [e2, e1, h2]
      simp only [d2, if_true]; rw [e2]; lia
    · have d2 : decide (val3 x y z 2 > val3 x y z 1) = false := by simp [e2, e1]; lia
      simp only [d2, Bool.false_eq_true, if_false]; rw [e1]; lia
  · have d1 : decide (val3 x y z 1 > val3 x y z 0) = false := by simp [e0, e1]; lia
    simp only [d1, Bool.false_eq_true, if_false]
    by_cases h2 : z > x
    · have d2 : decide (val3 x y z 2 > val3 x y z 0) = true := by simp [e2, e0, h2]
      simp only [d2, if_true]; rw [e2]; lia
    · have d2 : decide (val3 x y z 2 > val3 x y z 0) = false := by simp [e2, e0]; lia
      simp only [d2, Bool.false_eq_true, if_false]; rw [e0]; lia
theorem best3_min (x y z : Int) : val3 x y z (argBest (fun i j => decide (val3 x y z i < val3 x y z j)) 2) = min (min x y) z := by
  have e0 : val3 x y z 0 = x := rfl
  have e1 : val3 x y z 1 = y := rfl
  have e2 : val3 x y z 2 = z := rfl
  rw [arg2, arg1]
  by_cases h1 : y < x
  · have d1 : decide (val3 x y z 1 < val3 x y z 0) = true := by simp [e0, e1, h1]
    simp only [d1, if_true]
    by_cases h2 : z < y
    · have d2 : decide (val3 x y z 2 < val3 x y z 1) = true := by simp [e2, e1, h2]
      simp only [d2, if_true]; rw [e2]; lia
    · have d2 : decide (val3 x y z 2 < val3 x y z 1) = false := by simp [e2, e1]; lia
      simp only [d2, Bool.false_eq_true, if_false]; rw [e1]; lia
  · have d1 : decide (val3 x y z 1 < val3 x y z 0) = false := by simp [e0, e1]; lia
    simp only [d1, Bool.false_eq_true, if_false]
    by_cases h2 : z < x
    · have d2 : decide (val3 x y z 2 < val3 x y z 0) = true := by simp [e2, e0, h2]
      simp only [d2, if_true]; rw [e2]; lia
    · have d2 : decide (val3 x y z 2 < val3 x y z 0) = false := by simp [e2, e0]; lia
      simp only [d2, Bool.false_eq_true, if_false]; rw [e0]; lia
theorem items3 {x y z : Value} {i : Nat} {v : Value} (h : #[x, y, z][i]? = some v) : v = if i = 0 then x else if i = 1 then y else z := by
  match i, h with
  | 0, h => exact (Option.some.inj h).symm
  | 1, h => exact (Option.some.inj h).symm
  | 2, h => exact (Option.some.inj h).symm
  | i + 3, h => simp at h
theorem float3 {i : Nat} {x : Value} (h : #[Value.float (fl a) t, .float (fl b) u, .float (fl c) v][i]? = some x) : x = .float (fl (val3 a b c i)) (tok3 t u v i) := by
  rw [items3 h]
  unfold val3 tok3
  by_cases h0 : i = 0
  · simp [h0]
  · by_cases h1 : i = 1
    · simp [h1]
    · simp [h0, h1]

theorem max3F (hh : A.handled = none) (F : Fr h₀ L s.heap m) (N : News h₀ L s.heap news) (ha : a.natAbs < 2 ^ 52) (hb : b.natAbs < 2 ^ 52) (hc : c.natAbs < 2 ^ 52) (ht : 0 < t) (hu : 0 < u) (hv : 0 < v) (htk : 0 < s.toks) {d : Int} (ed : Max3 a b c d)
    (h : ∀ h' tk t', 0 < t' → 0 < tk → Fr h₀ L h' m → News h₀ L h' news → Q (.float (fl d) t') { s with heap := h', toks := tk }) :
    wpAny (model prog w) A (call (.builtin "max") [.float (fl a) t, .float (fl b) u, .float (fl c) v]) Q E s := by
  first | unfold Max3 at ed | unfold Min3 at ed
  subst ed
  refine wpAny_le ?_
  have hT : (s.heap.push { cls := .type "tuple", data := .seq #[.float (fl a) t, .float (fl b) u, .float (fl c) v] }).IsTuple s.heap.objs.size #[.float (fl a) t, .float (fl b) u, .float (fl c) v] := ⟨_, Heap.get?_push_size _ rfl, rfl, 0, rfl⟩
  refine call_max_three (wpAny_pyIter_tuple hT ?_)
  have hsz : (s.heap.push { cls := .type "tuple", data := .seq #[Value.float (fl a) t, .float (fl b) u, .float (fl c) v] }).objs.size = s.heap.objs.size + 1 := Heap.size_push ..
  refine ⟨_, [_, s.heap.objs.size], [_], 3, _, _, fun i j => decide (val3 a b c i > val3 a b c j), rfl, Walks.tuple (A := A.in1) hh _ s.heap.objs.size (by rw [hsz]; exact Nat.ne_of_lt (Nat.lt_succ_self _)) #[Value.float (fl a) t, .float (fl b) u, .float (fl c) v],
    ⟨⟨_, Heap.get?_push_size _ rfl, rfl, rfl⟩, hT.push _⟩, fun c hc => ?_, by decide, ?_, fun x h' tk hP hk => ?_⟩
  · show c < ((s.heap.push _).push _).objs.size
    rw [Heap.size_push, hsz]
    rcases List.mem_cons.mp hc with rfl | hc
    · rw [hsz]; exact Nat.lt_succ_self _
    · rcases List.mem_cons.mp hc with rfl | hc
      · exact Nat.lt_succ_of_lt (Nat.lt_succ_self _)
      · cases hc
  · intro i j vi vj s' Q' E' hi hj hq
    rw [float3 hi, float3 hj]
    refine (gtF (t := tok3 t u v i) (u := tok3 t u v j) (a := val3 a b c i) (b := val3 a b c j) ?_ ?_ hq : wpAny (model prog w) A.in1 (compareOp .Gt _ _) Q' E' s')
    · unfold val3; split <;> (try split) <;> assumption
    · unfold val3; split <;> (try split) <;> assumption
  · have hold : ∀ c o, s.heap.get? c = some o → h'.get? c = some o := fun c o e => by
      refine hk c o (fun hm => ?_) (Heap.get?_push_of_some _ (Heap.get?_push_of_some _ e))
      rcases List.mem_cons.mp hm with e1 | hm
      · have := Heap.lt_size e; rw [e1, hsz] at this; exact Nat.lt_irrefl _ (Nat.lt_of_succ_lt this)
      · cases hm
    intro hle
    have hx := float3 hP
    rw [show (3 : Nat) - 1 = 2 from rfl, best3_max] at hx
    rw [hx]
    refine h h' tk _ ?_ (Nat.lt_of_lt_of_le htk hle) (F.grownK hold) (grow_N N hold)
    unfold tok3; split <;> (try split) <;> assumption
theorem min3F (hh : A.handled = none) (F : Fr h₀ L s.heap m) (N : News h₀ L s.heap news) (ha : a.natAbs < 2 ^ 52) (hb : b.natAbs < 2 ^ 52) (hc : c.natAbs < 2 ^ 52) (ht : 0 < t) (hu : 0 < u) (hv : 0 < v) (htk : 0 < s.toks) {d : Int} (ed : Min3 a b c d)
    (h : ∀ h' tk t', 0 < t' → 0 < tk → Fr h₀ L h' m → News h₀ L h' news → Q (.float (fl d) t') { s with heap := h', toks := tk }) :
    wpAny (model prog w) A (call (.builtin "min") [.float (fl a) t, .float (fl b) u, .float (fl c) v]) Q E s := by
  first | unfold Max3 at ed | unfold Min3 at ed
  subst ed
  refine wpAny_le ?_
  have hT : (s.heap.push { cls := .type "tuple", data := .seq #[.float (fl a) t, .float (fl b) u, .float (fl c) v] }).IsTuple s.heap.objs.size #[.float (fl a) t, .float (fl b) u, .float (fl c) v] := ⟨_, Heap.get?_push_size _ rfl, rfl, 0, rfl⟩
  refine call_min_three (wpAny_pyIter_tuple hT ?_)
  have hsz : (s.heap.push { cls := .type "tuple", data := .seq #[Value.float (fl a) t, .float (fl b) u, .float (fl c) v] }).objs.size = s.heap.objs.size + 1 := Heap.size_push ..
  refine ⟨_, [_, s.heap.objs.size], [_], 3, _, _, fun i j => decide (val3 a b c i < val3 a b c j), rfl, Walks.tuple (A := A.in1) hh _ s.heap.objs.size (by rw [hsz]; exact Nat.ne_of_lt (Nat.lt_succ_self _)) #[Value.float (fl a) t, .float (fl b) u, .float (fl c) v],
    ⟨⟨_, Heap.get?_push_size _ rfl, rfl, rfl⟩, hT.push _⟩, fun c hc => ?_, by decide, ?_, fun x h' tk hP hk => ?_⟩
  · show c < ((s.heap.push _).push _).objs.size
    rw [Heap.size_push, hsz]
    rcases List.mem_cons.mp hc with rfl | hc
    · rw [hsz]; exact Nat.lt_succ_self _
    · rcases List.mem_cons.mp hc with rfl | hc
      · exact Nat.lt_succ_of_lt (Nat.lt_succ_self _)
      · cases hc
  · intro i j vi vj s' Q' E' hi hj hq
    rw [float3 hi, float3 hj]
    refine ltAt_float (t := tok3 t u v i) (u := tok3 t u v j) (a := val3 a b c i) (b := val3 a b c j) ?_ ?_ prog w E' Q' hq
    · unfold val3; split <;> (try split) <;> assumption
    · unfold val3; split <;> (try split) <;> assumption
  · have hold : ∀ c o, s.heap.get? c = some o → h'.get? c = some o := fun c o e => by
      refine hk c o (fun hm => ?_) (Heap.get?_push_of_some _ (Heap.get?_push_of_some _ e))
      rcases List.mem_cons.mp hm with e1 | hm
      · have := Heap.lt_size e; rw [e1, hsz] at this; exact Nat.lt_irrefl _ (Nat.lt_of_succ_lt this)
      · cases hm
    intro hle
    have hx := float3 hP
    rw [show (3 : Nat) - 1 = 2 from rfl, best3_min] at hx
    rw [hx]
    refine h h' tk _ ?_ (Nat.lt_of_lt_of_le htk hle) (F.grownK hold) (grow_N N hold)
    unfold tok3; split <;> (try split) <;> assumption

theorem minI (hh : A.handled = none) (F : Fr h₀ L s.heap m) (N : News h₀ L s.heap news) (htk : 0 < s.toks)
    (h : ∀ h' tk t', 0 < tk → Fr h₀ L h' m → News h₀ L h' news → Q (.int (min a b) t') { s with heap := h', toks := tk }) : wpAny (model prog w) A (call (.builtin "min") [.int a t, .int b u]) Q E s := by
  refine wpAny_le (min_two_N hh F N fun h' tk F' N' hle => ?_)
  have e : (if b < a then b else a) = min a b := by split <;> lia
  rw [e]
  exact h h' tk _ (Nat.lt_of_lt_of_le htk hle) F' N'
theorem maxI (hh : A.handled = none) (F : Fr h₀ L s.heap m) (N : News h₀ L s.heap news) (htk : 0 < s.toks)
    (h : ∀ h' tk t', 0 < tk → Fr h₀ L h' m → News h₀ L h' news → Q (.int (max a b) t') { s with heap := h', toks := tk }) : wpAny (model prog w) A (call (.builtin "max") [.int a t, .int b u]) Q E s := by
  refine wpAny_le (max_two_N hh F N fun h' tk F' N' hle => ?_)
  have e : (if b > a then b else a) = max a b := by split <;> lia
  rw [e]
  exact h h' tk _ (Nat.lt_of_lt_of_le htk hle) F' N'
theorem div4096 (hc2 : a.natAbs < 2 ^ 52) (h : Q (.float (fl a) s.toks) { s with toks := s.toks + 1 }) : wpAny (model prog w) A (binaryOp .Div (.int a t) (.int 4096 u)) Q E s := divII (c := a) rfl (by decide) hc2 h
theorem div64 (hc2 : a.natAbs < 2 ^ 40) (h : Q (.float (fl (64 * a)) s.toks) { s with toks := s.toks + 1 }) : wpAny (model prog w) A (binaryOp .Div (.int a t) (.int 64 u)) Q E s := divII (c := 64 * a) (by lia) (by decide) (by lia) h

theorem bits_small {x : Int} (h : x.natAbs < 2 ^ 60) : Builtin.Int.intBits x ≤ 64 := by
  unfold Builtin.Int.intBits
  by_cases h0 : x = 0
  · subst h0; decide
  · have h1 : x.natAbs ≠ 0 := by lia
    have := (Nat.log2_lt h1).mpr h
    first
      | (split <;> lia)
      | (simp only [h0]; lia)
      | lia
theorem mulI (ha : a.natAbs < 2 ^ 60) (h : Q (.int (a * b) s.toks) { s with toks := s.toks + 1 }) : wpAny (model prog w) A (binaryOp .Mult (.int a t) (.int b u)) Q E s := PyProof.Rows.mul_int h (IntMulOk.of_left (bits_small ha))
variable {I : Addr} {vs : List Value} {n : Nat}
theorem iter_tup (F : Fr h₀ L s.heap m) (N : News h₀ L s.heap news) (hm : (D, tupO vs) ∈ news)
    (h : ∀ I o h', TupIt o D 0 → Fr h₀ L h' m → News h₀ L h' ((I, o) :: news) → (∀ p ∈ news, p.1 < I) → Q (.ref I) { s with heap := h' }) : wpAny (model prog w) A (pyIter (.ref D)) Q E s :=
  iter_tuple (isT_N N hm) (h _ _ _ ⟨rfl, rfl⟩ (F.push _) (N.push F _) fun p hp => Heap.lt_size (N p hp).1)
theorem tup_N (F : Fr h₀ L s.heap m) (N : News h₀ L s.heap news) (hm : (D, listOf vs.toArray n) ∈ news) (hz : vs.length ≤ 1000)
    (h : ∀ T h', Fr h₀ L h' m → News h₀ L h' ((T, tupO vs) :: news) → (∀ p ∈ news, p.1 < T) → Q (.ref T) { s with heap := h' }) : wpAny (model prog w) A (call (.type "tuple") [.ref D]) Q E s := by
  refine call_tuple_list (isL_N N hm) (fun h' hk => ?_) (by rw [List.size_toArray, sizeLine_eq]; lia)
  have N' : News h₀ L h' news := grow_N N hk
  exact h _ _ ((F.grownK hk).push _) (N'.push (F.grownK hk) _) fun p hp => Heap.lt_size (N' p hp).1
theorem next_tup {i : Nat} {o : Obj} {Q : Option Value → Shared → Prop} (F : Fr h₀ L s.heap m) (N : News h₀ L s.heap ((I, o) :: news)) (ho : TupIt o D i) (hm : (D, tupO vs) ∈ news) (hi : i < vs.length) (hsep : ∀ p ∈ news, p.1 ≠ I)
    (h : ∀ o' h', TupIt o' D (i + 1) → Fr h₀ L h' m → News h₀ L h' ((I, o') :: news) → Q (some (vs.getD i .none)) { s with heap := h' }) : wpAny (model prog w) A (pyNext (.ref I)) Q E s := by
  have z := N (I, o) (.head _)
  have N' : News h₀ L s.heap news := fun p hp => N p (.tail _ hp)
  refine next_tuple_item (t := D) (i := i) (items := vs.toArray) ⟨o, z.1, ho.1, ho.2⟩ (isT_N N' hm) (x := vs.getD i .none) (by simp [hi]) fun h' hit hs => ?_
  obtain ⟨o', ho', a1, a2⟩ := hit
  refine h o' h' ⟨a1, a2⟩ (Fr.but F (fun b o hb e => (hs.2 b hb).trans e) z.2.1 z.2.2) fun p hp => ?_
  rcases List.mem_cons.mp hp with rfl | hp
  · exact ⟨ho', z.2⟩
  · exact News.but N' (fun b o hb e => (hs.2 b hb).trans e) hsep p hp
theorem next_tup_end {i : Nat} {o : Obj} {Q : Option Value → Shared → Prop} (hh : A.handled = none) (F : Fr h₀ L s.heap m) (N : News h₀ L s.heap ((I, o) :: news)) (ho : TupIt o D i) (hm : (D, tupO vs) ∈ news) (hi : vs.length ≤ i) (hsep : ∀ p ∈ news, p.1 ≠ I)
    (h : ∀ h', Fr h₀ L h' m → News h₀ L h' news → Q none { s with heap := h' }) : wpAny (model prog w) A (pyNext (.ref I)) Q E s := by
  have z := N (I, o) (.head _)
  have N' : News h₀ L s.heap news := fun p hp => N p (.tail _ hp)
  refine next_tuple_end hh (t := D) (i := i) (items := vs.toArray) ⟨o, z.1, ho.1, ho.2⟩ (isT_N N' hm) (by simp [hi]) fun h' hs => ?_
  exact h h' (Fr.but F hs z.2.1 z.2.2) (News.but N' hs hsep)
end

theorem AllLt.mem {d : Nat} : ∀ {l : List (Addr × Obj)}, AllLt d l → ∀ p ∈ l, p.1 < d
  | [], _, _, h => nomatch h
  | _ :: _, h, _, hp => by
    rcases List.mem_cons.mp hp with rfl | hp
    · exact h.1
    · exact AllLt.mem h.2 _ hp
theorem AllLt.ne {d : Nat} {l : List (Addr × Obj)} (h : AllLt d l) : ∀ p ∈ l, p.1 ≠ d := fun p hp => Nat.ne_of_lt (AllLt.mem h p hp)

theorem getD_app_l {α : Type} {xs ys : List α} {i : Nat} {d : α} (h : i < xs.length) : (xs ++ ys).getD i d = xs.getD i d := by
  rw [List.getD_eq_getElem?_getD, List.getD_eq_getElem?_getD, List.getElem?_append_left h]
theorem getD_app_r {α : Type} {xs ys : List α} {i : Nat} {d : α} (h : xs.length ≤ i) : (xs ++ ys).getD i d = ys.getD (i - xs.length) d := by
  rw [List.getD_eq_getElem?_getD, List.getD_eq_getElem?_getD, List.getElem?_append_right h]
/- ps are the doubles as / 4096, their tokens above nought -/
noncomputable def Fls (ps : List Value) (as : List Int) : Prop := ps.length = as.length ∧ ∀ i, i < as.length → ∃ t, 0 < t ∧ ps.getD i .none = .float (fl (as.getD i 0)) t
theorem Fls.nil : Fls [] [] := ⟨rfl, fun _ h => absurd h (Nat.not_lt_zero _)⟩
theorem Fls.snoc {ps : List Value} {as : List Int} {a : Int} {t : Tok} (h : Fls ps as) (ht : 0 < t) : Fls (ps ++ [.float (fl a) t]) (as ++ [a]) := by
  refine ⟨by simp [h.1], fun i hi => ?_⟩
  rw [List.length_append, List.length_singleton] at hi
  have h1 := h.1
  by_cases hlt : i < as.length
  · obtain ⟨t', h2, h3⟩ := h.2 i hlt
    refine ⟨t', h2, ?_⟩
    rw [getD_app_l (by lia), getD_app_l hlt]
    exact h3
  · have e : i = as.length := by lia
    subst e
    refine ⟨t, ht, ?_⟩
    rw [getD_app_r (by lia), getD_app_r (Nat.le_refl _), h1, Nat.sub_self]
    rfl
noncomputable def fallOf (k c : Int) : Int := min (max (min ((k * 6 - c) % 384) (384 - (k * 6 - c) % 384) - 64) 0) 64
noncomputable def chan (n c : Int) : Int := n / 576 % 9 * (512 - n / 64 % 9 * fallOf (n % 64) c)
theorem fall_bound (k c : Int) : 0 ≤ fallOf k c ∧ fallOf k c ≤ 64 := by unfold fallOf; lia
theorem chan_bound (n c : Int) : 0 ≤ chan n c ∧ chan n c ≤ 4096 := by
  unfold chan
  have hf := fall_bound (n % 64) c
  generalize fallOf (n % 64) c = f at *
  have h1 : 0 ≤ n / 576 % 9 ∧ n / 576 % 9 ≤ 8 := by lia
  have h2 : 0 ≤ n / 64 % 9 ∧ n / 64 % 9 ≤ 8 := by lia
  generalize n / 576 % 9 = l at *
  generalize n / 64 % 9 = sh at *
  have h3 : 0 ≤ sh * f := Int.mul_nonneg h2.1 hf.1
  have h4 : sh * f ≤ 8 * 64 := Int.mul_le_mul h2.2 hf.2 hf.1 (by decide)
  have h5 : 0 ≤ l * (512 - sh * f) := Int.mul_nonneg h1.1 (by lia)
  have h6 : l * (512 - sh * f) ≤ 8 * 512 := Int.mul_le_mul h1.2 (by lia) (by lia) (by decide)
  lia
theorem Fls.three {ps : List Value} {a b c : Int} (h : Fls ps [a, b, c]) : ∃ t u v, 0 < t ∧ 0 < u ∧ 0 < v ∧ ps = [.float (fl a) t, .float (fl b) u, .float (fl c) v] := by
  obtain ⟨hl, hv⟩ := h
  obtain ⟨x, l, rfl⟩ := List.exists_cons_of_length_eq_add_one hl
  obtain ⟨y, l, rfl⟩ := List.exists_cons_of_length_eq_add_one (Nat.succ.inj hl)
  obtain ⟨z, rfl⟩ := List.length_eq_one_iff.mp (Nat.succ.inj (Nat.succ.inj hl))
  have ⟨t, ht, e1⟩ := hv 0 (Nat.succ_pos _)
  have ⟨u, hu, e2⟩ := hv 1 (Nat.le_of_ble_eq_true rfl)
  have ⟨v, hw, e3⟩ := hv 2 (Nat.le_of_ble_eq_true rfl)
  cases e1; cases e2; cases e3
  exact ⟨t, u, v, ht, hu, hw, rfl⟩
/- the three cases of i < 3 -/
theorem lt3 {P : Nat → Prop} (h0 : P 0) (h1 : P 1) (h2 : P 2) : ∀ i, i < 3 → P i
  | 0, _ => h0
  | 1, _ => h1
  | 2, _ => h2
  | _ + 3, h => absurd h (Nat.not_lt.mpr (Nat.le_add_left _ _))
end Mine
end S_FloR

section S_V
set_option maxRecDepth 100000
set_option genInjectivity false
namespace Mine
open PySem PySem.W PyProof.Rows PySem.Spec PySem.Calls PySem.SeqAt

/- what a walk knows: the frame's names, the ledger, the count of tokens -/
structure AS where
  fr : List (Str × Value)
  led : List (Addr × Obj)
  tk : Nat
noncomputable def look : List (Str × Value) → Str → Option Value
  | [], _ => none
  | (x, v) :: r, z => if z = x then some v else look r z
theorem mp_look {u : Str → Option Value} {z : Str} {v : Value} : ∀ {fr : List (Str × Value)}, look fr z = some v → mp u fr z = some v
  | [], h => nomatch h
  | (x, w) :: r, h => by
    unfold look at h
    unfold mp
    by_cases hz : z = x
    · rw [if_pos hz] at h ⊢; exact h
    · rw [if_neg hz] at h ⊢; exact mp_look h
/- the frame that a walk stands in; room for nd calls within calls, nu units -/
structure Amb (cs : Scope) (nd nu : Nat) where
  w : World
  dp : Nat
  un : Nat
  gd : Option (List Code)
  cn : Str
  L : Addr
  a : Addr
  ccd : Value
  cl : List (Str × Addr)
  outer : List Env
  g : Heap
  s0 : Shared
  A₀ : Around
  base : Heap
  p : Program
  loose : List Str
  mean : ExcName → Option Value
  mg : Str → Option Value
  mb : Str → Option Value
section
variable {cs : Scope} {nd nu : Nat}
noncomputable abbrev Amb.A (c : Amb cs nd nu) : Around := ktrTop c.dp c.un c.gd c.cn cs c.L c.a c.ccd c.cl c.outer
noncomputable abbrev Amb.env (c : Amb cs nd nu) : Env := envX c.cn cs c.L c.a c.ccd c.cl
noncomputable abbrev Amb.M (c : Amb cs nd nu) : Model := model PySem.Challenge.rw_mq0297_01.row.prog c.w
structure Amb.Ok (c : Amb cs nd nu) : Prop where
  B : Below c.A₀ c.base c.outer c.g
  X : (Mine.hd.heap_39 c.w.params).In c.g
  T : Top c.p c.loose c.mean c.mg c.mb c.g
  hk : cs.kind = .function
  hd : c.dp + nd < recursionLimit + 1
  hu : c.un + nu < cLine + 3
/- s is a state that st tells -/
noncomputable def Re (c : Amb cs nd nu) (s : Shared) (st : AS) : Prop := c.Ok ∧ 0 < st.tk ∧ ∃ h u, s = { c.s0 with heap := h, toks := st.tk } ∧ Fr c.g c.L h (mp u st.fr) ∧ News c.g c.L h st.led
noncomputable def WPE (c : Amb cs nd nu) (e : Expr) (st : AS) (K : Value → AS → Prop) : Prop :=
  ∀ (s : Shared) (Q E : Value → Shared → Prop), Re c s st → (∀ v s' st', Re c s' st' → K v st' → Q v s') → wpAny c.M c.A (eval e c.env) Q E s
noncomputable def WPL (c : Amb cs nd nu) (pos : Pos) (es : List Expr) (st : AS) (K : List Value → AS → Prop) : Prop :=
  ∀ (s : Shared) (Q : List Value → Shared → Prop) (E : Value → Shared → Prop), Re c s st → (∀ v s' st', Re c s' st' → K v st' → Q v s') → wpAny c.M c.A (spliced (backTo pos (starEach es c.env))) Q E s
noncomputable def WPT (c : Amb cs nd nu) (e : Expr) (st : AS) (Kt Kf : AS → Prop) : Prop :=
  ∀ (s : Shared) (Q : Bool → Shared → Prop) (E : Value → Shared → Prop), Re c s st → (∀ s' st', Re c s' st' → Kt st' → Q true s') → (∀ s' st', Re c s' st' → Kf st' → Q false s') → wpAny c.M c.A (isTrue e c.env (eval e c.env)) Q E s
noncomputable def WPS (c : Amb cs nd nu) (x : Stmt) (st : AS) (Kn : AS → Prop) (Kx : Flow → AS → Prop) : Prop :=
  ∀ (s : Shared) (Q : Flow → Shared → Prop), Re c s st → (∀ s' st', Re c s' st' → Kn st' → Q .next s') → (∀ f s' st', f ≠ .next → Re c s' st' → Kx f st' → Q f s') → wpAny c.M c.A (exec x c.env) Q (fun _ _ => False) s
noncomputable def WPB (c : Amb cs nd nu) (b : List Stmt) (st : AS) (Kn : AS → Prop) (Kx : Flow → AS → Prop) : Prop :=
  ∀ (s : Shared) (Q : Flow → Shared → Prop), Re c s st → (∀ s' st', Re c s' st' → Kn st' → Q .next s') → (∀ f s' st', f ≠ .next → Re c s' st' → Kx f st' → Q f s') → wpAny c.M c.A (execs b c.env) Q (fun _ _ => False) s
/- any computation that gives a value -/
noncomputable def WPM (c : Amb cs nd nu) (m : Sem Value) (st : AS) (K : Value → AS → Prop) : Prop :=
  ∀ (s : Shared) (Q E : Value → Shared → Prop), Re c s st → (∀ v s' st', Re c s' st' → K v st' → Q v s') → wpAny c.M c.A m Q E s
noncomputable abbrev WPBin (c : Amb cs nd nu) (op : Operator) (x y : Value) (st : AS) (K : Value → AS → Prop) : Prop := WPM c (binaryOp op x y) st K
noncomputable abbrev WPCall (c : Amb cs nd nu) (f : Value) (vs : List Value) (st : AS) (K : Value → AS → Prop) : Prop := WPM c (call f vs) st K
noncomputable def WPCmp (c : Amb cs nd nu) (op : CmpOp) (x y : Value) (st : AS) (Kt Kf : AS → Prop) : Prop :=
  ∀ (s : Shared) (Q E : Value → Shared → Prop), Re c s st → (∀ s' st', Re c s' st' → Kt st' → Q (.bool true) s') → (∀ s' st', Re c s' st' → Kf st' → Q (.bool false) s') → wpAny c.M c.A (compareOp op x y) Q E s
noncomputable def WPSet (c : Amb cs nd nu) (o i v : Value) (st : AS) (K : AS → Prop) : Prop :=
  ∀ (s : Shared) (Q : Unit → Shared → Prop) (E : Value → Shared → Prop), Re c s st → (∀ s' st', Re c s' st' → K st' → Q () s') → wpAny c.M c.A (setItem o i v) Q E s
noncomputable def WPTru (c : Amb cs nd nu) (v : Value) (st : AS) (Kt Kf : AS → Prop) : Prop :=
  ∀ (s : Shared) (Q : Bool → Shared → Prop) (E : Value → Shared → Prop), Re c s st → (∀ s' st', Re c s' st' → Kt st' → Q true s') → (∀ s' st', Re c s' st' → Kf st' → Q false s') → wpAny c.M c.A (truthy v) Q E s
noncomputable def WPAsg (c : Amb cs nd nu) (t : Expr) (v : Value) (st : AS) (K : AS → Prop) : Prop :=
  ∀ (s : Shared) (Q : Unit → Shared → Prop) (E : Value → Shared → Prop), Re c s st → (∀ s' st', Re c s' st' → K st' → Q () s') → wpAny c.M c.A (assign t c.env v) Q E s
noncomputable def WPStore (c : Amb cs nd nu) (x : Str) (v : Value) (st : AS) (K : AS → Prop) : Prop :=
  ∀ (s : Shared) (Q : Unit → Shared → Prop) (E : Value → Shared → Prop), Re c s st → (∀ s' st', Re c s' st' → K st' → Q () s') → wpAny c.M c.A (storeName c.env x v) Q E s
/- o[i], at its end -/
noncomputable def WPSub (c : Amb cs nd nu) (value slice : Expr) (o i : Value) (st : AS) (K : Value → AS → Prop) : Prop := WPM c (subscriptTail value slice o i) st K
noncomputable abbrev GlobK (x : Str) (v : Value) : Prop := ∀ w : World, nsIn (Mine.hd.heap_39 w.params) mainGlobals x = some (some v)
structure GlobB (x : Str) (v : Value) : Prop where
  no : ∀ w : World, nsIn (Mine.hd.heap_39 w.params) mainGlobals x = some none
  is : bootBuiltins x = some v
  nn : x ≠ "__name__"
end

section
variable {cs : Scope} {nd nu : Nat} {c : Amb cs nd nu} {fr : List (Str × Value)} {led : List (Addr × Obj)} {tk : Nat} {K : Value → AS → Prop} {Kt Kf Kn : AS → Prop} {Kx : Flow → AS → Prop} {pos : Pos} {st : AS}
theorem WPE.int {i : Int} {k : Nat} (h : K (.int i tk) ⟨fr, led, tk + 1⟩) : WPE c (.Constant (.int i) k pos) ⟨fr, led, tk⟩ K := by
  rintro s Q E ⟨ok, h0, h', u, rfl, F, N⟩ hQ
  exact wpAny_Constant_int (hQ _ _ ⟨fr, led, tk + 1⟩ ⟨ok, Nat.succ_pos _, h', u, rfl, F, N⟩ h)
theorem WPE.name {x : Str} {v : Value} (hl : look fr x = some v := by intros; k_dflt exact rfl) (hx : cs.names.lookup x = some .local := by intros; k_dflt exact rfl) (hd : (x == Str.ofString "__debug__") = false := by intros; k_dflt exact rfl) (h : K v ⟨fr, led, tk⟩) : WPE c (.Name x pos) ⟨fr, led, tk⟩ K := by
  rintro s Q E ⟨ok, h0, h', u, rfl, F, N⟩ hQ
  exact nameX_L F (mp_look hl) (hQ _ _ _ ⟨ok, h0, h', u, rfl, F, N⟩ h) ok.hk hx hd
theorem WPE.glob {x : Str} {v : Value} (hg : GlobK x v := by intro _; k_dflt k_is) (hx : cs.names.lookup x = some .globalImplicit := by intros; k_dflt exact rfl) (hd : (x == Str.ofString "__debug__") = false := by intros; k_dflt exact rfl) (h : K v st) : WPE c (.Name x pos) st K := by
  rintro s Q E ⟨ok, h0, h', u, rfl, F, N⟩ hQ
  exact nameX_K F ok.X (topRead_of ok.T) (hg _) (hQ _ _ _ ⟨ok, h0, h', u, rfl, F, N⟩ h) ok.hk hx hd
theorem WPE.globB {x : Str} {v : Value} (hg : GlobB x v) (hx : cs.names.lookup x = some .globalImplicit) (hd : (x == Str.ofString "__debug__") = false) (h : K v st) : WPE c (.Name x pos) st K := by
  rintro s Q E ⟨ok, h0, h', u, rfl, F, N⟩ hQ
  exact nameX_B F ok.X (topRead_of ok.T) (hg.no _) hg.is hg.nn (hQ _ _ _ ⟨ok, h0, h', u, rfl, F, N⟩ h) ok.hk hx hd
theorem WPE.bin {l r : Expr} {op : Operator} (h : WPE c l st fun x st1 => WPE c r st1 fun y st2 => WPBin c op x y st2 K) : WPE c (.BinOp l op r pos) st K :=
  fun s Q E R hQ => wpAny_BinOp (h s _ _ R fun _ s1 _ R1 h1 => h1 s1 _ _ R1 fun _ s2 _ R2 h2 => h2 s2 _ _ R2 hQ)
theorem WPBin.add {x y : Int} {t u : Tok} (h : K (.int (x + y) tk) ⟨fr, led, tk + 1⟩) : WPBin c .Add (.int x t) (.int y u) ⟨fr, led, tk⟩ K := by
  rintro s Q E ⟨ok, h0, h', u, rfl, F, N⟩ hQ
  exact add_int (hQ _ _ ⟨fr, led, tk + 1⟩ ⟨ok, Nat.succ_pos _, h', u, rfl, F, N⟩ h)
theorem WPBin.sub {x y : Int} {t u : Tok} (h : K (.int (x - y) tk) ⟨fr, led, tk + 1⟩) : WPBin c .Sub (.int x t) (.int y u) ⟨fr, led, tk⟩ K := by
  rintro s Q E ⟨ok, h0, h', u, rfl, F, N⟩ hQ
  exact sub_int (hQ _ _ ⟨fr, led, tk + 1⟩ ⟨ok, Nat.succ_pos _, h', u, rfl, F, N⟩ h)
theorem WPBin.mul {x y : Int} {t u : Tok} (hx : x.natAbs < 2 ^ 60) (h : K (.int (x * y) tk) ⟨fr, led, tk + 1⟩) : WPBin c .Mult (.int x t) (.int y u) ⟨fr, led, tk⟩ K := by
  rintro s Q E ⟨ok, h0, h', u, rfl, F, N⟩ hQ
  exact mulI hx (hQ _ _ ⟨fr, led, tk + 1⟩ ⟨ok, Nat.succ_pos _, h', u, rfl, F, N⟩ h)
theorem WPBin.fdiv {x y : Int} {t u : Tok} (h0 : 0 < y) (h1 : y < 100000) (h : K (.int (x / y) tk) ⟨fr, led, tk + 1⟩) : WPBin c .FloorDiv (.int x t) (.int y u) ⟨fr, led, tk⟩ K := by
  rintro s Q E ⟨ok, _, h', u, rfl, F, N⟩ hQ
  exact fdiv_pos h0 h1 (hQ _ _ ⟨fr, led, tk + 1⟩ ⟨ok, Nat.succ_pos _, h', u, rfl, F, N⟩ h)
theorem WPBin.mod {x y : Int} {t u : Tok} (h0 : 0 < y) (h : K (.int (x % y) tk) ⟨fr, led, tk + 1⟩) : WPBin c .Mod (.int x t) (.int y u) ⟨fr, led, tk⟩ K := by
  rintro s Q E ⟨ok, _, h', u, rfl, F, N⟩ hQ
  exact mod_pos h0 (hQ _ _ ⟨fr, led, tk + 1⟩ ⟨ok, Nat.succ_pos _, h', u, rfl, F, N⟩ h)
theorem WPBin.rsh {x : Int} {t u : Tok} (h : K (.int (x / 2) tk) ⟨fr, led, tk + 1⟩) : WPBin c .RShift (.int x t) (.int 1 u) ⟨fr, led, tk⟩ K := by
  rintro s Q E ⟨ok, h0, h', u, rfl, F, N⟩ hQ
  exact rsh1 (hQ _ _ ⟨fr, led, tk + 1⟩ ⟨ok, Nat.succ_pos _, h', u, rfl, F, N⟩ h)
theorem WPBin.addE {x y : Int} {t u : Tok} (z : Int) (e : x + y = z) (h : K (.int z tk) ⟨fr, led, tk + 1⟩) : WPBin c .Add (.int x t) (.int y u) ⟨fr, led, tk⟩ K := WPBin.add (e ▸ h)
theorem WPBin.subE {x y : Int} {t u : Tok} (z : Int) (e : x - y = z) (h : K (.int z tk) ⟨fr, led, tk + 1⟩) : WPBin c .Sub (.int x t) (.int y u) ⟨fr, led, tk⟩ K := WPBin.sub (e ▸ h)
theorem WPBin.fdivE {x y : Int} {t u : Tok} (z : Int) (h0 : 0 < y) (h1 : y < 100000) (e : x / y = z) (h : K (.int z tk) ⟨fr, led, tk + 1⟩) : WPBin c .FloorDiv (.int x t) (.int y u) ⟨fr, led, tk⟩ K := WPBin.fdiv h0 h1 (e ▸ h)
theorem WPBin.modE {x y : Int} {t u : Tok} (z : Int) (h0 : 0 < y) (e : x % y = z) (h : K (.int z tk) ⟨fr, led, tk + 1⟩) : WPBin c .Mod (.int x t) (.int y u) ⟨fr, led, tk⟩ K := WPBin.mod h0 (e ▸ h)
theorem WPBin.mulE {x y : Int} {t u : Tok} (z : Int) (hx : x.natAbs < 2 ^ 60) (e : x * y = z) (h : K (.int z tk) ⟨fr, led, tk + 1⟩) : WPBin c .Mult (.int x t) (.int y u) ⟨fr, led, tk⟩ K := WPBin.mul hx (e ▸ h)
theorem WPBin.rshE {x : Int} {t u : Tok} (z : Int) (e : x / 2 = z) (h : K (.int z tk) ⟨fr, led, tk + 1⟩) : WPBin c .RShift (.int x t) (.int 1 u) ⟨fr, led, tk⟩ K := WPBin.rsh (e ▸ h)
theorem WPE.sub {v i : Expr} (h : WPE c v st fun x st1 => WPE c i st1 fun y st2 => WPSub c v i x y st2 K) : WPE c (.Subscript v i pos) st K := by
  intro s Q E R hQ
  refine Subscript_ (h s _ _ R fun _ s1 _ R1 h1 => h1 s1 _ _ R1 fun _ s2 _ R2 h2 => h2 s2 _ _ R2 hQ)
theorem WPSub.list {v i : Expr} {D : Addr} {k : Int} {u : Tok} {vs : List Value} {n : Nat} (hm : (D, listOf vs.toArray n) ∈ led) (h0 : 0 ≤ k) (h1 : k < vs.length) (hz : vs.length ≤ 1000) (h : K (vs.getD k.toNat .none) ⟨fr, led, tk⟩)
    (hs : ∀ D k u, subscripted i false (.ref D) (.int k u) = operate [.ref D, .int k u] (getItem (.ref D) (.int k u)) := by intro _ _ _; rfl) : WPSub c v i (.ref D) (.int k u) ⟨fr, led, tk⟩ K := by
  rintro s Q E ⟨ok, hp, h', u, rfl, F, N⟩ hQ
  exact sub_N N hm h0 h1 (Nat.lt_of_le_of_lt hz (by decide)) (hQ _ _ _ ⟨ok, hp, h', u, rfl, F, N⟩ h) (hs _ _ _)
theorem WPSub.listN {v i : Expr} {D : Addr} {k : Nat} {u : Tok} {vs : List Value} {n : Nat} (hm : (D, listOf vs.toArray n) ∈ led) (h1 : k < vs.length) (hz : vs.length ≤ 1000) (h : K (vs.getD k .none) ⟨fr, led, tk⟩)
    (hs : ∀ D k u, subscripted i false (.ref D) (.int k u) = operate [.ref D, .int k u] (getItem (.ref D) (.int k u)) := by intro _ _ _; rfl) : WPSub c v i (.ref D) (.int k u) ⟨fr, led, tk⟩ K :=
  WPSub.list hm (Int.natCast_nonneg _) (Int.ofNat_lt.mpr h1) hz (by rw [Int.toNat_natCast]; exact h) hs
/- a test -/
theorem WPT.cmp {l r : Expr} {op : CmpOp} (h : WPE c l st fun x st1 => WPE c r st1 fun y st2 => WPCmp c op x y st2 Kt Kf) (hn : behindInMarks op r = false := by intros; k_dflt exact rfl) : WPT c (.Compare l [op] [r] pos) st Kt Kf :=
  fun _ _ _ R ht hf => wpAny_isTrue_Compare1 (h _ _ _ R fun _ _ _ R1 h1 => h1 _ _ _ R1 fun _ _ _ R2 h2 => h2 _ _ _ R2 (fun _ _ R3 h3 => wpAny_truthy_bool (ht _ _ R3 h3)) (fun _ _ R3 h3 => wpAny_truthy_bool (hf _ _ R3 h3))) hn
theorem WPT.and {x y : Expr} (h : WPT c x st (fun st1 => WPT c y st1 Kt Kf) Kf) : WPT c (.BoolOp .And [x, y] pos) st Kt Kf :=
  fun _ _ _ R ht hf => wpAny_isTrue_BoolOp (wpAny_allTrue_And_cons (h _ _ _ R (fun _ _ R1 h1 => wpAny_allTrue_And_cons (h1 _ _ _ R1 (fun _ _ R2 h2 => wpAny_allTrue_And_nil (ht _ _ R2 h2)) (fun _ _ R2 h2 => hf _ _ R2 h2))) (fun _ _ R1 h1 => hf _ _ R1 h1)))
theorem WPT.or {x y : Expr} (h : WPT c x st Kt (fun st1 => WPT c y st1 Kt Kf)) : WPT c (.BoolOp .Or [x, y] pos) st Kt Kf :=
  fun _ _ _ R ht hf => wpAny_isTrue_BoolOp (wpAny_allTrue_Or_cons (h _ _ _ R (fun _ _ R1 h1 => ht _ _ R1 h1) (fun _ _ R1 h1 => wpAny_allTrue_Or_cons (h1 _ _ _ R1 (fun _ _ R2 h2 => ht _ _ R2 h2) (fun _ _ R2 h2 => wpAny_allTrue_Or_nil (hf _ _ R2 h2))))))
theorem WPT.not {x : Expr} (h : WPT c x st Kf Kt) : WPT c (.UnaryOp .Not x pos) st Kt Kf :=
  fun _ _ _ R ht hf => wpAny_isTrue_Not (h _ _ _ R (fun _ _ R1 h1 => hf _ _ R1 h1) (fun _ _ R1 h1 => ht _ _ R1 h1))
theorem WPT.name {x : Str} (h : WPE c (.Name x pos) st fun v st1 => WPTru c v st1 Kt Kf) : WPT c (.Name x pos) st Kt Kf :=
  fun _ _ _ R ht hf => wpAny_isTrue_value (h _ _ _ R fun _ _ _ R1 h1 => h1 _ _ _ R1 ht hf) rfl
theorem WPTru.list {D : Addr} {vs : List Value} {n : Nat} (hm : (D, listOf vs.toArray n) ∈ led) (hz : vs.length ≤ 1000) (h1 : vs.isEmpty = false → Kt ⟨fr, led, tk + 1 + 1⟩) (h2 : vs.isEmpty = true → Kf ⟨fr, led, tk + 1 + 1⟩) : WPTru c (.ref D) ⟨fr, led, tk⟩ Kt Kf := by
  rintro s Q E ⟨ok, hp, h', u, rfl, F, N⟩ ht hf
  refine truthy_N N hm (Nat.lt_of_le_of_lt hz (by decide)) ?_
  have R : Re c { c.s0 with heap := h', toks := tk + 1 + 1 } ⟨fr, led, tk + 1 + 1⟩ := ⟨ok, Nat.succ_pos _, h', u, rfl, F, N⟩
  cases e : vs.isEmpty with
  | true => exact hf _ _ R (h2 e)
  | false => exact ht _ _ R (h1 e)
theorem WPCmp.ltI {x y : Int} {t u : Tok} (h1 : x < y → Kt st) (h2 : y ≤ x → Kf st) : WPCmp c .Lt (.int x t) (.int y u) st Kt Kf := by
  intro s Q E R ht hf
  refine lt_int ?_
  by_cases e : x < y
  · rw [decide_eq_true e]; exact ht _ _ R (h1 e)
  · rw [decide_eq_false e]; exact hf _ _ R (h2 (Int.not_lt.mp e))
theorem WPCmp.gtI {x y : Int} {t u : Tok} (h1 : y < x → Kt st) (h2 : x ≤ y → Kf st) : WPCmp c .Gt (.int x t) (.int y u) st Kt Kf := by
  intro s Q E R ht hf
  refine gt_int ?_
  by_cases e : y < x
  · rw [decide_eq_true e]; exact ht _ _ R (h1 e)
  · rw [decide_eq_false e]; exact hf _ _ R (h2 (Int.not_lt.mp e))
theorem WPCmp.lt3 {rest : List (Addr × Obj)} {ct : Tok → Int} {v v' : Value} {k k' : Int × Int × Int} (hs : ∀ p ∈ rest, p ∈ led) (ha : Tup3 ct rest v k) (hb : Tup3 ct rest v' k') (hu : 3 ≤ nu)
    (h1 : klt k k' = true → Kt ⟨fr, led, tk⟩) (h2 : klt k k' = false → Kf ⟨fr, led, tk⟩) : WPCmp c .Lt v v' ⟨fr, led, tk⟩ Kt Kf := by
  rintro s Q E ⟨ok, hp, h', u, rfl, F, N⟩ ht hf
  have := ok.hu
  refine lt3_N F N ok.X hs ha hb (by show c.un < cLine; lia) ?_
  have R : Re c { c.s0 with heap := h', toks := tk } ⟨fr, led, tk⟩ := ⟨ok, hp, h', u, rfl, F, N⟩
  cases e : klt k k' with
  | true => exact ht _ _ R (h1 e)
  | false => exact hf _ _ R (h2 e)
theorem WPCmp.lt2 {rest : List (Addr × Obj)} {v v' : Value} {k k' : Int × Int} (hs : ∀ p ∈ rest, p ∈ led) (ha : Tup2 rest v k) (hb : Tup2 rest v' k') (hu : 3 ≤ nu)
    (h1 : plt k k' = true → Kt ⟨fr, led, tk⟩) (h2 : plt k k' = false → Kf ⟨fr, led, tk⟩) : WPCmp c .Lt v v' ⟨fr, led, tk⟩ Kt Kf := by
  rintro s Q E ⟨ok, hp, h', u, rfl, F, N⟩ ht hf
  have := ok.hu
  refine lt2_N N hs ha hb (by show c.un < cLine; lia) ?_
  have R : Re c { c.s0 with heap := h', toks := tk } ⟨fr, led, tk⟩ := ⟨ok, hp, h', u, rfl, F, N⟩
  cases e : plt k k' with
  | true => exact ht _ _ R (h1 e)
  | false => exact hf _ _ R (h2 e)

/- lower what is known -/
structure Sub (a b : AS) : Prop where
  f : ∀ p ∈ b.fr, look a.fr p.1 = some p.2
  l : ∀ p ∈ b.led, p ∈ a.led
  t : a.tk = b.tk
theorem Sub.of {a b : AS} (f : b.fr.map (fun p => look a.fr p.1) = b.fr.map fun p => some p.2) (l : b.led = a.led) (t : a.tk = b.tk) : Sub a b :=
  ⟨fun _ hp => List.map_inj_left.mp f _ hp, fun _ hp => l ▸ hp, t⟩
theorem Sub.ofS {a b : AS} (f : b.fr.map (fun p => look a.fr p.1) = b.fr.map fun p => some p.2) (l : ∀ p ∈ b.led, p ∈ a.led) (t : a.tk = b.tk) : Sub a b :=
  ⟨fun _ hp => List.map_inj_left.mp f _ hp, l, t⟩
theorem Sub.re {s : Shared} {a b : AS} (h : Sub a b) (R : Re c s a) : Re c s b := by
  obtain ⟨ok, h0, h', u, rfl, F, N⟩ := R
  obtain ⟨h1, h2, h3⟩ := h
  exact ⟨ok, h3 ▸ h0, h', mp u a.fr, by rw [h3], fr_ps F fun p hp => mp_look (h1 p hp), News.sub N h2⟩
theorem WPB.weak {b : List Stmt} {st' : AS} (h : Sub st st') (hb : WPB c b st' Kn Kx) : WPB c b st Kn Kx := fun _ _ R => hb _ _ (h.re R)
theorem WPB.posit {b : List Stmt} (hb : 0 < tk → WPB c b ⟨fr, led, tk⟩ Kn Kx) : WPB c b ⟨fr, led, tk⟩ Kn Kx := fun _ _ R => hb R.2.1 _ _ R

theorem WPB.nil (h : Kn st) : WPB c [] st Kn Kx := fun _ _ R hn _ => wpAny_execs_nil (hn _ _ R h)
theorem WPB.cons {x : Stmt} {r : List Stmt} (h : WPS c x st (fun st1 => WPB c r st1 Kn Kx) Kx) : WPB c (x :: r) st Kn Kx := by
  intro s Q R hn hx
  have e : execs (x :: r) c.env = (do match ← exec x c.env with | .next => execs r c.env | f => pure f) := rfl
  rw [e]
  refine wpAny_bind (wpAny_mono (h s (fun f s' => wpAny c.M c.A (match f with | .next => execs r c.env | f => pure f) Q (fun _ _ => False) s') R (fun s' st' R' h' => ?_) (fun f s' st' hf R' h' => ?_)) (fun _ _ h => h) fun _ _ e => e)
  · exact h' s' Q R' hn hx
  · have q := hx _ _ _ hf R' h'
    cases f with
    | next => exact absurd rfl hf
    | brk => exact wpAny_pure q
    | cont => exact wpAny_pure q
    | ret v => exact wpAny_pure q

theorem WPS.ret {e : Expr} (h : WPE c e st fun v st1 => Kx (.ret v) st1) : WPS c (.Return (some e) pos) st Kn Kx :=
  fun _ _ R _ hx => wpAny_Return_some (h _ _ _ R fun _ _ _ R1 h1 => hx _ _ _ (by intro e; cases e) R1 h1)
theorem WPS.brk (h : Kx .brk st) : WPS c (.Break pos) st Kn Kx := fun _ _ R _ hx => wpAny_Break (hx _ _ _ (by intro e; cases e) R h)
theorem WPS.cont (h : Kx .cont st) : WPS c (.Continue pos) st Kn Kx := fun _ _ R _ hx => wpAny_Continue (hx _ _ _ (by intro e; cases e) R h)
theorem WPS.ite {t : Expr} {b o : List Stmt} (h : WPT c t st (fun st1 => WPB c b st1 Kn Kx) (fun st1 => WPB c o st1 Kn Kx)) : WPS c (.If t b o pos) st Kn Kx :=
  fun _ _ R hn hx => wpAny_If (h _ _ _ R (fun _ _ R1 h1 => h1 _ _ R1 hn hx) (fun _ _ R1 h1 => h1 _ _ R1 hn hx))
theorem WPS.expr {e : Expr} (h : WPE c e st fun _ st1 => Kn st1) (hsw : ∀ line env, swapsWith e none line env = pure false := by intros; k_dflt exact rfl) : WPS c (.Expr e pos) st Kn Kx :=
  fun _ _ R hn _ => wpAny_Expr_any (h _ _ _ R fun _ _ _ R1 h1 => hn _ _ R1 h1) (by unfold interactive; first | rfl | (show (cs.kind == .module && _) = false; rw [R.1.hk]; rfl)) (hsw _ _)
theorem WPStore.mk {x : Str} {v : Value} (hx : cs.names.lookup x = some .local := by intros; k_dflt exact rfl) (h : Kn ⟨(x, v) :: fr, led, tk + 1⟩) : WPStore c x v ⟨fr, led, tk⟩ Kn := by
  rintro s Q E ⟨ok, hp, h', u, rfl, F, N⟩ hQ
  refine st_any F N (fun h2 F2 N2 => ?_) rfl hx (by
    show (cs.kind == .class || (cs.kind == .module && _)) = false
    rw [ok.hk]; rfl)
  exact hQ _ ⟨(x, v) :: fr, led, tk + 1⟩ ⟨ok, Nat.succ_pos _, h2, u, rfl, F2, N2⟩ h
theorem WPS.asg {x : Str} {px : Pos} {e : Expr} (h : WPE c e st fun v st1 => WPStore c x v st1 Kn) (hsw : ∀ t line env, swapsWith e t line env = pure false := by intros; k_dflt exact rfl) : WPS c (.Assign [.Name x px] e pos) st Kn Kx :=
  fun _ _ R hn _ => wpAny_Assign_Name (h _ _ _ R fun _ _ _ R1 h1 => h1 _ _ _ R1 hn) (hsw _ _ _)
theorem WPS.asgI {o i : Expr} {po : Pos} {e : Expr} (h : WPE c e st fun v st1 => WPE c o st1 fun x st2 => WPE c i st2 fun y st3 => WPSet c x y v st3 Kn) (hsw : ∀ t line env, swapsWith e t line env = pure false := by intros; k_dflt exact rfl) : WPS c (.Assign [.Subscript o i po] e pos) st Kn Kx :=
  fun _ _ R hn _ => wpAny_Assign_Subscript (h _ _ _ R fun _ _ _ R1 h1 => h1 _ _ _ R1 fun _ _ _ R2 h2 => h2 _ _ _ R2 fun _ _ _ R3 h3 => h3 _ _ _ R3 hn) (hsw _ _ _)
theorem WPSet.list {D : Addr} {k : Int} {t : Tok} {v : Value} {vs : List Value} {n : Nat} {led' : List (Addr × Obj)} (U : Upd D (listOf vs.toArray n) (listOf (vs.set k.toNat v).toArray n) led led') (h0 : 0 ≤ k) (h1 : k < vs.length) (hz : vs.length ≤ 1000) (h : Kn ⟨fr, led', tk⟩) :
    WPSet c (.ref D) (.int k t) v ⟨fr, led, tk⟩ Kn := by
  rintro s Q E ⟨ok, hp, h', u, rfl, F, N⟩ hQ
  exact set_N F N U h0 h1 (Nat.lt_of_le_of_lt hz (by decide)) fun h2 F2 N2 => hQ _ ⟨fr, led', tk⟩ ⟨ok, hp, h2, u, rfl, F2, N2⟩ h

theorem WPSet.listN {D : Addr} {k : Nat} {t : Tok} {v : Value} {vs : List Value} {n : Nat} {rest : List (Addr × Obj)} (hsep : ∀ p ∈ rest, p.1 ≠ D) (h1 : k < vs.length) (hz : vs.length ≤ 1000) (h : Kn ⟨fr, (D, listOf (vs.set k v).toArray n) :: rest, tk⟩) :
    WPSet c (.ref D) (.int k t) v ⟨fr, (D, listOf vs.toArray n) :: rest, tk⟩ Kn := WPSet.list (Upd.head hsep) (Int.natCast_nonneg _) (Int.ofNat_lt.mpr h1) hz h
/- a loop's turn is over: again with p' -/
noncomputable def Again {P : Type} (I : P → Prop) (mk : P → AS) (μ : P → Nat) (n : Nat) (st : AS) : Prop := ∃ p, μ p < n ∧ I p ∧ Sub st (mk p)
noncomputable def LoopX (ag Kn : AS → Prop) (Kx : Flow → AS → Prop) (f : Flow) (st : AS) : Prop := match f with
  | .ret v => Kx (.ret v) st
  | .brk => Kn st
  | _ => ag st
theorem LoopX.ret {ag : AS → Prop} {v : Value} (h : Kx (.ret v) st) : LoopX ag Kn Kx (.ret v) st := h
theorem LoopX.brk {ag : AS → Prop} (h : Kn st) : LoopX ag Kn Kx .brk st := h
theorem LoopX.cont {ag : AS → Prop} (h : ag st) : LoopX ag Kn Kx .cont st := h
theorem WPS.whl {t : Expr} {b : List Stmt} {P : Type} (I : P → Prop) (mk : P → AS) (μ : P → Nat) (p0 : P) (h0 : I p0) (hS : Sub st (mk p0))
    (turn : ∀ p, I p → WPT c t (mk p) (fun st1 => WPB c b st1 (Again I mk μ (μ p)) (LoopX (Again I mk μ (μ p)) Kn Kx)) Kn) : WPS c (.While t b [] pos) st Kn Kx := by
  intro s Q R hn hx
  refine my_while (fun m s' => ∃ p, m = μ p ∧ I p ∧ Re c s' (mk p)) (μ p0) ⟨p0, rfl, h0, hS.re R⟩ ?_
  rintro m s1 ⟨p, rfl, hI, R1⟩ _
  refine turn p hI _ _ _ R1 (fun s2 st2 R2 h2 => ?_) (fun s2 st2 R2 h2 => hn _ _ R2 h2)
  rw [if_pos rfl]
  have ag : ∀ s3 st3, Re c s3 st3 → Again I mk μ (μ p) st3 → WDone (fun m s' => ∃ p, m = μ p ∧ I p ∧ Re c s' (mk p)) (μ p) s3 := fun s3 st3 R3 ⟨p', hm, hI', hS'⟩ => ⟨μ p', hm, p', rfl, hI', hS'.re R3⟩
  refine h2 s2 _ R2 (fun s3 st3 R3 h3 => ag _ _ R3 h3) fun f s3 st3 hf R3 h3 => ?_
  cases f with
  | ret v => exact hx _ _ _ hf R3 h3
  | brk => exact hn _ _ R3 h3
  | next => exact absurd rfl hf
  | cont => exact ag _ _ R3 h3

/- ways meet: behind x the state is one of the family -/
theorem WPS.join {x : Stmt} {P : Type} (I : P → Prop) (mk : P → AS) (k : ∀ p, I p → Kn (mk p)) (h : WPS c x st (fun st1 => ∃ p, I p ∧ Sub st1 (mk p)) Kx) : WPS c x st Kn Kx :=
  fun _ _ R hn hx => h _ _ R (fun _ _ R1 ⟨p, hI, hS⟩ => hn _ _ (hS.re R1) (k p hI)) hx
/- the arguments of a call -/
theorem WPL.nil {K : List Value → AS → Prop} (h : K [] st) : WPL c pos [] st K := fun _ _ _ R hQ => args_nil (hQ _ _ _ R h)
theorem WPL.cons {e : Expr} {r : List Expr} {K : List Value → AS → Prop} (h : WPE c e st fun v st1 => WPL c pos r st1 fun vs st2 => K (v :: vs) st2) (he : ∀ env, starEach (e :: r) env = (false, eval e env) :: starEach r env := by intros; k_dflt exact rfl) : WPL c pos (e :: r) st K :=
  fun _ _ _ R hQ => args_cons (h _ _ _ R fun _ _ _ R1 h1 => h1 _ _ _ R1 fun _ _ _ R2 h2 => hQ _ _ _ R2 h2) (he _)
/- a def's call by its name -/
noncomputable abbrev IsDef (f : Addr) : Prop := ∀ w : World, ∃ o fd, (Mine.hd.heap_39 w.params).lookup f = some o ∧ o.data = .func fd
theorem WPE.call {x : Str} {px : Pos} {f : Addr} {e : Expr} {r : List Expr} (hg : GlobK x (.ref f) := by intro _; k_dflt k_is) (hf : IsDef f := by exact fun _ => ⟨_, _, by k_dflt k_is, rfl⟩) (hx : cs.names.lookup x = some .globalImplicit := by intros; k_dflt exact rfl) (hd : (x == Str.ofString "__debug__") = false := by intros; k_dflt exact rfl)
    (he : ∀ env, starEach (e :: r) env = (false, eval e env) :: starEach r env := by intros; k_dflt exact rfl) (h : WPL c pos (e :: r) st fun vs st1 => WPCall c (.ref f) vs st1 K) : WPE c (.Call (.Name x px) (e :: r) [] pos) st K := by
  intro s Q E R hQ
  refine Call_ (WPE.glob (K := fun v st1 => v = .ref f ∧ st1 = st) hg hx hd ⟨rfl, rfl⟩ s _ _ R ?_)
  rintro _ s1 _ R1 ⟨rfl, rfl⟩
  obtain ⟨o, fd, ho, hdat⟩ := hf c.w
  refine callWith_def hdat (h _ _ _ R1 fun vs s2 st2 R2 h2 => ⟨?_, h2 _ _ _ R2 hQ⟩) (he _)
  obtain ⟨ok, hp, h', u, rfl, F, N⟩ := R2
  exact F.keep _ _ (ok.X _ _ ho)
theorem WPE.callB {x : Str} {px : Pos} {id : String} {e : Expr} {r : List Expr} (hg : GlobB x (.builtin id) := by exact ⟨fun _ => by k_dflt k_is, by k_dflt exact rfl, by decide⟩) (hx : cs.names.lookup x = some .globalImplicit := by intros; k_dflt exact rfl) (hd : (x == Str.ofString "__debug__") = false := by intros; k_dflt exact rfl)
    (he : ∀ env, starEach (e :: r) env = (false, eval e env) :: starEach r env := by intros; k_dflt exact rfl) (hr : ∀ env, (backTo pos (starEach r env)).any (·.1) = false := by intros; k_dflt exact rfl) (h : WPL c pos (e :: r) st fun vs st1 => WPCall c (.builtin id) vs st1 K) : WPE c (.Call (.Name x px) (e :: r) [] pos) st K := by
  intro s Q E R hQ
  refine Call_ (WPE.globB (K := fun v st1 => v = .builtin id ∧ st1 = st) hg hx hd ⟨rfl, rfl⟩ s _ _ R ?_)
  rintro _ s1 _ R1 ⟨rfl, rfl⟩
  exact callWith_builtin1 (h _ _ _ R1 fun vs s2 st2 R2 h2 => h2 _ _ _ R2 hQ) (he _) (hr _)
theorem WPCall.use {f : Addr} {args : List Value} {nd' nu' : Nat} {Post : Value → List (Addr × Obj) → Prop} (C : Call c.w f args led nd' nu' Post) (hd : nd' < nd) (hu : nu' + 3 ≤ nu)
    (h : ∀ r led' tk', 0 < tk' → Post r led' → K r ⟨fr, led', tk'⟩) : WPCall c (.ref f) args ⟨fr, led, tk⟩ K := by
  rintro s Q E ⟨ok, hp, h', u, rfl, F, N⟩ hQ
  have h1 := ok.hd
  have h2 := ok.hu
  exact C.use ok.B F ok.X N ok.T ok.hk (by lia) (by lia) hp fun r led' h2 tk' ht F2 N2 hP => hQ _ _ ⟨fr, led', tk'⟩ ⟨ok, ht, h2, u, rfl, F2, N2⟩ (h _ _ _ ht hP)
theorem WPCall.len {D : Addr} {vs : List Value} {n : Nat} (hm : (D, listOf vs.toArray n) ∈ led) (hz : vs.length ≤ 1000) (h : K (.int vs.length (tk + 1)) ⟨fr, led, tk + 1 + 1⟩) : WPCall c (.builtin "len") [.ref D] ⟨fr, led, tk⟩ K := by
  rintro s Q E ⟨ok, hp, h', u, rfl, F, N⟩ hQ
  exact len_N N hm (Nat.lt_of_le_of_lt hz (by decide)) (hQ _ _ ⟨fr, led, tk + 1 + 1⟩ ⟨ok, Nat.succ_pos _, h', u, rfl, F, N⟩ h)

/- a body's end -/
noncomputable def EndN (Post : Value → List (Addr × Obj) → Prop) (st : AS) : Prop := ∃ led', (∀ p ∈ led', p ∈ st.led) ∧ Post .none led'
noncomputable def EndX (Post : Value → List (Addr × Obj) → Prop) (f : Flow) (st : AS) : Prop := ∃ led', (∀ p ∈ led', p ∈ st.led) ∧ Post (match f with | .ret v => v | _ => .none) led'
theorem EndN.mk {Post : Value → List (Addr × Obj) → Prop} (h : Post .none led) : EndN Post ⟨fr, led, tk⟩ := ⟨led, fun _ h => h, h⟩
theorem EndX.mk {Post : Value → List (Addr × Obj) → Prop} {v : Value} (h : Post v led) : EndX Post (.ret v) ⟨fr, led, tk⟩ := ⟨led, fun _ h => h, h⟩
theorem EndX.sub {Post : Value → List (Addr × Obj) → Prop} {v : Value} (led' : List (Addr × Obj)) (hs : ∀ p ∈ led', p ∈ led) (h : Post v led') : EndX Post (.ret v) ⟨fr, led, tk⟩ := ⟨led', hs, h⟩

theorem call_V (fr : List (Str × Value)) {w : World} {f : Addr} {args : List Value} {news : List (Addr × Obj)} {nd nu : Nat} {Post : Value → List (Addr × Obj) → Prop}
    {name qual : Str} {params : Arguments} {body : List Stmt} {scope : Scope} {dV kV doc pm cdv ct oc : Value} {an od : Option Addr} {osl : Array (Option Value)} {binds : List (Str × Value)}
    (ho : (Mine.hd.heap_39 w.params).lookup f = some ⟨oc, od, .func (fnOf name qual params body scope dV kV doc pm an cdv ct), osl⟩) (hcd : codeIn (Mine.hd.heap_39 w.params) cdv qual = true)
    (hbind : ∀ s : Shared, (Mine.hd.heap_39 w.params).In s.heap → BindsTo s (fnOf name qual params body scope dV kV doc pm an cdv ct) ⟨args, []⟩ binds) (hloc : ∀ y ∈ binds, scope.names.lookup y.1 = some .local)
    (hco : scope.isCoroutine = false) (hgen : scope.isGenerator = false) (hk : scope.kind = .function) (hcell : ∀ x ∈ scope.names, x.2 ≠ .cell)
    (hr : fr.map (fun p => binds.reverse.lookup p.1) = fr.map fun p => some p.2)
    (h : ∀ (c : Amb scope nd nu) (tk : Nat), 0 < tk → WPB c body ⟨fr, news, tk⟩ (EndN Post) (EndX Post)) : Call w f args news nd nu Post := by
  refine call_def ho hcd hbind hloc hco hgen hk hcell ?_
  intro p loose mean mg mb dp un gd outer A₀ base g L s B F X N T hd hu htk
  let c : Amb scope nd nu := ⟨w, dp, un, gd, qual, L, f, cdv, [], outer, g, s, A₀, base, p, loose, mean, mg, mb⟩
  refine h c s.toks htk s _ ⟨⟨B, X, T, hk, hd, hu⟩, htk, s.heap, _, rfl, fr_ps F fun p hp => List.map_inj_left.mp hr p hp, N⟩ (fun s' st' R' h' => ?_) (fun fl s' st' hf R' h' => ?_)
  · obtain ⟨led', hs, hP⟩ := h'
    obtain ⟨ok, hp, h', u, rfl, F', N'⟩ := R'
    exact ⟨h', _, _, led', rfl, F', News.sub N' hs, hP⟩
  · obtain ⟨led', hs, hP⟩ := h'
    obtain ⟨ok, hp, h', u, rfl, F', N'⟩ := R'
    exact ⟨h', _, _, led', rfl, F', News.sub N' hs, hP⟩
end
end Mine
end S_V

section S_Comps
set_option maxRecDepth 100000
namespace Mine
open PySem PySem.W PyProof.Rows PySem.Spec PySem.Calls PySem.SeqAt PyProof.Rows.LCg

section
variable {prog : Program} {w : World} {A : Around} {E : Value → Shared → Prop} {s : Shared} {h₀ : Heap} {L : Addr} {m : Str → Option Value} {env : Env} {news : List (Addr × Obj)}

/- one turn of a comprehension with one clause and no test, behind pyNext -/
noncomputable def CTurn (prog : Program) (w : World) (A : Around) (elt target : Expr) (it : Value) (cenv : Env) (D : Addr) (E : Value → Shared → Prop) (P : Shared → Prop) (r : Option Value) (s : Shared) : Prop :=
  ∃ v, r = some v ∧ wpAny (model prog w) A (letOwnedTupleGo target it v) (fun _ s₀ => wpAny (model prog w) A (assign target cenv v) (fun _ s₃ =>
    wpAny (model prog w) A (eval elt cenv) (fun x s₄ => wpAny (model prog w) A (call (.builtin "list.append") [.ref D, x]) (fun _ s₅ => P s₅) E s₄) E s₃) E s₀) E s

theorem comp_J {elt target iter : Expr} {scope : Scope} {cl : List (Str × Addr)} {pos : Pos} {it : Value} {n : Nat} {RR : Value → Addr → Result → Shared → Prop} (J : Addr → Addr → Nat → Shared → Prop)
    (hcell : ∀ y ∈ scope.names, y.2 ≠ .cell) (hkind : scope.kind = .function) (F : Fr h₀ L s.heap m) (N : News h₀ L s.heap news)
    (start : ∀ D C oC h', NsObj oC (fun _ => none) → Fr h₀ L h' m → News h₀ L h' ((C, oC) :: (D, listOf ([] : List Value).toArray 0) :: news) → (∀ p ∈ news, p.1 < D) → D < C → J D C 0 { s with heap := h' })
    (self : ∀ D C s₁ (Q : Value → Shared → Prop) E', J D C 0 s₁ → Q it s₁ → wpAny (model prog w) A (pyIter it) Q E' s₁)
    (turn : ∀ D C i s₁ E', i < n → J D C i s₁ → s.toks ≤ s₁.toks → wpAny (model prog w) A (pyNext it) (CTurn prog w A elt target it (compEnvC scope cl C env) D E' (J D C (i + 1))) E' s₁)
    (last : ∀ D C s₁ E', J D C n s₁ → s.toks ≤ s₁.toks → wpAny (model prog w) A (pyNext it) (fun r s' => r = none ∧ RR (.ref D) C (.ok .next) s') E' s₁) :
    wpAny (model prog w) A (newList []) (fun acc s₃ => wpAny (model prog w) A (newFunctionEnv scope env.globals cl [] env.qual none .none (some env)) (fun cenv s₄ =>
      codeAny (model prog w) A (.compStart (.ListComp elt [⟨target, iter, [], 0⟩] scope pos) 0 it acc { cenv with scope := relabel scope env }) (RR acc cenv.locals) s₄) E s₃) E s := by
  refine wpAny_newObj_type (wpAny_newFunctionEnv hcell (by intro y hy; simp at hy) (fun h₁ hns₁ hsb₁ => ?_) hkind)
  dsimp only at hns₁ hsb₁ ⊢
  generalize hH2 : s.heap.push { cls := .type "list", dict := none, data := .seq ([] : List Value).toArray } = H2 at hns₁ hsb₁ ⊢
  have hC : H2.objs.size = s.heap.objs.size + 1 := by rw [← hH2, Heap.size_push]
  have hDC : s.heap.objs.size ≠ H2.objs.size := by rw [hC]; exact Nat.ne_of_lt (Nat.lt_succ_self _)
  have below : ∀ b, b < s.heap.objs.size → b ≠ H2.objs.size ∧ b ≠ s.heap.objs.size := fun b hb => ⟨by rw [hC]; exact Nat.ne_of_lt (Nat.lt_succ_of_lt hb), Nat.ne_of_lt hb⟩
  have old : ∀ b o, s.heap.get? b = some o → h₁.get? b = some o := fun b o e => hsb₁.extBut b o (below b (Heap.lt_size e)).1 (Heap.get?_push_of_some _ (hH2 ▸ Heap.get?_push_of_some _ e))
  have hacc : h₁.get? s.heap.objs.size = some (listOf ([] : List Value).toArray 0) := hsb₁.extBut _ _ hDC (Heap.get?_push_of_some _ (hH2 ▸ Heap.get?_push_size _ rfl))
  have fresh : ∀ a, s.heap.objs.size ≤ a → s.heap.get? a = none := fun a ha => by
    cases e : s.heap.get? a with
    | none => rfl
    | some o' => exact absurd (Heap.lt_size e) (Nat.not_lt.mpr ha)
  have fresh₀ : ∀ a, s.heap.objs.size ≤ a → h₀.get? a = none := fun a ha => by
    cases e : h₀.get? a with
    | none => rfl
    | some o' => have := F.keep a o' e; rw [fresh a ha] at this; cases this
  have hD₀ : h₀.get? s.heap.objs.size = none := fresh₀ _ (Nat.le_refl _)
  have hC₀ : h₀.get? H2.objs.size = none := fresh₀ _ (by rw [hC]; exact Nat.le_succ _)
  have hLlt : L < s.heap.objs.size := F.ns.lt
  have hDL : s.heap.objs.size ≠ L := Ne.symm (below L hLlt).2
  have hCL : H2.objs.size ≠ L := Ne.symm (below L hLlt).1
  obtain ⟨oC, heC, hoC⟩ := ns_obj hns₁
  have J0 : J s.heap.objs.size H2.objs.size 0 { s with heap := h₁, toks := s.toks + ([] : List (Str × Value)).length } := by
    refine start s.heap.objs.size H2.objs.size oC h₁ (by simpa using hoC) (F.keeps old) (fun p hp => ?_) (fun p hp => Heap.lt_size (N p hp).1) (by rw [hC]; exact Nat.lt_succ_self _)
    rcases List.mem_cons.mp hp with rfl | hp
    · exact ⟨heC, hCL, hC₀⟩
    · rcases List.mem_cons.mp hp with rfl | hp
      · exact ⟨hacc, hDL, hD₀⟩
      · exact ⟨old _ _ (N p hp).1, (N p hp).2⟩
  have loop : ∀ s₃ : Shared, s₃ = { s with heap := h₁, toks := s.toks + ([] : List (Str × Value)).length } →
      codeAny (model prog w) A (.compLoop (.ListComp elt [⟨target, iter, [], 0⟩] scope pos) 0 it (.ref s.heap.objs.size) (compEnvC scope cl H2.objs.size env)) (RR (.ref s.heap.objs.size) H2.objs.size) s₃ := by
    rintro s₃ rfl
    refine kcp_loop (fun k s' => ∃ i, i ≤ n ∧ k = n + 1 - i ∧ J s.heap.objs.size H2.objs.size i s' ∧ s.toks ≤ s'.toks) ?_ (n + 1) ⟨0, Nat.zero_le _, rfl, J0, Nat.le_refl _⟩
    rintro k s₁ ⟨i, hi, rfl, hJ, hle⟩
    by_cases hlt : i < n
    · refine wpAny_mono (wpAny_le (wpAny_mono (turn _ _ i s₁ _ hlt hJ hle) (Q' := fun r s₂ => s₁.toks ≤ s₂.toks → CTurn prog w A elt target it _ _ _ _ r s₂ ∧ s.toks ≤ s₂.toks) (fun r s₂ h₂ h3 => ⟨h₂, Nat.le_trans hle h3⟩) fun _ _ e _ => e)) (fun r s₂ h₂ => ?_) fun _ _ e => e
      obtain ⟨⟨v, rfl, h₂⟩, hle2⟩ := h₂
      refine wpAny_mono (wpAny_le (wpAny_mono h₂ (Q' := fun _ s₃ => s₂.toks ≤ s₃.toks → _ ∧ s.toks ≤ s₃.toks) (fun r s₃ h₃ h3 => ⟨h₃, Nat.le_trans hle2 h3⟩) fun _ _ e _ => e)) (fun r s₃ h₃ => ?_) fun _ _ e => e
      obtain ⟨h₃, hle3⟩ := h₃
      refine wpAny_mono (wpAny_le (wpAny_mono h₃ (Q' := fun _ s₄ => s₃.toks ≤ s₄.toks → _ ∧ s.toks ≤ s₄.toks) (fun r s₄ h₄ h3 => ⟨h₄, Nat.le_trans hle3 h3⟩) fun _ _ e _ => e)) (fun r s₄ h₄ => ?_) fun _ _ e => e
      obtain ⟨h₄, hle4⟩ := h₄
      refine wpAny_mono (wpAny_le (wpAny_mono h₄ (Q' := fun _ s₅ => s₄.toks ≤ s₅.toks → _ ∧ s.toks ≤ s₅.toks) (fun r s₅ h₅ h3 => ⟨h₅, Nat.le_trans hle4 h3⟩) fun _ _ e _ => e)) (fun r s₅ h₅ => ?_) fun _ _ e => e
      obtain ⟨h₅, hle5⟩ := h₅
      refine wpAny_mono (wpAny_le (wpAny_mono h₅ (Q' := fun _ s₆ => s₅.toks ≤ s₆.toks → _ ∧ s.toks ≤ s₆.toks) (fun r s₆ h₆ h3 => ⟨h₆, Nat.le_trans hle5 h3⟩) fun _ _ e _ => e)) (fun r s₆ h₆ => ?_) fun _ _ e => e
      exact ⟨n + 1 - (i + 1), by lia, i + 1, hlt, rfl, h₆.1, h₆.2⟩
    · obtain rfl : i = n := Nat.le_antisymm hi (Nat.not_lt.mp hlt)
      refine wpAny_mono (last _ _ s₁ _ hJ hle) (fun r s₂ h₂ => ?_) fun _ _ e => e
      obtain ⟨rfl, h₂⟩ := h₂
      exact h₂
  exact codeAny_compStart_list (loop _ rfl) (self _ _ _ _ _ J0 (loop _ rfl))

/- the end of a comprehension: C's names go, D is the list -/
noncomputable def CEnd (h₀ : Heap) (L : Addr) (m : Str → Option Value) (s : Shared) (D C : Addr) (K : Heap → Nat → List (Addr × Obj) → Prop) (r : Option Value) (s' : Shared) : Prop :=
  r = none ∧ ∃ h tk oC mC oD news', s' = { s with heap := h, toks := tk } ∧ NsObj oC mC ∧ Fr h₀ L h m ∧ News h₀ L h ((C, oC) :: (D, oD) :: news') ∧ (∀ p ∈ news', p.1 ≠ C) ∧ D < C ∧ ∀ h' tk', tk ≤ tk' → (∀ b o, b ≠ C → b ≠ L → h.get? b = some o → h'.get? b = some o) → K h' tk' ((D, oD) :: news')

noncomputable def CVal (prog : Program) (w : World) (A : Around) (env : Env) (elt target iter : Expr) (scope : Scope) (cl : List (Str × Addr)) (pos : Pos) (use : Option (Value → Sem Unit)) (E : Value → Shared → Prop) (Q : Value → Shared → Prop) (it : Value) (s : Shared) : Prop :=
  wpAny (model prog w) A (newList []) (fun acc s₃ => wpAny (model prog w) A (newFunctionEnv scope env.globals cl [] env.qual none .none (some env)) (fun cenv s₄ =>
      codeAny (model prog w) A (.compStart (.ListComp elt [⟨target, iter, [], 0⟩] scope pos) 0 it acc { cenv with scope := relabel scope env }) (compPost (model prog w) A E use Q acc cenv.locals) s₄) E s₃) E s

theorem comp_val {elt target iter : Expr} {scope : Scope} {cl : List (Str × Addr)} {pos : Pos} {Q : Value → Shared → Prop}
    (hclos : closureFor scope env = pure cl) (hkind : scope.kind = .function) (hnames : ∀ y ∈ scope.names, y.2 = .local → scope.names.lookup y.1 = some .local)
    (h : wpAny (model prog w) A (eval iter env) (fun xv s₁ => wpAny (model prog w) A (pyIter xv) (CVal prog w A env elt target iter scope cl pos none E Q) E s₁) E s)
    (hs : ∀ x, foldedSetIterable iter env x = pure x := by intro _; rfl) :
    wpAny (model prog w) A (eval (.ListComp elt [⟨target, iter, [], 0⟩] scope pos) env) Q E s := by
  rw [eval_ListComp]
  exact wpAny_comprehension_free (use := none) rfl hs hclos hkind hnames h

theorem comp_asg {elt target iter : Expr} {y : Str} {py : Pos} {scope : Scope} {cl : List (Str × Addr)} {pos spos : Pos} {Q : Flow → Shared → Prop}
    (hsw : swapsWith (.ListComp elt [⟨target, iter, [], 0⟩] scope pos) (some (.Name y py)) spos.line env = pure true)
    (hclos : closureFor scope env = pure cl) (hkind : scope.kind = .function) (hnames : ∀ y ∈ scope.names, y.2 = .local → scope.names.lookup y.1 = some .local)
    (h : wpAny (model prog w) A (eval iter env) (fun xv s₁ => wpAny (model prog w) A (pyIter xv) (CVal prog w A env elt target iter scope cl pos (some (assign (.Name y py) env)) E (fun _ s' => Q .next s')) E s₁) E s)
    (hs : ∀ x, foldedSetIterable iter env x = pure x := by intro _; rfl) :
    wpAny (model prog w) A (exec (.Assign [.Name y py] (.ListComp elt [⟨target, iter, [], 0⟩] scope pos) spos) env) Q E s := by
  rw [exec_Assign_Name_used _ _ _ _ hsw]
  refine wpAny_bind (wpAny_standAt (wpAny_bind ?_))
  show wpAny _ A (do let _ ← comprehension (.ListComp elt [⟨target, iter, [], 0⟩] scope pos) scope env _ (newList []) false (eval iter env) (some (assign (.Name y py) env))) _ _ s
  exact wpAny_bind (wpAny_mono (wpAny_comprehension_free (use := some (assign (.Name y py) env)) (Q := fun _ s' => Q .next s') rfl hs hclos hkind hnames h) (fun _ s' hq => wpAny_pure (wpAny_pure hq)) fun _ _ e => e)

theorem cval_val {elt target iter : Expr} {scope : Scope} {cl : List (Str × Addr)} {pos : Pos} {Q : Value → Shared → Prop} {it : Value} (n : Nat) (J : Addr → Addr → Nat → Shared → Prop)
    (hcell : ∀ y ∈ scope.names, y.2 ≠ .cell) (hkind : scope.kind = .function) (F : Fr h₀ L s.heap m) (N : News h₀ L s.heap news)
    (start : ∀ D C oC h', NsObj oC (fun _ => none) → Fr h₀ L h' m → News h₀ L h' ((C, oC) :: (D, listOf ([] : List Value).toArray 0) :: news) → (∀ p ∈ news, p.1 < D) → D < C → J D C 0 { s with heap := h' })
    (self : ∀ D C s₁ (Q : Value → Shared → Prop) E', J D C 0 s₁ → Q it s₁ → wpAny (model prog w) A (pyIter it) Q E' s₁)
    (turn : ∀ D C i s₁ E', i < n → J D C i s₁ → s.toks ≤ s₁.toks → wpAny (model prog w) A (pyNext it) (CTurn prog w A elt target it (compEnvC scope cl C env) D E' (J D C (i + 1))) E' s₁)
    (last : ∀ D C s₁ E', J D C n s₁ → s.toks ≤ s₁.toks → wpAny (model prog w) A (pyNext it) (CEnd h₀ L m s D C (fun h' tk' nw => Fr h₀ L h' m → News h₀ L h' nw → Q (.ref D) { s with heap := h', toks := tk' })) E' s₁) :
    CVal prog w A env elt target iter scope cl pos none E Q it s := by
  refine comp_J J hcell hkind F N start self turn fun D C s₁ E' hJ hle => wpAny_mono (last D C s₁ E' hJ hle) (fun r s' h => ?_) fun _ _ e => e
  obtain ⟨rfl, h, tk, oC, mC, oD, news', rfl, hC, F', N', hsep, hDC, k⟩ := h
  refine ⟨rfl, mC, hC.ns (N' _ (.head _)).1, fun h'' hs => ?_⟩
  have zC := (N' _ (.head _)).2
  refine k h'' tk (Nat.le_refl _) (fun b o hb _ e => hs.extBut b o hb e) (F'.change hs zC.1 zC.2) fun p hp => ?_
  have z := N' p (.tail _ hp)
  refine ⟨hs.extBut _ _ ?_ z.1, z.2⟩
  rcases List.mem_cons.mp hp with rfl | hp
  · exact Nat.ne_of_lt hDC
  · exact hsep p hp

theorem cval_asg {elt target iter : Expr} {y : Str} {py : Pos} {scope : Scope} {cl : List (Str × Addr)} {pos : Pos} {Q : Value → Shared → Prop} {it : Value} (n : Nat) (J : Addr → Addr → Nat → Shared → Prop)
    (hcell : ∀ y ∈ scope.names, y.2 ≠ .cell) (hkind : scope.kind = .function) (F : Fr h₀ L s.heap m) (N : News h₀ L s.heap news) (hLe : env.locals = L)
    (hy : env.kindOf y = some .local) (hp : (env.scope.kind == .class || (env.scope.kind == .module && env.locals != env.globals)) = false)
    (start : ∀ D C oC h', NsObj oC (fun _ => none) → Fr h₀ L h' m → News h₀ L h' ((C, oC) :: (D, listOf ([] : List Value).toArray 0) :: news) → (∀ p ∈ news, p.1 < D) → D < C → J D C 0 { s with heap := h' })
    (self : ∀ D C s₁ (Q : Value → Shared → Prop) E', J D C 0 s₁ → Q it s₁ → wpAny (model prog w) A (pyIter it) Q E' s₁)
    (turn : ∀ D C i s₁ E', i < n → J D C i s₁ → s.toks ≤ s₁.toks → wpAny (model prog w) A (pyNext it) (CTurn prog w A elt target it (compEnvC scope cl C env) D E' (J D C (i + 1))) E' s₁)
    (last : ∀ D C s₁ E', J D C n s₁ → s.toks ≤ s₁.toks → wpAny (model prog w) A (pyNext it) (CEnd h₀ L m s D C (fun h' tk' nw => Fr h₀ L h' (fun z => if z = y then some (.ref D) else m z) → News h₀ L h' nw → Q .none { s with heap := h', toks := tk' })) E' s₁) :
    CVal prog w A env elt target iter scope cl pos (some (assign (.Name y py) env)) E Q it s := by
  subst hLe
  refine comp_J J hcell hkind F N start self turn fun D C s₁ E' hJ hle => wpAny_mono (last D C s₁ E' hJ hle) (fun r s' h => ?_) fun _ _ e => e
  obtain ⟨rfl, h, tk, oC, mC, oD, news', rfl, hC, F', N', hsep, hDC, k⟩ := h
  have zC := (N' _ (.head _)).2
  refine ⟨rfl, ?_⟩
  show wpAny _ A (assign (.Name y py) env (.ref D)) _ _ _
  refine wpAny_assign_Name (wpAny_storeName_local hy F'.ns (fun h₂ hn₂ hs₂ => ?_) hp)
  have hL₀ : h₀.get? env.locals = none := Heap.get?_none_of_le F'.above
  have F₂ : Fr h₀ env.locals h₂ (fun z => if z = y then some (.ref D) else m z) := ⟨hn₂, fun b o e => hs₂.extBut b o (fun q => by rw [q, hL₀] at e; cases e) (F'.keep b o e), F'.above⟩
  refine ⟨mC, (hC.ns (N' _ (.head _)).1).sameBut hs₂ zC.1, fun h'' hs => ?_⟩
  refine k h'' _ (Nat.le_succ _) (fun b o hb hbL e => hs.extBut b o hb (hs₂.extBut b o hbL e)) (F₂.change hs zC.1 zC.2) fun p hp => ?_
  have z := N' p (.tail _ hp)
  refine ⟨hs.extBut _ _ ?_ (hs₂.extBut _ _ z.2.1 z.1), z.2⟩
  rcases List.mem_cons.mp hp with rfl | hp
  · exact Nat.ne_of_lt hDC
  · exact hsep p hp

theorem as_comp1 {scope : Scope} {cl : List (Str × Addr)} {C : Addr} {oC : Obj} {mC : Str → Option Value} {x : Str} {px : Pos} {v : Value} {Q : Unit → Shared → Prop} (F : Fr h₀ L s.heap m) (N : News h₀ L s.heap ((C, oC) :: news)) (hC : NsObj oC mC) (hsep : ∀ p ∈ news, p.1 ≠ C)
    (h : ∀ h' oC' m', NsObj oC' m' → m' x = some v → (∀ z, z ≠ x → m' z = mC z) → Fr h₀ L h' m → News h₀ L h' ((C, oC') :: news) → Q () { s with heap := h', toks := s.toks + 1 })
    (hx : scope.names.lookup x = some .local := by rfl) (hkind : scope.kind = .function := by rfl) : wpAny (model prog w) A (assign (.Name x px) (compEnvC scope cl C env) v) Q E s := by
  have z := N _ (.head _)
  refine wpAny_assign_Name (wpAny_storeName_local (lookup_relabel_local hx) (hC.ns z.1) (fun h₃ hn₃ hs₃ => ?_) (by simp [compEnvC, relabel, hkind]))
  obtain ⟨oC', heC, hoC⟩ := ns_obj hn₃
  refine h h₃ oC' _ hoC (by simp) (fun q hq => by simp [hq]) (F.change hs₃ z.2.1 z.2.2) fun p hp => ?_
  rcases List.mem_cons.mp hp with rfl | hp
  · exact ⟨heC, z.2⟩
  · exact ⟨hs₃.extBut _ _ (hsep p hp) (N p (.tail _ hp)).1, (N p (.tail _ hp)).2⟩

theorem as_comp2 {scope : Scope} {cl : List (Str × Addr)} {C T : Addr} {oC : Obj} {mC : Str → Option Value} {a b : Str} {pa pb tp : Pos} {kk : Nat} {x y : Value} {Q : Unit → Shared → Prop} (hh : A.handled = none) (F : Fr h₀ L s.heap m) (N : News h₀ L s.heap ((C, oC) :: news)) (hC : NsObj oC mC) (hsep : ∀ p ∈ news, p.1 ≠ C)
    (hT : s.heap.IsTuple T #[x, y]) (hab : a ≠ b)
    (h : ∀ h' oC' m' tk', s.toks ≤ tk' → NsObj oC' m' → m' a = some x → m' b = some y → Fr h₀ L h' m → News h₀ L h' ((C, oC') :: news) → Q () { s with heap := h', toks := tk' })
    (hxa : scope.names.lookup a = some .local := by rfl) (hxb : scope.names.lookup b = some .local := by rfl) (hkind : scope.kind = .function := by rfl) :
    wpAny (model prog w) A (assign (.Tuple [.Name a pa, .Name b pb] kk tp) (compEnvC scope cl C env) (.ref T)) Q E s := by
  have z := N _ (.head _)
  refine wpAny_mono (wpAny_le (kcp_assign (env := compEnvC scope cl C env) (Q := fun _ s' => s.toks ≤ s'.toks → Q () s') (E := fun e s' => s.toks ≤ s'.toks → E e s') hh hT (lookup_relabel_local hxa) (lookup_relabel_local hxb) (by simp [compEnvC, relabel, hkind]) (hC.ns z.1) fun h₄ tk₄ hn₄ hs₄ hle => ?_)) (fun _ _ q => q) fun _ _ e => e
  obtain ⟨oC', heC, hoC⟩ := ns_obj hn₄
  refine h h₄ oC' _ tk₄ hle hoC (by simp [hab]) (by simp) ⟨F.ns.at' fun o e => hs₄ _ o (Ne.symm z.2.1) e, fun c o e => hs₄ c o (fun q => by have q' : c = C := q; rw [q', z.2.2] at e; cases e) (F.keep c o e), F.above⟩ fun p hp => ?_
  rcases List.mem_cons.mp hp with rfl | hp
  · exact ⟨heC, z.2⟩
  · exact ⟨hs₄ _ _ (hsep p hp) (N p (.tail _ hp)).1, (N p (.tail _ hp)).2⟩
theorem iter_listiter {I l : Addr} {o : Obj} {i : Nat} {Q : Value → Shared → Prop} (N : News h₀ L s.heap news) (hm : (I, o) ∈ news) (ho : ListIt o l i) (h : Q (.ref I) s) : wpAny (model prog w) A (pyIter (.ref I)) Q E s :=
  wpAny_pyIter_listiter ⟨o, (N _ hm).1, ho.1, ho.2⟩ h
end
end Mine
end S_Comps

section S_Ints
namespace Mine
open PySem
/- a list of ints -/
noncomputable def Ints (ps : List Value) (as : List Int) : Prop := ps.length = as.length ∧ ∀ i, i < as.length → ∃ t, ps.getD i .none = .int (as.getD i 0) t
theorem Ints.nil : Ints [] [] := ⟨rfl, fun _ h => absurd h (Nat.not_lt_zero _)⟩
theorem Ints.snoc {ps : List Value} {as : List Int} {a : Int} {t : Tok} (h : Ints ps as) : Ints (ps ++ [.int a t]) (as ++ [a]) := by
  refine ⟨by simp [h.1], fun i hi => ?_⟩
  simp only [List.length_append, List.length_singleton] at hi
  by_cases hlt : i < as.length
  · obtain ⟨u, hu⟩ := h.2 i hlt
    refine ⟨u, ?_⟩
    rw [List.getD_eq_getElem?_getD, List.getElem?_append_left (by rw [h.1]; exact hlt), ← List.getD_eq_getElem?_getD, hu,
      List.getD_eq_getElem?_getD (l := as ++ [a]), List.getElem?_append_left hlt, ← List.getD_eq_getElem?_getD]
  · have e : i = as.length := by lia
    subst e
    refine ⟨t, ?_⟩
    rw [List.getD_eq_getElem?_getD, List.getElem?_append_right (by rw [h.1]; exact Nat.le_refl _), h.1, Nat.sub_self, List.getD_eq_getElem?_getD (l := as ++ [a]), List.getElem?_append_right (Nat.le_refl _), Nat.sub_self]
    rfl
theorem Ints.at {ps : List Value} {as : List Int} {i : Nat} (h : Ints ps as) (hi : i < as.length) : ∃ t, ps.getD i .none = .int (as.getD i 0) t := h.2 i hi
theorem take_snoc {α : Type} {as : List α} {i : Nat} {d : α} (h : i < as.length) : as.take (i + 1) = as.take i ++ [as.getD i d] := by
  rw [List.take_add_one, List.getElem?_eq_getElem h, List.getD_eq_getElem?_getD, List.getElem?_eq_getElem h]; rfl
end Mine
end S_Ints

section S_CompG
set_option maxRecDepth 100000
namespace Mine
open PySem PySem.W PyProof.Rows PySem.Spec PySem.Calls PySem.SeqAt PyProof.Rows.LCg

/- what a comprehension draws from: the iterator's objects stand in the ledger as st -/
structure Src (prog : Program) (w : World) (A : Around) (h₀ : Heap) (L : Addr) (target : Expr) (scope : Scope) (cl : List (Str × Addr)) (env : Env) (it : Value) (n : Nat) (base : List (Addr × Obj))
    (IS : Nat → List (Addr × Obj) → Prop) (Bd : Nat → (Str → Option Value) → Prop) : Prop where
  step : ∀ (i : Nat) (st : List (Addr × Obj)) (C : Addr) (oC : Obj) (mC : Str → Option Value) (X : List (Addr × Obj)) (s : Shared) (m : Str → Option Value) (E : Value → Shared → Prop) (Q' : Shared → Prop),
    i < n → IS i st → (∀ q ∈ st, q.1 ≠ C ∧ ∀ p ∈ X, p.1 ≠ q.1) → (∀ p ∈ X, p.1 ≠ C) → (∀ p ∈ base, p ∈ X) → NsObj oC mC → Fr h₀ L s.heap m → News h₀ L s.heap (st ++ (C, oC) :: X) →
    (∀ h' tk' st' oC' mC', IS (i + 1) st' → (∀ q' ∈ st', ∃ q ∈ st, q.1 = q'.1) → NsObj oC' mC' → Bd i mC' → Fr h₀ L h' m → News h₀ L h' (st' ++ (C, oC') :: X) → Q' { s with heap := h', toks := tk' }) →
    wpAny (model prog w) A (pyNext it) (fun r s₁ => ∃ v, r = some v ∧ wpAny (model prog w) A (letOwnedTupleGo target it v) (fun _ s₂ => wpAny (model prog w) A (assign target (compEnvC scope cl C env) v) (fun _ s₃ => Q' s₃) E s₂) E s₁) E s
  done : ∀ (st X : List (Addr × Obj)) (s : Shared) (m : Str → Option Value) (E : Value → Shared → Prop) (Q' : Option Value → Shared → Prop),
    IS n st → (∀ q ∈ st, ∀ p ∈ X, p.1 ≠ q.1) → (∀ p ∈ base, p ∈ X) → Fr h₀ L s.heap m → News h₀ L s.heap (st ++ X) → (∀ h' tk', Fr h₀ L h' m → News h₀ L h' X → Q' none { s with heap := h', toks := tk' }) →
    wpAny (model prog w) A (pyNext it) Q' E s
  self : ∀ (st X : List (Addr × Obj)) (s : Shared) (E : Value → Shared → Prop) (Q' : Value → Shared → Prop), IS 0 st → News h₀ L s.heap (st ++ X) → Q' it s → wpAny (model prog w) A (pyIter it) Q' E s

theorem Upd.mid {D : Addr} {o o' : Obj} : ∀ {pre post : List (Addr × Obj)}, (∀ p ∈ pre, p.1 ≠ D) → (∀ p ∈ post, p.1 ≠ D) → Upd D o o' (pre ++ (D, o) :: post) (pre ++ (D, o') :: post)
  | [], _, _, h2 => .head h2
  | x :: pre, _, h1, h2 => .tail (h1 x (.head _)) (Upd.mid (fun p hp => h1 p (.tail _ hp)) h2)

section
variable {prog : Program} {w : World} {A : Around} {E : Value → Shared → Prop} {s : Shared} {h₀ : Heap} {L : Addr} {m : Str → Option Value} {env : Env} {news st₀ : List (Addr × Obj)}

/- the state between the turns -/
noncomputable def CInv (h₀ : Heap) (L : Addr) (m : Str → Option Value) (s : Shared) (news : List (Addr × Obj)) (IS : Nat → List (Addr × Obj) → Prop) (K : Nat → List Value → List (Addr × Obj) → Prop) (D C : Addr) (i : Nat) (s' : Shared) : Prop :=
  ∃ h tk ys k oC mC st acc, s' = { s with heap := h, toks := tk } ∧ Fr h₀ L h m ∧ NsObj oC mC ∧ News h₀ L h (st ++ (C, oC) :: (D, listOf ys.toArray k) :: (acc ++ news)) ∧ IS i st ∧ K i ys acc ∧
    (∀ q ∈ st, q.1 < D) ∧ (∀ q ∈ st, ∀ p ∈ news, p.1 ≠ q.1) ∧ (∀ p ∈ acc, C < p.1) ∧ (∀ p ∈ news, p.1 < D) ∧ D < C

/- the element -/
noncomputable def CElt (prog : Program) (w : World) (A : Around) (h₀ : Heap) (L : Addr) (m : Str → Option Value) (s : Shared) (news : List (Addr × Obj)) (IS : Nat → List (Addr × Obj) → Prop) (K : Nat → List Value → List (Addr × Obj) → Prop)
    (Bd : Nat → (Str → Option Value) → Prop) (elt : Expr) (scope : Scope) (cl : List (Str × Addr)) (env : Env) (n : Nat) : Prop :=
  ∀ (D C : Addr) (oC oD : Obj) (mC : Str → Option Value) (st : List (Addr × Obj)) (i : Nat) (ys : List Value) (acc : List (Addr × Obj)) (s' : Shared) (E' : Value → Shared → Prop), i < n → s.toks ≤ s'.toks → IS (i + 1) st → NsObj oC mC → Bd i mC → K i ys acc →
    Fr h₀ L s'.heap m → News h₀ L s'.heap (st ++ (C, oC) :: (D, oD) :: (acc ++ news)) → (∀ q ∈ st, q.1 < D) → (∀ q ∈ st, ∀ p ∈ news, p.1 ≠ q.1) → (∀ p ∈ acc, C < p.1) → (∀ p ∈ news, p.1 < D) → D < C →
    wpAny (model prog w) A (eval elt (compEnvC scope cl C env)) (fun v s'' => ∃ h' tk' ex, s'' = { s' with heap := h', toks := tk' } ∧ K (i + 1) (ys ++ [v]) (ex ++ acc) ∧ (∀ p ∈ ex, ∀ q ∈ st ++ (C, oC) :: (D, oD) :: (acc ++ news), q.1 < p.1) ∧
      Fr h₀ L h' m ∧ News h₀ L h' (ex ++ (st ++ (C, oC) :: (D, oD) :: (acc ++ news)))) E' s'

theorem cinv_turn {elt target : Expr} {scope : Scope} {cl : List (Str × Addr)} {it : Value} {n : Nat} {IS : Nat → List (Addr × Obj) → Prop} {Bd : Nat → (Str → Option Value) → Prop} {K : Nat → List Value → List (Addr × Obj) → Prop} {base : List (Addr × Obj)}
    (S : Src prog w A h₀ L target scope cl env it n base IS Bd) (hb : ∀ p ∈ base, p ∈ news) (hK : ∀ i ys acc, K i ys acc → ys.length = i) (hn : n ≤ 1000) (el : CElt prog w A h₀ L m s news IS K Bd elt scope cl env n)
    (D C : Addr) (i : Nat) (s₁ : Shared) (E' : Value → Shared → Prop) (hi : i < n) (hJ : CInv h₀ L m s news IS K D C i s₁) (hle : s.toks ≤ s₁.toks) :
    wpAny (model prog w) A (pyNext it) (CTurn prog w A elt target it (compEnvC scope cl C env) D E' (CInv h₀ L m s news IS K D C (i + 1))) E' s₁ := by
  obtain ⟨h, tk, ys, k, oC, mC, st, acc, rfl, F, hC, N, hI, hk, o1, o2, o3, o4, o5⟩ := hJ
  have xC : ∀ p ∈ (D, listOf ys.toArray k) :: (acc ++ news), p.1 ≠ C := fun p hp => by
    rcases List.mem_cons.mp hp with rfl | hp
    · exact Nat.ne_of_lt o5
    · rcases List.mem_append.mp hp with hp | hp
      · exact Nat.ne_of_gt (o3 p hp)
      · exact Nat.ne_of_lt (Nat.lt_trans (o4 p hp) o5)
  have xS : ∀ q ∈ st, q.1 ≠ C ∧ ∀ p ∈ (D, listOf ys.toArray k) :: (acc ++ news), p.1 ≠ q.1 := fun q hq => by
    refine ⟨Nat.ne_of_lt (Nat.lt_trans (o1 q hq) o5), fun p hp => ?_⟩
    rcases List.mem_cons.mp hp with rfl | hp
    · exact Nat.ne_of_gt (o1 q hq)
    · rcases List.mem_append.mp hp with hp | hp
      · exact Nat.ne_of_gt (Nat.lt_trans (Nat.lt_trans (o1 q hq) o5) (o3 p hp))
      · exact o2 q hq p hp
  refine wpAny_le (wpAny_mono (S.step i st C oC mC _ _ m E' (fun s₃ => s.toks ≤ s₃.toks → wpAny (model prog w) A (eval elt (compEnvC scope cl C env)) (fun x s₄ => wpAny (model prog w) A (call (.builtin "list.append") [.ref D, x]) (fun _ s₅ => CInv h₀ L m s news IS K D C (i + 1) s₅) E' s₄) E' s₃)
    hi hI xS xC (fun p hp => .tail _ (List.mem_append.mpr (.inr (hb p hp)))) hC F N ?_) (fun r s₂ h₂ hle2 => ?_) fun _ _ e _ => e)
  · intro h' tk' st' oC' mC' hI' hst' hC' hB' F' N' hle3
    have o1' : ∀ q ∈ st', q.1 < D := fun q hq => by obtain ⟨q0, h0, e⟩ := hst' q hq; rw [← e]; exact o1 q0 h0
    have o2' : ∀ q ∈ st', ∀ p ∈ news, p.1 ≠ q.1 := fun q hq => by obtain ⟨q0, h0, e⟩ := hst' q hq; rw [← e]; exact o2 q0 h0
    refine wpAny_mono (el D C oC' _ mC' st' i ys acc _ E' hi hle3 hI' hC' hB' hk F' N' o1' o2' o3 o4 o5) (fun v s₄ h₄ => ?_) fun _ _ e => e
    obtain ⟨h4, tk4, ex, rfl, hk4, hex, F4, N4⟩ := h₄
    have N5 : News h₀ L h4 ((st' ++ [(C, oC')]) ++ (D, listOf ys.toArray k) :: (ex ++ acc ++ news)) := News.sub N4 fun p hp => by
      simp only [List.mem_append, List.mem_cons, List.not_mem_nil, or_false] at hp ⊢
      rcases hp with (hp | hp) | hp | (hp | hp) | hp
      · exact .inr (.inl hp)
      · exact .inr (.inr (.inl hp))
      · exact .inr (.inr (.inr (.inl hp)))
      · exact .inl hp
      · exact .inr (.inr (.inr (.inr (.inl hp))))
      · exact .inr (.inr (.inr (.inr (.inr hp))))
    have hD : ∀ p ∈ ex, D < p.1 := fun p hp => hex p hp (D, _) (List.mem_append.mpr (.inr (.tail _ (.head _))))
    refine append_N F4 N5 (Upd.mid (fun p hp => ?_) fun p hp => ?_) (by rw [hK _ _ _ hk]; lia) fun h6 F6 N6 => ?_
    · rcases List.mem_append.mp hp with hp | hp
      · exact Nat.ne_of_lt (o1' p hp)
      · rw [List.mem_singleton.mp hp]; exact Nat.ne_of_gt o5
    · rcases List.mem_append.mp hp with hp | hp
      · rcases List.mem_append.mp hp with hp | hp
        · exact Nat.ne_of_gt (hD p hp)
        · exact Nat.ne_of_gt (Nat.lt_trans o5 (o3 p hp))
      · exact Nat.ne_of_lt (o4 p hp)
    · refine ⟨h6, _, ys ++ [v], k + 1, oC', mC', st', ex ++ acc, rfl, F6, hC', ?_, hI', hk4, o1', o2', ?_, o4, o5⟩
      · rw [List.append_assoc, List.singleton_append] at N6
        exact N6
      · intro p hp
        rcases List.mem_append.mp hp with hp | hp
        · exact hex p hp (C, _) (List.mem_append.mpr (.inr (.head _)))
        · exact o3 p hp
  · obtain ⟨v, rfl, h₂⟩ := h₂
    refine ⟨v, rfl, ?_⟩
    refine wpAny_mono (wpAny_le (wpAny_mono h₂ (Q' := fun _ s₃ => s₂.toks ≤ s₃.toks → _ ∧ s.toks ≤ s₃.toks) (fun r s₃ h₃ h3 => ⟨h₃, Nat.le_trans (Nat.le_trans hle hle2) h3⟩) fun _ _ e _ => e)) (fun r s₃ h₃ => ?_) fun _ _ e => e
    obtain ⟨h₃, hle3⟩ := h₃
    refine wpAny_mono (wpAny_le (wpAny_mono h₃ (Q' := fun _ s₄ => s₃.toks ≤ s₄.toks → _ ∧ s.toks ≤ s₄.toks) (fun r s₄ h₄ h3 => ⟨h₄, Nat.le_trans hle3 h3⟩) fun _ _ e _ => e)) (fun r s₄ h₄ => ?_) fun _ _ e => e
    exact h₄.1 h₄.2

theorem cinv_last {target : Expr} {scope : Scope} {cl : List (Str × Addr)} {it : Value} {n : Nat} {IS : Nat → List (Addr × Obj) → Prop} {Bd : Nat → (Str → Option Value) → Prop} {K : Nat → List Value → List (Addr × Obj) → Prop} {base : List (Addr × Obj)}
    (S : Src prog w A h₀ L target scope cl env it n base IS Bd) (hb : ∀ p ∈ base, p ∈ news) (KK : Addr → Heap → Nat → List (Addr × Obj) → Prop)
    (fin : ∀ D C ys k acc h' tk', s.toks ≤ tk' → K n ys acc → (∀ p ∈ news, p.1 < D) → D < C → (∀ p ∈ acc, C < p.1) → KK D h' tk' ((D, listOf ys.toArray k) :: (acc ++ news)))
    (D C : Addr) (s₁ : Shared) (E' : Value → Shared → Prop) (hJ : CInv h₀ L m s news IS K D C n s₁) (hle : s.toks ≤ s₁.toks) :
    wpAny (model prog w) A (pyNext it) (CEnd h₀ L m s D C (KK D)) E' s₁ := by
  obtain ⟨h, tk, ys, k, oC, mC, st, acc, rfl, F, hC, N, hI, hk, o1, o2, o3, o4, o5⟩ := hJ
  refine wpAny_le (wpAny_mono (S.done st _ _ m E' (fun r s' => tk ≤ s'.toks → CEnd h₀ L m s D C (KK D) r s') hI (fun q hq p hp => ?_) (fun p hp => .tail _ (.tail _ (List.mem_append.mpr (.inr (hb p hp))))) F N fun h' tk' F' N' hle2 => ?_) (fun _ _ q => q) fun _ _ e _ => e)
  · rcases List.mem_cons.mp hp with rfl | hp
    · exact Nat.ne_of_gt (Nat.lt_trans (o1 q hq) o5)
    rcases List.mem_cons.mp hp with rfl | hp
    · exact Nat.ne_of_gt (o1 q hq)
    · rcases List.mem_append.mp hp with hp | hp
      · exact Nat.ne_of_gt (Nat.lt_trans (Nat.lt_trans (o1 q hq) o5) (o3 p hp))
      · exact o2 q hq p hp
  · refine ⟨rfl, h', tk', oC, mC, _, acc ++ news, rfl, hC, F', N', fun p hp => ?_, o5, fun h2 tk2 ht2 _ => fin D C ys k acc h2 tk2 (Nat.le_trans hle (Nat.le_trans hle2 ht2)) hk o4 o5 o3⟩
    rcases List.mem_append.mp hp with hp | hp
    · exact Nat.ne_of_gt (o3 p hp)
    · exact Nat.ne_of_lt (Nat.lt_trans (o4 p hp) o5)

theorem cg_val {elt target iter : Expr} {scope : Scope} {cl : List (Str × Addr)} {pos : Pos} {Q : Value → Shared → Prop} {it : Value} {n : Nat} {IS : Nat → List (Addr × Obj) → Prop} {Bd : Nat → (Str → Option Value) → Prop} {base : List (Addr × Obj)} (K : Nat → List Value → List (Addr × Obj) → Prop)
    (S : Src prog w A h₀ L target scope cl env it n base IS Bd) (hb : ∀ p ∈ base, p ∈ news) (hK : ∀ i ys acc, K i ys acc → ys.length = i) (hn : n ≤ 1000)
    (hcell : ∀ y ∈ scope.names, y.2 ≠ .cell) (hkind : scope.kind = .function) (F : Fr h₀ L s.heap m) (N : News h₀ L s.heap (st₀ ++ news)) (h0 : IS 0 st₀) (hk0 : K 0 [] []) (hs0 : ∀ q ∈ st₀, ∀ p ∈ news, p.1 ≠ q.1)
    (el : CElt prog w A h₀ L m s news IS K Bd elt scope cl env n)
    (h : ∀ (D C : Addr) (ys : List Value) (k : Nat) (acc : List (Addr × Obj)) (h' : Heap) (tk' : Nat), s.toks ≤ tk' → K n ys acc → (∀ p ∈ news, p.1 < D) → D < C → (∀ p ∈ acc, C < p.1) → Fr h₀ L h' m → News h₀ L h' ((D, listOf ys.toArray k) :: (acc ++ news)) → Q (.ref D) { s with heap := h', toks := tk' }) :
    CVal prog w A env elt target iter scope cl pos none E Q it s :=
  cval_val n (CInv h₀ L m s news IS K) hcell hkind F N
    (fun D C oC h' hC F' N' hlD hDC => ⟨h', _, [], 0, oC, _, st₀, [], rfl, F', hC, News.sub N' (fun p hp => by
      simp only [List.mem_append, List.mem_cons, List.nil_append] at hp ⊢
      rcases hp with hp | hp | hp | hp
      · exact .inr (.inr (.inl hp))
      · exact .inl hp
      · exact .inr (.inl hp)
      · exact .inr (.inr (.inr hp))), h0, hk0, fun q hq => hlD q (List.mem_append.mpr (.inl hq)), hs0, (fun _ hp => nomatch hp), fun p hp => hlD p (List.mem_append.mpr (.inr hp)), hDC⟩)
    (fun D C s₁ Q' E' hJ hq => by
      obtain ⟨h', tk, ys, k, oC, mC, st, acc, rfl, F', hC, N', hI, _⟩ := hJ
      exact S.self st _ _ _ _ hI N' hq)
    (fun D C i s₁ E' hi hJ hle => cinv_turn S hb hK hn el D C i s₁ E' hi hJ hle)
    (fun D C s₁ E' hJ hle => cinv_last S hb (fun D h' tk' nw => Fr h₀ L h' m → News h₀ L h' nw → Q (.ref D) { s with heap := h', toks := tk' }) (fun D C ys k acc h' tk' a b c d e F' N' => h D C ys k acc h' tk' a b c d e F' N') D C s₁ E' hJ hle)

theorem cg_asg {elt target iter : Expr} {y : Str} {py : Pos} {scope : Scope} {cl : List (Str × Addr)} {pos : Pos} {Q : Value → Shared → Prop} {it : Value} {n : Nat} {IS : Nat → List (Addr × Obj) → Prop} {Bd : Nat → (Str → Option Value) → Prop} {base : List (Addr × Obj)} (K : Nat → List Value → List (Addr × Obj) → Prop)
    (S : Src prog w A h₀ L target scope cl env it n base IS Bd) (hb : ∀ p ∈ base, p ∈ news) (hK : ∀ i ys acc, K i ys acc → ys.length = i) (hn : n ≤ 1000)
    (hcell : ∀ y ∈ scope.names, y.2 ≠ .cell) (hkind : scope.kind = .function) (F : Fr h₀ L s.heap m) (N : News h₀ L s.heap (st₀ ++ news)) (hLe : env.locals = L)
    (hy : env.kindOf y = some .local) (hp : (env.scope.kind == .class || (env.scope.kind == .module && env.locals != env.globals)) = false) (h0 : IS 0 st₀) (hk0 : K 0 [] []) (hs0 : ∀ q ∈ st₀, ∀ p ∈ news, p.1 ≠ q.1)
    (el : CElt prog w A h₀ L m s news IS K Bd elt scope cl env n)
    (h : ∀ (D C : Addr) (ys : List Value) (k : Nat) (acc : List (Addr × Obj)) (h' : Heap) (tk' : Nat), s.toks ≤ tk' → K n ys acc → (∀ p ∈ news, p.1 < D) → D < C → (∀ p ∈ acc, C < p.1) → Fr h₀ L h' (fun z => if z = y then some (.ref D) else m z) → News h₀ L h' ((D, listOf ys.toArray k) :: (acc ++ news)) → Q .none { s with heap := h', toks := tk' }) :
    CVal prog w A env elt target iter scope cl pos (some (assign (.Name y py) env)) E Q it s :=
  cval_asg n (CInv h₀ L m s news IS K) hcell hkind F N hLe hy hp
    (fun D C oC h' hC F' N' hlD hDC => ⟨h', _, [], 0, oC, _, st₀, [], rfl, F', hC, News.sub N' (fun p hp => by
      simp only [List.mem_append, List.mem_cons, List.nil_append] at hp ⊢
      rcases hp with hp | hp | hp | hp
      · exact .inr (.inr (.inl hp))
      · exact .inl hp
      · exact .inr (.inl hp)
      · exact .inr (.inr (.inr hp))), h0, hk0, fun q hq => hlD q (List.mem_append.mpr (.inl hq)), hs0, (fun _ hp => nomatch hp), fun p hp => hlD p (List.mem_append.mpr (.inr hp)), hDC⟩)
    (fun D C s₁ Q' E' hJ hq => by
      obtain ⟨h', tk, ys, k, oC, mC, st, acc, rfl, F', hC, N', hI, _⟩ := hJ
      exact S.self st _ _ _ _ hI N' hq)
    (fun D C i s₁ E' hi hJ hle => cinv_turn S hb hK hn el D C i s₁ E' hi hJ hle)
    (fun D C s₁ E' hJ hle => cinv_last S hb (fun D h' tk' nw => Fr h₀ L h' (fun z => if z = y then some (.ref D) else m z) → News h₀ L h' nw → Q .none { s with heap := h', toks := tk' }) (fun D C ys k acc h' tk' a b c d e F' N' => h D C ys k acc h' tk' a b c d e F' N') D C s₁ E' hJ hle)

noncomputable def EDone (h₀ : Heap) (L : Addr) (m : Str → Option Value) (s' : Shared) (news : List (Addr × Obj)) (R : Value → Prop) (v : Value) (s'' : Shared) : Prop := ∃ h' tk', s'' = { s' with heap := h', toks := tk' } ∧ R v ∧ Fr h₀ L h' m ∧ News h₀ L h' news
theorem eDone {h₀ : Heap} {L : Addr} {m : Str → Option Value} {s' : Shared} {news : List (Addr × Obj)} {R : Value → Prop} {v : Value} {h' : Heap} {tk' : Nat} (hR : R v) (F : Fr h₀ L h' m) (N : News h₀ L h' news) : EDone h₀ L m s' news R v { s' with heap := h', toks := tk' } := ⟨_, _, rfl, hR, F, N⟩
/- the element of a comprehension that makes a plain list: item i has R i -/
noncomputable def CMap (prog : Program) (w : World) (A : Around) (h₀ : Heap) (L : Addr) (m : Str → Option Value) (s : Shared) (news : List (Addr × Obj)) (R : Nat → Value → Prop)
    (Bd : Nat → (Str → Option Value) → Prop) (elt : Expr) (scope : Scope) (cl : List (Str × Addr)) (env : Env) (n : Nat) : Prop :=
  ∀ (C : Addr) (oC : Obj) (mC : Str → Option Value) (X : List (Addr × Obj)) (i : Nat) (s' : Shared) (E' : Value → Shared → Prop), i < n → s.toks ≤ s'.toks → NsObj oC mC → Bd i mC →
    Fr h₀ L s'.heap m → News h₀ L s'.heap ((C, oC) :: (news ++ X)) → (∀ p ∈ news ++ X, p.1 < C) →
    wpAny (model prog w) A (eval elt (compEnvC scope cl C env)) (EDone h₀ L m s' ((C, oC) :: (news ++ X)) (R i)) E' s'

noncomputable def MapK (R : Nat → Value → Prop) (i : Nat) (ys : List Value) (acc : List (Addr × Obj)) : Prop := acc = [] ∧ ys.length = i ∧ ∀ j, j < i → R j (ys.getD j .none)
theorem mapK_zero {R : Nat → Value → Prop} : MapK R 0 [] [] := ⟨rfl, rfl, fun _ h => absurd h (Nat.not_lt_zero _)⟩
theorem cmap_elt {R : Nat → Value → Prop} {IS : Nat → List (Addr × Obj) → Prop} {Bd : Nat → (Str → Option Value) → Prop} {elt : Expr} {scope : Scope} {cl : List (Str × Addr)} {n : Nat}
    (el : CMap prog w A h₀ L m s news R Bd elt scope cl env n) : CElt prog w A h₀ L m s news IS (MapK R) Bd elt scope cl env n := by
  intro D C oC oD mC st i ys acc s' E' hi hle hI hC hB hk F N o1 o2 o3 o4 o5
  obtain ⟨rfl, hl, hR⟩ := hk
  refine wpAny_mono (el C oC mC ((D, oD) :: st) i s' E' hi hle hC hB F (News.sub N fun p hp => ?_) fun p hp => ?_) (fun v s'' h => ?_) fun _ _ e => e
  · simp only [List.mem_append, List.mem_cons, List.nil_append] at hp ⊢
    rcases hp with hp | hp | hp | hp
    · exact .inr (.inl hp)
    · exact .inr (.inr (.inr hp))
    · exact .inr (.inr (.inl hp))
    · exact .inl hp
  · rcases List.mem_append.mp hp with hp | hp
    · exact Nat.lt_trans (o4 p hp) o5
    · rcases List.mem_cons.mp hp with rfl | hp
      · exact o5
      · exact Nat.lt_trans (o1 p hp) o5
  · obtain ⟨h', tk', rfl, hr, F', N'⟩ := h
    refine ⟨h', tk', [], rfl, ⟨rfl, by rw [List.length_append, hl]; rfl, fun j hj => ?_⟩, (fun _ hp => nomatch hp), F', News.sub N' fun p hp => ?_⟩
    · rcases Nat.lt_or_eq_of_le (Nat.le_of_lt_succ hj) with hj | rfl
      · rw [getD_app_l (by lia)]; exact hR j hj
      · rw [getD_app_r (by lia), hl, Nat.sub_self]; exact hr
    · simp only [List.mem_append, List.mem_cons, List.nil_append] at hp ⊢
      rcases hp with hp | hp | hp | hp
      · exact .inr (.inr (.inr hp))
      · exact .inl hp
      · exact .inr (.inr (.inl hp))
      · exact .inr (.inl hp)

theorem cm_val {elt target iter : Expr} {scope : Scope} {cl : List (Str × Addr)} {pos : Pos} {Q : Value → Shared → Prop} {it : Value} {n : Nat} {IS : Nat → List (Addr × Obj) → Prop} {Bd : Nat → (Str → Option Value) → Prop} {base : List (Addr × Obj)} (R : Nat → Value → Prop)
    (S : Src prog w A h₀ L target scope cl env it n base IS Bd) (hb : ∀ p ∈ base, p ∈ news) (hn : n ≤ 1000)
    (hcell : ∀ y ∈ scope.names, y.2 ≠ .cell) (hkind : scope.kind = .function) (F : Fr h₀ L s.heap m) (N : News h₀ L s.heap (st₀ ++ news)) (h0 : IS 0 st₀) (hs0 : ∀ q ∈ st₀, ∀ p ∈ news, p.1 ≠ q.1)
    (el : CMap prog w A h₀ L m s news R Bd elt scope cl env n)
    (h : ∀ (D : Addr) (ys : List Value) (k : Nat) (h' : Heap) (tk' : Nat), s.toks ≤ tk' → ys.length = n → (∀ j, j < n → R j (ys.getD j .none)) → (∀ p ∈ news, p.1 < D) → Fr h₀ L h' m → News h₀ L h' ((D, listOf ys.toArray k) :: news) → Q (.ref D) { s with heap := h', toks := tk' }) :
    CVal prog w A env elt target iter scope cl pos none E Q it s :=
  cg_val (MapK R) S hb (fun _ _ _ h => h.2.1) hn hcell hkind F N h0 mapK_zero hs0 (cmap_elt el) fun D C ys k acc h' tk' a b c _ _ F' N' => by
    obtain ⟨rfl, b1, b2⟩ := b
    exact h D ys k h' tk' a b1 b2 c F' N'
theorem cm_asg {elt target iter : Expr} {y : Str} {py : Pos} {scope : Scope} {cl : List (Str × Addr)} {pos : Pos} {Q : Value → Shared → Prop} {it : Value} {n : Nat} {IS : Nat → List (Addr × Obj) → Prop} {Bd : Nat → (Str → Option Value) → Prop} {base : List (Addr × Obj)} (R : Nat → Value → Prop)
    (S : Src prog w A h₀ L target scope cl env it n base IS Bd) (hb : ∀ p ∈ base, p ∈ news) (hn : n ≤ 1000)
    (hcell : ∀ y ∈ scope.names, y.2 ≠ .cell) (hkind : scope.kind = .function) (F : Fr h₀ L s.heap m) (N : News h₀ L s.heap (st₀ ++ news)) (hLe : env.locals = L)
    (hy : env.kindOf y = some .local) (hp : (env.scope.kind == .class || (env.scope.kind == .module && env.locals != env.globals)) = false) (h0 : IS 0 st₀) (hs0 : ∀ q ∈ st₀, ∀ p ∈ news, p.1 ≠ q.1)
    (el : CMap prog w A h₀ L m s news R Bd elt scope cl env n)
    (h : ∀ (D : Addr) (ys : List Value) (k : Nat) (h' : Heap) (tk' : Nat), s.toks ≤ tk' → ys.length = n → (∀ j, j < n → R j (ys.getD j .none)) → (∀ p ∈ news, p.1 < D) → Fr h₀ L h' (fun z => if z = y then some (.ref D) else m z) → News h₀ L h' ((D, listOf ys.toArray k) :: news) → Q .none { s with heap := h', toks := tk' }) :
    CVal prog w A env elt target iter scope cl pos (some (assign (.Name y py) env)) E Q it s :=
  cg_asg (MapK R) S hb (fun _ _ _ h => h.2.1) hn hcell hkind F N hLe hy hp h0 mapK_zero hs0 (cmap_elt el) fun D C ys k acc h' tk' a b c _ _ F' N' => by
    obtain ⟨rfl, b1, b2⟩ := b
    exact h D ys k h' tk' a b1 b2 c F' N'

/- a list's iterator, one name -/
noncomputable def LS (I l : Addr) (i : Nat) (st : List (Addr × Obj)) : Prop := ∃ o, st = [(I, o)] ∧ ListIt o l i
theorem src_list {x : Str} {px : Pos} {scope : Scope} {cl : List (Str × Addr)} {I l : Addr} {vs : List Value} {k : Nat} (hh : A.handled = none)
    (hx : scope.names.lookup x = some .local := by rfl) (hkind : scope.kind = .function := by rfl) :
    Src prog w A h₀ L (.Name x px) scope cl env (.ref I) vs.length [(l, listOf vs.toArray k)] (LS I l) (fun i m' => m' x = some (vs.getD i .none)) where
  step := by
    rintro i st C oC mC X s m E Q' hi ⟨o, rfl, ho⟩ hs hC hb hN F N hQ
    have sep : ∀ p ∈ (C, oC) :: X, p.1 ≠ I := fun p hp => by
      rcases List.mem_cons.mp hp with rfl | hp
      · exact (hs (I, o) (.head _)).1.symm
      · exact (hs (I, o) (.head _)).2 p hp
    refine next_list F N ho (.tail _ (hb _ (.head _))) hi sep fun o' h' hI F' N' => ⟨_, rfl, wpAny_of_eq rfl ?_⟩
    have sepC : ∀ p ∈ (I, o') :: X, p.1 ≠ C := fun p hp => by
      rcases List.mem_cons.mp hp with rfl | hp
      · exact (hs (I, o) (.head _)).1
      · exact hC p hp
    refine as_comp1 F' (News.swap N') hN sepC (fun h5 oC' m' hC' hx' _ F5 N5 => ?_) hx hkind
    exact hQ h5 _ [(I, o')] oC' m' ⟨o', rfl, hI⟩ (fun q hq => ⟨(I, o), .head _, by rw [List.mem_singleton.mp hq]⟩) hC' hx' F5 (News.swap N5)
  done := by
    rintro st X s m E Q' ⟨o, rfl, ho⟩ hs hb F N hQ
    exact next_list_end hh F N ho (hb _ (.head _)) (Nat.le_refl _) (fun p hp => hs (I, o) (.head _) p hp) fun h' F' N' => hQ h' _ F' N'
  self := by
    rintro st X s E Q' ⟨o, rfl, ho⟩ N hQ
    exact iter_listiter N (.head _) ho hQ

theorem ld_own {scope : Scope} {cl : List (Str × Addr)} {C : Addr} {oC : Obj} {mC : Str → Option Value} {x : Str} {pos : Pos} {v : Value} {Q : Value → Shared → Prop} (N : News h₀ L s.heap ((C, oC) :: news)) (hC : NsObj oC mC) (hv : mC x = some v) (h : Q v s)
    (hk : (compEnvC scope cl C env).scope.kind = .function := by rfl) (hl : (compEnvC scope cl C env).kindOf x = some .local := by rfl) (hd : (x == ("__debug__" : Str)) = false := by decide) :
    wpAny (model prog w) A (eval (.Name x pos) (compEnvC scope cl C env)) Q E s := wpAny_Name (wpAny_loadName_local hk hl (hC.ns (N _ (.head _)).1) hv h) hd
end
theorem getD_map {α β : Type} {xs : List α} {f : α → β} {i : Nat} {d : α} {e : β} (h : i < xs.length) : (xs.map f).getD i e = f (xs.getD i d) := by
  rw [List.getD_eq_getElem?_getD, List.getD_eq_getElem?_getD, List.getElem?_map, List.getElem?_eq_getElem h]; rfl
end Mine
end S_CompG

section S_FloM
set_option maxRecDepth 100000
namespace Mine
open PySem PySem.W PyProof.Rows PySem.Spec PySem.Calls PySem.SeqAt
section
variable {prog : Program} {w : World} {A : Around} {E : Value → Shared → Prop} {s : Shared} {h₀ : Heap} {L D : Addr} {m : Str → Option Value} {news news' : List (Addr × Obj)} {a b c : Int} {t u v : Tok} {Q : Value → Shared → Prop}
theorem items2 {x y : Value} {i : Nat} {v : Value} (h : #[x, y][i]? = some v) : v = if i = 0 then x else y := by
  match i, h with
  | 0, h => exact (Option.some.inj h).symm
  | 1, h => exact (Option.some.inj h).symm
  | i + 2, h => simp at h
theorem float2 {i : Nat} {x : Value} (h : #[Value.float (fl a) t, .float (fl b) u][i]? = some x) : x = .float (fl (val2 a b i)) (tok2 t u i) := by
  rw [items2 h]
  unfold val2 tok2
  by_cases h0 : i = 0
  · simp [h0]
  · simp [h0]
theorem best2_min (x y : Int) : val2 x y (argBest (fun i j => decide (val2 x y i < val2 x y j)) 1) = min x y ∧ ∀ (t u : Tok), tok2 t u (argBest (fun i j => decide (val2 x y i < val2 x y j)) 1) = if y < x then u else t := by
  have e0 : val2 x y 0 = x := rfl
  have e1 : val2 x y 1 = y := rfl
  rw [arg1]
  by_cases h1 : y < x
  · have d1 : decide (val2 x y 1 < val2 x y 0) = true := by simp [e0, e1, h1]
    simp only [d1, if_true, if_pos h1]
    exact ⟨by rw [e1]; lia, fun _ _ => rfl⟩
  · have d1 : decide (val2 x y 1 < val2 x y 0) = false := by simp [e0, e1]; lia
    simp only [d1, Bool.false_eq_true, if_false, if_neg h1]
    exact ⟨by rw [e0]; lia, fun _ _ => rfl⟩
theorem min2F (hh : A.handled = none) (F : Fr h₀ L s.heap m) (N : News h₀ L s.heap news) (ha : a.natAbs < 2 ^ 52) (hb : b.natAbs < 2 ^ 52)
    (h : ∀ h' tk, s.toks ≤ tk → Fr h₀ L h' m → News h₀ L h' news → Q (.float (fl (min a b)) (if b < a then u else t)) { s with heap := h', toks := tk }) :
    wpAny (model prog w) A (call (.builtin "min") [.float (fl a) t, .float (fl b) u]) Q E s := by
  refine wpAny_le ?_
  have hT : (s.heap.push { cls := .type "tuple", data := .seq #[.float (fl a) t, .float (fl b) u] }).IsTuple s.heap.objs.size #[.float (fl a) t, .float (fl b) u] := ⟨_, Heap.get?_push_size _ rfl, rfl, 0, rfl⟩
  refine call_min_two (wpAny_pyIter_tuple hT ?_)
  have hsz : (s.heap.push { cls := .type "tuple", data := .seq #[Value.float (fl a) t, .float (fl b) u] }).objs.size = s.heap.objs.size + 1 := Heap.size_push ..
  refine ⟨_, [_, s.heap.objs.size], [_], 2, _, _, fun i j => decide (val2 a b i < val2 a b j), rfl, Walks.tuple (A := A.in1) hh _ s.heap.objs.size (by rw [hsz]; exact Nat.ne_of_lt (Nat.lt_succ_self _)) #[Value.float (fl a) t, .float (fl b) u],
    ⟨⟨_, Heap.get?_push_size _ rfl, rfl, rfl⟩, hT.push _⟩, fun c hc => ?_, by decide, ?_, fun x h' tk hP hk => ?_⟩
  · show c < ((s.heap.push _).push _).objs.size
    rw [Heap.size_push, hsz]
    rcases List.mem_cons.mp hc with rfl | hc
    · rw [hsz]; exact Nat.lt_succ_self _
    · rcases List.mem_cons.mp hc with rfl | hc
      · exact Nat.lt_succ_of_lt (Nat.lt_succ_self _)
      · cases hc
  · intro i j vi vj s' Q' E' hi hj hq
    rw [float2 hi, float2 hj]
    refine ltAt_float (t := tok2 t u i) (u := tok2 t u j) (a := val2 a b i) (b := val2 a b j) ?_ ?_ prog w E' Q' hq
    · unfold val2; split <;> assumption
    · unfold val2; split <;> assumption
  · have hold : ∀ c o, s.heap.get? c = some o → h'.get? c = some o := fun c o e => by
      refine hk c o (fun hm => ?_) (Heap.get?_push_of_some _ (Heap.get?_push_of_some _ e))
      rcases List.mem_cons.mp hm with e1 | hm
      · have := Heap.lt_size e; rw [e1, hsz] at this; exact Nat.lt_irrefl _ (Nat.lt_of_succ_lt this)
      · cases hm
    intro hle
    have hx := float2 hP
    rw [show (2 : Nat) - 1 = 1 from rfl, (best2_min a b).1, (best2_min a b).2] at hx
    rw [hx]
    exact h h' tk hle (F.grownK hold) (grow_N N hold)
end
end Mine
end S_FloM

section S_HeapP
namespace Mine
/- siftdown's loop: x is the new item, it may rise from pos to st -/
noncomputable def sdGo {α : Type} (lt : α → α → Bool) (d x : α) (st : Nat) : Nat → List α → Nat → List α
  | 0, xs, pos => xs.set pos x
  | f + 1, xs, pos => if st < pos then (if lt x (xs.getD ((pos - 1) / 2) d) then sdGo lt d x st f (xs.set pos (xs.getD ((pos - 1) / 2) d)) ((pos - 1) / 2) else xs.set pos x) else xs.set pos x
noncomputable def sd {α : Type} (lt : α → α → Bool) (d : α) (xs : List α) (st pos : Nat) : List α := sdGo lt d (xs.getD pos d) st pos xs pos

/- the smaller child (the right one where the left one is not smaller) -/
noncomputable def kid {α : Type} (lt : α → α → Bool) (d : α) (xs : List α) (en c : Nat) : Nat := if c + 1 < en ∧ lt (xs.getD c d) (xs.getD (c + 1) d) = false then c + 1 else c
noncomputable def suGo {α : Type} (lt : α → α → Bool) (d : α) (en : Nat) : Nat → List α → Nat → List α × Nat
  | 0, xs, pos => (xs, pos)
  | f + 1, xs, pos => if 2 * pos + 1 < en then suGo lt d en f (xs.set pos (xs.getD (kid lt d xs en (2 * pos + 1)) d)) (kid lt d xs en (2 * pos + 1)) else (xs, pos)
noncomputable def su {α : Type} (lt : α → α → Bool) (d : α) (xs : List α) (pos : Nat) : List α :=
  sd lt d ((suGo lt d xs.length xs.length xs pos).1.set (suGo lt d xs.length xs.length xs pos).2 (xs.getD pos d)) pos (suGo lt d xs.length xs.length xs pos).2

theorem sdGo_length {α : Type} {lt : α → α → Bool} {d x : α} {st : Nat} : ∀ (f : Nat) (xs : List α) (pos : Nat), (sdGo lt d x st f xs pos).length = xs.length
  | 0, xs, pos => by simp [sdGo]
  | f + 1, xs, pos => by
    rw [sdGo]
    split
    · split
      · rw [sdGo_length f]; simp
      · simp
    · simp
theorem sdGo_fuel {α : Type} {lt : α → α → Bool} {d x : α} {st : Nat} : ∀ (f g : Nat) (xs : List α) (pos : Nat), pos ≤ f → pos ≤ g → sdGo lt d x st f xs pos = sdGo lt d x st g xs pos
  | 0, 0, _, _, _, _ => rfl
  | 0, g + 1, xs, pos, h, _ => by
    have : pos = 0 := by lia
    subst this
    simp [sdGo]
  | f + 1, 0, xs, pos, _, h => by
    have : pos = 0 := by lia
    subst this
    simp [sdGo]
  | f + 1, g + 1, xs, pos, h1, h2 => by
    rw [sdGo, sdGo]
    split
    · split
      · exact sdGo_fuel f g _ _ (by lia) (by lia)
      · rfl
    · rfl
theorem kid_gt {α : Type} {lt : α → α → Bool} {d : α} {xs : List α} {en c : Nat} : c ≤ kid lt d xs en c := by
  unfold kid; split <;> lia
theorem kid_lt {α : Type} {lt : α → α → Bool} {d : α} {xs : List α} {en c : Nat} (h : c < en) : kid lt d xs en c < en := by
  unfold kid; split <;> lia
theorem suGo_fuel {α : Type} {lt : α → α → Bool} {d : α} {en : Nat} : ∀ (f g : Nat) (xs : List α) (pos : Nat), en ≤ f + pos → en ≤ g + pos → suGo lt d en f xs pos = suGo lt d en g xs pos
  | 0, 0, _, _, _, _ => rfl
  | 0, g + 1, xs, pos, h, _ => by
    have : ¬ 2 * pos + 1 < en := by lia
    simp [suGo, this]
  | f + 1, 0, xs, pos, _, h => by
    have : ¬ 2 * pos + 1 < en := by lia
    simp [suGo, this]
  | f + 1, g + 1, xs, pos, h1, h2 => by
    rw [suGo, suGo]
    split
    · have := @kid_gt α lt d xs en (2 * pos + 1)
      exact suGo_fuel f g _ _ (by lia) (by lia)
    · rfl
theorem suGo_step {α : Type} {lt : α → α → Bool} {d : α} {en f : Nat} {xs : List α} {pos c : Nat} (h : 2 * pos + 1 < en) (hf : en ≤ f + pos) (_hp : pos < en) (hc : kid lt d xs en (2 * pos + 1) = c) :
    suGo lt d en f xs pos = suGo lt d en (en - c) (xs.set pos (xs.getD c d)) c := by
  subst hc
  obtain ⟨j, rfl⟩ : ∃ j, f = j + 1 := ⟨f - 1, by lia⟩
  rw [suGo, if_pos h]
  have h1 := @kid_gt α lt d xs en (2 * pos + 1)
  have h2 := @kid_lt α lt d xs en (2 * pos + 1) h
  exact suGo_fuel _ _ _ _ (by lia) (by lia)
theorem suGo_stop {α : Type} {lt : α → α → Bool} {d : α} {en f : Nat} {xs : List α} {pos : Nat} (h : ¬ 2 * pos + 1 < en) : suGo lt d en f xs pos = (xs, pos) := by
  cases f with
  | zero => rfl
  | succ f => rw [suGo, if_neg h]

theorem getD_eq {α : Type} {xs : List α} {i : Nat} {d : α} (h : i < xs.length) : xs.getD i d = xs[i] := by
  rw [List.getD_eq_getElem?_getD, List.getElem?_eq_getElem h]; rfl
theorem set_getD {α : Type} {xs : List α} {i : Nat} {d : α} (h : i < xs.length) : xs.set i (xs.getD i d) = xs := by
  rw [getD_eq h]; exact List.set_getElem_self h
theorem swap_perm {α : Type} (ys : List α) (i j : Nat) (hi : i < ys.length) (hj : j < ys.length) : ((ys.set i ys[j]).set j ys[i]).Perm ys := by
  have h := Array.swap_perm (xs := ys.toArray) (i := i) (j := j) (by simpa using hi) (by simpa using hj)
  have h2 := Array.perm_iff_toList_perm.mp h
  simpa [Array.swap] using h2
theorem hole_perm {α : Type} (xs : List α) (d x : α) (i j : Nat) (hi : i < xs.length) (hj : j < xs.length) (hij : i ≠ j) : ((xs.set i (xs.getD j d)).set j x).Perm (xs.set i x) := by
  have h := swap_perm (xs.set i x) i j (by simpa using hi) (by simpa using hj)
  have e1 : (xs.set i x)[i]'(by simpa using hi) = x := by simp
  have e2 : (xs.set i x)[j]'(by simpa using hj) = xs[j] := by simp [List.getElem_set, hij]
  rw [e1, e2, List.set_set] at h
  rw [getD_eq hj]
  exact h
theorem sdGo_perm {α : Type} {lt : α → α → Bool} {d x : α} {st : Nat} : ∀ (f : Nat) (xs : List α) (pos : Nat), pos < xs.length → (sdGo lt d x st f xs pos).Perm (xs.set pos x)
  | 0, xs, pos, _ => .refl _
  | f + 1, xs, pos, h => by
    rw [sdGo]
    split
    · split
      · exact (sdGo_perm f _ _ (by simp; lia)).trans (hole_perm xs d x pos ((pos - 1) / 2) h (by lia) (by lia))
      · exact .refl _
    · exact .refl _
theorem sd_perm {α : Type} {lt : α → α → Bool} {d : α} {xs : List α} {st pos : Nat} (h : pos < xs.length) : (sd lt d xs st pos).Perm xs := by
  have := sdGo_perm (lt := lt) (d := d) (x := xs.getD pos d) (st := st) pos xs pos h
  rw [set_getD h] at this
  exact this
theorem suGo_perm {α : Type} {lt : α → α → Bool} {d : α} (x : α) : ∀ (f : Nat) (xs : List α) (pos : Nat), pos < xs.length → ((suGo lt d xs.length f xs pos).1.set (suGo lt d xs.length f xs pos).2 x).Perm (xs.set pos x) ∧ (suGo lt d xs.length f xs pos).2 < xs.length ∧ (suGo lt d xs.length f xs pos).1.length = xs.length
  | 0, xs, pos, h => ⟨.refl _, h, rfl⟩
  | f + 1, xs, pos, h => by
    rw [suGo]
    split
    · rename_i hc
      have h1 := @kid_gt α lt d xs xs.length (2 * pos + 1)
      have h2 := @kid_lt α lt d xs xs.length (2 * pos + 1) hc
      generalize hk : kid lt d xs xs.length (2 * pos + 1) = c at *
      have ih := suGo_perm (lt := lt) (d := d) x f (xs.set pos (xs.getD c d)) c (by simp; exact h2)
      rw [List.length_set] at ih
      exact ⟨ih.1.trans (hole_perm xs d x pos c h h2 (by lia)), ih.2.1, ih.2.2⟩
    · exact ⟨.refl _, h, rfl⟩
theorem su_perm {α : Type} {lt : α → α → Bool} {d : α} {xs : List α} {pos : Nat} (h : pos < xs.length) : (su lt d xs pos).Perm xs := by
  have := suGo_perm (lt := lt) (d := d) (xs.getD pos d) xs.length xs pos h
  rw [set_getD h] at this
  unfold su
  exact (sd_perm (by simp [this.2.2]; exact this.2.1)).trans this.1
theorem su_length {α : Type} {lt : α → α → Bool} {d : α} {xs : List α} {pos : Nat} (h : pos < xs.length) : (su lt d xs pos).length = xs.length := (su_perm h).length_eq

noncomputable def hfGo {α : Type} (lt : α → α → Bool) (d : α) : Nat → List α → List α
  | 0, xs => xs
  | k + 1, xs => hfGo lt d k (su lt d xs k)
noncomputable def hf {α : Type} (lt : α → α → Bool) (d : α) (xs : List α) : List α := hfGo lt d (xs.length / 2) xs
theorem hfGo_perm {α : Type} {lt : α → α → Bool} {d : α} : ∀ (k : Nat) (xs : List α), k ≤ xs.length → (hfGo lt d k xs).Perm xs
  | 0, _, _ => .refl _
  | k + 1, xs, h => by
    rw [hfGo]
    exact (hfGo_perm k _ (by rw [su_length h]; lia)).trans (su_perm h)
theorem hf_perm {α : Type} {lt : α → α → Bool} {d : α} {xs : List α} : (hf lt d xs).Perm xs := hfGo_perm _ _ (by lia)

/- heappop: what is left -/
noncomputable def hp {α : Type} (lt : α → α → Bool) (d : α) (xs : List α) : List α := if xs.length = 1 then [] else su lt d (xs.dropLast.set 0 (xs.getD (xs.length - 1) d)) 0
end Mine
end S_HeapP

section S_EqR
set_option maxRecDepth 100000
namespace Mine
open PySem PySem.W PyProof.Rows PySem.Spec PySem.Calls PySem.SeqAt
section
variable {prog : Program} {w : World} {A : Around} {E : Value → Shared → Prop} {s : Shared} {h₀ : Heap} {L D D' : Addr} {m : Str → Option Value} {news news' : List (Addr × Obj)} {Q : Value → Shared → Prop} {vs us : List Value} {n k : Nat}

theorem neL (N : News h₀ L s.heap news) (hm : (D, listOf vs.toArray n) ∈ news) (hm' : (D', listOf us.toArray k) ∈ news) (hl : vs.length = us.length) (e : Nat → Bool)
    (he : ∀ j, j < vs.length → EqAt A.in1 s (vs.getD j .none) (us.getD j .none) (e j)) (hu : A.units < cLine) (h : Q (.bool (!(List.range vs.length).all e)) s) :
    wpAny (model prog w) A (compareOp .NotEq (.ref D) (.ref D')) Q E s := by
  have hsz : vs.toArray.size = us.toArray.size := by simpa using hl
  refine cmp_ofNotEq (richCompare_meets_room (op := .NotEq) (a := .ref D) (b := .ref D') ⟨_, (N _ hm).1, rfl⟩ ⟨_, (N _ hm').1, rfl⟩ PySem.F.slot_list_ne PySem.F.entry_list_ne (PySem.F.args_list_ne_2 _ _)
    (list_neAt D D' vs.toArray us.toArray n k none none #[] #[] hsz e) ⟨(N _ hm).1, (N _ hm').1, fun j h1 h2 => ?_, ?_⟩ hu)
  · have h1' : j < vs.length := by simpa using h1
    have h2' : j < us.length := by simpa using h2
    have := he j h1'
    rw [getD_eq h1', getD_eq h2'] at this
    simpa using this
  · exact show Value.bool _ ≠ Value.notImplemented ∧ Q _ s from ⟨(fun x => nomatch x), by simpa using h⟩
theorem eqL (N : News h₀ L s.heap news) (hm : (D, listOf vs.toArray n) ∈ news) (hm' : (D', listOf us.toArray k) ∈ news) (hl : vs.length = us.length) (e : Nat → Bool)
    (he : ∀ j, j < vs.length → EqAt A.in1 s (vs.getD j .none) (us.getD j .none) (e j)) (hu : A.units < cLine) (h : Q (.bool ((List.range vs.length).all e)) s) :
    wpAny (model prog w) A (compareOp .Eq (.ref D) (.ref D')) Q E s := by
  have hsz : vs.toArray.size = us.toArray.size := by simpa using hl
  refine cmp_ofEq (richCompare_meets_room (op := .Eq) (a := .ref D) (b := .ref D') ⟨_, (N _ hm).1, rfl⟩ ⟨_, (N _ hm').1, rfl⟩ PySem.F.slot_list_eq PySem.F.entry_list_eq (PySem.F.args_list_eq_2 _ _)
    (list_eqAt D D' vs.toArray us.toArray n k none none #[] #[] hsz e) ⟨(N _ hm).1, (N _ hm').1, fun j h1 h2 => ?_, ?_⟩ hu)
  · have h1' : j < vs.length := by simpa using h1
    have h2' : j < us.length := by simpa using h2
    have := he j h1'
    rw [getD_eq h1', getD_eq h2'] at this
    simpa using this
  · exact show Value.bool _ ≠ Value.notImplemented ∧ Q _ s from ⟨(fun x => nomatch x), by simpa using h⟩
theorem neL_len (N : News h₀ L s.heap news) (hm : (D, listOf vs.toArray n) ∈ news) (hm' : (D', listOf us.toArray k) ∈ news) (hl : vs.length ≠ us.length) (hu : A.units < cLine) (h : Q (.bool true) s) :
    wpAny (model prog w) A (compareOp .NotEq (.ref D) (.ref D')) Q E s := by
  refine cmp_ofNotEq (richCompare_meets_room (op := .NotEq) (a := .ref D) (b := .ref D') ⟨_, (N _ hm).1, rfl⟩ ⟨_, (N _ hm').1, rfl⟩ PySem.F.slot_list_ne PySem.F.entry_list_ne (PySem.F.args_list_ne_2 _ _)
    (list_ne_lengthsAt D D' vs.toArray us.toArray n k none none #[] #[] (by simpa using hl)) ⟨(N _ hm).1, (N _ hm').1, ?_⟩ hu)
  exact show Value.bool _ ≠ Value.notImplemented ∧ Q _ s from ⟨(fun x => nomatch x), h⟩
theorem eqL_len (N : News h₀ L s.heap news) (hm : (D, listOf vs.toArray n) ∈ news) (hm' : (D', listOf us.toArray k) ∈ news) (hl : vs.length ≠ us.length) (hu : A.units < cLine) (h : Q (.bool false) s) :
    wpAny (model prog w) A (compareOp .Eq (.ref D) (.ref D')) Q E s := by
  refine cmp_ofEq (richCompare_meets_room (op := .Eq) (a := .ref D) (b := .ref D') ⟨_, (N _ hm).1, rfl⟩ ⟨_, (N _ hm').1, rfl⟩ PySem.F.slot_list_eq PySem.F.entry_list_eq (PySem.F.args_list_eq_2 _ _)
    (list_eq_lengthsAt D D' vs.toArray us.toArray n k none none #[] #[] (by simpa using hl)) ⟨(N _ hm).1, (N _ hm').1, ?_⟩ hu)
  exact show Value.bool _ ≠ Value.notImplemented ∧ Q _ s from ⟨(fun x => nomatch x), h⟩
/- a list beside the empty list -/
theorem neNil (N : News h₀ L s.heap news) (hm : (D, listOf vs.toArray n) ∈ news) (hm' : (D', listOf ([] : List Value).toArray k) ∈ news) (hu : A.units < cLine) (h : Q (.bool (!vs.isEmpty)) s) :
    wpAny (model prog w) A (compareOp .NotEq (.ref D) (.ref D')) Q E s := by
  cases vs with
  | nil => exact neL N hm hm' rfl (fun _ => true) (fun _ h => absurd h (Nat.not_lt_zero _)) hu h
  | cons v r => exact neL_len N hm hm' (by simp) hu h
theorem eqNil (N : News h₀ L s.heap news) (hm : (D, listOf vs.toArray n) ∈ news) (hm' : (D', listOf ([] : List Value).toArray k) ∈ news) (hu : A.units < cLine) (h : Q (.bool vs.isEmpty) s) :
    wpAny (model prog w) A (compareOp .Eq (.ref D) (.ref D')) Q E s := by
  cases vs with
  | nil => exact eqL N hm hm' rfl (fun _ => true) (fun _ h => absurd h (Nat.not_lt_zero _)) hu h
  | cons v r => exact eqL_len N hm hm' (by simp) hu h
theorem all_true {n : Nat} : (List.range n).all (fun _ => true) = true := by simp
/- two lists of the same ints -/
theorem neInts {as : List Int} (N : News h₀ L s.heap news) (hm : (D, listOf vs.toArray n) ∈ news) (hm' : (D', listOf us.toArray k) ∈ news) (ha : Ints vs as) (hb : Ints us as) (hu : A.units < cLine) (h : Q (.bool false) s) :
    wpAny (model prog w) A (compareOp .NotEq (.ref D) (.ref D')) Q E s := by
  refine neL N hm hm' (by rw [ha.1, hb.1]) (fun _ => true) (fun j hj => ?_) hu (by rw [all_true]; exact h)
  obtain ⟨t, e1⟩ := ha.2 j (by rw [← ha.1]; exact hj)
  obtain ⟨u, e2⟩ := hb.2 j (by rw [← ha.1]; exact hj)
  rw [e1, e2]
  have := eqAt_int (A := A.in1) (s := s) (a := as.getD j 0) (b := as.getD j 0) (t := t) (u := u)
  rwa [beq_self_eq_true] at this
/- two lists of the same doubles -/
theorem fls_eqAt {as : List Int} (nb : NoneBooked s.heap) (ha : Fls vs as) (hb : Fls us as) (hz : ∀ a ∈ as, a.natAbs < 2 ^ 52) (j : Nat) (hj : j < vs.length) : EqAt A s (vs.getD j .none) (us.getD j .none) true := by
  obtain ⟨t, ht, e1⟩ := ha.2 j (by rw [← ha.1]; exact hj)
  obtain ⟨u, hu, e2⟩ := hb.2 j (by rw [← ha.1]; exact hj)
  have hm := hz (as.getD j 0) (getD_mem (by rw [← ha.1]; exact hj))
  rw [e1, e2]
  have := eqAt_float (A := A) (s := s) (a := as.getD j 0) (b := as.getD j 0) (t := t) (u := u) nb ht hu (fun _ => rfl) hm hm
  rwa [decide_eq_true rfl] at this
theorem neFls {as : List Int} (F : Fr h₀ L s.heap m) (X : (Mine.hd.heap_39 w.params).In h₀) (N : News h₀ L s.heap news) (hm : (D, listOf vs.toArray n) ∈ news) (hm' : (D', listOf us.toArray k) ∈ news) (ha : Fls vs as) (hb : Fls us as) (hz : ∀ a ∈ as, a.natAbs < 2 ^ 52) (hu : A.units < cLine) (h : Q (.bool false) s) :
    wpAny (model prog w) A (compareOp .NotEq (.ref D) (.ref D')) Q E s :=
  neL N hm hm' (by rw [ha.1, hb.1]) (fun _ => true) (fun j hj => fls_eqAt (booked (X.keeps F.keep)) ha hb hz j hj) hu (by rw [all_true]; exact h)
theorem eqFls {as : List Int} (F : Fr h₀ L s.heap m) (X : (Mine.hd.heap_39 w.params).In h₀) (N : News h₀ L s.heap news) (hm : (D, listOf vs.toArray n) ∈ news) (hm' : (D', listOf us.toArray k) ∈ news) (ha : Fls vs as) (hb : Fls us as) (hz : ∀ a ∈ as, a.natAbs < 2 ^ 52) (hu : A.units < cLine) (h : Q (.bool true) s) :
    wpAny (model prog w) A (compareOp .Eq (.ref D) (.ref D')) Q E s :=
  eqL N hm hm' (by rw [ha.1, hb.1]) (fun _ => true) (fun j hj => fls_eqAt (booked (X.keeps F.keep)) ha hb hz j hj) hu (by rw [all_true]; exact h)
/- two triples of the same doubles -/
theorem neT3 {a b c : Int} {t1 t2 t3 u1 u2 u3 : Tok} (F : Fr h₀ L s.heap m) (X : (Mine.hd.heap_39 w.params).In h₀) (N : News h₀ L s.heap news) (hm : (D, tupO [.float (fl a) t1, .float (fl b) t2, .float (fl c) t3]) ∈ news) (hm' : (D', tupO [.float (fl a) u1, .float (fl b) u2, .float (fl c) u3]) ∈ news)
    (h1 : 0 < t1) (h2 : 0 < t2) (h3 : 0 < t3) (g1 : 0 < u1) (g2 : 0 < u2) (g3 : 0 < u3) (ha : a.natAbs < 2 ^ 52) (hb : b.natAbs < 2 ^ 52) (hc : c.natAbs < 2 ^ 52) (hu : A.units < cLine) (h : Q (.bool false) s) :
    wpAny (model prog w) A (compareOp .NotEq (.ref D) (.ref D')) Q E s := by
  have nb : NoneBooked s.heap := booked (X.keeps F.keep)
  have eq : ∀ {a : Int} {t u : Tok}, 0 < t → 0 < u → a.natAbs < 2 ^ 52 → EqAt A.in1 s (.float (fl a) t) (.float (fl a) u) true := fun {a t u} ht hu ha => by
    have := eqAt_float (A := A.in1) (s := s) (a := a) (b := a) (t := t) (u := u) nb ht hu (fun _ => rfl) ha ha
    rwa [decide_eq_true rfl] at this
  refine cmp_ofNotEq (richCompare_meets_room (op := .NotEq) (a := .ref D) (b := .ref D') ⟨_, (N _ hm).1, rfl⟩ ⟨_, (N _ hm').1, rfl⟩ PySem.F.slot_tuple_ne PySem.F.entry_tuple_ne (PySem.F.args_tuple_ne_2 _ _)
    (tuple_neAt D D' [Value.float (fl a) t1, .float (fl b) t2, .float (fl c) t3].toArray [Value.float (fl a) u1, .float (fl b) u2, .float (fl c) u3].toArray 0 0 none none #[] #[] (fun _ => true)) ⟨(N _ hm).1, (N _ hm').1, fun j j1 j2 => ?_, ?_⟩ hu)
  · match j, j1, j2 with
    | 0, _, _ => exact eq h1 g1 ha
    | 1, _, _ => exact eq h2 g2 hb
    | 2, _, _ => exact eq h3 g3 hc
    | j + 3, j1, _ => exact absurd j1 (by simp)
  · exact show Value.bool _ ≠ Value.notImplemented ∧ Q _ s from ⟨(fun x => nomatch x), h⟩
end
end Mine
end S_EqR

section S_SortR
set_option maxRecDepth 100000
namespace Mine
open PySem PySem.W PyProof.Rows PySem.Spec PySem.Calls PySem.SeqAt
section
variable {prog : Program} {w : World} {A : Around} {E : Value → Shared → Prop} {s : Shared} {h₀ : Heap} {L r : Addr} {m : Str → Option Value} {news : List (Addr × Obj)}

theorem collect_range {n : Nat} {t u v : Tok} {Q : List Value → Shared → Prop} (hh : A.handled = none) (hr : IsRange s.heap r 0 n 1 t u v) (hn : n ≤ 1000)
    (h : ∀ h' tk (vs : List Value), (∀ b o, s.heap.get? b = some o → h'.get? b = some o) → vs.length = n → (∀ i, i < n → ∃ t, vs[i]? = some (.int (i : Int) t)) → Q vs { s with heap := h', toks := tk }) :
    wpAny (model prog w) A (collect (.ref r)) Q E s := by
  have hS₁ : (s.heap.push { cls := .type "list", data := .seq ([] : List Value).toArray }).get? s.heap.objs.size = some { cls := .type "list", data := .seq ([] : List Value).toArray } := Heap.get?_push_size _ rfl
  have hr₁ : IsRange (s.heap.push { cls := .type "list", data := .seq ([] : List Value).toArray }) r 0 n 1 t u v := Heap.get?_push_of_some _ hr
  unfold collect
  refine wpAny_bind (wpAny_runValue (codeAny_builtin F.entry_proto_collect ?_))
  rw [Around.under_plainId F.plain_proto_collect _]
  show wpAny _ A.in1 (newList [] >>= fun l => again (.builtin "list.__iadd__" ⟨[l, .ref r], []⟩)) _ _ s
  refine wpAny_bind (wpAny_newObj_type ?_)
  refine wpAny_pure ⟨plainId_quiet F.plain_list_iadd _, codeAny_builtin F.entry_list_iadd ?_⟩
  rw [Around.under_plainId F.plain_list_iadd _]
  show wpAny _ A.in1 (Builtin.List.listExtendWith (.ref s.heap.objs.size) (.ref r) (.ref s.heap.objs.size)) _ _ _
  refine wpAny_extend_range (R := wants (fun v s' => wpAny (model prog w) A (match v with | .ref a => (load a >>= fun o => match o.data with | .seq xs _ => pure xs.toList | _ => unsupported "internal:collect") | _ => unsupported "internal:collect") Q E s') E) (s := { s with heap := s.heap.push { cls := .type "list", data := .seq ([] : List Value).toArray } }) (a := 0) (b := (n : Int)) (c := 1) (n := n) hh hr₁ (small_one (by lia) (by lia) (by lia) (by lia)) (by rw [rangeSize_one]; split <;> lia) (by lia) s.heap.objs.size _ 0 hS₁ fun h' tk acc' c' hk hS' hacc => ?_
  show wpAny _ A (load s.heap.objs.size >>= _) _ _ _
  refine wpAny_bind (wpAny_load hS' ?_)
  refine wpAny_pure (h h' tk acc'.toList (fun b o e => hk b o (Nat.ne_of_lt (Heap.lt_size e)) (Heap.get?_push_of_some _ e)) (by rw [Array.length_toList]; exact hacc.1) fun i hi => ?_)
  have hlt : i < acc'.size := by rw [hacc.1]; exact hi
  obtain ⟨t', ht'⟩ := hacc.2 i acc'[i] (Array.getElem?_eq_getElem hlt)
  refine ⟨t', ?_⟩
  rw [Array.getElem?_toList, Array.getElem?_eq_getElem hlt, ht']
  simp

noncomputable def valI (v : Value) : Int := match v with | .int a _ => a | _ => 0
theorem ints_of_val : ∀ (vs : List Value), (∀ v ∈ vs, ∃ a t, v = .int a t) → Ints vs (vs.map valI) := fun vs h => by
  refine ⟨by simp, fun i hi => ?_⟩
  have hi' : i < vs.length := by simpa using hi
  obtain ⟨a, t, e⟩ := h _ (getD_mem (d := Value.none) hi')
  refine ⟨t, ?_⟩
  rw [getD_map (d := Value.none) hi', e]
  rfl

theorem sorted_range {n : Nat} {t u v : Tok} {kz : List Int} {f : Value} {q : Addr} {Q : Value → Shared → Prop} (hh : A.handled = none) (F : Fr h₀ L s.heap m) (N : News h₀ L s.heap news) (hm : (r, rngO 0 n t u v) ∈ news) (hn : n ≤ 20) (hkz : kz.length = n) (hf : f = .ref q)
    (turn : ∀ (i : Nat) (t : Tok), i < n → ∀ (h : Heap) (tk : Nat) (own : List (Addr × Obj)), Fr h₀ L h m → News h₀ L h (news ++ own) →
      wpAny (model prog w) A.in1.in1 (call f [.int (i : Int) t]) (KskEnd h₀ L m (news ++ own) (kz.getD i 0) { s with heap := h, toks := tk }) (fun _ _ => False) { s with heap := h, toks := tk })
    (h : ∀ D h' tk out c ring, Fr h₀ L h' m → News h₀ L h' ((D, listOf out c) :: news) → (∀ q ∈ news, q.1 < D) → Ints out.toList ring → ring.Perm ((List.range n).map Int.ofNat) → ring.Pairwise (fun a b => kz.getD a.toNat 0 ≤ kz.getD b.toNat 0) → Q (.ref D) { s with heap := h', toks := tk }) :
    wpAny (model prog w) A (call (.builtin "sorted") [.ref r] [(Str.ofString "key", f)]) Q E s := by
  subst hf
  refine call_function_entry_kw kind_sorted plain_sorted entry_sorted (ksk_s1 _ _) ?_
  unfold Builtin.«sorted»
  refine wpAny_bind (m := checkCount "sorted" 1 1 _) (wpAny_pure ?_)
  refine wpAny_bind (collect_range hh (N _ hm).1 (by lia) fun h1 tk1 vs hk1 hlen hvs => ?_)
  refine wpAny_bind (wpAny_newList ?_ (by rw [sizeLine_eq]; lia))
  have F1 : Fr h₀ L h1 m := F.kept hk1
  have N1 : News h₀ L h1 news := N.grown hk1
  have hL : L < h1.objs.size := F1.ns.lt
  have hoL : (h1.push (seqObj "list" vs.toArray 0)).get? h1.objs.size = some (seqObj "list" vs.toArray 0) := Heap.get?_push_size _ rfl
  have keep : ∀ b o, h1.get? b = some o → (h1.push (seqObj "list" vs.toArray 0)).get? b = some o := fun b o e => Heap.get?_push_of_some _ e
  show wpAny _ _ _ _ _ { s with heap := h1.push (seqObj "list" vs.toArray 0), toks := tk1 }
  refine wpAny_bind (wpAny_holding (wpAny_call_entry_kw slot_list_sort ⟨_, hoL, rfl⟩ entry_list_sort ?body (ksk_l1 _ _)))
  case body =>
    show wpAny (model prog w) A.in1.in1 (Builtin.«list.sort» ⟨[.ref h1.objs.size], [(Str.ofString "key", .ref q)]⟩) _ _ _
    rw [ksk_t1]
    refine ksk_sort (b := false) (kz := kz) (vs := vs) (s := { s with heap := h1.push (seqObj "list" vs.toArray 0), toks := tk1 })
      (F1.kept keep) (N1.grown keep) hoL (Nat.ne_of_gt hL) (Heap.get?_none_of_le (Nat.le_trans F1.above (Nat.le_of_lt hL)))
      (fun p hp => Nat.ne_of_lt (Heap.lt_size (N1 p hp).1)) (by rw [hkz, hlen]) (by lia) ?turn fun h' tk out c F' N' k' => ⟨_, rfl, ?_⟩
    case turn =>
      intro i v' k hv hk h2 tk2 own F2 N2
      have hi : i < n := by
        rw [← hlen]
        rcases Nat.lt_or_ge i vs.length with h' | h'
        · exact h'
        · rw [List.getElem?_eq_none h'] at hv; cases hv
      obtain ⟨t', ht'⟩ := hvs i hi
      rw [ht'] at hv
      cases hv
      have e : k = kz.getD i 0 := by rw [List.getD_eq_getElem?_getD, hk]; rfl
      rw [e]
      exact turn i t' hi h2 tk2 own F2 N2
    obtain ⟨ps, hp, ho, hpw⟩ := k'
    have hvals : vs.map valI = (List.range n).map Int.ofNat := by
      apply List.ext_getElem?
      intro i
      rcases Nat.lt_or_ge i n with hi | hi
      · obtain ⟨t', ht'⟩ := hvs i hi
        rw [List.getElem?_map, ht', List.getElem?_map, List.getElem?_range hi]
        rfl
      · rw [List.getElem?_eq_none (by simp [hlen]; exact hi), List.getElem?_eq_none (by simpa using hi)]
    have hmem : ∀ p ∈ ps, ∃ i t', i < n ∧ p = (kz.getD i 0, .int (i : Int) t') := fun p hp' => by
      obtain ⟨i, hi, e⟩ := List.getElem_of_mem (hp.mem_iff.mp hp')
      have hi' : i < n := by simp [hkz, hlen] at hi; exact hi
      obtain ⟨t', ht'⟩ := hvs i hi'
      refine ⟨i, t', hi', ?_⟩
      rw [← e, List.getElem_zip]
      have e1 : kz[i]'(by lia) = kz.getD i 0 := (getD_eq (by lia)).symm
      have e2 : vs[i]'(by lia) = .int (i : Int) t' := by
        have := List.getElem?_eq_getElem (l := vs) (i := i) (by lia)
        rw [ht'] at this
        exact (Option.some.inj this).symm
      rw [e1, e2]
    refine wpAny_pure ⟨_, rfl, h _ h' tk out c (out.toList.map valI) F' N' (fun q hq => Heap.lt_size (N1 q hq).1) (ints_of_val _ fun v' hv' => ?_) ?_ ?_⟩
    · rw [ho] at hv'
      obtain ⟨p, hp', rfl⟩ := List.mem_map.mp hv'
      obtain ⟨i, t', _, rfl⟩ := hmem p hp'
      exact ⟨_, _, rfl⟩
    · rw [ho, ← hvals, List.map_map]
      have := hp.map (valI ∘ Prod.snd)
      rw [← List.map_map (l := kz.zip vs), List.map_snd_zip (by lia)] at this
      exact this
    · rw [ho, List.map_map, List.pairwise_map]
      refine List.Pairwise.imp_of_mem (fun {a b} ha hb hab => ?_) hpw
      obtain ⟨i, t1, _, rfl⟩ := hmem a ha
      obtain ⟨j, t2, _, rfl⟩ := hmem b hb
      simpa [valI] using hab
end
end Mine
end S_SortR

section S_ZipR
set_option maxRecDepth 100000
namespace Mine
open PySem PySem.W PyProof.Rows PySem.Spec PySem.Calls PySem.SeqAt PyProof.Rows.LCg
section
variable {prog : Program} {w : World} {A : Around} {E : Value → Shared → Prop} {s : Shared} {h₀ : Heap} {L r : Addr} {m : Str → Option Value} {news : List (Addr × Obj)} {env : Env}

theorem Fr.chg {h h' : Heap} {wr : List Addr} (F : Fr h₀ L h m) (hk : ∀ b o, b ∉ wr → h.get? b = some o → h'.get? b = some o) (hw : ∀ b ∈ wr, b ≠ L ∧ h₀.get? b = none) : Fr h₀ L h' m :=
  ⟨F.ns.at' fun o e => hk L o (fun hm => (hw L hm).1 rfl) e, fun b o e => hk b o (fun hm => by rw [(hw b hm).2] at e; cases e) (F.keep b o e), F.above⟩
theorem News.chg {h h' : Heap} {wr : List Addr} (N : News h₀ L h news) (hk : ∀ b o, b ∉ wr → h.get? b = some o → h'.get? b = some o) (hw : ∀ p ∈ news, p.1 ∉ wr) : News h₀ L h' news :=
  fun p hp => ⟨hk _ _ (hw p hp) (N p hp).1, (N p hp).2⟩

noncomputable abbrev zipO (f0 : Value) (Z : Addr) : Obj := { cls := .type "zip", dict := none, data := .fields #[f0, .bool false, .bool false, .ref (Z + 2), .ref (Z + 3)], slots := #[] }
noncomputable def ZS (Z l1 l2 : Addr) (i : Nat) (st : List (Addr × Obj)) : Prop :=
  ∃ o1 o2 a b, st = [(Z + 4, zipO .none Z), (Z + 2, tupO [.ref Z, .ref (Z + 1)]), (Z + 3, tupO [a, b]), (Z, o1), (Z + 1, o2)] ∧ ListIt o1 l1 i ∧ ListIt o2 l2 i

theorem zip_N {l1 l2 : Addr} {xs ys : List Value} {n1 n2 : Nat} {Q : Value → Shared → Prop} (F : Fr h₀ L s.heap m) (N : News h₀ L s.heap news) (hm1 : (l1, listOf xs.toArray n1) ∈ news) (hm2 : (l2, listOf ys.toArray n2) ∈ news)
    (h : ∀ Z st h', ZS Z l1 l2 0 st → Fr h₀ L h' m → News h₀ L h' (st ++ news) → (∀ p ∈ news, p.1 < Z) → (∀ q ∈ st, Z ≤ q.1) → Q (.ref (Z + 4)) { s with heap := h' }) : wpAny (model prog w) A (call (.type "zip") [.ref l1, .ref l2]) Q E s := by
  refine call_zip_2 (isL_N N hm1) (isL_N N hm2) fun h' hz hTI hTO hi1 hi2 hsz hk => ?_
  obtain ⟨o1, g1, c1, d1⟩ := hi1
  obtain ⟨o2, g2, c2, d2⟩ := hi2
  have hLs : L < s.heap.objs.size := F.ns.lt
  have fr : ∀ b, s.heap.objs.size ≤ b → b ≠ L ∧ h₀.get? b = none := fun b hb => ⟨Nat.ne_of_gt (Nat.lt_of_lt_of_le hLs hb), Heap.get?_none_of_le (Nat.le_trans F.above (Nat.le_trans (Nat.le_of_lt hLs) hb))⟩
  refine h s.heap.objs.size _ h' ⟨o1, o2, .none, .none, rfl, ⟨c1, d1⟩, ⟨c2, d2⟩⟩ (F.kept hk) (fun p hp => ?_) (fun p hp => Heap.lt_size (N p hp).1) (fun q hq => ?_)
  · rcases List.mem_append.mp hp with hp | hp
    · simp only [List.mem_cons, List.not_mem_nil, or_false] at hp
      rcases hp with rfl | rfl | rfl | rfl | rfl
      · exact ⟨hz, fr _ (Nat.le_add_right _ _)⟩
      · exact ⟨hTI, fr _ (Nat.le_add_right _ _)⟩
      · exact ⟨hTO, fr _ (Nat.le_add_right _ _)⟩
      · exact ⟨g1, fr _ (Nat.le_refl _)⟩
      · exact ⟨g2, fr _ (Nat.le_add_right _ _)⟩
    · exact ⟨hk _ _ (N p hp).1, (N p hp).2⟩
  · simp only [List.mem_cons, List.not_mem_nil, or_false] at hq
    rcases hq with rfl | rfl | rfl | rfl | rfl
    · exact Nat.le_add_right _ _
    · exact Nat.le_add_right _ _
    · exact Nat.le_add_right _ _
    · exact Nat.le_refl _
    · exact Nat.le_add_right _ _

theorem ne_add {Z : Addr} (i j : Nat) (h : i ≠ j) : Z + i ≠ Z + j := by intro e; exact h (Nat.add_left_cancel e)
theorem ne_add0 {Z : Addr} (j : Nat) (h : 0 < j) : Z ≠ Z + j := by intro e; have : Z + 0 = Z + j := e; have := Nat.add_left_cancel this; lia
theorem zip_apart {Z l1 l2 : Addr} {i : Nat} {st X : List (Addr × Obj)} {o1 o2 : Obj} (hst : ZS Z l1 l2 i st) (hs : ∀ q ∈ st, ∀ p ∈ X, p.1 ≠ q.1) (hm1 : (l1, o1) ∈ X) (hm2 : (l2, o2) ∈ X) : ZipApart (Z + 4) (Z + 2) (Z + 3) Z (Z + 1) l1 l2 := by
  obtain ⟨_, _, _, _, rfl, _, _⟩ := hst
  have a4 := hs _ (.head _)
  have a3 := hs _ (.tail _ (.tail _ (.head _)))
  have a0 := hs _ (.tail _ (.tail _ (.tail _ (.head _))))
  have a1 := hs _ (.tail _ (.tail _ (.tail _ (.tail _ (.head _)))))
  exact ⟨ne_add 2 4 (by decide), ne_add 3 4 (by decide), ne_add0 4 (by decide), ne_add 1 4 (by decide), ne_add 2 3 (by decide), (ne_add0 2 (by decide)).symm, ne_add 2 1 (by decide), (ne_add0 3 (by decide)).symm, ne_add 3 1 (by decide), ne_add0 1 (by decide),
    a4 _ hm1, a3 _ hm1, a0 _ hm1, a1 _ hm1, a4 _ hm2, a3 _ hm2, a0 _ hm2, a1 _ hm2⟩

/- one draw from a zip of two lists: the pair T stands in the ledger, the zip waits for the target to take it -/
theorem next_zip {Z l1 l2 : Addr} {i : Nat} {st X : List (Addr × Obj)} {xs ys : List Value} {n1 n2 : Nat} {Q : Option Value → Shared → Prop} (F : Fr h₀ L s.heap m) (N : News h₀ L s.heap (st ++ X)) (hst : ZS Z l1 l2 i st) (hs : ∀ q ∈ st, ∀ p ∈ X, p.1 ≠ q.1)
    (hm1 : (l1, listOf xs.toArray n1) ∈ X) (hm2 : (l2, listOf ys.toArray n2) ∈ X) (hi1 : i < xs.length) (hi2 : i < ys.length)
    (h : ∀ T st' h', (∀ p ∈ st ++ X, p.1 < T) → ZS Z l1 l2 (i + 1) st' → (∀ q' ∈ st', ∃ q ∈ st, q.1 = q'.1) → Fr h₀ L h' m → News h₀ L h' ((T, tupO [xs.getD i .none, ys.getD i .none]) :: X) → h'.IsTuple T #[xs.getD i .none, ys.getD i .none] →
      (∀ (elts : List Expr) (k : Nat) (pos : Pos) (s' : Shared) (E' : Value → Shared → Prop) (Q' : Unit → Shared → Prop), s'.heap = h' → (∀ h2, Fr h₀ L h2 m → News h₀ L h2 (st' ++ (T, tupO [xs.getD i .none, ys.getD i .none]) :: X) → h2.IsTuple T #[xs.getD i .none, ys.getD i .none] → Q' () { s' with heap := h2 }) →
        wpAny (model prog w) A (letOwnedTupleGo (.Tuple elts k pos) (.ref (Z + 4)) (.ref T)) Q' E' s') →
      Q (some (.ref T)) { s with heap := h' }) : wpAny (model prog w) A (pyNext (.ref (Z + 4))) Q E s := by
  have D := zip_apart hst hs hm1 hm2
  obtain ⟨o1, o2, a, b, rfl, ⟨c1, d1⟩, ⟨c2, d2⟩⟩ := hst
  have g4 := N _ (List.mem_append_left _ (.head _))
  have g2 := N _ (List.mem_append_left _ (.tail _ (.head _)))
  have g3 := N _ (List.mem_append_left _ (.tail _ (.tail _ (.head _))))
  have g0 := N _ (List.mem_append_left _ (.tail _ (.tail _ (.tail _ (.head _)))))
  have g1 := N _ (List.mem_append_left _ (.tail _ (.tail _ (.tail _ (.tail _ (.head _))))))
  have NX : News h₀ L s.heap X := fun p hp => N p (List.mem_append_right _ hp)
  refine wpAny_pyNext_zip_item D g4.1 g2.1 g3.1 ⟨o1, g0.1, c1, d1⟩ ⟨o2, g1.1, c2, d2⟩ (isL_N NX hm1) (isL_N NX hm2) (x := xs.getD i .none) (y := ys.getD i .none) (by simp [hi1]) (by simp [hi2]) fun h' hz' hTO' hi1' hi2' hT' hsz' hk' => ?_
  obtain ⟨o1', e1', c1', d1'⟩ := hi1'
  obtain ⟨o2', e2', c2', d2'⟩ := hi2'
  have hlt : ∀ p ∈ [((Z + 4, zipO .none Z) : Addr × Obj), (Z + 2, tupO [.ref Z, .ref (Z + 1)]), (Z + 3, tupO [a, b]), (Z, o1), (Z + 1, o2)] ++ X, p.1 < s.heap.objs.size := fun p hp => Heap.lt_size (N p hp).1
  have hLs : L < s.heap.objs.size := F.ns.lt
  have hTL : s.heap.objs.size ≠ L := Nat.ne_of_gt hLs
  have hT0 : h₀.get? s.heap.objs.size = none := Heap.get?_none_of_le (Nat.le_trans F.above (Nat.le_of_lt hLs))
  have hwr : ∀ c, c ∈ [Z + 4, Z + 3, Z, Z + 1] → c ≠ L ∧ h₀.get? c = none := fun c hc => by
    simp only [List.mem_cons, List.not_mem_nil, or_false] at hc
    rcases hc with rfl | rfl | rfl | rfl
    · exact g4.2
    · exact g3.2
    · exact g0.2
    · exact g1.2
  have hk2 : ∀ c o, c ∉ [Z + 4, Z + 3, Z, Z + 1] → s.heap.get? c = some o → h'.get? c = some o := fun c o hc e => by
    simp only [List.mem_cons, List.not_mem_nil, or_false, not_or] at hc
    exact hk' c o hc.1 hc.2.1 hc.2.2.1 hc.2.2.2 e
  have F' : Fr h₀ L h' m := Fr.chg F hk2 hwr
  have hXw : ∀ p ∈ X, p.1 ∉ [Z + 4, Z + 3, Z, Z + 1] := fun p hp hc => by
    simp only [List.mem_cons, List.not_mem_nil, or_false] at hc
    rcases hc with e | e | e | e
    · exact hs _ (.head _) p hp e
    · exact hs _ (.tail _ (.tail _ (.head _))) p hp e
    · exact hs _ (.tail _ (.tail _ (.tail _ (.head _)))) p hp e
    · exact hs _ (.tail _ (.tail _ (.tail _ (.tail _ (.head _))))) p hp e
  have NX' : News h₀ L h' X := News.chg NX hk2 hXw
  have hTI' := hk2 (Z + 2) _ (by simp only [List.mem_cons, List.not_mem_nil, or_false, not_or]; exact ⟨D.TIz, D.TITO, D.TIi1, D.TIi2⟩) g2.1
  refine h s.heap.objs.size [(Z + 4, zipO .none Z), (Z + 2, tupO [.ref Z, .ref (Z + 1)]), (Z + 3, tupO [xs.getD i .none, ys.getD i .none]), (Z, o1'), (Z + 1, o2')] h' hlt ⟨o1', o2', _, _, rfl, ⟨c1', d1'⟩, ⟨c2', d2'⟩⟩ ?_ F' (fun p hp => ?_) ⟨_, hT', rfl, 0, rfl⟩ ?_
  · intro q' hq'
    simp only [List.mem_cons, List.not_mem_nil, or_false] at hq'
    rcases hq' with rfl | rfl | rfl | rfl | rfl
    · exact ⟨_, .head _, rfl⟩
    · exact ⟨_, .tail _ (.head _), rfl⟩
    · exact ⟨_, .tail _ (.tail _ (.head _)), rfl⟩
    · exact ⟨_, .tail _ (.tail _ (.tail _ (.head _))), rfl⟩
    · exact ⟨_, .tail _ (.tail _ (.tail _ (.tail _ (.head _)))), rfl⟩
  · rcases List.mem_cons.mp hp with rfl | hp
    · exact ⟨hT', hTL, hT0⟩
    · exact NX' p hp
  · intro elts k pos s' E' Q' hs' hQ'
    refine wpAny_letOwnedTupleGo_zip (z := Z + 4) (TI := Z + 2) (TO := Z + 3) (hs' ▸ hz') fun h2 hz2 hs2 => ?_
    rw [hs'] at hs2
    have k2 : ∀ c o, c ≠ Z + 4 → h'.get? c = some o → h2.get? c = some o := fun c o hc e => hs2.extBut c o hc e
    have hTz : s.heap.objs.size ≠ Z + 4 := Nat.ne_of_gt (hlt _ (List.mem_append_left _ (.head _)))
    refine hQ' h2 (F'.change hs2 g4.2.1 g4.2.2) (fun p hp => ?_) ⟨_, k2 _ _ hTz hT', rfl, 0, rfl⟩
    rcases List.mem_append.mp hp with hp | hp
    · simp only [List.mem_cons, List.not_mem_nil, or_false] at hp
      rcases hp with rfl | rfl | rfl | rfl | rfl
      · exact ⟨hz2, g4.2⟩
      · exact ⟨k2 _ _ D.TIz hTI', g2.2⟩
      · exact ⟨k2 _ _ D.TOz hTO', g3.2⟩
      · exact ⟨k2 _ _ D.i1z e1', g0.2⟩
      · exact ⟨k2 _ _ (ne_add 1 4 (by decide)) e2', g1.2⟩
    · rcases List.mem_cons.mp hp with rfl | hp
      · exact ⟨k2 _ _ hTz hT', hTL, hT0⟩
      · exact ⟨k2 _ _ (hs _ (.head _) p hp) (NX' p hp).1, (NX p hp).2⟩
theorem next_zip_end {Z l1 l2 : Addr} {i : Nat} {st X : List (Addr × Obj)} {xs ys : List Value} {n1 n2 : Nat} {Q : Option Value → Shared → Prop} (hh : A.handled = none) (F : Fr h₀ L s.heap m) (N : News h₀ L s.heap (st ++ X)) (hst : ZS Z l1 l2 i st) (hs : ∀ q ∈ st, ∀ p ∈ X, p.1 ≠ q.1)
    (hm1 : (l1, listOf xs.toArray n1) ∈ X) (hm2 : (l2, listOf ys.toArray n2) ∈ X) (hi : xs.length ≤ i ∨ ys.length ≤ i)
    (h : ∀ h', Fr h₀ L h' m → News h₀ L h' X → Q none { s with heap := h' }) : wpAny (model prog w) A (pyNext (.ref (Z + 4))) Q E s := by
  have D := zip_apart hst hs hm1 hm2
  obtain ⟨o1, o2, a, b, rfl, ⟨c1, d1⟩, ⟨c2, d2⟩⟩ := hst
  have g4 := N _ (List.mem_append_left _ (.head _))
  have g2 := N _ (List.mem_append_left _ (.tail _ (.head _)))
  have g3 := N _ (List.mem_append_left _ (.tail _ (.tail _ (.head _))))
  have g0 := N _ (List.mem_append_left _ (.tail _ (.tail _ (.tail _ (.head _)))))
  have g1 := N _ (List.mem_append_left _ (.tail _ (.tail _ (.tail _ (.tail _ (.head _))))))
  have NX : News h₀ L s.heap X := fun p hp => N p (List.mem_append_right _ hp)
  refine wpAny_pyNext_zip_end hh D g4.1 g2.1 g3.1 ⟨o1, g0.1, c1, d1⟩ ⟨o2, g1.1, c2, d2⟩ (isL_N NX hm1) (isL_N NX hm2) (by simpa using hi) fun h' hk' => ?_
  have hwr : ∀ c, c ∈ [Z + 4, Z + 3, Z, Z + 1] → c ≠ L ∧ h₀.get? c = none := fun c hc => by
    simp only [List.mem_cons, List.not_mem_nil, or_false] at hc
    rcases hc with rfl | rfl | rfl | rfl
    · exact g4.2
    · exact g3.2
    · exact g0.2
    · exact g1.2
  have hk2 : ∀ c o, c ∉ [Z + 4, Z + 3, Z, Z + 1] → s.heap.get? c = some o → h'.get? c = some o := fun c o hc e => by
    simp only [List.mem_cons, List.not_mem_nil, or_false, not_or] at hc
    exact hk' c o hc.1 hc.2.1 hc.2.2.1 hc.2.2.2 e
  refine h h' (Fr.chg F hk2 hwr) (News.chg NX hk2 fun p hp hc => ?_)
  simp only [List.mem_cons, List.not_mem_nil, or_false] at hc
  rcases hc with e | e | e | e
  · exact hs _ (.head _) p hp e
  · exact hs _ (.tail _ (.tail _ (.head _))) p hp e
  · exact hs _ (.tail _ (.tail _ (.tail _ (.head _)))) p hp e
  · exact hs _ (.tail _ (.tail _ (.tail _ (.tail _ (.head _))))) p hp e
theorem iter_zip {Z l1 l2 : Addr} {i : Nat} {st X : List (Addr × Obj)} {Q : Value → Shared → Prop} (N : News h₀ L s.heap (st ++ X)) (hst : ZS Z l1 l2 i st) (h : Q (.ref (Z + 4)) s) : wpAny (model prog w) A (pyIter (.ref (Z + 4))) Q E s := by
  obtain ⟨o1, o2, a, b, rfl, _, _⟩ := hst
  exact wpAny_pyIter_zip (N _ (List.mem_append_left _ (.head _))).1 h

theorem src_zip {x y : Str} {px py tp : Pos} {kk : Nat} {scope : Scope} {cl : List (Str × Addr)} {Z l1 l2 : Addr} {xs ys : List Value} {n1 n2 n : Nat} (hh : A.handled = none) (hxy : x ≠ y) (hn : n = min xs.length ys.length)
    (hx : scope.names.lookup x = some .local := by rfl) (hy : scope.names.lookup y = some .local := by rfl) (hkind : scope.kind = .function := by rfl) :
    Src prog w A h₀ L (.Tuple [.Name x px, .Name y py] kk tp) scope cl env (.ref (Z + 4)) n [(l1, listOf xs.toArray n1), (l2, listOf ys.toArray n2)] (ZS Z l1 l2) (fun i m' => m' x = some (xs.getD i .none) ∧ m' y = some (ys.getD i .none)) where
  step := by
    intro i st C oC mC X s m E Q' hi hst hs hC hb hN F N hQ
    have sep : ∀ q ∈ st, ∀ p ∈ (C, oC) :: X, p.1 ≠ q.1 := fun q hq p hp => by
      rcases List.mem_cons.mp hp with rfl | hp
      · exact (hs q hq).1.symm
      · exact (hs q hq).2 p hp
    refine next_zip F N hst sep (.tail _ (hb _ (.head _))) (.tail _ (hb _ (.tail _ (.head _)))) (by lia) (by lia) fun T st' h' hT hst' hsub F' N' hTup go => ⟨_, rfl, ?_⟩
    refine go _ _ _ _ _ _ rfl fun h2 F2 N2 hTup2 => ?_
    have hCT : C < T := hT (C, oC) (List.mem_append_right _ (.head _))
    have sepC : ∀ p ∈ (T, tupO [xs.getD i .none, ys.getD i .none]) :: (st' ++ X), p.1 ≠ C := fun p hp => by
      rcases List.mem_cons.mp hp with rfl | hp
      · exact Nat.ne_of_gt hCT
      · rcases List.mem_append.mp hp with hp | hp
        · obtain ⟨q, hq, e⟩ := hsub p hp
          rw [← e]; exact (hs q hq).1
        · exact hC p hp
    refine as_comp2 hh F2 (News.sub N2 (a := (C, oC) :: (T, tupO [xs.getD i .none, ys.getD i .none]) :: (st' ++ X)) fun p hp => ?_) hN sepC hTup2 hxy (fun h5 oC' m' tk' _ hC' ha hb' F5 N5 => ?_) hx hy hkind
    · simp only [List.mem_cons, List.mem_append] at hp ⊢
      rcases hp with hp | hp | hp | hp
      · exact .inr (.inr (.inl hp))
      · exact .inr (.inl hp)
      · exact .inl hp
      · exact .inr (.inr (.inr hp))
    · refine hQ h5 _ st' oC' m' hst' hsub hC' ⟨ha, hb'⟩ F5 (News.sub N5 fun p hp => ?_)
      simp only [List.mem_cons, List.mem_append] at hp ⊢
      rcases hp with hp | hp | hp
      · exact .inr (.inr (.inl hp))
      · exact .inl hp
      · exact .inr (.inr (.inr hp))
  done := by
    intro st X s m E Q' hst hs hb F N hQ
    exact next_zip_end hh F N hst hs (hb _ (.head _)) (hb _ (.tail _ (.head _))) (by lia) fun h' F' N' => hQ h' _ F' N'
  self := by
    intro st X s E Q' hst N hQ
    exact iter_zip N hst hQ

theorem pick_from (vs : List Value) (x : Nat) : (slicePick vs.toArray (some (x : Int)) none none).toList = vs.drop x := by
  have e : sliceBounds (some (x : Int)) none none vs.toArray.size = (((min x vs.toArray.size : Nat) : Int), ((vs.toArray.size : Nat) : Int), 1) := by
    simp only [sliceBounds, Option.getD_none, show (1 : Int) > 0 by decide, if_true, if_neg (show ¬ ((x : Int) < 0) by lia)]
    congr 1
    lia
  rw [kmk_pick_nat _ e]
  show (vs.drop (min x vs.toArray.size)).take (vs.toArray.size - min x vs.toArray.size) = _
  rw [List.size_toArray, kmk_drop_min, List.take_of_length_le (by rw [List.length_drop]; lia)]
end
end Mine
end S_ZipR

section S_ForT
set_option maxRecDepth 100000
namespace Mine
open PySem PySem.W PyProof.Rows PySem.Spec PySem.Calls PySem.SeqAt PyProof.Rows.LCg
section
variable {prog : Program} {w : World} {A : Around} {E : Value → Shared → Prop} {s : Shared} {env : Env} {h₀ : Heap} {L : Addr} {m : Str → Option Value} {news : List (Addr × Obj)}
theorem my_forT {target : Expr} {it : Value} {body : List Stmt} {Q : Flow → Shared → Prop} (J : Nat → Shared → Prop) (n : Nat) (h0 : J 0 s)
    (turn : ∀ i s₁, i < n → J i s₁ → s.toks ≤ s₁.toks → wpAny (model prog w) A (pyNext it) (fun r s₂ => ∃ v, r = some v ∧ wpAny (model prog w) A (letOwnedTupleGo target it v) (fun _ s₃ => wpAny (model prog w) A (assign target env v) (fun _ s₄ =>
      wpAny (model prog w) A (execs body env) (FPost J i Q) E s₄) E s₃) E s₂) E s₁)
    (last : ∀ s₁, J n s₁ → s.toks ≤ s₁.toks → wpAny (model prog w) A (pyNext it) (fun r s₂ => r = none ∧ Q .next s₂) E s₁)
    (hE : PassesOwn (model prog w) A env E := by passes_own) :
    codeAny (model prog w) A (.forLoop target it body [] env) (fun r s' => match r with | .ok f => Q f s' | .error e => cameBackBy (model prog w) A env E e s') s := by
  refine codeAny_forLoop_any (fun k s' => ∃ i, i ≤ n ∧ k = n + 1 - i ∧ J i s' ∧ s.toks ≤ s'.toks) ?_ (n + 1) ⟨0, Nat.zero_le _, rfl, h0, Nat.le_refl _⟩
  rintro k s₁ ⟨i, hi, rfl, hJ, hle⟩
  by_cases hlt : i < n
  · refine wpAny_mono (wpAny_le (t := pyNext it) (Q := fun r s₂ => (∃ v, r = some v ∧ wpAny (model prog w) A (letOwnedTupleGo target it v) (fun _ s₃ => wpAny (model prog w) A (assign target env v) (fun _ s₄ => wpAny (model prog w) A (execs body env) (FPost J i Q) E s₄) E s₃) E s₂) ∧ s.toks ≤ s₂.toks) (E := E)
      (wpAny_mono (turn i s₁ hlt hJ hle) (fun b s₂ h₂ h3 => ⟨h₂, Nat.le_trans hle h3⟩) fun _ _ e _ => e)) (fun r s₂ h₂ => ?_) hE
    obtain ⟨⟨v, rfl, h₂⟩, hle2⟩ := h₂
    refine wpAny_mono (wpAny_le (t := letOwnedTupleGo target it v) (Q := fun _ s₃ => wpAny (model prog w) A (assign target env v) (fun _ s₄ => wpAny (model prog w) A (execs body env) (FPost J i Q) E s₄) E s₃ ∧ s.toks ≤ s₃.toks) (E := E) (wpAny_mono h₂ (fun f s₃ h₃ h4 => ⟨h₃, Nat.le_trans hle2 h4⟩) fun _ _ e _ => e)) (fun f s₃ h₃ => ?_) hE
    obtain ⟨h₃, hle3⟩ := h₃
    refine wpAny_mono (wpAny_le (t := assign target env v) (Q := fun _ s₃ => wpAny (model prog w) A (execs body env) (FPost J i Q) E s₃ ∧ s.toks ≤ s₃.toks) (E := E) (wpAny_mono h₃ (fun f s₃ h₃ h4 => ⟨h₃, Nat.le_trans hle3 h4⟩) fun _ _ e _ => e)) (fun f s₄ h₄ => ?_) hE
    obtain ⟨h₄, hle4⟩ := h₄
    refine wpAny_mono (wpAny_le (t := execs body env) (Q := fun f s₄ => FPost J i Q f s₄ ∧ s.toks ≤ s₄.toks) (E := E) (wpAny_mono h₄ (fun f s₄ h₄ h5 => ⟨h₄, Nat.le_trans hle4 h5⟩) fun _ _ e _ => e)) (fun f s₅ h₅ => ?_) hE
    obtain ⟨h₅, hle5⟩ := h₅
    cases f with
    | next => exact ⟨n + 1 - (i + 1), by lia, i + 1, hlt, rfl, h₅, hle5⟩
    | cont => exact ⟨n + 1 - (i + 1), by lia, i + 1, hlt, rfl, h₅, hle5⟩
    | brk => exact h₅
    | ret v => exact h₅
  · have hin : i = n := by lia
    subst hin
    refine wpAny_mono (last s₁ hJ hle) (fun r s₂ h₂ => ?_) hE
    obtain ⟨rfl, h₂⟩ := h₂
    exact wpAny_execs_nil h₂

/- a list's last item -/
theorem sub_last {D : Addr} {vs : List Value} {k : Nat} {value slice : Expr} {u : Tok} {x : Value} {Q : Value → Shared → Prop} (N : News h₀ L s.heap news) (hm : (D, listOf (vs ++ [x]).toArray k) ∈ news) (h : Q x s)
    (hs : subscripted slice false (.ref D) (.int (-1) u) = operate [.ref D, .int (-1) u] (getItem (.ref D) (.int (-1) u))) (hg : ∀ r, letTemporaryGo value (.ref D) r = pure ()) : wpAny (model prog w) A (subscriptTail value slice (.ref D) (.int (-1) u)) Q E s := by
  have hl := isL_N N hm
  refine subscriptTail_builtin hl.typeIs F.slot_list_getitem.lookup (wpAny_getItem_list_neg hl (by decide) ?_ (by decide) ?_ h) hs hg
  · simp; lia
  · have e : ((-1 : Int) + ((vs ++ [x]).toArray.size : Int)).toNat = vs.length := by simp; lia
    rw [e]; simp
end
end Mine
end S_ForT

section S_V2
set_option maxRecDepth 100000
namespace Mine
open PySem PySem.W PyProof.Rows PySem.Spec PySem.Calls PySem.SeqAt PyProof.Rows.LCg
section
variable {cs : Scope} {nd nu : Nat}
noncomputable def IsLst (v : Value) (st : AS) : Prop := ∃ D vs n, v = .ref D ∧ (D, listOf (List.toArray vs) n) ∈ st.led
theorem IsLst.mk {D : Addr} {vs : List Value} {n : Nat} {fr : List (Str × Value)} {led : List (Addr × Obj)} {tk : Nat} (h : (D, listOf vs.toArray n) ∈ led) : IsLst (.ref D) ⟨fr, led, tk⟩ := ⟨D, vs, n, rfl, h⟩
noncomputable def WPNext (c : Amb cs nd nu) (it : Value) (st : AS) (K : Value → AS → Prop) : Prop :=
  ∀ (s : Shared) (Q : Option Value → Shared → Prop) (E : Value → Shared → Prop), Re c s st → (∀ v s' st', Re c s' st' → K v st' → Q (some v) s') → wpAny c.M c.A (pyNext it) Q E s
noncomputable def WPLast (c : Amb cs nd nu) (it : Value) (st : AS) (K : AS → Prop) : Prop :=
  ∀ (s : Shared) (Q : Option Value → Shared → Prop) (E : Value → Shared → Prop), Re c s st → (∀ s' st', Re c s' st' → K st' → Q none s') → wpAny c.M c.A (pyNext it) Q E s
/- go on through the items -/
noncomputable def WPFor (c : Amb cs nd nu) (t : Expr) (it : Value) (b : List Stmt) (st : AS) (Kn : AS → Prop) (Kx : Flow → AS → Prop) : Prop :=
  ∀ (s : Shared) (Q : Flow → Shared → Prop), Re c s st → (∀ s' st', Re c s' st' → Kn st' → Q .next s') → (∀ f s' st', f ≠ .next → Re c s' st' → Kx f st' → Q f s') →
    codeAny c.M c.A (.forLoop t it b [] c.env) (fun r s' => match r with | .ok f => Q f s' | .error e => cameBackBy c.M c.A c.env (fun _ _ => False) e s') s
noncomputable def WPGo (c : Amb cs nd nu) (t : Expr) (it v : Value) (st : AS) (K : AS → Prop) : Prop :=
  ∀ (s : Shared) (Q : Unit → Shared → Prop) (E : Value → Shared → Prop), Re c s st → (∀ s' st', Re c s' st' → K st' → Q () s') → wpAny c.M c.A (letOwnedTupleGo t it v) Q E s
end

section
variable {cs : Scope} {nd nu : Nat} {c : Amb cs nd nu} {fr : List (Str × Value)} {led : List (Addr × Obj)} {tk : Nat} {K : Value → AS → Prop} {Kt Kf Kn : AS → Prop} {Kx : Flow → AS → Prop} {pos apos : Pos} {st : AS}

/- methods of lists -/
theorem WPE.app {o e : Expr} (h : WPE c o st fun ov st1 => IsLst ov st1 ∧ WPE c e st1 fun v st2 => WPCall c (.builtin "list.append") [ov, v] st2 K)
    (hb : ∀ env, attributeBase o (Str.ofString "append") env (eval o env) = eval o env := by intros; k_dflt exact rfl) (hl : (apos.endLine == pos.line) = true := by intros; k_dflt exact rfl) (ht : ∀ env, backTo pos (starEach [e] env) = [(false, eval e env)] := by intros; k_dflt exact rfl) :
    WPE c (.Call (.Attribute o (Str.ofString "append") apos) [e] [] pos) st K := by
  intro s Q E R hQ
  refine wpAny_Call_method1_late (hb _) hl (ht _) (h _ _ _ R ?_)
  rintro _ s1 st1 R1 ⟨⟨D, vs, n, rfl, hm⟩, h1⟩
  obtain ⟨ok, hp, h', u, rfl, F, N⟩ := id R1
  refine ⟨"list", "list.append", PySem.F.plainAttrs_list, PySem.F.slot_list_append, PySem.F.type_list_append, ⟨_, (N _ hm).1, rfl⟩, fun a e => by cases e; exact ⟨_, (N _ hm).1, rfl⟩, ?_⟩
  refine callWith_builtin rfl (evalArgs_plain (spliced_cons (h1 _ _ _ R1 fun v s2 st2 R2 h2 => spliced_nil (h2 _ _ _ R2 hQ))))
theorem WPE.meth0 {o : Expr} {name : Str} {fid : String} (slot : Slot "list" name fid) (hty : typeOf (.builtin fid) = pure (.type "method_descriptor")) (h : WPE c o st fun ov st1 => IsLst ov st1 ∧ WPCall c (.builtin fid) [ov] st1 K)
    (hb : ∀ env, attributeBase o name env (eval o env) = eval o env := by intros; k_dflt exact rfl) (hl : (apos.endLine == pos.line) = true := by intros; k_dflt exact rfl) : WPE c (.Call (.Attribute o name apos) [] [] pos) st K := by
  intro s Q E R hQ
  refine wpAny_Call_method0_late (hb _) hl (h _ _ _ R ?_)
  rintro _ s1 st1 R1 ⟨⟨D, vs, n, rfl, hm⟩, h1⟩
  obtain ⟨ok, hp, h', u, rfl, F, N⟩ := id R1
  refine ⟨"list", fid, PySem.F.plainAttrs_list, slot, hty, ⟨_, (N _ hm).1, rfl⟩, fun a e => by cases e; exact ⟨_, (N _ hm).1, rfl⟩, ?_⟩
  exact callWith_builtin rfl (PyProof.Rows.evalArgs_none (h1 _ _ _ R1 hQ))
theorem WPCall.app {D : Addr} {v : Value} {vs : List Value} {n : Nat} {led' : List (Addr × Obj)} (U : Upd D (listOf vs.toArray n) (listOf (vs ++ [v]).toArray (n + 1)) led led') (hz : vs.length ≤ 1000) (h : K .none ⟨fr, led', tk⟩) : WPCall c (.builtin "list.append") [.ref D, v] ⟨fr, led, tk⟩ K := by
  rintro s Q E ⟨ok, hp, h', u, rfl, F, N⟩ hQ
  exact append_N F N U hz fun h2 F2 N2 => hQ _ _ ⟨fr, led', tk⟩ ⟨ok, hp, h2, u, rfl, F2, N2⟩ h
theorem WPCall.pop {D : Addr} {vs : List Value} {n : Nat} {led' : List (Addr × Obj)} (U : Upd D (listOf vs.toArray n) (listOf vs.dropLast.toArray (n + 1)) led led') (h1 : 0 < vs.length) (hz : vs.length ≤ 1000) (h : K (vs.getD (vs.length - 1) .none) ⟨fr, led', tk⟩) : WPCall c (.builtin "list.pop") [.ref D] ⟨fr, led, tk⟩ K := by
  rintro s Q E ⟨ok, hp, h', u, rfl, F, N⟩ hQ
  exact pop_N F N U h1 hz fun h2 F2 N2 => hQ _ _ ⟨fr, led', tk⟩ ⟨ok, hp, h2, u, rfl, F2, N2⟩ h

/- the ledger in another order -/
theorem WPM.ledg {m : Sem Value} {led' : List (Addr × Obj)} (hl : ∀ p ∈ led', p ∈ led) (h : WPM c m ⟨fr, led', tk⟩ K) : WPM c m ⟨fr, led, tk⟩ K := by
  rintro s Q E ⟨ok, hp, h', u, rfl, F, N⟩ hQ
  exact h _ _ _ ⟨ok, hp, h', u, rfl, F, News.sub N hl⟩ hQ
theorem mem_swap {α : Type} {x y : α} {r : List α} : ∀ p ∈ y :: x :: r, p ∈ x :: y :: r := fun p hp => by
  rcases List.mem_cons.mp hp with rfl | hp
  · exact .tail _ (.head _)
  · rcases List.mem_cons.mp hp with rfl | hp
    · exact .head _
    · exact .tail _ (.tail _ hp)
/- new tuples, new lists -/
theorem WPE.tup {es : List Expr} {k : Nat} (h : WPL c pos es st fun vs st1 => WPM c (newTuple vs) st1 K) : WPE c (.Tuple es k pos) st K := fun _ _ _ R hQ => Tuple_ (h _ _ _ R fun _ _ _ R1 h1 => h1 _ _ _ R1 hQ)
theorem WPE.lst {es : List Expr} (h : WPL c pos es st fun vs st1 => WPM c (newList vs) st1 K) : WPE c (.List es pos) st K := fun _ _ _ R hQ => List_ (h _ _ _ R fun _ _ _ R1 h1 => h1 _ _ _ R1 hQ)
theorem WPM.tup {vs : List Value} (hz : vs.length ≤ sizeLine) (h : ∀ r, (∀ p ∈ led, p.1 < r) → K (.ref r) ⟨fr, (r, tupO vs) :: led, tk⟩) : WPM c (newTuple vs) ⟨fr, led, tk⟩ K := by
  rintro s Q E ⟨ok, hp, h', u, rfl, F, N⟩ hQ
  exact newTuple_N F N (fun h2 F2 N2 => hQ _ _ ⟨fr, _ :: led, tk⟩ ⟨ok, hp, h2, u, rfl, F2, N2⟩ (h _ fun p hp => Heap.lt_size (N p hp).1)) hz
theorem WPM.lst {vs : List Value} (hz : vs.length ≤ sizeLine) (h : ∀ r, (∀ p ∈ led, p.1 < r) → K (.ref r) ⟨fr, (r, listOf vs.toArray 0) :: led, tk⟩) : WPM c (newList vs) ⟨fr, led, tk⟩ K := by
  rintro s Q E ⟨ok, hp, h', u, rfl, F, N⟩ hQ
  exact newList_N F N (fun h2 F2 N2 => hQ _ _ ⟨fr, _ :: led, tk⟩ ⟨ok, hp, h2, u, rfl, F2, N2⟩ (h _ fun p hp => Heap.lt_size (N p hp).1)) hz
theorem WPS.asgT {es : List Expr} {k : Nat} {tp : Pos} {e : Expr} (h : WPE c e st fun v st1 => WPAsg c (.Tuple es k tp) v st1 Kn) (hs : ∀ line env, swapsWithSole [.Tuple es k tp] e line env = pure false := by intros; k_dflt exact rfl) (hw : swappedStores [.Tuple es k tp] e c.env = pure none := by intros; k_dflt exact rfl) : WPS c (.Assign [.Tuple es k tp] e pos) st Kn Kx :=
  fun _ _ R hn _ => Assign_Tuple (h _ _ _ R fun _ _ _ R1 h1 => h1 _ _ _ R1 hn) (hs _ _) hw
theorem WPAsg.name {x : Str} {v : Value} (h : WPStore c x v st Kn) : WPAsg c (.Name x pos) v st Kn := fun _ _ _ R hQ => wpAny_assign_Name (h _ _ _ R hQ)

noncomputable def WPIn (c : Amb cs nd nu) (ts : List (Value → Sem Unit)) (vs : List Value) (st : AS) (K : AS → Prop) : Prop :=
  ∀ (s : Shared) (Q : Unit → Shared → Prop) (E : Value → Shared → Prop), Re c s st → (∀ s' st', Re c s' st' → K st' → Q () s') → wpAny c.M c.A (assignInOrder ts vs) Q E s
theorem WPIn.nil (h : Kn st) : WPIn c [] [] st Kn := fun _ _ _ R hQ => wpAny_assignInOrder_none (hQ _ _ R h)
theorem WPIn.asg {t : Expr} {v : Value} {ts : List (Value → Sem Unit)} {vs : List Value} (h : WPAsg c t v st fun st1 => WPIn c ts vs st1 Kn) : WPIn c (assign t c.env :: ts) (v :: vs) st Kn :=
  fun _ _ _ R hQ => wpAny_assignInOrder_more (h _ _ _ R fun _ _ R1 h1 => h1 _ _ _ R1 hQ)
theorem WPIn.bind {x : Str} {v : Value} {ts : List (Value → Sem Unit)} {vs : List Value} (h : WPStore c x v st fun st1 => WPIn c ts vs st1 Kn) : WPIn c (bindName c.env x :: ts) (v :: vs) st Kn :=
  fun _ _ _ R hQ => wpAny_assignInOrder_more (wpAny_bindName (h _ _ _ R fun _ _ R1 h1 => h1 _ _ _ R1 hQ))
theorem WPAsg.tup {es : List Expr} {k : Nat} {t : Addr} {vs : List Value} (hm : (t, tupO vs) ∈ led) (hn : (assignEach es c.env).length = vs.length) (hs : (assignEach es c.env).findIdx? (·.1) = none) (h : WPIn c ((assignEach es c.env).map (·.2)) vs ⟨fr, led, tk⟩ Kn) : WPAsg c (.Tuple es k pos) (.ref t) ⟨fr, led, tk⟩ Kn := by
  rintro s Q E ⟨ok, hp, h', u, rfl, F, N⟩ hQ
  refine unpackN_ (items := vs.toArray) F N (isT_N N hm) rfl (by rw [hn, List.size_toArray]) hs fun h2 F2 N2 => ?_
  exact h _ _ _ ⟨ok, hp, h2, u, rfl, F2, N2⟩ hQ
/- stores in another order, when the value is a tuple as written -/
noncomputable def WPUnp (c : Amb cs nd nu) (v : Value) (n : Nat) (st : AS) (K : List Value → AS → Prop) : Prop :=
  ∀ (s : Shared) (Q : List Value → Shared → Prop) (E : Value → Shared → Prop), Re c s st → (∀ vs s' st', Re c s' st' → K vs st' → Q vs s') → wpAny c.M c.A (unpackItems v n none) Q E s
/- loops -/
theorem WPS.for {t i : Expr} {b : List Stmt} (h : WPE c i st fun v st1 => WPM c (pyIter v) st1 fun it st2 => WPFor c t it b st2 Kn Kx) (hs : ∀ env x, foldedSetIterable i env x = pure x := by intros; k_dflt exact rfl) : WPS c (.For t i b [] pos) st Kn Kx :=
  fun _ _ R hn hx => wpAny_For (h _ _ _ R fun _ _ _ R1 h1 => h1 _ _ _ R1 fun _ _ _ R2 h2 => h2 _ _ R2 hn hx) (hs _)
/- turn i is over -/
noncomputable def AgainF {P : Type} (I : Nat → P → Prop) (mk : Nat → P → AS) (i : Nat) (st : AS) : Prop := ∃ p, I i p ∧ Sub st (mk i p)
theorem WPFor.mk {t : Expr} {it : Value} {b : List Stmt} {P : Type} (n : Nat) (I : Nat → P → Prop) (mk : Nat → P → AS) (p0 : P) (h0 : I 0 p0) (hS : Sub st (mk 0 p0))
    (turn : ∀ i p, i < n → I i p → WPNext c it (mk i p) fun v st1 => WPAsg c t v st1 fun st2 => WPB c b st2 (AgainF I mk (i + 1)) (LoopX (AgainF I mk (i + 1)) Kn Kx))
    (last : ∀ p, I n p → WPLast c it (mk n p) Kn) (ht : ∀ v, letOwnedTupleGo t it v = pure ()) : WPFor c t it b st Kn Kx := by
  intro s Q R hn hx
  refine my_for (fun i s' => ∃ p, I i p ∧ Re c s' (mk i p)) n ⟨p0, h0, hS.re R⟩ ?_ ?_ ht
  · rintro i s1 hi ⟨p, hI, R1⟩ _
    refine turn i p hi hI _ _ _ R1 fun v s2 st2 R2 h2 => ⟨v, rfl, h2 _ _ _ R2 fun s3 st3 R3 h3 => h3 _ _ R3 (fun s4 st4 R4 ⟨p', hI', hS'⟩ => ⟨p', hI', hS'.re R4⟩) fun f s4 st4 hf R4 h4 => ?_⟩
    cases f with
    | ret v => exact hx _ _ _ hf R4 h4
    | brk => exact hn _ _ R4 h4
    | next => exact absurd rfl hf
    | cont => obtain ⟨p', hI', hS'⟩ := h4; exact ⟨p', hI', hS'.re R4⟩
  · rintro s1 ⟨p, hI, R1⟩ _
    exact last p hI _ _ _ R1 fun s2 st2 R2 h2 => ⟨rfl, hn _ _ R2 h2⟩
/- iterators -/
theorem WPM.iterL {D : Addr} {vs : List Value} {n : Nat} (hm : (D, listOf vs.toArray n) ∈ led) (h : ∀ I o, ListIt o D 0 → (∀ p ∈ led, p.1 < I) → K (.ref I) ⟨fr, (I, o) :: led, tk⟩) : WPM c (pyIter (.ref D)) ⟨fr, led, tk⟩ K := by
  rintro s Q E ⟨ok, hp, h', u, rfl, F, N⟩ hQ
  exact iter_list F N hm fun I o h2 hI F2 N2 hl => hQ _ _ ⟨fr, _ :: led, tk⟩ ⟨ok, hp, h2, u, rfl, F2, N2⟩ (h I o hI hl)
theorem WPNext.lst {D I : Addr} {vs : List Value} {n i : Nat} {o : Obj} (ho : ListIt o D i) (hm : (D, listOf vs.toArray n) ∈ led) (hi : i < vs.length) (hsep : ∀ p ∈ led, p.1 ≠ I) (h : ∀ o', ListIt o' D (i + 1) → K (vs.getD i .none) ⟨fr, (I, o') :: led, tk⟩) : WPNext c (.ref I) ⟨fr, (I, o) :: led, tk⟩ K := by
  rintro s Q E ⟨ok, hp, h', u, rfl, F, N⟩ hQ
  exact next_list F N ho hm hi hsep fun o' h2 hI F2 N2 => hQ _ _ ⟨fr, (I, o') :: led, tk⟩ ⟨ok, hp, h2, u, rfl, F2, N2⟩ (h o' hI)
theorem WPLast.lst {D I : Addr} {vs : List Value} {n i : Nat} {o : Obj} (ho : ListIt o D i) (hm : (D, listOf vs.toArray n) ∈ led) (hi : vs.length ≤ i) (hsep : ∀ p ∈ led, p.1 ≠ I) (h : Kn ⟨fr, led, tk⟩) : WPLast c (.ref I) ⟨fr, (I, o) :: led, tk⟩ Kn := by
  rintro s Q E ⟨ok, hp, h', u, rfl, F, N⟩ hQ
  exact next_list_end rfl F N ho hm hi hsep fun h2 F2 N2 => hQ _ ⟨fr, led, tk⟩ ⟨ok, hp, h2, u, rfl, F2, N2⟩ h
theorem WPM.iterR {r : Addr} {n : Int} {t u v : Tok} (hm : (r, rngO 0 n t u v) ∈ led) (h0 : 0 ≤ n) (h1 : n < 2 ^ 60) (h : ∀ I, (∀ p ∈ led, p.1 < I) → K (.ref I) ⟨fr, (I, rngIt 0 n 1) :: led, tk⟩) : WPM c (pyIter (.ref r)) ⟨fr, led, tk⟩ K := by
  rintro s Q E ⟨ok, hp, h', u, rfl, F, N⟩ hQ
  exact iter_range F N hm h0 h1 fun I h2 F2 N2 hl => hQ _ _ ⟨fr, _ :: led, tk⟩ ⟨ok, hp, h2, u, rfl, F2, N2⟩ (h I hl)
theorem WPM.iterI {I : Addr} {x left step : Int} (hm : (I, rngIt x left step) ∈ led) (h : K (.ref I) ⟨fr, led, tk⟩) : WPM c (pyIter (.ref I)) ⟨fr, led, tk⟩ K := by
  rintro s Q E ⟨ok, hp, h', u, rfl, F, N⟩ hQ
  exact iter_rngit N hm (hQ _ _ ⟨fr, led, tk⟩ ⟨ok, hp, h', u, rfl, F, N⟩ h)
theorem WPNext.rng {I : Addr} {x left step : Int} (hl : 0 < left) (hsep : ∀ p ∈ led, p.1 ≠ I) (h : K (.int x tk) ⟨fr, (I, rngIt (x + step) (left - 1) step) :: led, tk + 1⟩) : WPNext c (.ref I) ⟨fr, (I, rngIt x left step) :: led, tk⟩ K := by
  rintro s Q E ⟨ok, hp, h', u, rfl, F, N⟩ hQ
  exact next_rng F N hl hsep fun h2 F2 N2 => hQ _ _ ⟨fr, _ :: led, tk + 1⟩ ⟨ok, Nat.succ_pos _, h2, u, rfl, F2, N2⟩ h
theorem WPLast.rng {I : Addr} {x left step : Int} (hl : left ≤ 0) (hsep : ∀ p ∈ led, p.1 ≠ I) (h : Kn ⟨fr, led, tk⟩) : WPLast c (.ref I) ⟨fr, (I, rngIt x left step) :: led, tk⟩ Kn := by
  rintro s Q E ⟨ok, hp, h', u, rfl, F, N⟩ hQ
  exact next_rng_end rfl F N hl hsep fun h2 F2 N2 => hQ _ ⟨fr, led, tk⟩ ⟨ok, hp, h2, u, rfl, F2, N2⟩ h
/- types called -/
theorem WPE.callT {x : Str} {px : Pos} {T : String} {e : Expr} {r : List Expr} (hg : GlobB x (.type T) := by exact ⟨fun _ => by k_dflt k_is, by k_dflt exact rfl, by decide⟩) (hx : cs.names.lookup x = some .globalImplicit := by intros; k_dflt exact rfl) (hd : (x == Str.ofString "__debug__") = false := by intros; k_dflt exact rfl)
    (he : ∀ env, starEach (e :: r) env = (false, eval e env) :: starEach r env := by intros; k_dflt exact rfl) (hr : ∀ env, (backTo pos (starEach (e :: r) env)).any (·.1) = false := by intros; k_dflt exact rfl) (h : WPL c pos (e :: r) st fun vs st1 => WPCall c (.type T) vs st1 K) : WPE c (.Call (.Name x px) (e :: r) [] pos) st K := by
  intro s Q E R hQ
  refine Call_ (WPE.globB (K := fun v st1 => v = .type T ∧ st1 = st) hg hx hd ⟨rfl, rfl⟩ s _ _ R ?_)
  rintro _ s1 _ R1 ⟨rfl, rfl⟩
  have hr := hr c.env
  have h := h _ _ E R1 fun vs s2 st2 R2 h2 => h2 _ _ E R2 hQ
  rw [he] at hr h ⊢
  exact PyProof.Rows.callWith_type hr (evalArgs_plain h)
theorem WPCall.rng {n : Int} {T : Tok} (h : ∀ r t u v, (∀ p ∈ led, p.1 < r) → K (.ref r) ⟨fr, (r, rngO 0 n t u v) :: led, tk + 1 + 1⟩) : WPCall c (.type "range") [.int n T] ⟨fr, led, tk⟩ K := by
  rintro s Q E ⟨ok, hp, h', u, rfl, F, N⟩ hQ
  exact range_N F N fun r h2 t u' v F2 N2 hl => hQ _ _ ⟨fr, _ :: led, tk + 1 + 1⟩ ⟨ok, Nat.succ_pos _, h2, u, rfl, F2, N2⟩ (h r t u' v hl)
theorem WPCall.rev {r : Addr} {n : Int} {t u v : Tok} (hm : (r, rngO 0 n t u v) ∈ led) (h0 : 0 ≤ n) (h1 : n < 2 ^ 60) (h : ∀ I, (∀ p ∈ led, p.1 < I) → K (.ref I) ⟨fr, (I, rngIt (n - 1) n (-1)) :: led, tk⟩) : WPCall c (.type "reversed") [.ref r] ⟨fr, led, tk⟩ K := by
  rintro s Q E ⟨ok, hp, h', u, rfl, F, N⟩ hQ
  exact rev_N F N hm h0 h1 fun I h2 F2 N2 hl => hQ _ _ ⟨fr, _ :: led, tk⟩ ⟨ok, hp, h2, u, rfl, F2, N2⟩ (h I hl)
end
end Mine
end S_V2

section S_V3
set_option maxRecDepth 100000
namespace Mine
open PySem PySem.W PyProof.Rows PySem.Spec PySem.Calls PySem.SeqAt
/- |a| is at most i -/
noncomputable def Sm (i : Nat) (a : Int) : Prop := a.natAbs ≤ i
theorem Sm.of {i : Nat} {a : Int} (h0 : 0 ≤ a) (h1 : a ≤ i) : Sm i a := by unfold Sm; lia
theorem Sm.add {i j : Nat} {a b : Int} (h : Sm i a) (k : Sm j b) : Sm (i + j) (a + b) := by unfold Sm at *; lia
theorem Sm.sub {i j : Nat} {a b : Int} (h : Sm i a) (k : Sm j b) : Sm (i + j) (a - b) := by unfold Sm at *; lia
theorem Sm.lit (n : Nat) : Sm n (n : Int) := by unfold Sm; lia
theorem Sm.lt {i : Nat} {a : Int} (h : Sm i a) (hi : i < 2 ^ 40) : a.natAbs < 2 ^ 40 := Nat.lt_of_le_of_lt h hi
theorem Sm.lt2 {i : Nat} {a : Int} (h : Sm i a) (hi : i < 2 ^ 40) : a.natAbs < 2 ^ 52 := Nat.lt_trans (h.lt hi) (by decide)
theorem Sm.lt1 {i : Nat} {a : Int} (h : Sm i a) (hi : i < 2 ^ 40) : a.natAbs < 2 ^ 51 := Nat.lt_trans (h.lt hi) (by decide)
theorem Sm.ltI {i : Nat} {a : Int} (h : Sm i a) (hi : i < 2 ^ 40) : a < 2 ^ 51 := by have := h.lt hi; lia

section
variable {cs : Scope} {nd nu : Nat} {c : Amb cs nd nu} {fr : List (Str × Value)} {led : List (Addr × Obj)} {tk : Nat} {K : Value → AS → Prop} {Kt Kf Kn : AS → Prop} {Kx : Flow → AS → Prop} {pos apos : Pos} {st : AS} {a b d : Int} {i j k : Nat} {t u v : Tok}
theorem WPE.fl {n : Int} {x : UInt64} {kk : Nat} (e : fl n = x) (h : K (.float (fl n) tk) ⟨fr, led, tk + 1⟩) : WPE c (.Constant (.float x) kk pos) ⟨fr, led, tk⟩ K := by
  rintro s Q E ⟨ok, _, h', u, rfl, F, N⟩ hQ
  exact const_fl e (hQ _ _ ⟨fr, led, tk + 1⟩ ⟨ok, Nat.succ_pos _, h', u, rfl, F, N⟩ h)
theorem WPBin.addF (ha : Sm i a) (hb : Sm j b) (hi : i < 2 ^ 40) (hj : j < 2 ^ 40) (h : K (.float (Mine.fl (a + b)) tk) ⟨fr, led, tk + 1⟩) : WPBin c .Add (.float (Mine.fl a) t) (.float (Mine.fl b) u) ⟨fr, led, tk⟩ K := by
  rintro s Q E ⟨ok, _, h', u, rfl, F, N⟩ hQ
  exact Mine.addF (ha.lt2 hi) (hb.lt2 hj) (hQ _ _ ⟨fr, led, tk + 1⟩ ⟨ok, Nat.succ_pos _, h', u, rfl, F, N⟩ h)
theorem WPBin.subF (ha : Sm i a) (hb : Sm j b) (hi : i < 2 ^ 40) (hj : j < 2 ^ 40) (h : K (.float (Mine.fl (a - b)) tk) ⟨fr, led, tk + 1⟩) : WPBin c .Sub (.float (Mine.fl a) t) (.float (Mine.fl b) u) ⟨fr, led, tk⟩ K := by
  rintro s Q E ⟨ok, _, h', u, rfl, F, N⟩ hQ
  exact Mine.subF (ha.lt2 hi) (hb.lt2 hj) (hQ _ _ ⟨fr, led, tk + 1⟩ ⟨ok, Nat.succ_pos _, h', u, rfl, F, N⟩ h)
theorem WPBin.mulF (e : Prod3 a b d 4096) (ha0 : 0 ≤ a) (hb0 : 0 ≤ b) (ha : Sm i a) (hb : Sm j b) (hd : Sm k d) (hi : i < 2 ^ 40) (hj : j < 2 ^ 40) (hk : k < 2 ^ 40) (h : K (.float (Mine.fl d) tk) ⟨fr, led, tk + 1⟩) : WPBin c .Mult (.float (Mine.fl a) t) (.float (Mine.fl b) u) ⟨fr, led, tk⟩ K := by
  rintro s Q E ⟨ok, _, h', u, rfl, F, N⟩ hQ
  exact Mine.mulF e ha0 hb0 (by have := ha.ltI hi; lia) (by have := hb.ltI hj; lia) (by have := hd.ltI hk; lia) (hQ _ _ ⟨fr, led, tk + 1⟩ ⟨ok, Nat.succ_pos _, h', u, rfl, F, N⟩ h)
theorem WPBin.divF (e : Prod3 a 4096 d b) (hb0 : 0 < b) (ha : Sm i a) (hb : Sm j b) (hd : Sm k d) (hi : i < 2 ^ 40) (hj : j < 2 ^ 40) (hk : k < 2 ^ 40) (h : K (.float (Mine.fl d) tk) ⟨fr, led, tk + 1⟩) : WPBin c .Div (.float (Mine.fl a) t) (.float (Mine.fl b) u) ⟨fr, led, tk⟩ K := by
  rintro s Q E ⟨ok, _, h', u, rfl, F, N⟩ hQ
  exact Mine.divF e hb0 (ha.lt2 hi) (by have := hb.ltI hj; lia) (hd.lt2 hk) (hQ _ _ ⟨fr, led, tk + 1⟩ ⟨ok, Nat.succ_pos _, h', u, rfl, F, N⟩ h)
theorem WPBin.divFx (hb0 : b ≠ 0) (hb : Sm j b) (hj : j < 2 ^ 40) (h : ∀ x : UInt64, K (.float x tk) ⟨fr, led, tk + 1⟩) : WPBin c .Div (.float (Mine.fl a) t) (.float (Mine.fl b) u) ⟨fr, led, tk⟩ K := by
  rintro s Q E ⟨ok, _, h', u, rfl, F, N⟩ hQ
  exact Mine.divF_any hb0 (hb.lt2 hj) fun x => hQ _ _ ⟨fr, led, tk + 1⟩ ⟨ok, Nat.succ_pos _, h', u, rfl, F, N⟩ (h x)
theorem WPBin.div6F (e : Six a) (ha : Sm i a) (hi : i < 2 ^ 40) (h : K (.float (Mine.fl (a / 6)) tk) ⟨fr, led, tk + 1⟩) : WPBin c .Div (.float (Mine.fl a) t) (.float (Mine.fl 24576) u) ⟨fr, led, tk⟩ K := by
  rintro s Q E ⟨ok, _, h', u, rfl, F, N⟩ hQ
  exact Mine.div6F e (ha.lt1 hi) (hQ _ _ ⟨fr, led, tk + 1⟩ ⟨ok, Nat.succ_pos _, h', u, rfl, F, N⟩ h)
theorem WPBin.mod1F (ha : Sm i a) (hi : i < 2 ^ 40) (h : K (.float (Mine.fl (a % 4096)) tk) ⟨fr, led, tk + 1⟩) : WPBin c .Mod (.float (Mine.fl a) t) (.float (Mine.fl 4096) u) ⟨fr, led, tk⟩ K := by
  rintro s Q E ⟨ok, _, h', u, rfl, F, N⟩ hQ
  exact Mine.modF (by decide) (ha.lt1 hi) (by decide) (hQ _ _ ⟨fr, led, tk + 1⟩ ⟨ok, Nat.succ_pos _, h', u, rfl, F, N⟩ h)
theorem WPBin.subFI (ha : Sm i a) (hb : Sm j b) (hi : i < 2 ^ 40) (hj : j < 2 ^ 39) (h : K (.float (Mine.fl (a - b * 4096)) tk) ⟨fr, led, tk + 1⟩) : WPBin c .Sub (.float (Mine.fl a) t) (.int b u) ⟨fr, led, tk⟩ K := by
  rintro s Q E ⟨ok, _, h', u, rfl, F, N⟩ hQ
  exact Mine.subFI (ha.lt2 hi) (Nat.lt_of_le_of_lt hb hj) (hQ _ _ ⟨fr, led, tk + 1⟩ ⟨ok, Nat.succ_pos _, h', u, rfl, F, N⟩ h)
theorem WPBin.div64 (ha : Sm i a) (hi : i < 2 ^ 40) (h : K (.float (Mine.fl (64 * a)) tk) ⟨fr, led, tk + 1⟩) : WPBin c .Div (.int a t) (.int 64 u) ⟨fr, led, tk⟩ K := by
  rintro s Q E ⟨ok, _, h', u, rfl, F, N⟩ hQ
  exact Mine.div64 (ha.lt hi) (hQ _ _ ⟨fr, led, tk + 1⟩ ⟨ok, Nat.succ_pos _, h', u, rfl, F, N⟩ h)
theorem WPBin.div4096 (ha : Sm i a) (hi : i < 2 ^ 40) (h : K (.float (Mine.fl a) tk) ⟨fr, led, tk + 1⟩) : WPBin c .Div (.int a t) (.int 4096 u) ⟨fr, led, tk⟩ K := by
  rintro s Q E ⟨ok, _, h', u, rfl, F, N⟩ hQ
  exact Mine.div4096 (ha.lt2 hi) (hQ _ _ ⟨fr, led, tk + 1⟩ ⟨ok, Nat.succ_pos _, h', u, rfl, F, N⟩ h)
theorem WPCmp.eqF (ha : Sm i a) (hb : Sm j b) (hi : i < 2 ^ 40) (hj : j < 2 ^ 40) (h1 : a = b → Kt st) (h2 : a ≠ b → Kf st) : WPCmp c .Eq (.float (Mine.fl a) t) (.float (Mine.fl b) u) st Kt Kf := by
  intro s Q E R ht hf
  refine Mine.eqF (ha.lt2 hi) (hb.lt2 hj) ?_
  by_cases e : a = b
  · rw [decide_eq_true e]; exact ht _ _ R (h1 e)
  · rw [decide_eq_false e]; exact hf _ _ R (h2 e)
theorem WPCmp.eqI (h1 : a = b → Kt st) (h2 : a ≠ b → Kf st) : WPCmp c .Eq (.int a t) (.int b u) st Kt Kf := by
  intro s Q E R ht hf
  refine eq_int ?_
  by_cases e : a = b
  · subst e; rw [beq_self_eq_true]; exact ht _ _ R (h1 rfl)
  · rw [beq_eq_false_iff_ne.mpr e]; exact hf _ _ R (h2 e)
theorem WPCmp.leF (ha : Sm i a) (hb : Sm j b) (hi : i < 2 ^ 40) (hj : j < 2 ^ 40) (h1 : a ≤ b → Kt st) (h2 : b < a → Kf st) : WPCmp c .LtE (.float (Mine.fl a) t) (.float (Mine.fl b) u) st Kt Kf := by
  intro s Q E R ht hf
  refine Mine.leF (ha.lt2 hi) (hb.lt2 hj) ?_
  by_cases e : a ≤ b
  · rw [decide_eq_true e]; exact ht _ _ R (h1 e)
  · rw [decide_eq_false e]; exact hf _ _ R (h2 (Int.not_le.mp e))
theorem WPCmp.gtF (ha : Sm i a) (hb : Sm j b) (hi : i < 2 ^ 40) (hj : j < 2 ^ 40) (h1 : b < a → Kt st) (h2 : a ≤ b → Kf st) : WPCmp c .Gt (.float (Mine.fl a) t) (.float (Mine.fl b) u) st Kt Kf := by
  intro s Q E R ht hf
  refine Mine.gtF (ha.lt2 hi) (hb.lt2 hj) ?_
  by_cases e : b < a
  · rw [decide_eq_true e]; exact ht _ _ R (h1 e)
  · rw [decide_eq_false e]; exact hf _ _ R (h2 (Int.not_lt.mp e))
theorem WPCall.intF (h0 : 0 ≤ a) (ha : Sm i a) (hi : i < 2 ^ 40) (h : K (.int (a / 4096) tk) ⟨fr, led, tk + 1⟩) : WPCall c (.type "int") [.float (Mine.fl a) t] ⟨fr, led, tk⟩ K := by
  rintro s Q E ⟨ok, _, h', u, rfl, F, N⟩ hQ
  exact Mine.intF h0 (by have := ha.ltI hi; lia) (hQ _ _ ⟨fr, led, tk + 1⟩ ⟨ok, Nat.succ_pos _, h', u, rfl, F, N⟩ h)
theorem WPCall.absF (ha : Sm i a) (hi : i < 2 ^ 40) (h : K (.float (Mine.fl a.natAbs) tk) ⟨fr, led, tk + 1⟩) : WPCall c (.builtin "abs") [.float (Mine.fl a) t] ⟨fr, led, tk⟩ K := by
  rintro s Q E ⟨ok, _, h', u, rfl, F, N⟩ hQ
  exact Mine.absF (ha.lt2 hi) (hQ _ _ ⟨fr, led, tk + 1⟩ ⟨ok, Nat.succ_pos _, h', u, rfl, F, N⟩ h)
theorem WPCall.max3 {x y z : Int} (ed : Max3 x y z d) (hx : Sm i x) (hy : Sm i y) (hz : Sm i z) (hi : i < 2 ^ 40) (ht : 0 < t) (hu : 0 < u) (hv : 0 < v) (h : ∀ tk' t', 0 < t' → K (.float (Mine.fl d) t') ⟨fr, led, tk'⟩) :
    WPCall c (.builtin "max") [.float (Mine.fl x) t, .float (Mine.fl y) u, .float (Mine.fl z) v] ⟨fr, led, tk⟩ K := by
  rintro s Q E ⟨ok, hp, h', u, rfl, F, N⟩ hQ
  exact max3F rfl F N (hx.lt2 hi) (hy.lt2 hi) (hz.lt2 hi) ht hu hv hp ed fun h2 tk' t' h0 hp' F2 N2 => hQ _ _ ⟨fr, led, tk'⟩ ⟨ok, hp', h2, u, rfl, F2, N2⟩ (h _ _ h0)
theorem WPCall.min3 {x y z : Int} (ed : Min3 x y z d) (hx : Sm i x) (hy : Sm i y) (hz : Sm i z) (hi : i < 2 ^ 40) (ht : 0 < t) (hu : 0 < u) (hv : 0 < v) (h : ∀ tk' t', 0 < t' → K (.float (Mine.fl d) t') ⟨fr, led, tk'⟩) :
    WPCall c (.builtin "min") [.float (Mine.fl x) t, .float (Mine.fl y) u, .float (Mine.fl z) v] ⟨fr, led, tk⟩ K := by
  rintro s Q E ⟨ok, hp, h', u, rfl, F, N⟩ hQ
  exact min3F rfl F N (hx.lt2 hi) (hy.lt2 hi) (hz.lt2 hi) ht hu hv hp ed fun h2 tk' t' h0 hp' F2 N2 => hQ _ _ ⟨fr, led, tk'⟩ ⟨ok, hp', h2, u, rfl, F2, N2⟩ (h _ _ h0)
theorem WPCall.minI (h : ∀ tk' t', K (.int (min a b) t') ⟨fr, led, tk'⟩) : WPCall c (.builtin "min") [.int a t, .int b u] ⟨fr, led, tk⟩ K := by
  rintro s Q E ⟨ok, hp, h', u, rfl, F, N⟩ hQ
  exact Mine.minI rfl F N hp fun h2 tk' t' hp' F2 N2 => hQ _ _ ⟨fr, led, tk'⟩ ⟨ok, hp', h2, u, rfl, F2, N2⟩ (h _ _)
theorem WPCall.maxI (h : ∀ tk' t', K (.int (max a b) t') ⟨fr, led, tk'⟩) : WPCall c (.builtin "max") [.int a t, .int b u] ⟨fr, led, tk⟩ K := by
  rintro s Q E ⟨ok, hp, h', u, rfl, F, N⟩ hQ
  exact Mine.maxI rfl F N hp fun h2 tk' t' hp' F2 N2 => hQ _ _ ⟨fr, led, tk'⟩ ⟨ok, hp', h2, u, rfl, F2, N2⟩ (h _ _)
end
end Mine
end S_V3

section S_V4
set_option maxRecDepth 100000
namespace Mine
open PySem PySem.W PyProof.Rows PySem.Spec PySem.Calls PySem.SeqAt PyProof.Rows.LCg
section
variable {cs : Scope} {nd nu : Nat} {c : Amb cs nd nu} {fr : List (Str × Value)} {led : List (Addr × Obj)} {tk : Nat} {K : Value → AS → Prop} {Kt Kf Kn : AS → Prop} {Kx : Flow → AS → Prop} {pos apos : Pos} {st : AS}
theorem WPB.ledg {b : List Stmt} {led' : List (Addr × Obj)} (hl : ∀ p ∈ led', p ∈ led) (h : WPB c b ⟨fr, led', tk⟩ Kn Kx) : WPB c b ⟨fr, led, tk⟩ Kn Kx := by
  rintro s Q ⟨ok, hp, h', u, rfl, F, N⟩
  exact h _ _ ⟨ok, hp, h', u, rfl, F, News.sub N hl⟩
/- a, b, .. = x, y, ..: the tuple is gone behind it -/
theorem WPS.asgSwT {ts es : List Expr} {k k2 : Nat} {tp pe : Pos} (names : List Str) (h : WPL c pe es st fun vs st1 => names.length = vs.length ∧ vs.length ≤ sizeLine ∧ WPIn c (names.reverse.map fun n => bindName c.env n) vs.reverse st1 Kn)
    (hs : ∀ line env, swapsWithSole [.Tuple ts k tp] (.Tuple es k2 pe) line env = pure false) (hw : swappedStores [.Tuple ts k tp] (.Tuple es k2 pe) c.env = pure (some names)) : WPS c (.Assign [.Tuple ts k tp] (.Tuple es k2 pe) pos) st Kn Kx := by
  intro s Q R hn hx
  refine Assign_Tuple_swapped (Tuple_ (h _ _ _ R ?_)) (hs _ _) hw
  rintro vs s1 st1 R1 ⟨hl, hz, h1⟩
  obtain ⟨ok, hp, h', u, rfl, F, N⟩ := R1
  refine newTuple_N F N (fun h2 F2 N2 => ?_) hz
  refine unpackItemsN_ (items := vs.toArray) F2 N2 (isT_N N2 (.head _)) rfl (by rw [hl, List.size_toArray]) fun h3 F3 N3 => ?_
  exact h1 _ _ _ ⟨ok, hp, h3, u, rfl, F3, fun p hp => N3 p (.tail _ hp)⟩ hn
theorem WPM.iterT {D : Addr} {vs : List Value} (hm : (D, tupO vs) ∈ led) (h : ∀ I o, TupIt o D 0 → (∀ p ∈ led, p.1 < I) → K (.ref I) ⟨fr, (I, o) :: led, tk⟩) : WPM c (pyIter (.ref D)) ⟨fr, led, tk⟩ K := by
  rintro s Q E ⟨ok, hp, h', u, rfl, F, N⟩ hQ
  exact iter_tup F N hm fun I o h2 hI F2 N2 hl => hQ _ _ ⟨fr, _ :: led, tk⟩ ⟨ok, hp, h2, u, rfl, F2, N2⟩ (h I o hI hl)
theorem WPNext.tup {D I : Addr} {vs : List Value} {i : Nat} {o : Obj} (ho : TupIt o D i) (hm : (D, tupO vs) ∈ led) (hi : i < vs.length) (hsep : ∀ p ∈ led, p.1 ≠ I) (h : ∀ o', TupIt o' D (i + 1) → K (vs.getD i .none) ⟨fr, (I, o') :: led, tk⟩) : WPNext c (.ref I) ⟨fr, (I, o) :: led, tk⟩ K := by
  rintro s Q E ⟨ok, hp, h', u, rfl, F, N⟩ hQ
  exact next_tup F N ho hm hi hsep fun o' h2 hI F2 N2 => hQ _ _ ⟨fr, (I, o') :: led, tk⟩ ⟨ok, hp, h2, u, rfl, F2, N2⟩ (h o' hI)
theorem WPLast.tup {D I : Addr} {vs : List Value} {i : Nat} {o : Obj} (ho : TupIt o D i) (hm : (D, tupO vs) ∈ led) (hi : vs.length ≤ i) (hsep : ∀ p ∈ led, p.1 ≠ I) (h : Kn ⟨fr, led, tk⟩) : WPLast c (.ref I) ⟨fr, (I, o) :: led, tk⟩ Kn := by
  rintro s Q E ⟨ok, hp, h', u, rfl, F, N⟩ hQ
  exact next_tup_end rfl F N ho hm hi hsep fun h2 F2 N2 => hQ _ ⟨fr, led, tk⟩ ⟨ok, hp, h2, u, rfl, F2, N2⟩ h
theorem WPCall.tup {D : Addr} {vs : List Value} {n : Nat} (hm : (D, listOf vs.toArray n) ∈ led) (hz : vs.length ≤ 1000) (h : ∀ T, (∀ p ∈ led, p.1 < T) → K (.ref T) ⟨fr, (T, tupO vs) :: led, tk⟩) : WPCall c (.type "tuple") [.ref D] ⟨fr, led, tk⟩ K := by
  rintro s Q E ⟨ok, hp, h', u, rfl, F, N⟩ hQ
  exact tup_N F N hm hz fun T h2 F2 N2 hl => hQ _ _ ⟨fr, _ :: led, tk⟩ ⟨ok, hp, h2, u, rfl, F2, N2⟩ (h T hl)
theorem WPE.ifexp {t b o : Expr} (h : WPT c t st (fun st1 => WPE c b st1 K) (fun st1 => WPE c o st1 K)) : WPE c (.IfExp t b o pos) st K :=
  fun _ _ _ R hQ => IfExp_ (h _ _ _ R (fun _ _ R1 h1 => h1 _ _ _ R1 hQ) (fun _ _ R1 h1 => h1 _ _ _ R1 hQ))
end
end Mine
end S_V4

section S_V5
set_option maxRecDepth 100000
namespace Mine
open PySem PySem.W PyProof.Rows PySem.Spec PySem.Calls PySem.SeqAt PyProof.Rows.LCg
/- an iterator of range(n) ahead of i; of reversed(range(n)) -/
noncomputable def rngAt (n i : Nat) : Obj := rngIt (i : Int) ((n : Int) - (i : Int)) 1
noncomputable def rngDn (n i : Nat) : Obj := rngIt ((n : Int) - 1 - (i : Int)) ((n : Int) - (i : Int)) (-1)
section
variable {cs : Scope} {nd nu : Nat} {c : Amb cs nd nu} {fr : List (Str × Value)} {led : List (Addr × Obj)} {tk : Nat} {K : Value → AS → Prop} {Kt Kf Kn : AS → Prop} {Kx : Flow → AS → Prop} {pos apos : Pos} {st : AS}
theorem WPM.iterRN {r : Addr} {n : Nat} {t u v : Tok} (hm : (r, rngO 0 n t u v) ∈ led) (h1 : n ≤ 1000) (h : ∀ I, (∀ p ∈ led, p.1 < I) → K (.ref I) ⟨fr, (I, rngAt n 0) :: led, tk⟩) : WPM c (pyIter (.ref r)) ⟨fr, led, tk⟩ K :=
  WPM.iterR hm (Int.natCast_nonneg _) (by lia) fun I hI => by
    have := h I hI
    unfold rngAt at this
    rwa [Int.natCast_zero, Int.sub_zero] at this
theorem WPNext.rngN {I : Addr} {n i : Nat} (hl : i < n) (hsep : ∀ p ∈ led, p.1 ≠ I) (h : K (.int i tk) ⟨fr, (I, rngAt n (i + 1)) :: led, tk + 1⟩) : WPNext c (.ref I) ⟨fr, (I, rngAt n i) :: led, tk⟩ K :=
  WPNext.rng (by lia) hsep (by
    unfold rngAt at h
    rwa [Int.natCast_add, show (n : Int) - ((i : Int) + ((1 : Nat) : Int)) = (n : Int) - (i : Int) - 1 by lia] at h)
theorem WPLast.rngN {I : Addr} {n : Nat} (hsep : ∀ p ∈ led, p.1 ≠ I) (h : Kn ⟨fr, led, tk⟩) : WPLast c (.ref I) ⟨fr, (I, rngAt n n) :: led, tk⟩ Kn := WPLast.rng (by lia) hsep h
theorem WPCall.min2 {a b : Int} {i j : Nat} {t u : Tok} (ha : Sm i a) (hb : Sm j b) (hi : i < 2 ^ 40) (hj : j < 2 ^ 40) (h : ∀ tk' t', (t' = t ∨ t' = u) → tk ≤ tk' → K (.float (fl (min a b)) t') ⟨fr, led, tk'⟩) :
    WPCall c (.builtin "min") [.float (fl a) t, .float (fl b) u] ⟨fr, led, tk⟩ K := by
  rintro s Q E ⟨ok, hp, h', u, rfl, F, N⟩ hQ
  refine min2F rfl F N (ha.lt2 hi) (hb.lt2 hj) fun h2 tk' hle F2 N2 => hQ _ _ ⟨fr, led, tk'⟩ ⟨ok, Nat.lt_of_lt_of_le hp hle, h2, u, rfl, F2, N2⟩ (h _ _ ?_ hle)
  split
  · exact .inr rfl
  · exact .inl rfl
end
/- addresses of a ledger with a tail -/
theorem ne_app {T rest : List (Addr × Obj)} {x : Addr} (h : ∀ p ∈ T, p.1 ≠ x) (k : ∀ p ∈ rest, p.1 ≠ x) : ∀ p ∈ T ++ rest, p.1 ≠ x := fun p hp => (List.mem_append.mp hp).elim (h p) (k p)
theorem ne_cons {a x : Addr} {o : Obj} {l : List (Addr × Obj)} (h : a ≠ x) (k : ∀ p ∈ l, p.1 ≠ x) : ∀ p ∈ (a, o) :: l, p.1 ≠ x := List.forall_mem_cons.mpr ⟨h, k⟩
theorem sub_tail {α : Type} {x : α} {l : List α} : ∀ p ∈ l, p ∈ x :: l := fun _ h => .tail _ h
theorem sub_cons {α : Type} {x : α} {l l' : List α} (h : ∀ p ∈ l, p ∈ l') : ∀ p ∈ x :: l, p ∈ x :: l' := fun p hp => by
  rcases List.mem_cons.mp hp with rfl | hp
  · exact .head _
  · exact .tail _ (h p hp)
/- an entry moved to the head, and back -/
theorem mem_move {α : Type} {x : α} {r : List α} (l : List α) : ∀ p ∈ l ++ x :: r, p ∈ x :: (l ++ r) := fun p hp => by
  rcases List.mem_append.mp hp with hp | hp
  · exact .tail _ (List.mem_append.mpr (.inl hp))
  · rcases List.mem_cons.mp hp with rfl | hp
    · exact .head _
    · exact .tail _ (List.mem_append.mpr (.inr hp))
theorem mem_bring {α : Type} {x : α} {r : List α} (l : List α) : ∀ p ∈ x :: (l ++ r), p ∈ l ++ x :: r := fun p hp => by
  rcases List.mem_cons.mp hp with rfl | hp
  · exact List.mem_append.mpr (.inr (.head _))
  · rcases List.mem_append.mp hp with hp | hp
    · exact List.mem_append.mpr (.inl hp)
    · exact List.mem_append.mpr (.inr (.tail _ hp))
end Mine
end S_V5

section S_V6
set_option maxRecDepth 100000
namespace Mine
open PySem PySem.W PyProof.Rows PySem.Spec PySem.Calls PySem.SeqAt PyProof.Rows.LCg
section
variable {cs : Scope} {nd nu : Nat} {c : Amb cs nd nu} {fr : List (Str × Value)} {led : List (Addr × Obj)} {tk : Nat} {K : Value → AS → Prop} {Kt Kf Kn : AS → Prop} {Kx : Flow → AS → Prop} {pos apos : Pos} {st : AS}
theorem WPE.bool {b : Bool} {k : Nat} (h : K (.bool b) st) : WPE c (.Constant (.bool b) k pos) st K := fun _ _ _ R hQ => wpAny_Constant_bool (hQ _ _ _ R h)
theorem WPE.cmp {l r : Expr} {op : CmpOp} (h : WPE c l st fun x st1 => WPE c r st1 fun y st2 => WPCmp c op x y st2 (K (.bool true)) (K (.bool false))) (hn : behindInMarks op r = false := by intros; k_dflt exact rfl) : WPE c (.Compare l [op] [r] pos) st K :=
  fun _ _ _ R hQ => wpAny_Compare1 (h _ _ _ R fun _ _ _ R1 h1 => h1 _ _ _ R1 fun _ _ _ R2 h2 => h2 _ _ _ R2 (fun _ _ R3 h3 => hQ _ _ _ R3 h3) (fun _ _ R3 h3 => hQ _ _ _ R3 h3)) hn
/- a test that is a call -/
theorem WPT.val {e : Expr} (h : WPE c e st fun v st1 => WPTru c v st1 Kt Kf) (ht : isTrue e c.env (eval e c.env) = (do let v ← eval e c.env; standAt e.pos; holding [v] (truthy v)) := by intros; k_dflt exact rfl) : WPT c e st Kt Kf :=
  fun _ _ _ R ht' hf => wpAny_isTrue_value (h _ _ _ R fun _ _ _ R1 h1 => h1 _ _ _ R1 ht' hf) ht
theorem WPTru.tt (h : Kt st) : WPTru c (.bool true) st Kt Kf := fun _ _ _ R ht _ => wpAny_truthy_bool (ht _ _ R h)
noncomputable def IsTup3 (v : Value) (st : AS) (vs : List Value) : Prop := ∃ T, v = .ref T ∧ (T, tupO vs) ∈ st.led
theorem WPE.callStar {x y : Str} {px py ps : Pos} {f : Addr} (hg : GlobK x (.ref f) := by intro _; k_dflt k_is) (hk : ∀ w : World, keepIn (Mine.hd.heap_39 w.params) (.ref f) = true := by intro _; k_dflt k_is) (hx : cs.names.lookup x = some .globalImplicit := by intros; k_dflt exact rfl) (hd : (x == Str.ofString "__debug__") = false := by intros; k_dflt exact rfl)
    (h : WPE c (.Name y py) st fun v st1 => ∃ vs, vs.length ≤ sizeLine ∧ IsTup3 v st1 vs ∧ WPCall c (.ref f) vs st1 K) : WPE c (.Call (.Name x px) [.Starred (.Name y py) ps] [] pos) st K := by
  intro s Q E R hQ
  refine Call_ (WPE.glob (K := fun v st1 => v = .ref f ∧ st1 = st) hg hx hd ⟨rfl, rfl⟩ s _ _ R ?_)
  rintro _ s1 _ R1 ⟨rfl, rfl⟩
  refine callWith_S R1.1.X (hk _) (h _ _ _ R1 ?_)
  rintro v s2 st2 R2 ⟨vs, hz, ⟨T, rfl, hm⟩, h2⟩
  obtain ⟨ok, hp, h', u, rfl, F, N⟩ := R2
  refine star_seq (its := vs.toArray) F N hm rfl rfl (.inr rfl) rfl (by rw [List.size_toArray]; exact hz) fun h3 F3 N3 => ⟨ok.X.keeps F3.keep, ?_⟩
  exact h2 _ _ _ ⟨ok, hp, h3, u, rfl, F3, N3⟩ hQ
/- x op= e -/
theorem WPS.aug {x : Str} {px : Pos} {op : Operator} {e : Expr} {v : Value} (hl : look fr x = some v := by intros; k_dflt exact rfl) (hx : cs.names.lookup x = some .local := by intros; k_dflt exact rfl) (h : WPE c e ⟨fr, led, tk⟩ fun y st1 => WPM c (inplaceOp op v y) st1 fun r st2 => WPStore c x r st2 Kn) : WPS c (.AugAssign (.Name x px) op e pos) ⟨fr, led, tk⟩ Kn Kx := by
  intro s Q R hn hx'
  obtain ⟨ok, hp, h', u, rfl, F, N⟩ := id R
  exact wpAny_AugAssign_Name (wpAny_loadName_local ok.hk hx F.ns (mp_look hl) (h _ _ _ R fun _ _ _ R1 h1 => h1 _ _ _ R1 fun _ _ _ R2 h2 => h2 _ _ _ R2 hn))
theorem WPM.iaddF {a b : Int} {i j : Nat} {t u : Tok} (ha : Sm i a) (hb : Sm j b) (hi : i < 2 ^ 40) (hj : j < 2 ^ 40) (h : K (.float (fl (a + b)) tk) ⟨fr, led, tk + 1⟩) : WPM c (inplaceOp .Add (.float (fl a) t) (.float (fl b) u)) ⟨fr, led, tk⟩ K := by
  rintro s Q E ⟨ok, hp, h', u, rfl, F, N⟩ hQ
  exact Mine.iaddF (ha.lt2 hi) (hb.lt2 hj) (hQ _ _ ⟨fr, led, tk + 1⟩ ⟨ok, Nat.succ_pos _, h', u, rfl, F, N⟩ h)
theorem WPM.iaddI {a b : Int} {t u : Tok} (h : K (.int (a + b) tk) ⟨fr, led, tk + 1⟩) : WPM c (inplaceOp .Add (.int a t) (.int b u)) ⟨fr, led, tk⟩ K := by
  rintro s Q E ⟨ok, hp, h', u, rfl, F, N⟩ hQ
  exact PyProof.Rows.iadd_int (hQ _ _ ⟨fr, led, tk + 1⟩ ⟨ok, Nat.succ_pos _, h', u, rfl, F, N⟩ h)
theorem WPCmp.neF {a b : Int} {i j : Nat} {t u : Tok} (ha : Sm i a) (hb : Sm j b) (hi : i < 2 ^ 40) (hj : j < 2 ^ 40) (h1 : a ≠ b → Kt st) (h2 : a = b → Kf st) : WPCmp c .NotEq (.float (fl a) t) (.float (fl b) u) st Kt Kf := by
  intro s Q E R ht hf
  refine Mine.neF (ha.lt2 hi) (hb.lt2 hj) ?_
  by_cases e : a = b
  · rw [decide_eq_true e]; exact hf _ _ R (h2 e)
  · rw [decide_eq_false e]; exact ht _ _ R (h1 e)
theorem WPCmp.neI {a b : Int} {t u : Tok} (h1 : a ≠ b → Kt st) (h2 : a = b → Kf st) : WPCmp c .NotEq (.int a t) (.int b u) st Kt Kf := by
  intro s Q E R ht hf
  refine ne_int ?_
  by_cases e : a = b
  · subst e; rw [show (a != a) = false from bne_self_eq_false a]; exact hf _ _ R (h2 rfl)
  · rw [show (a != b) = true from bne_iff_ne.mpr e]; exact ht _ _ R (h1 e)
theorem Amb.Ok.unit {c : Amb cs nd nu} (ok : c.Ok) (h : 3 ≤ nu) : c.un < cLine := by have := ok.hu; lia
theorem WPCmp.neT3 {D D' : Addr} {a b d : Int} {i : Nat} {t1 t2 t3 u1 u2 u3 : Tok} (hm : (D, tupO [.float (fl a) t1, .float (fl b) t2, .float (fl d) t3]) ∈ led) (hm' : (D', tupO [.float (fl a) u1, .float (fl b) u2, .float (fl d) u3]) ∈ led)
    (h1 : 0 < t1) (h2 : 0 < t2) (h3 : 0 < t3) (g1 : 0 < u1) (g2 : 0 < u2) (g3 : 0 < u3) (ha : Sm i a) (hb : Sm i b) (hd : Sm i d) (hi : i < 2 ^ 40) (hu : 3 ≤ nu) (h : Kf ⟨fr, led, tk⟩) : WPCmp c .NotEq (.ref D) (.ref D') ⟨fr, led, tk⟩ Kt Kf := by
  rintro s Q E ⟨ok, hp, h', u, rfl, F, N⟩ ht hf
  exact Mine.neT3 F ok.X N hm hm' h1 h2 h3 g1 g2 g3 (ha.lt2 hi) (hb.lt2 hi) (hd.lt2 hi) (ok.unit hu) (hf _ ⟨fr, led, tk⟩ ⟨ok, hp, h', u, rfl, F, N⟩ h)
theorem WPCmp.neNil {D D' : Addr} {vs : List Value} {n k : Nat} (hm : (D, listOf vs.toArray n) ∈ led) (hm' : (D', listOf ([] : List Value).toArray k) ∈ led) (hu : 3 ≤ nu) (h1 : vs.isEmpty = false → Kt ⟨fr, led, tk⟩) (h2 : vs.isEmpty = true → Kf ⟨fr, led, tk⟩) : WPCmp c .NotEq (.ref D) (.ref D') ⟨fr, led, tk⟩ Kt Kf := by
  rintro s Q E ⟨ok, hp, h', u, rfl, F, N⟩ ht hf
  refine Mine.neNil N hm hm' (ok.unit hu) ?_
  cases e : vs.isEmpty with
  | true => exact hf _ ⟨fr, led, tk⟩ ⟨ok, hp, h', u, rfl, F, N⟩ (h2 e)
  | false => exact ht _ ⟨fr, led, tk⟩ ⟨ok, hp, h', u, rfl, F, N⟩ (h1 e)
theorem WPCmp.eqNil {D D' : Addr} {vs : List Value} {n k : Nat} (hm : (D, listOf vs.toArray n) ∈ led) (hm' : (D', listOf ([] : List Value).toArray k) ∈ led) (hu : 3 ≤ nu) (h1 : vs.isEmpty = true → Kt ⟨fr, led, tk⟩) (h2 : vs.isEmpty = false → Kf ⟨fr, led, tk⟩) : WPCmp c .Eq (.ref D) (.ref D') ⟨fr, led, tk⟩ Kt Kf := by
  rintro s Q E ⟨ok, hp, h', u, rfl, F, N⟩ ht hf
  refine Mine.eqNil N hm hm' (ok.unit hu) ?_
  cases e : vs.isEmpty with
  | true => exact ht _ ⟨fr, led, tk⟩ ⟨ok, hp, h', u, rfl, F, N⟩ (h1 e)
  | false => exact hf _ ⟨fr, led, tk⟩ ⟨ok, hp, h', u, rfl, F, N⟩ (h2 e)
theorem WPCmp.neFls {D D' : Addr} {vs us : List Value} {as : List Int} {n k i : Nat} (hm : (D, listOf vs.toArray n) ∈ led) (hm' : (D', listOf us.toArray k) ∈ led) (ha : Fls vs as) (hb : Fls us as) (hz : ∀ a ∈ as, Sm i a) (hi : i < 2 ^ 40) (hu : 3 ≤ nu) (h : Kf ⟨fr, led, tk⟩) : WPCmp c .NotEq (.ref D) (.ref D') ⟨fr, led, tk⟩ Kt Kf := by
  rintro s Q E ⟨ok, hp, h', u, rfl, F, N⟩ ht hf
  exact Mine.neFls F ok.X N hm hm' ha hb (fun a h => (hz a h).lt2 hi) (ok.unit hu) (hf _ ⟨fr, led, tk⟩ ⟨ok, hp, h', u, rfl, F, N⟩ h)
theorem WPCmp.eqFls {D D' : Addr} {vs us : List Value} {as : List Int} {n k i : Nat} (hm : (D, listOf vs.toArray n) ∈ led) (hm' : (D', listOf us.toArray k) ∈ led) (ha : Fls vs as) (hb : Fls us as) (hz : ∀ a ∈ as, Sm i a) (hi : i < 2 ^ 40) (hu : 3 ≤ nu) (h : Kt ⟨fr, led, tk⟩) : WPCmp c .Eq (.ref D) (.ref D') ⟨fr, led, tk⟩ Kt Kf := by
  rintro s Q E ⟨ok, hp, h', u, rfl, F, N⟩ ht hf
  exact Mine.eqFls F ok.X N hm hm' ha hb (fun a h => (hz a h).lt2 hi) (ok.unit hu) (ht _ ⟨fr, led, tk⟩ ⟨ok, hp, h', u, rfl, F, N⟩ h)
end
end Mine
end S_V6

section S_SumR
set_option maxRecDepth 100000
namespace Mine
open PySem PySem.W PyProof.Rows PySem.Spec PySem.Calls PySem.SeqAt PyProof.Rows.LCg
theorem intsAre_of : ∀ {vs : List Value} {ns : List Int}, Ints vs ns → IntsAre vs ns
  | [], [], _ => .nil
  | [], _ :: _, h => absurd h.1 (by simp)
  | _ :: _, [], h => absurd h.1 (by simp)
  | v :: vs, n :: ns, h => by
    obtain ⟨t, e⟩ := h.2 0 (by simp)
    have e : v = .int n t := e
    subst e
    refine .cons n t (intsAre_of ⟨by have := h.1; simpa using this, fun i hi => ?_⟩)
    obtain ⟨u, e'⟩ := h.2 (i + 1) (by simp; exact hi)
    exact ⟨u, by simpa using e'⟩
section
variable {prog : Program} {w : World} {A : Around} {E : Value → Shared → Prop} {s : Shared} {h₀ : Heap} {L l b : Addr} {m : Str → Option Value} {news : List (Addr × Obj)} {vs ws : List Value} {n k : Nat} {Q : Value → Shared → Prop}
theorem sum_N {ns : List Int} (hh : A.handled = none) (F : Fr h₀ L s.heap m) (N : News h₀ L s.heap news) (hm : (l, listOf vs.toArray n) ∈ news) (hi : Ints vs ns) (htk : 0 < s.toks)
    (h : ∀ h' tk t', 0 < tk → Fr h₀ L h' m → News h₀ L h' news → Q (.int ns.sum t') { s with heap := h', toks := tk }) : wpAny (model prog w) A (call (.builtin "sum") [.ref l]) Q E s :=
  wpAny_le (PyProof.Rows.LSm.sum_ints F N hh (isL_N N hm) (intsAre_of hi) fun h' tk t' F' N' hle => h h' tk t' (Nat.lt_of_lt_of_le htk hle) F' N')
theorem cat_N (F : Fr h₀ L s.heap m) (N : News h₀ L s.heap news) (hm : (l, listOf vs.toArray n) ∈ news) (hm2 : (b, listOf ws.toArray k) ∈ news) (hz : vs.length + ws.length ≤ 1000)
    (h : ∀ D h', Fr h₀ L h' m → News h₀ L h' ((D, listOf (vs ++ ws).toArray 0) :: news) → (∀ p ∈ news, p.1 < D) → Q (.ref D) { s with heap := h' }) : wpAny (model prog w) A (binaryOp .Add (.ref l) (.ref b)) Q E s :=
  add_lists F N (isL_N N hm) (isL_N N hm2) (fun h' F' N' => h _ h' F' N' fun p hp => Heap.lt_size (N p hp).1) (by rw [sizeLine_eq]; lia)
end
end Mine
end S_SumR

section S_Comp2
set_option maxRecDepth 100000
namespace Mine
open PySem PySem.W PyProof.Rows PySem.Spec PySem.Calls PySem.SeqAt PyProof.Rows.LCg

theorem turn2a (elt t1 i1 t2 i2 c : Expr) (scope : Scope) (pos : Pos) (it acc : Value) (env : Env) :
    compTurn (.ListComp elt [⟨t1, i1, [], 0⟩, ⟨t2, i2, [c], 0⟩] scope pos) 0 it acc env = (do
      standAt i1.pos
      match ← pyNext it with
      | none => pure (.done .next)
      | some v =>
        letOwnedTupleGo t1 it v
        assign t1 env v
        let mut ok := true
        for c in ([] : List Expr) do
          if ok then ok ← isTrue c env (eval c env)
        if ok then
          let x ← eval i2 env
          standAt i2.pos
          let x ← foldedSetIterable i2 env x
          let _ ← runOwn (.compStart (.ListComp elt [⟨t1, i1, [], 0⟩, ⟨t2, i2, [c], 0⟩] scope pos) 1 (← holding [x] (pyIter x)) acc env) env
        again (.compLoop (.ListComp elt [⟨t1, i1, [], 0⟩, ⟨t2, i2, [c], 0⟩] scope pos) 0 it acc env)) := by rfl

theorem turn2b (elt t1 i1 t2 i2 c : Expr) (scope : Scope) (pos : Pos) (it acc : Value) (env : Env) :
    compTurn (.ListComp elt [⟨t1, i1, [], 0⟩, ⟨t2, i2, [c], 0⟩] scope pos) 1 it acc env = (do
      standAt i2.pos
      match ← pyNext it with
      | none => pure (.done .next)
      | some v =>
        letOwnedTupleGo t2 it v
        assign t2 env v
        let mut ok := true
        for c in [c] do
          if ok then ok ← isTrue c env (eval c env)
        if ok then
          (do let _ ← call (.builtin "list.append") [acc, ← eval elt env])
        again (.compLoop (.ListComp elt [⟨t1, i1, [], 0⟩, ⟨t2, i2, [c], 0⟩] scope pos) 1 it acc env)) := by rfl

section
variable {prog : Program} {w : World} {A : Around} {E : Value → Shared → Prop} {s : Shared} {h₀ : Heap} {L : Addr} {m : Str → Option Value} {env : Env} {news : List (Addr × Obj)} {R : Result → Shared → Prop}

theorem start2b {elt t1 i1 t2 i2 c : Expr} {scope : Scope} {pos : Pos} {it acc : Value}
    (h0 : codeAny (model prog w) A (.compLoop (.ListComp elt [⟨t1, i1, [], 0⟩, ⟨t2, i2, [c], 0⟩] scope pos) 1 it acc env) R s)
    (h : wpAny (model prog w) A (pyIter it) (fun it' s' => codeAny (model prog w) A (.compLoop (.ListComp elt [⟨t1, i1, [], 0⟩, ⟨t2, i2, [c], 0⟩] scope pos) 1 it' acc env) R s')
      (notedBy (model prog w) A env fun x s' => R (.error x) s') s) :
    codeAny (model prog w) A (.compStart (.ListComp elt [⟨t1, i1, [], 0⟩, ⟨t2, i2, [c], 0⟩] scope pos) 1 it acc env) R s := by
  refine codeAny_of_tree ?_
  show wpAny _ _ ((compStart (.ListComp elt [⟨t1, i1, [], 0⟩, ⟨t2, i2, [c], 0⟩] scope pos) 1 it acc env).onRaise (fun x => do noteFrame x env; standAt theWindowsPlace)) _ _ s
  refine wpAny_notedAt ?_
  unfold compStart
  show wpAny _ _ (ask >>= _) _ _ s
  refine wpAny_bind (wpAny_askSetting (wpAny_ite ?_))
  split
  · first
      | exact wpAny_bind (wpAny_pure (wpAny_pure (And.intro rfl h0)))
      | exact wpAny_pure (And.intro rfl h0)
  · first
      | exact wpAny_bind (wpAny_rule (wpAny_bind (wpAny_standAt (wpAny_bind (wpAny_mono h (fun it' s' h' => wpAny_pure (And.intro rfl h')) fun _ _ x => x)))))
      | (refine wpAny_bind (wpAny_rule ?_); show wpAny _ _ (standAt i2.pos >>= _) _ _ s; exact wpAny_bind (wpAny_standAt (wpAny_bind (wpAny_mono h (fun it' s' h' => wpAny_pure (And.intro rfl h')) fun _ _ x => x))))

theorem loop2b {elt t1 i1 t2 i2 c : Expr} {scope : Scope} {pos : Pos} {it acc : Value} (I : Nat → Shared → Prop)
    (turn : ∀ n s E', I n s → wpAny (model prog w) A (pyNext it) (fun r s₁ => match r with
      | none => R (.ok .next) s₁
      | some v => wpAny (model prog w) A (letOwnedTupleGo t2 it v) (fun _ s₀ => wpAny (model prog w) A (assign t2 env v) (fun _ s₂ =>
          wpAny (model prog w) A (isTrue c env (eval c env)) (fun ok s₃ => if ok = true then wpAny (model prog w) A (eval elt env) (fun x s₄ =>
            wpAny (model prog w) A (call (.builtin "list.append") [acc, x]) (fun _ s₅ => ∃ m, m < n ∧ I m s₅) E' s₄) E' s₃
            else ∃ m, m < n ∧ I m s₃) E' s₂) E' s₀) E' s₁) E' s)
    (n : Nat) (h : I n s) : codeAny (model prog w) A (.compLoop (.ListComp elt [⟨t1, i1, [], 0⟩, ⟨t2, i2, [c], 0⟩] scope pos) 1 it acc env) R s := by
  refine codeAny_loop rfl I (fun n s hI => ?_) n h
  show wpAny _ A ((compTurn (.ListComp elt [⟨t1, i1, [], 0⟩, ⟨t2, i2, [c], 0⟩] scope pos) 1 it acc env).onRaise (fun x => do noteFrame x env; theTreesLotGoes x)) _ _ s
  refine wpAny_noted ?_
  rw [turn2b]
  refine wpAny_bind (wpAny_standAt (wpAny_bind (wpAny_mono (turn n s _ hI) (fun r s₁ h₁ => ?_) fun _ _ h' => h')))
  cases r with
  | none => exact wpAny_pure h₁
  | some v =>
    refine wpAny_bind (wpAny_mono h₁ (fun _ s₀ h₀' => ?_) fun _ _ h' => h')
    refine wpAny_bind (wpAny_mono h₀' (fun _ s₂ h₂ => ?_) fun _ _ h' => h')
    refine wpAny_bind (wpAny_tests_one (wpAny_mono h₂ (fun okb s₃ h₃ => ?_) fun _ _ h' => h'))
    cases okb with
    | false => exact wpAny_pure ⟨rfl, h₃⟩
    | true => exact wpAny_bind (wpAny_bind (wpAny_mono h₃ (fun x s₄ h₄ => wpAny_bind (wpAny_mono h₄ (fun _ s₅ h₅ => wpAny_pure (wpAny_pure ⟨rfl, h₅⟩)) fun _ _ h' => h')) fun _ _ h' => h'))

theorem loop2a {elt t1 i1 t2 i2 c : Expr} {scope : Scope} {pos : Pos} {it acc : Value} (hs2 : ∀ x, foldedSetIterable i2 env x = pure x) (I : Nat → Shared → Prop)
    (turn : ∀ n s E', I n s → wpAny (model prog w) A (pyNext it) (fun r s₁ => match r with
      | none => R (.ok .next) s₁
      | some v => wpAny (model prog w) A (letOwnedTupleGo t1 it v) (fun _ s₀ => wpAny (model prog w) A (assign t1 env v) (fun _ s₂ =>
          wpAny (model prog w) A (eval i2 env) (fun x s₃ => wpAny (model prog w) A (pyIter x) (fun it2 s₄ =>
            codeAny (model prog w) A (.compStart (.ListComp elt [⟨t1, i1, [], 0⟩, ⟨t2, i2, [c], 0⟩] scope pos) 1 it2 acc env) (fun r s₅ => r = .ok .next ∧ ∃ m, m < n ∧ I m s₅) s₄) E' s₃) E' s₂) E' s₀) E' s₁) E' s)
    (n : Nat) (h : I n s) : codeAny (model prog w) A (.compLoop (.ListComp elt [⟨t1, i1, [], 0⟩, ⟨t2, i2, [c], 0⟩] scope pos) 0 it acc env) R s := by
  refine codeAny_loop rfl I (fun n s hI => ?_) n h
  show wpAny _ A ((compTurn (.ListComp elt [⟨t1, i1, [], 0⟩, ⟨t2, i2, [c], 0⟩] scope pos) 0 it acc env).onRaise (fun x => do noteFrame x env; theTreesLotGoes x)) _ _ s
  refine wpAny_noted ?_
  rw [turn2a]
  refine wpAny_bind (wpAny_standAt (wpAny_bind (wpAny_mono (turn n s _ hI) (fun r s₁ h₁ => ?_) fun _ _ h' => h')))
  cases r with
  | none => exact wpAny_pure h₁
  | some v =>
    refine wpAny_bind (wpAny_mono h₁ (fun _ s₀ h₀' => ?_) fun _ _ h' => h')
    refine wpAny_bind (wpAny_mono h₀' (fun _ s₂ h₂ => ?_) fun _ _ h' => h')
    refine wpAny_bind (wpAny_tests_nil ?_)
    refine wpAny_bind (wpAny_mono h₂ (fun x s₃ h₃ => ?_) fun _ _ h' => h')
    refine wpAny_bind (wpAny_standAt (wpAny_bind (wpAny_of_eq (hs2 x) (wpAny_bind (wpAny_holding (wpAny_mono h₃ (fun it2 s₄ h₄ => ?_) fun _ _ h' => h'))))))
    refine wpAny_bind (wpAny_runOwn (codeAny_mono h₄ fun r s₅ h₅ => ?_))
    obtain ⟨rfl, h₅⟩ := h₅
    exact wpAny_pure ⟨rfl, h₅⟩

/- the inner loop's body: the test and the element -/
noncomputable def CBody (prog : Program) (w : World) (A : Around) (h₀ : Heap) (L : Addr) (m : Str → Option Value) (elt c : Expr) (cenv : Env) (C : Addr) (X : List (Addr × Obj)) (n2 : Nat) (Bd : Nat → (Str → Option Value) → Prop) (R : Nat → Option Value → Prop) : Prop :=
  ∀ (j : Nat) (oC : Obj) (mC : Str → Option Value) (Y : List (Addr × Obj)) (s' : Shared) (E' : Value → Shared → Prop), j < n2 → NsObj oC mC → Bd j mC → Fr h₀ L s'.heap m → News h₀ L s'.heap ((C, oC) :: Y) → (∀ p ∈ X, p ∈ Y) → (∀ p ∈ Y, p.1 ≠ C) →
    wpAny (model prog w) A (isTrue c cenv (eval c cenv)) (fun ok s₃ => if ok = true then wpAny (model prog w) A (eval elt cenv) (fun v s₄ => ∃ h tk, s₄ = { s' with heap := h, toks := tk } ∧ R j (some v) ∧ Fr h₀ L h m ∧ News h₀ L h ((C, oC) :: Y)) E' s₃
      else ∃ h tk, s₃ = { s' with heap := h, toks := tk } ∧ R j none ∧ Fr h₀ L h m ∧ News h₀ L h ((C, oC) :: Y)) E' s'

/- between the inner turns -/
noncomputable def In2 (h₀ : Heap) (L : Addr) (m : Str → Option Value) (s : Shared) (X : List (Addr × Obj)) (x2 : Str) (mC : Str → Option Value) (K : Nat → List Value → Prop) (D C I l : Addr) (j : Nat) (s' : Shared) : Prop :=
  ∃ h tk ys k oC mC' oI, s' = { s with heap := h, toks := tk } ∧ K j ys ∧ NsObj oC mC' ∧ (∀ z, z ≠ x2 → mC' z = mC z) ∧ ListIt oI l j ∧ Fr h₀ L h m ∧ News h₀ L h ((I, oI) :: (C, oC) :: (D, listOf ys.toArray k) :: X)
noncomputable def In2End (h₀ : Heap) (L : Addr) (m : Str → Option Value) (s : Shared) (X : List (Addr × Obj)) (K : List Value → Prop) (D C : Addr) (s' : Shared) : Prop :=
  ∃ h tk ys k oC mC', s' = { s with heap := h, toks := tk } ∧ K ys ∧ NsObj oC mC' ∧ Fr h₀ L h m ∧ News h₀ L h ((C, oC) :: (D, listOf ys.toArray k) :: X)

theorem inner2 {elt t1 i1 i2 c : Expr} {scope : Scope} {cl : List (Str × Addr)} {pos px2 : Pos} {x2 : Str} {D C I l : Addr} {vs : List Value} {kv : Nat} {X : List (Addr × Obj)} {mC : Str → Option Value} {K : Nat → List Value → Prop} {RR : Nat → Option Value → Prop}
    (hh : A.handled = none) (hx : scope.names.lookup x2 = some .local) (hkind : scope.kind = .function) (hstep : ∀ j ys o, K j ys → RR j o → K (j + 1) (ys ++ o.toList)) (hlen : ∀ j ys, j < vs.length → K j ys → ys.length ≤ 1000)
    (hl : (l, listOf vs.toArray kv) ∈ X) (hX : ∀ p ∈ X, p.1 ≠ C ∧ p.1 ≠ D ∧ p.1 ≠ I) (hDC : D ≠ C) (hIC : I ≠ C) (hID : I ≠ D)
    (body : CBody prog w A h₀ L m elt c (compEnvC scope cl C env) C X vs.length (fun j m' => m' x2 = some (vs.getD j .none) ∧ ∀ z, z ≠ x2 → m' z = mC z) RR)
    (s₁ : Shared) (h1 : In2 h₀ L m s X x2 mC K D C I l 0 s₁) (hR : ∀ s₂, In2End h₀ L m s X (K vs.length) D C s₂ → R (.ok .next) s₂) :
    codeAny (model prog w) A (.compLoop (.ListComp elt [⟨t1, i1, [], 0⟩, ⟨.Name x2 px2, i2, [c], 0⟩] scope pos) 1 (.ref I) (.ref D) (compEnvC scope cl C env)) R s₁ := by
  refine loop2b (fun k s' => ∃ j, j ≤ vs.length ∧ k = vs.length + 1 - j ∧ In2 h₀ L m s X x2 mC K D C I l j s') ?_ (vs.length + 1) ⟨0, Nat.zero_le _, rfl, h1⟩
  rintro k s' E' ⟨j, hj, rfl, h, tk, ys, kk, oC, mC', oI, rfl, hK, hC, hm, hI, F, N⟩
  have sepI : ∀ p ∈ (C, oC) :: (D, listOf ys.toArray kk) :: X, p.1 ≠ I := fun p hp => by
    rcases List.mem_cons.mp hp with rfl | hp
    · exact Ne.symm hIC
    rcases List.mem_cons.mp hp with rfl | hp
    · exact Ne.symm hID
    · exact (hX p hp).2.2
  by_cases hlt : j < vs.length
  · refine next_list F N hI (.tail _ (.tail _ hl)) hlt sepI fun o' h' hI' F' N' => ?_
    dsimp only
    refine wpAny_of_eq rfl ?_
    have sepC : ∀ p ∈ (I, o') :: (D, listOf ys.toArray kk) :: X, p.1 ≠ C := fun p hp => by
      rcases List.mem_cons.mp hp with rfl | hp
      · exact hIC
      rcases List.mem_cons.mp hp with rfl | hp
      · exact hDC
      · exact (hX p hp).1
    refine as_comp1 F' (News.swap N') hC sepC (fun h5 oC' m5 hC' hx' hz' F5 N5 => ?_) hx hkind
    refine wpAny_mono (body j oC' m5 _ _ E' hlt hC' ⟨hx', fun z hz => (hz' z hz).trans (hm z hz)⟩ F5 N5 (fun p hp => .tail _ (.tail _ hp)) sepC) (fun ok s₃ h₃ => ?_) fun _ _ e => e
    cases ok with
    | false =>
      simp only [Bool.false_eq_true, if_false] at h₃ ⊢
      obtain ⟨h6, tk6, rfl, hr, F6, N6⟩ := h₃
      refine ⟨vs.length + 1 - (j + 1), by lia, j + 1, hlt, rfl, h6, tk6, ys, kk, oC', m5, o', rfl, ?_, hC', fun z hz => (hz' z hz).trans (hm z hz), hI', F6, News.swap N6⟩
      have := hstep j ys none hK hr
      simpa using this
    | true =>
      simp only [if_true] at h₃ ⊢
      refine wpAny_mono h₃ (fun v s₄ h₄ => ?_) fun _ _ e => e
      obtain ⟨h6, tk6, rfl, hr, F6, N6⟩ := h₄
      refine append_N F6 (News.swap N6) (Upd.mid (pre := [(I, o'), (C, oC')]) (fun p hp => ?_) fun p hp => (hX p hp).2.1) (hlen j ys hlt hK) fun h7 F7 N7 => ?_
      · rcases List.mem_cons.mp hp with rfl | hp
        · exact hID
        · rw [List.mem_singleton.mp hp]; exact Ne.symm hDC
      · exact ⟨vs.length + 1 - (j + 1), by lia, j + 1, hlt, rfl, h7, tk6, ys ++ [v], kk + 1, oC', m5, o', rfl, hstep j ys (some v) hK hr, hC', fun z hz => (hz' z hz).trans (hm z hz), hI', F7, N7⟩
  · obtain rfl : j = vs.length := Nat.le_antisymm hj (Nat.not_lt.mp hlt)
    refine next_list_end hh F N hI (.tail _ (.tail _ hl)) (Nat.le_refl _) sepI fun h' F' N' => ?_
    exact hR _ ⟨h', tk, ys, kk, oC, mC', rfl, hK, hC, F', N'⟩

theorem comp_open {e : Expr} {scope : Scope} {cl : List (Str × Addr)} {it : Value} {RR : Value → Addr → Result → Shared → Prop}
    (hcell : ∀ y ∈ scope.names, y.2 ≠ .cell) (hkind : scope.kind = .function) (F : Fr h₀ L s.heap m) (N : News h₀ L s.heap news)
    (k : ∀ D C oC h', NsObj oC (fun _ => none) → Fr h₀ L h' m → News h₀ L h' ((C, oC) :: (D, listOf ([] : List Value).toArray 0) :: news) → (∀ p ∈ news, p.1 < D) → D < C →
      codeAny (model prog w) A (.compStart e 0 it (.ref D) (compEnvC scope cl C env)) (RR (.ref D) C) { s with heap := h' }) :
    wpAny (model prog w) A (newList []) (fun acc s₃ => wpAny (model prog w) A (newFunctionEnv scope env.globals cl [] env.qual none .none (some env)) (fun cenv s₄ =>
      codeAny (model prog w) A (.compStart e 0 it acc { cenv with scope := relabel scope env }) (RR acc cenv.locals) s₄) E s₃) E s := by
  refine wpAny_newObj_type (wpAny_newFunctionEnv hcell (by intro y hy; simp at hy) (fun h₁ hns₁ hsb₁ => ?_) hkind)
  dsimp only at hns₁ hsb₁ ⊢
  generalize hH2 : s.heap.push { cls := .type "list", dict := none, data := .seq ([] : List Value).toArray } = H2 at hns₁ hsb₁ ⊢
  have hC : H2.objs.size = s.heap.objs.size + 1 := by rw [← hH2, Heap.size_push]
  have hDC : s.heap.objs.size ≠ H2.objs.size := by rw [hC]; exact Nat.ne_of_lt (Nat.lt_succ_self _)
  have below : ∀ b, b < s.heap.objs.size → b ≠ H2.objs.size ∧ b ≠ s.heap.objs.size := fun b hb => ⟨by rw [hC]; exact Nat.ne_of_lt (Nat.lt_succ_of_lt hb), Nat.ne_of_lt hb⟩
  have old : ∀ b o, s.heap.get? b = some o → h₁.get? b = some o := fun b o e => hsb₁.extBut b o (below b (Heap.lt_size e)).1 (Heap.get?_push_of_some _ (hH2 ▸ Heap.get?_push_of_some _ e))
  have hacc : h₁.get? s.heap.objs.size = some (listOf ([] : List Value).toArray 0) := hsb₁.extBut _ _ hDC (Heap.get?_push_of_some _ (hH2 ▸ Heap.get?_push_size _ rfl))
  have fresh : ∀ a, s.heap.objs.size ≤ a → s.heap.get? a = none := fun a ha => by
    cases e : s.heap.get? a with
    | none => rfl
    | some o' => exact absurd (Heap.lt_size e) (Nat.not_lt.mpr ha)
  have fresh₀ : ∀ a, s.heap.objs.size ≤ a → h₀.get? a = none := fun a ha => by
    cases e : h₀.get? a with
    | none => rfl
    | some o' => have := F.keep a o' e; rw [fresh a ha] at this; cases this
  have hD₀ : h₀.get? s.heap.objs.size = none := fresh₀ _ (Nat.le_refl _)
  have hC₀ : h₀.get? H2.objs.size = none := fresh₀ _ (by rw [hC]; exact Nat.le_succ _)
  have hLlt : L < s.heap.objs.size := F.ns.lt
  have hDL : s.heap.objs.size ≠ L := Ne.symm (below L hLlt).2
  have hCL : H2.objs.size ≠ L := Ne.symm (below L hLlt).1
  obtain ⟨oC, heC, hoC⟩ := ns_obj hns₁
  refine k s.heap.objs.size H2.objs.size oC h₁ (by simpa using hoC) (F.keeps old) (fun p hp => ?_) (fun p hp => Heap.lt_size (N p hp).1) (by rw [hC]; exact Nat.lt_succ_self _)
  rcases List.mem_cons.mp hp with rfl | hp
  · exact ⟨heC, hCL, hC₀⟩
  · rcases List.mem_cons.mp hp with rfl | hp
    · exact ⟨hacc, hDL, hD₀⟩
    · exact ⟨old _ _ (N p hp).1, (N p hp).2⟩

/- [elt for x1 in range(n) for x2 in <a list> if c] -/
theorem comp2_val {elt i1 i2 c : Expr} {scope : Scope} {cl : List (Str × Addr)} {pos px1 px2 : Pos} {x1 x2 : Str} {l : Addr} {n : Nat} {vs : List Value} {kv : Nat} {Q : Value → Shared → Prop} (K : Nat → Nat → List Value → Prop) (RR : Nat → Nat → Option Value → Prop)
    (hclos : closureFor scope env = pure cl) (hkind : scope.kind = .function) (hnames : ∀ y ∈ scope.names, y.2 = .local → scope.names.lookup y.1 = some .local) (hcell : ∀ y ∈ scope.names, y.2 ≠ .cell)
    (hh : A.handled = none) (hx1 : scope.names.lookup x1 = some .local) (hx2 : scope.names.lookup x2 = some .local) (hx : x1 ≠ x2)
    (hs : ∀ x, foldedSetIterable i1 env x = pure x) (hs2 : ∀ e x, foldedSetIterable i2 e x = pure x)
    (h0 : K 0 0 []) (hstep : ∀ i j ys o, K i j ys → RR i j o → K i (j + 1) (ys ++ o.toList)) (hwrap : ∀ i ys, i < n → K i vs.length ys → K (i + 1) 0 ys) (hlen : ∀ i j ys, i < n → j < vs.length → K i j ys → ys.length ≤ 1000)
    (hl : (l, listOf vs.toArray kv) ∈ news)
    (ei2 : ∀ (m : Str → Option Value) (C : Addr) (oC : Obj) (Y : List (Addr × Obj)) (s' : Shared) (E' : Value → Shared → Prop) (Q' : Value → Shared → Prop), Fr h₀ L s'.heap m → News h₀ L s'.heap ((C, oC) :: Y) → (∀ p ∈ news, p ∈ Y) → Q' (.ref l) s' → wpAny (model prog w) A (eval i2 (compEnvC scope cl C env)) Q' E' s')
    (body : ∀ (m : Str → Option Value) (C : Addr) (i : Nat), i < n → CBody prog w A h₀ L m elt c (compEnvC scope cl C env) C news vs.length (fun j m' => (∃ t, m' x1 = some (.int i t)) ∧ m' x2 = some (vs.getD j .none)) (RR i))
    (h : wpAny (model prog w) A (eval i1 env) (fun xv s₁ => wpAny (model prog w) A (pyIter xv) (fun it s₂ => ∃ (I1 : Addr) (m : Str → Option Value), it = .ref I1 ∧ (∃ h tk, s₂ = { s with heap := h, toks := tk } ∧ Fr h₀ L h m ∧ News h₀ L h ((I1, rngIt 0 n 1) :: news)) ∧ (∀ p ∈ news, p.1 ≠ I1) ∧
      ∀ D ys k h' tk', K n 0 ys → (∀ p ∈ news, p.1 < D) → Fr h₀ L h' m → News h₀ L h' ((D, listOf ys.toArray k) :: news) → Q (.ref D) { s with heap := h', toks := tk' }) E s₁) E s) :
    wpAny (model prog w) A (eval (.ListComp elt [⟨.Name x1 px1, i1, [], 0⟩, ⟨.Name x2 px2, i2, [c], 0⟩] scope pos) env) Q E s := by
  rw [eval_ListComp]
  refine wpAny_comprehension_free (use := none) rfl hs hclos hkind hnames (wpAny_mono h (fun xv s₁ h₁ => wpAny_mono h₁ (fun it s₂ h₂ => ?_) fun _ _ e => e) fun _ _ e => e)
  obtain ⟨I1, m, rfl, ⟨h, tk, rfl, F, N⟩, hI1, fin⟩ := h₂
  refine comp_open (RR := fun acc C => compPost (model prog w) A E none Q acc C) hcell hkind F N fun D C oC h' hC F' N' hlD hDC => ?_
  have hI1D : I1 < D := hlD _ (.head _)
  have hlD' : ∀ p ∈ news, p.1 < D := fun p hp => hlD p (.tail _ hp)
  clear hlD
  have loop : codeAny (model prog w) A (.compLoop (.ListComp elt [⟨.Name x1 px1, i1, [], 0⟩, ⟨.Name x2 px2, i2, [c], 0⟩] scope pos) 0 (.ref I1) (.ref D) (compEnvC scope cl C env)) (compPost (model prog w) A E none Q (.ref D) C) { s with heap := h', toks := tk } := by
    refine loop2a (hs2 _) (fun k s' => ∃ i, i ≤ n ∧ k = n + 1 - i ∧ ∃ h tk ys k oC mC, s' = { s with heap := h, toks := tk } ∧ K i 0 ys ∧ NsObj oC mC ∧ Fr h₀ L h m ∧ News h₀ L h ((I1, rngIt (i : Int) ((n : Int) - i) 1) :: (C, oC) :: (D, listOf ys.toArray k) :: news)) ?_ (n + 1)
      ⟨0, Nat.zero_le _, rfl, h', tk, [], 0, oC, _, rfl, h0, hC, F', News.sub N' (fun p hp => ?_)⟩
    · rintro k s' E' ⟨i, hi, rfl, h, tk, ys, kk, oC, mC, rfl, hK, hC, F, N⟩
      have sepI : ∀ p ∈ (C, oC) :: (D, listOf ys.toArray kk) :: news, p.1 ≠ I1 := fun p hp => by
        rcases List.mem_cons.mp hp with rfl | hp
        · exact Nat.ne_of_gt (Nat.lt_trans hI1D hDC)
        rcases List.mem_cons.mp hp with rfl | hp
        · exact Nat.ne_of_gt hI1D
        · exact hI1 p hp
      by_cases hlt : i < n
      · refine next_rng F N (by lia) sepI fun h2 F2 N2 => ?_
        dsimp only
        refine wpAny_of_eq rfl ?_
        have sepC : ∀ p ∈ (I1, rngIt ((i : Int) + 1) ((n : Int) - i - 1) 1) :: (D, listOf ys.toArray kk) :: news, p.1 ≠ C := fun p hp => by
          rcases List.mem_cons.mp hp with rfl | hp
          · exact Nat.ne_of_lt (Nat.lt_trans hI1D hDC)
          rcases List.mem_cons.mp hp with rfl | hp
          · exact Nat.ne_of_lt hDC
          · exact Nat.ne_of_lt (Nat.lt_trans (hlD' p hp) hDC)
        refine as_comp1 F2 (News.swap N2) hC sepC (fun h5 oC' m5 hC' hx' hz' F5 N5 => ?_) hx1 hkind
        refine ei2 m C oC' _ _ _ _ F5 N5 (fun p hp => .tail _ (.tail _ hp)) ?_
        refine iter_list F5 N5 (.tail _ (.tail _ (.tail _ hl))) fun I2 o2 h6 hI2 F6 N6 hl6 => ?_
        have g1 := hl6 _ (.head _)
        have g2 := hl6 _ (.tail _ (.head _))
        have g3 := hl6 _ (.tail _ (.tail _ (.head _)))
        have lp : codeAny (model prog w) A (.compLoop (.ListComp elt [⟨.Name x1 px1, i1, [], 0⟩, ⟨.Name x2 px2, i2, [c], 0⟩] scope pos) 1 (.ref I2) (.ref D) (compEnvC scope cl C env))
            (fun r s₅ => r = .ok .next ∧ ∃ m_1, m_1 < n + 1 - i ∧ ∃ i, i ≤ n ∧ m_1 = n + 1 - i ∧ ∃ h tk ys k oC mC, s₅ = { s with heap := h, toks := tk } ∧ K i 0 ys ∧ NsObj oC mC ∧ Fr h₀ L h m ∧ News h₀ L h ((I1, rngIt (i : Int) ((n : Int) - i) 1) :: (C, oC) :: (D, listOf ys.toArray k) :: news)) { s with heap := h6, toks := tk + 1 + 1 } := by
          refine inner2 (s := s) (X := (I1, rngIt ((i : Int) + 1) ((n : Int) - i - 1) 1) :: news) (mC := m5) (K := K i) (RR := RR i) (vs := vs) (kv := kv) hh hx2 hkind (hstep i) (fun j ys hj => hlen i j ys hlt hj) (.tail _ hl) (fun p hp => ?_) (Nat.ne_of_lt hDC) (Nat.ne_of_gt g1) (Nat.ne_of_gt g3) ?_ _ ⟨h6, _, ys, kk, oC', m5, o2, rfl, hK, hC', fun _ _ => rfl, hI2, F6, News.sub N6 fun p hp => ?_⟩ fun s₂ h₂ => ?_
          · rcases List.mem_cons.mp hp with rfl | hp
            · exact ⟨Nat.ne_of_lt (Nat.lt_trans hI1D hDC), Nat.ne_of_lt hI1D, Nat.ne_of_lt g2⟩
            · exact ⟨Nat.ne_of_lt (Nat.lt_trans (hlD' p hp) hDC), Nat.ne_of_lt (hlD' p hp), Nat.ne_of_lt (Nat.lt_trans (hlD' p hp) g3)⟩
          · intro j oC2 mC2 Y s2 E2 hj hC2 hb F2 N2 hXY hYC
            exact body m C i hlt j oC2 mC2 Y s2 E2 hj hC2 ⟨⟨_, (hb.2 x1 hx).trans hx'⟩, hb.1⟩ F2 N2 (fun p hp => hXY p (.tail _ hp)) hYC
          · simp only [List.mem_cons] at hp ⊢
            rcases hp with hp | hp | hp | hp | hp
            · exact .inl hp
            · exact .inr (.inl hp)
            · exact .inr (.inr (.inr (.inl hp)))
            · exact .inr (.inr (.inl hp))
            · exact .inr (.inr (.inr (.inr hp)))
          · obtain ⟨h7, tk7, ys7, k7, oC7, m7, rfl, hK7, hC7, F7, N7⟩ := h₂
            refine ⟨rfl, n + 1 - (i + 1), by lia, i + 1, hlt, rfl, h7, tk7, ys7, k7, oC7, m7, rfl, hwrap i _ hlt hK7, hC7, F7, ?_⟩
            have e1 : ((i : Int) + 1) = ((i + 1 : Nat) : Int) := by lia
            have e2 : ((n : Int) - i - 1) = (n : Int) - ((i + 1 : Nat) : Int) := by lia
            rw [e1, e2] at N7
            refine News.sub N7 fun p hp => ?_
            simp only [List.mem_cons] at hp ⊢
            rcases hp with hp | hp | hp | hp
            · exact .inr (.inr (.inl hp))
            · exact .inl hp
            · exact .inr (.inl hp)
            · exact .inr (.inr (.inr hp))
        exact start2b lp (iter_listiter N6 (.head _) hI2 lp)
      · obtain rfl : i = n := Nat.le_antisymm hi (Nat.not_lt.mp hlt)
        refine next_rng_end hh F N (by lia) sepI fun h2 F2 N2 => ?_
        have zC := N2 _ (.head _)
        refine ⟨mC, hC.ns zC.1, fun h'' hs => ?_⟩
        refine fin D ys kk h'' tk hK hlD' (F2.change hs zC.2.1 zC.2.2) fun p hp => ?_
        have z := N2 p (.tail _ hp)
        refine ⟨hs.extBut _ _ ?_ z.1, z.2⟩
        rcases List.mem_cons.mp hp with rfl | hp
        · exact Nat.ne_of_lt hDC
        · exact Nat.ne_of_lt (Nat.lt_trans (hlD' p hp) hDC)
    · simp only [List.mem_cons, Int.ofNat_zero, Int.sub_zero] at hp ⊢
      rcases hp with hp | hp | hp | hp
      · exact .inr (.inr (.inl (by simpa using hp)))
      · exact .inl hp
      · exact .inr (.inl hp)
      · exact .inr (.inr (.inr hp))
  exact codeAny_compStart_list loop (iter_rngit N' (.tail _ (.tail _ (.head _))) loop)
end
end Mine
end S_Comp2

section S_V7
set_option maxRecDepth 100000
namespace Mine
open PySem PySem.W PyProof.Rows PySem.Spec PySem.Calls PySem.SeqAt PyProof.Rows.LCg
section
variable {cs : Scope} {nd nu : Nat}
noncomputable def WPCv (c : Amb cs nd nu) (elt target iter : Expr) (scope : Scope) (cl : List (Str × Addr)) (pos : Pos) (it : Value) (st : AS) (K : Value → AS → Prop) : Prop :=
  ∀ (s : Shared) (Q E : Value → Shared → Prop), Re c s st → (∀ v s' st', Re c s' st' → K v st' → Q v s') → CVal PySem.Challenge.rw_mq0297_01.row.prog c.w c.A c.env elt target iter scope cl pos none E Q it s
noncomputable def WPCa (c : Amb cs nd nu) (y : Str) (py : Pos) (elt target iter : Expr) (scope : Scope) (cl : List (Str × Addr)) (pos : Pos) (it : Value) (st : AS) (Kn : AS → Prop) : Prop :=
  ∀ (s : Shared) (Q : Flow → Shared → Prop), Re c s st → (∀ s' st', Re c s' st' → Kn st' → Q .next s') → CVal PySem.Challenge.rw_mq0297_01.row.prog c.w c.A c.env elt target iter scope cl pos (some (assign (.Name y py) c.env)) (fun _ _ => False) (fun _ s' => Q .next s') it s
end
section
variable {cs : Scope} {nd nu : Nat} {c : Amb cs nd nu} {fr : List (Str × Value)} {led : List (Addr × Obj)} {tk : Nat} {K : Value → AS → Prop} {Kt Kf Kn : AS → Prop} {Kx : Flow → AS → Prop} {pos apos : Pos} {st : AS} {elt target iter : Expr} {scope : Scope} {cl : List (Str × Addr)}
theorem WPE.comp (hclos : closureFor scope c.env = pure cl) (hkind : scope.kind = .function) (hnames : ∀ y ∈ scope.names, y.2 = .local → scope.names.lookup y.1 = some .local)
    (h : WPE c iter st fun xv st1 => WPM c (pyIter xv) st1 fun it st2 => WPCv c elt target iter scope cl pos it st2 K) (hs : ∀ env x, foldedSetIterable iter env x = pure x) : WPE c (.ListComp elt [⟨target, iter, [], 0⟩] scope pos) st K :=
  fun _ _ _ R hQ => comp_val hclos hkind hnames (h _ _ _ R fun _ _ _ R1 h1 => h1 _ _ _ R1 fun _ _ _ R2 h2 => h2 _ _ _ R2 hQ) (hs _)
theorem WPS.asgC {y : Str} {py spos : Pos} (hsw : swapsWith (.ListComp elt [⟨target, iter, [], 0⟩] scope pos) (some (.Name y py)) spos.line c.env = pure true) (hclos : closureFor scope c.env = pure cl) (hkind : scope.kind = .function)
    (hnames : ∀ y ∈ scope.names, y.2 = .local → scope.names.lookup y.1 = some .local)
    (h : WPE c iter st fun xv st1 => WPM c (pyIter xv) st1 fun it st2 => WPCa c y py elt target iter scope cl pos it st2 Kn) (hs : ∀ env x, foldedSetIterable iter env x = pure x) : WPS c (.Assign [.Name y py] (.ListComp elt [⟨target, iter, [], 0⟩] scope pos) spos) st Kn Kx :=
  fun _ _ R hn _ => comp_asg hsw hclos hkind hnames (h _ _ _ R fun _ _ _ R1 h1 => h1 _ _ _ R1 fun _ _ _ R2 h2 => h2 _ _ R2 hn) (hs _)
/- the element of a comprehension, at the state that st tells -/
noncomputable def Elt (c : Amb cs nd nu) (R : Nat → Value → Prop) (Bd : Nat → (Str → Option Value) → Prop) (elt : Expr) (scope : Scope) (cl : List (Str × Addr)) (led : List (Addr × Obj)) (n : Nat) : Prop :=
  c.Ok → ∀ (m : Str → Option Value) (s : Shared), 0 < s.toks → CMap PySem.Challenge.rw_mq0297_01.row.prog c.w c.A c.g c.L m s led R Bd elt scope cl c.env n
theorem WPCv.map {it : Value} {n : Nat} {IS : Nat → List (Addr × Obj) → Prop} {Bd : Nat → (Str → Option Value) → Prop} {base st₀ : List (Addr × Obj)} (R : Nat → Value → Prop)
    (S : Src PySem.Challenge.rw_mq0297_01.row.prog c.w c.A c.g c.L target scope cl c.env it n base IS Bd) (hb : ∀ p ∈ base, p ∈ led) (hn : n ≤ 1000) (hcell : ∀ y ∈ scope.names, y.2 ≠ .cell) (hkind : scope.kind = .function) (h0 : IS 0 st₀) (hs0 : ∀ q ∈ st₀, ∀ p ∈ led, p.1 ≠ q.1)
    (el : Elt c R Bd elt scope cl led n)
    (h : ∀ D ys k tk', 0 < tk' → ys.length = n → (∀ j, j < n → R j (ys.getD j .none)) → (∀ p ∈ led, p.1 < D) → K (.ref D) ⟨fr, (D, listOf (List.toArray ys) k) :: led, tk'⟩) : WPCv c elt target iter scope cl pos it ⟨fr, st₀ ++ led, tk⟩ K := by
  rintro s Q E ⟨ok, hp, h', u, rfl, F, N⟩ hQ
  exact cm_val R S hb hn hcell hkind F N h0 hs0 (el ok _ _ hp) fun D ys k h2 tk' hle hy hR hl F2 N2 => hQ _ _ ⟨fr, _ :: led, tk'⟩ ⟨ok, Nat.lt_of_lt_of_le hp hle, h2, u, rfl, F2, N2⟩ (h D ys k tk' (Nat.lt_of_lt_of_le hp hle) hy hR hl)
theorem WPCa.map {y : Str} {py : Pos} {it : Value} {n : Nat} {IS : Nat → List (Addr × Obj) → Prop} {Bd : Nat → (Str → Option Value) → Prop} {base st₀ : List (Addr × Obj)} (R : Nat → Value → Prop)
    (S : Src PySem.Challenge.rw_mq0297_01.row.prog c.w c.A c.g c.L target scope cl c.env it n base IS Bd) (hb : ∀ p ∈ base, p ∈ led) (hn : n ≤ 1000) (hcell : ∀ y ∈ scope.names, y.2 ≠ .cell) (hkind : scope.kind = .function) (h0 : IS 0 st₀) (hs0 : ∀ q ∈ st₀, ∀ p ∈ led, p.1 ≠ q.1) (hy : cs.names.lookup y = some .local)
    (el : Elt c R Bd elt scope cl led n)
    (h : ∀ D ys k tk', 0 < tk' → ys.length = n → (∀ j, j < n → R j (ys.getD j .none)) → (∀ p ∈ led, p.1 < D) → Kn ⟨(y, .ref D) :: fr, (D, listOf (List.toArray ys) k) :: led, tk'⟩) : WPCa c y py elt target iter scope cl pos it ⟨fr, st₀ ++ led, tk⟩ Kn := by
  rintro s Q ⟨ok, hp, h', u, rfl, F, N⟩ hQ
  refine cm_asg R S hb hn hcell hkind F N rfl hy (by
    show (cs.kind == .class || (cs.kind == .module && _)) = false
    rw [ok.hk]; rfl) h0 hs0 (el ok _ _ hp) fun D ys k h2 tk' hle hy' hR hl F2 N2 => hQ _ ⟨(y, .ref D) :: fr, _ :: led, tk'⟩ ⟨ok, Nat.lt_of_lt_of_le hp hle, h2, u, rfl, F2, N2⟩ (h D ys k tk' (Nat.lt_of_lt_of_le hp hle) hy' hR hl)
theorem WPBin.cat {D E : Addr} {vs us : List Value} {n k : Nat} (hm : (D, listOf vs.toArray n) ∈ led) (hm' : (E, listOf us.toArray k) ∈ led) (hz : vs.length + us.length ≤ 1000) (h : ∀ r, (∀ p ∈ led, p.1 < r) → K (.ref r) ⟨fr, (r, listOf (vs ++ us).toArray 0) :: led, tk⟩) : WPBin c .Add (.ref D) (.ref E) ⟨fr, led, tk⟩ K := by
  rintro s Q E' ⟨ok, hp, h', u, rfl, F, N⟩ hQ
  exact cat_N F N hm hm' hz fun r h2 F2 N2 hl => hQ _ _ ⟨fr, _ :: led, tk⟩ ⟨ok, hp, h2, u, rfl, F2, N2⟩ (h r hl)
theorem tsub0A {prog : Program} {w : World} {A : Around} {E : Value → Shared → Prop} {s : Shared} {h₀ : Heap} {L D : Addr} {news : List (Addr × Obj)} {value slice : Expr} {u : Tok} {x : Value} {r : List Value} {Q : Value → Shared → Prop} (N : News h₀ L s.heap news) (hm : (D, tupO (x :: r)) ∈ news) (h : Q x s)
    (hs : subscripted slice false (.ref D) (.int 0 u) = operate [.ref D, .int 0 u] (getItem (.ref D) (.int 0 u))) : wpAny (model prog w) A (subscriptTail value slice (.ref D) (.int 0 u)) Q E s :=
  tail_any (isT_N N hm).typeIs slot_tuple_getitem.lookup (getItem_tuple (j := 0) (x := x) (isT_N N hm) (by decide) (by decide) (by simp [seqIndex?]) (by simp) h) hs
theorem WPSub.tup0 {v i : Expr} {D : Addr} {x : Value} {r : List Value} {t : Tok} (hm : (D, tupO (x :: r)) ∈ led) (h : K x ⟨fr, led, tk⟩)
    (hs : ∀ D u, subscripted i false (.ref D) (.int 0 u) = operate [.ref D, .int 0 u] (getItem (.ref D) (.int 0 u)) := by intro _ _; rfl) : WPSub c v i (.ref D) (.int 0 t) ⟨fr, led, tk⟩ K := by
  rintro s Q E ⟨ok, hp, h', u, rfl, F, N⟩ hQ
  exact tsub0A N hm (hQ _ _ ⟨fr, led, tk⟩ ⟨ok, hp, h', u, rfl, F, N⟩ h) (hs _ _)
theorem WPCall.useH {H : Heap → Prop} {f : Addr} {args : List Value} {nd' nu' : Nat} {Post : Value → List (Addr × Obj) → Prop} (C : CallH H c.w f args led nd' nu' Post) (hH : H c.g) (hd : nd' < nd) (hu : nu' + 3 ≤ nu)
    (h : ∀ r led' tk', 0 < tk' → Post r led' → K r ⟨fr, led', tk'⟩) : WPCall c (.ref f) args ⟨fr, led, tk⟩ K := by
  rintro s Q E ⟨ok, hp, h', u, rfl, F, N⟩ hQ
  have h1 := ok.hd
  have h2 := ok.hu
  exact C.use ok.B F ok.X N ok.T hH ok.hk (by lia) (by lia) hp fun r led' h2 tk' ht F2 N2 hP => hQ _ _ ⟨fr, led', tk'⟩ ⟨ok, ht, h2, u, rfl, F2, N2⟩ (h _ _ _ ht hP)
theorem list_rng {prog : Program} {w : World} {A : Around} {E : Value → Shared → Prop} {s : Shared} {h₀ : Heap} {L r : Addr} {m : Str → Option Value} {news : List (Addr × Obj)} {n : Nat} {t u v : Tok} {Q : Value → Shared → Prop}
    (hh : A.handled = none) (F : Fr h₀ L s.heap m) (N : News h₀ L s.heap news) (hm : (r, rngO 0 n t u v) ∈ news) (hz : n ≤ 1000) (htk : 0 < s.toks)
    (h : ∀ D us c h' tk, 0 < tk → Fr h₀ L h' m → News h₀ L h' ((D, listOf (List.toArray us) c) :: news) → (∀ p ∈ news, p.1 < D) → IntsAre us ((List.range n).map Int.ofNat) → Q (.ref D) { s with heap := h', toks := tk }) :
    wpAny (model prog w) A (call (.type "list") [.ref r]) Q E s := by
  refine wpAny_le (kll_range (n := n) hh F N (N _ hm).1 (small_one (by lia) (by lia) (by lia) (by lia)) (by rw [rangeSize_one]; split <;> lia) (by lia) fun D us c h' tk F' N' l1 hI hle => ?_)
  have e : rangeKs 0 n = (List.range n).map Int.ofNat := by
    unfold rangeKs
    apply List.map_congr_left
    intro i _
    simp
  rw [e] at hI
  exact h D us c h' tk (Nat.lt_of_lt_of_le htk hle) F' N' l1 hI
theorem ints_of : ∀ {vs : List Value} {ns : List Int}, IntsAre vs ns → Ints vs ns
  | _, _, .nil => Ints.nil
  | _, _, .cons n t h => by
    have ih := ints_of h
    refine ⟨by simp [ih.1], fun i hi => ?_⟩
    cases i with
    | zero => exact ⟨t, rfl⟩
    | succ i => exact ih.2 i (by simpa using hi)
theorem WPCall.listR {r : Addr} {n : Nat} {t u v : Tok} (hm : (r, rngO 0 n t u v) ∈ led) (hz : n ≤ 1000) (h : ∀ D us k tk', (∀ p ∈ led, p.1 < D) → Ints us ((List.range n).map Int.ofNat) → K (.ref D) ⟨fr, (D, listOf (List.toArray us) k) :: led, tk'⟩) : WPCall c (.type "list") [.ref r] ⟨fr, led, tk⟩ K := by
  rintro s Q E ⟨ok, hp, h', u, rfl, F, N⟩ hQ
  exact list_rng rfl F N hm hz hp fun D us k h2 tk' hp' F2 N2 hl hI => hQ _ _ ⟨fr, _ :: led, tk'⟩ ⟨ok, hp', h2, u, rfl, F2, N2⟩ (h D us k tk' hl (ints_of hI))
theorem WPCmp.neInts {D D' : Addr} {vs us : List Value} {as : List Int} {n k : Nat} (hm : (D, listOf vs.toArray n) ∈ led) (hm' : (D', listOf us.toArray k) ∈ led) (ha : Ints vs as) (hb : Ints us as) (hu : 3 ≤ nu) (h : Kf ⟨fr, led, tk⟩) : WPCmp c .NotEq (.ref D) (.ref D') ⟨fr, led, tk⟩ Kt Kf := by
  rintro s Q E ⟨ok, hp, h', u, rfl, F, N⟩ ht hf
  exact Mine.neInts N hm hm' ha hb (ok.unit hu) (hf _ ⟨fr, led, tk⟩ ⟨ok, hp, h', u, rfl, F, N⟩ h)
/- x / 64 for x in a list of ints: the element -/
theorem elt64 {x : Str} {px p1 p2 : Pos} {vs : List Value} {as : List Int} {i : Nat} (hI : Ints vs as) (hb : ∀ v ∈ as, Sm i v) (hi : i < 2 ^ 40) (hl : ∀ C, (compEnvC scope cl C c.env).kindOf x = some .local) (hd : (x == Str.ofString "__debug__") = false) (hk : ∀ C, (compEnvC scope cl C c.env).scope.kind = .function) :
    Elt c (fun i v => ∃ t, 0 < t ∧ v = .float (fl (64 * as.getD i 0)) t) (fun i m' => m' x = some (vs.getD i .none)) (.BinOp (.Name x px) .Div (.Constant (.int 64) 0 p1) p2) scope cl led vs.length := by
  intro ok m s htk C oC mC X i s' E' hi' hle hC hB F N hlt
  rw [hI.1] at hi'
  obtain ⟨t, e⟩ := hI.at hi'
  rw [e] at hB
  have htk' := Nat.lt_of_lt_of_le htk hle
  refine wpAny_BinOp (ld_own N hC hB (wpAny_Constant_int (Mine.div64 ((hb _ (getD_mem hi')).lt hi) (eDone (s' := s') ⟨_, Nat.succ_pos _, rfl⟩ F N))) (hk C) (hl C) hd)
end
end Mine
end S_V7

section S_V8
set_option maxRecDepth 100000
namespace Mine
open PySem PySem.W PyProof.Rows PySem.Spec PySem.Calls PySem.SeqAt PyProof.Rows.LCg
section
variable {cs : Scope} {nd nu : Nat} {c : Amb cs nd nu} {fr : List (Str × Value)} {led : List (Addr × Obj)} {tk : Nat} {K : Value → AS → Prop} {Kt Kf Kn : AS → Prop} {Kx : Flow → AS → Prop} {pos apos : Pos} {st : AS}
theorem isL_F {h₀ h : Heap} {L l : Addr} {m : Str → Option Value} {its : Array Value} (F : Fr h₀ L h m) (x : h₀.IsList l its) : h.IsList l its := let ⟨o, ho, r⟩ := x; ⟨o, F.keep l o ho, r⟩
/- x[:7] of a list of ints that stood before -/
theorem WPE.upto7 {x : Str} {px p7 ps : Pos} {k7 : Nat} {l : Addr} {vs : List Value} {ns : List Int} (hl : look fr x = some (.ref l)) (hx : cs.names.lookup x = some .local) (hd : (x == Str.ofString "__debug__") = false) (hL : c.g.IsList l vs.toArray) (hI : IntsAre vs ns) (hz : vs.length ≤ 1000)
    (h : ∀ D ws, (∀ p ∈ led, p.1 < D) → IntsAre ws (ns.take 7) → K (.ref D) ⟨fr, (D, listOf (List.toArray ws) 0) :: led, tk + 1⟩)
    (hs : ∀ (l a : Addr), subscripted (.Slice none (some (.Constant (.int 7) k7 p7)) none ps) false (.ref l) (.ref a) = operate [.ref a, .ref l] (getItem (.ref l) (.ref a))) (ht : ∀ (l : Addr) r, letTemporaryGo (.Name x px) (.ref l) r = pure ()) :
    WPE c (.Subscript (.Name x px) (.Slice none (some (.Constant (.int 7) k7 p7)) none ps) pos) ⟨fr, led, tk⟩ K := by
  rintro s Q E ⟨ok, hp, h', u, rfl, F, N⟩ hQ
  refine Subscript_ (nameX_L F (mp_look hl) ?_ ok.hk hx hd)
  refine wpAny_Slice ?_
  refine wpAny_pure ?_
  refine wpAny_Constant_int (k := k7) (pos := p7) ?_
  refine wpAny_pure ?_
  exact kmk_slice_ints (s := { c.s0 with heap := h', toks := tk + 1 }) F N (isL_F F hL) IsPart.none (IsPart.int _ _) hI (kmk_upto hI (by decide)) rfl (fun D ws h2 F2 N2 hl2 hI2 _ _ => hQ _ _ ⟨fr, _ :: led, tk + 1⟩ ⟨ok, Nat.succ_pos _, h2, u, rfl, F2, N2⟩ (h D ws hl2 hI2)) (hs _ _) (ht _) (by rw [List.size_toArray, sizeLine_eq]; lia)
theorem WPCmp.gtFw {a b : Int} {t u : Tok} (ha : a.natAbs < 2 ^ 52) (hb : b.natAbs < 2 ^ 52) (h1 : b < a → Kt st) (h2 : a ≤ b → Kf st) : WPCmp c .Gt (.float (fl a) t) (.float (fl b) u) st Kt Kf := by
  intro s Q E R ht hf
  refine Mine.gtF ha hb ?_
  by_cases e : b < a
  · rw [decide_eq_true e]; exact ht _ _ R (h1 e)
  · rw [decide_eq_false e]; exact hf _ _ R (h2 (Int.not_lt.mp e))
theorem WPBin.catI {D E : Addr} {vs us : List Value} {as bs : List Int} {n k : Nat} (hm : (D, listOf vs.toArray n) ∈ led) (hm' : (E, listOf us.toArray k) ∈ led) (ha : IntsAre vs as) (hb : IntsAre us bs) (hz : vs.length + us.length ≤ 1000) (h : ∀ r ps, Ints ps (as ++ bs) → (∀ p ∈ led, p.1 < r) → K (.ref r) ⟨fr, (r, listOf (List.toArray ps) 0) :: led, tk⟩) : WPBin c .Add (.ref D) (.ref E) ⟨fr, led, tk⟩ K :=
  WPBin.cat hm hm' hz fun r hr => h r _ (ints_of (ha.append hb)) hr
/- rgb_to_hls(*colour)[0] for a colour in a list of colours: the element -/
theorem eltHue {x f0 : Str} {px p1 p2 p3 p4 p5 : Pos} {k0 : Nat} {f : Addr} {scope : Scope} {cl : List (Str × Addr)} {vs : List Value} {tr : Nat → Int × Int × Int} {hue : Nat → Int} (hv : ∀ i, i < vs.length → ∃ T t u v, vs.getD i .none = .ref T ∧ 0 < t ∧ 0 < u ∧ 0 < v ∧ (T, tupO [.float (fl (tr i).1) t, .float (fl (tr i).2.1) u, .float (fl (tr i).2.2) v]) ∈ led)
    (C1 : ∀ i {t u v : Tok} {rest : List (Addr × Obj)}, 0 < t → 0 < u → 0 < v → Call c.w f [.float (fl (tr i).1) t, .float (fl (tr i).2.1) u, .float (fl (tr i).2.2) v] rest 10 40 fun r l => ∃ D u1 v2 v3, r = .ref D ∧ l = (D, tupO [.float (fl (hue i)) u1, v2, v3]) :: rest ∧ 0 < u1 ∧ ∀ p ∈ rest, p.1 < D)
    (hg : GlobK f0 (.ref f)) (hk : ∀ w : World, keepIn (Mine.hd.heap_39 w.params) (.ref f) = true) (hl : ∀ C, (compEnvC scope cl C c.env).kindOf x = some .local) (hf : ∀ C, (compEnvC scope cl C c.env).kindOf f0 = some .globalImplicit) (hd : (x == Str.ofString "__debug__") = false) (hd0 : (f0 == Str.ofString "__debug__") = false) (hsk : ∀ C, (compEnvC scope cl C c.env).scope.kind = .function)
    (hnd : 10 < nd) (hnu : 43 ≤ nu) (he : ∀ C, starEach [.Starred (.Name x px) p1] (compEnvC scope cl C c.env) = [(true, eval (.Name x px) (compEnvC scope cl C c.env))])
    (hs : ∀ D u, subscripted (.Constant (.int 0) k0 p4) false (.ref D) (.int 0 u) = operate [.ref D, .int 0 u] (getItem (.ref D) (.int 0 u))) :
    Elt c (fun i v => ∃ t, 0 < t ∧ v = .float (fl (hue i)) t) (fun i m' => m' x = some (vs.getD i .none)) (.Subscript (.Call (.Name f0 p2) [.Starred (.Name x px) p1] [] p3) (.Constant (.int 0) k0 p4) p5) scope cl led vs.length := by
  intro ok m s htk C oC mC X i s' E' hi' hle hC hB F N hlt
  obtain ⟨T, t, u, v, e, h1, h2, h3, hm⟩ := hv i hi'
  rw [e] at hB
  have htk' := Nat.lt_of_lt_of_le htk hle
  have q1 := ok.hd
  have q2 := ok.hu
  refine Subscript_ (Call_ (LCgL.ld_global F ok.X ok.T (hg _) ?_ rfl (hsk C) (hf C) hd0))
  refine callWith_S ok.X (hk _) (ld_own N hC hB ?_ (hsk C) (hl C) hd) (he C)
  refine star_seq (its := #[.float (fl (tr i).1) t, .float (fl (tr i).2.1) u, .float (fl (tr i).2.2) v]) F N (.tail _ (List.mem_append.mpr (.inl hm))) rfl rfl (.inr rfl) rfl (Nat.le_of_ble_eq_true rfl) fun h6 F6 N6 => ⟨ok.X.keeps F6.keep, ?_⟩
  refine (C1 i h1 h2 h3).use ok.B F6 ok.X N6 ok.T ok.hk (by lia) (by lia) htk' ?_
  rintro r l h7 tk7 htk7 F7 N7 ⟨D7, u1, v2, v3, rfl, rfl, hu1, hl7⟩
  refine wpAny_Constant_int (k := k0) (pos := p4) (tsub0A N7 (.head _) (eDone (s' := s') ⟨u1, hu1, rfl⟩ F7 (News.sub N7 fun p hp => .tail _ hp)) (hs _ _))
end
end Mine
end S_V8

section S_V9
set_option maxRecDepth 100000
namespace Mine
open PySem PySem.W PyProof.Rows PySem.Spec PySem.Calls PySem.SeqAt PyProof.Rows.LCg
section
variable {cs : Scope} {nd nu : Nat} {c : Amb cs nd nu} {fr : List (Str × Value)} {led : List (Addr × Obj)} {tk : Nat} {K : Value → AS → Prop} {Kt Kf Kn : AS → Prop} {Kx : Flow → AS → Prop} {pos apos : Pos} {st : AS}
/- a def with cells -/
theorem call_VC (fr : List (Str × Value)) {w : World} {f : Addr} {args : List Value} {news : List (Addr × Obj)} {nd nu : Nat} {Post : Value → List (Addr × Obj) → Prop}
    {name qual : Str} {params : Arguments} {body : List Stmt} {scope : Scope} {dV kV doc pm cdv ct oc : Value} {an od : Option Addr} {osl : Array (Option Value)} {binds : List (Str × Value)}
    (ho : (Mine.hd.heap_39 w.params).lookup f = some ⟨oc, od, .func (fnOf name qual params body scope dV kV doc pm an cdv ct), osl⟩) (hcd : codeIn (Mine.hd.heap_39 w.params) cdv qual = true)
    (hbind : ∀ s : Shared, (Mine.hd.heap_39 w.params).In s.heap → BindsTo s (fnOf name qual params body scope dV kV doc pm an cdv ct) ⟨args, []⟩ binds)
    (hkind : (binds.all fun y => scope.names.lookup y.1 == some .local || scope.names.lookup y.1 == some .cell) = true) (hnd : ((cellsFrom 0 scope.names []).map (·.1)).Nodup)
    (hco : scope.isCoroutine = false) (hgen : scope.isGenerator = false) (hk : scope.kind = .function)
    (hr : ∀ L, fr.map (fun p => bindL (envOfC qual scope L f cdv).kindOf binds (fun _ => none) p.1) = fr.map fun p => some p.2)
    (h : ∀ (c : Amb scope nd nu) (tk : Nat) (cells : List (Addr × Obj)), 0 < tk → c.cl = cellsFrom (c.L + 1) scope.names [] → CellsAre (bindC (envOfC qual scope c.L f cdv).kindOf binds fun _ => none) (cellsFrom (c.L + 1) scope.names []) cells → (∀ p ∈ news, p.1 < c.L) →
      WPB c body ⟨fr, cells ++ news, tk⟩ (EndN Post) (EndX Post)) : Call w f args news nd nu Post := by
  refine call_defP ho hcd hbind hkind hnd hco hgen hk ?_
  intro p loose mean mg mb dp un gd outer A₀ base g L cells s B F X N Y hlt T hd hu htk
  let c : Amb scope nd nu := ⟨w, dp, un, gd, qual, L, f, cdv, cellsFrom (L + 1) scope.names [], outer, g, s, A₀, base, p, loose, mean, mg, mb⟩
  refine h c s.toks cells htk rfl Y hlt s _ ⟨⟨B, X, T, hk, hd, hu⟩, htk, s.heap, _, rfl, fr_ps F fun p hp => List.map_inj_left.mp (hr L) p hp, N⟩ (fun s' st' R' h' => ?_) (fun fl s' st' hf R' h' => ?_)
  · obtain ⟨led', hs, hP⟩ := h'
    obtain ⟨ok, hp, h', u, rfl, F', N'⟩ := R'
    exact ⟨h', _, _, led', rfl, F', News.sub N' hs, hP⟩
  · obtain ⟨led', hs, hP⟩ := h'
    obtain ⟨ok, hp, h', u, rfl, F', N'⟩ := R'
    exact ⟨h', _, _, led', rfl, F', News.sub N' hs, hP⟩
theorem WPE.cell {x : Str} {v : Value} {a : Addr} {o : Obj} (hcl : c.cl = cellsFrom (c.L + 1) cs.names []) (hc : (cellsFrom (c.L + 1) cs.names []).lookup x = some a) (hm : (a, o) ∈ led) (ho : o.data = .cell (some v)) (hx : cs.names.lookup x = some .cell) (hd : (x == Str.ofString "__debug__") = false) (h : K v ⟨fr, led, tk⟩) : WPE c (.Name x pos) ⟨fr, led, tk⟩ K := by
  rintro s Q E ⟨ok, hp, h', u, rfl, F, N⟩ hQ
  exact nameX_C N (by rw [hcl]; exact hc) hm ho (hQ _ _ ⟨fr, led, tk⟩ ⟨ok, hp, h', u, rfl, F, N⟩ h) ok.hk hx hd
theorem WPStore.cell {x : Str} {v : Value} {a : Addr} {o : Obj} {v₀ : Option Value} {g : Obj → List (Addr × Obj)} (hcl : c.cl = cellsFrom (c.L + 1) cs.names []) (hc : (cellsFrom (c.L + 1) cs.names []).lookup x = some a) (U : UpdF a o led g) (ho : o.data = .cell v₀) (hx : cs.names.lookup x = some .cell) (h : ∀ o', o'.data = .cell (some v) → Kn ⟨fr, g o', tk⟩) : WPStore c x v ⟨fr, led, tk⟩ Kn := by
  rintro s Q E ⟨ok, hp, h', u, rfl, F, N⟩ hQ
  exact storeX_C F N (by rw [hcl]; exact hc) U ho (fun h2 o' F2 N2 ho' => hQ _ ⟨fr, g o', tk⟩ ⟨ok, hp, h2, u, rfl, F2, N2⟩ (h o' ho')) ok.hk hx
end
end Mine
end S_V9

section S_V11
set_option maxRecDepth 100000
namespace Mine
open PySem PySem.W PyProof.Rows PySem.Spec PySem.Calls PySem.SeqAt PyProof.Rows.LCg
section
variable {cs : Scope} {nd nu : Nat} {c : Amb cs nd nu} {fr : List (Str × Value)} {led : List (Addr × Obj)} {tk : Nat} {K : Value → AS → Prop} {Kt Kf Kn : AS → Prop} {Kx : Flow → AS → Prop} {pos apos : Pos} {st : AS}
/- a def with cells, over a word of the ground -/
theorem call_VH (fr : List (Str × Value)) {H : Heap → Prop} (hH : ∀ h g, h.StaysIn g → H h → H g) {w : World} {f : Addr} {args : List Value} {news : List (Addr × Obj)} {nd nu : Nat} {Post : Value → List (Addr × Obj) → Prop}
    {name qual : Str} {params : Arguments} {body : List Stmt} {scope : Scope} {dV kV doc pm cdv ct oc : Value} {an od : Option Addr} {osl : Array (Option Value)} {binds : List (Str × Value)}
    (ho : (Mine.hd.heap_39 w.params).lookup f = some ⟨oc, od, .func (fnOf name qual params body scope dV kV doc pm an cdv ct), osl⟩) (hcd : codeIn (Mine.hd.heap_39 w.params) cdv qual = true)
    (hbind : ∀ s : Shared, (Mine.hd.heap_39 w.params).In s.heap → BindsTo s (fnOf name qual params body scope dV kV doc pm an cdv ct) ⟨args, []⟩ binds)
    (hkind : (binds.all fun y => scope.names.lookup y.1 == some .local || scope.names.lookup y.1 == some .cell) = true) (hnd : ((cellsFrom 0 scope.names []).map (·.1)).Nodup)
    (hco : scope.isCoroutine = false) (hgen : scope.isGenerator = false) (hk : scope.kind = .function)
    (hr : ∀ L, fr.map (fun p => bindL (envOfC qual scope L f cdv).kindOf binds (fun _ => none) p.1) = fr.map fun p => some p.2)
    (h : ∀ (c : Amb scope nd nu) (tk : Nat) (cells : List (Addr × Obj)), 0 < tk → c.ccd = cdv → H c.g → c.cl = cellsFrom (c.L + 1) scope.names [] → CellsAre (bindC (envOfC qual scope c.L f cdv).kindOf binds fun _ => none) (cellsFrom (c.L + 1) scope.names []) cells → (∀ p ∈ news, p.1 < c.L) →
      WPB c body ⟨fr, cells ++ news, tk⟩ (EndN Post) (EndX Post)) : CallH H w f args news nd nu Post := by
  refine call_defH hH ho hcd hbind hkind hnd hco hgen hk ?_
  intro p loose mean mg mb dp un gd outer A₀ base g L cells s B F X N Y hlt T hHd hd hu htk
  let c : Amb scope nd nu := ⟨w, dp, un, gd, qual, L, f, cdv, cellsFrom (L + 1) scope.names [], outer, g, s, A₀, base, p, loose, mean, mg, mb⟩
  refine h c s.toks cells htk rfl hHd rfl Y hlt s _ ⟨⟨B, X, T, hk, hd, hu⟩, htk, s.heap, _, rfl, fr_ps F fun p hp => List.map_inj_left.mp (hr L) p hp, N⟩ (fun s' st' R' h' => ?_) (fun fl s' st' hf R' h' => ?_)
  · obtain ⟨led', hs, hP⟩ := h'
    obtain ⟨ok, hp, h', u, rfl, F', N'⟩ := R'
    exact ⟨h', _, _, led', rfl, F', News.sub N' hs, hP⟩
  · obtain ⟨led', hs, hP⟩ := h'
    obtain ⟨ok, hp, h', u, rfl, F', N'⟩ := R'
    exact ⟨h', _, _, led', rfl, F', News.sub N' hs, hP⟩
/- a builtin called with one word besides -/
theorem WPE.callK {x : Str} {px kp : Pos} {id : String} {e : Expr} {r : List Expr} {n : Str} {ke : Expr} (hg : GlobB x (.builtin id)) (hx : cs.names.lookup x = some .globalImplicit) (hd : (x == Str.ofString "__debug__") = false)
    (he : ∀ env, backTo pos (starEach (e :: r) env) = (false, eval e env) :: backTo pos (starEach r env)) (hr : ∀ env, (backTo pos (starEach (e :: r) env)).any (·.1) = false)
    (h : WPL c pos (e :: r) st fun vs st1 => WPE c ke st1 fun kv st2 => WPM c (PySem.call (.builtin id) vs [(n, kv)]) st2 K) : WPE c (.Call (.Name x px) (e :: r) [⟨some n, ke, kp⟩] pos) st K := by
  intro s Q E R hQ
  refine wpAny_Call_Name_kw (WPE.globB (K := fun v st1 => v = .builtin id ∧ st1 = st) hg hx hd ⟨rfl, rfl⟩ s _ _ R ?_)
  rintro _ s1 _ R1 ⟨rfl, rfl⟩
  exact callWith_kw (h _ _ _ R1 fun vs s2 st2 R2 h2 => kws_cons (h2 _ _ _ R2 fun kv s3 st3 R3 h3 => kws_nil (h3 _ _ _ R3 hQ))) (he _) (hr _)
theorem WPE.lam {params : Arguments} {body : Expr} {scope : Scope} {cd P : Addr} {ps : Array Value} {g : Obj → List (Addr × Obj)} {clos : List (Str × Addr)} (hcd : c.ccd = .ref cd) (hC : CodeHd c.g cd P) (U : UpdF P (tabObj ps) led g) (ht : TriplesOk ps.toList) (hnf : codeAmong pos ps.toList = none)
    (hcl : closureFor scope c.env = pure clos) (hdef : defaultsOf params c.env = ([], []))
    (h : ∀ f c' oc vs t ctv tk', 0 < tk' → oc.data = .fields vs → vs[1]? = some (.str (c.env.qual ++ "<lambda>") t) → (∀ q ∈ led, q.1 < c') → c' < f →
      K (.ref f) ⟨fr, (f, kla_obj "<lambda>" (c.env.qual ++ "<lambda>") params body scope clos ((c.mg "__name__").getD .none) c' ctv) :: (c', oc) :: g (tabObj (ps ++ #[rawInt pos.line, rawInt pos.col, .ref c'])), tk'⟩) : WPE c (.Lambda params body scope pos) ⟨fr, led, tk⟩ K := by
  rintro s Q E ⟨ok, hp, h', u, rfl, F, N⟩ hQ
  exact wpAny_le (kla_eval hdef (kla_nest F N ok.T hC hcd U ht hnf hcl fun f c' oc vs t ctv h2 tk2 F2 N2 d1 d2 l1 l2 hle => hQ _ _ ⟨fr, _, tk2⟩ ⟨ok, Nat.lt_of_lt_of_le hp hle, h2, u, rfl, F2, N2⟩ (h f c' oc vs t ctv tk2 (Nat.lt_of_lt_of_le hp hle) d1 d2 l1 l2)))
/- sorted(range(n), key=f): f a lambda made here, of one name, that reads a cell and takes an item -/
theorem WPM.sortedL {r f c' a cA : Addr} {oc oA : Obj} {vs0 : Array Value} {n na : Nat} {t u v t0 : Tok} {qual : Str} {params : Arguments} {x y : Str} {px py ps : Pos} {scope : Scope} {cl : List (Str × Addr)} {pm ctv : Value} {xs : List Value} {ss : List Int} (hm : (r, rngO 0 n t u v) ∈ led) (hn : n ≤ 20) (hkz : ss.length = n)
    (hf : (f, kla_obj "<lambda>" qual params (.Subscript (.Name x px) (.Name y py) ps) scope cl pm c' ctv) ∈ led) (hc : (c', oc) ∈ led) (d1 : oc.data = .fields vs0) (d2 : vs0[1]? = some (.str qual t0))
    (hx : cl.lookup x = some cA) (hA : (cA, oA) ∈ led) (dA : oA.data = .cell (some (.ref a))) (ha : (a, listOf xs.toArray na) ∈ led) (hI : Ints xs ss) (hnd : 1 ≤ nd)
    (hb : ∀ t : Tok, ∀ i : Int, bindArgs (kla_fn "<lambda>" qual params (.Subscript (.Name x px) (.Name y py) ps) scope cl pm (.ref c') ctv) ⟨[.int i t], []⟩ = pure [(y, .int i t)]) (hloc : scope.names.lookup y = some .local) (hfree : scope.names.lookup x = some .free)
    (hco : scope.isCoroutine = false) (hgen : scope.isGenerator = false) (hk : scope.kind = .function) (hcell : ∀ x ∈ scope.names, x.2 ≠ .cell) (hdx : (x == Str.ofString "__debug__") = false) (hdy : (y == Str.ofString "__debug__") = false) (hdc : (x == ("__classdict__" : Str)) = false)
    (h : ∀ D outL k ring tk', 0 < tk' → (∀ q ∈ led, q.1 < D) → Ints outL ring → ring.Perm ((List.range n).map Int.ofNat) → ring.Pairwise (fun a b => ss.getD a.toNat 0 ≤ ss.getD b.toNat 0) → K (.ref D) ⟨fr, (D, listOf (List.toArray outL) k) :: led, tk'⟩) :
    WPM c (call (.builtin "sorted") [.ref r] [(Str.ofString "key", .ref f)]) ⟨fr, led, tk⟩ K := by
  rintro s Q E ⟨ok, hp, h', u, rfl, F, N⟩ hQ
  refine wpAny_le (sorted_range (n := n) (kz := ss) (q := f) rfl F N hm hn hkz rfl ?turn ?fin)
  case fin =>
    intro D h3 tk3 out k ring F3 N3 hlD hRI hRP hRS hle3
    have hp3 := Nat.lt_of_lt_of_le hp hle3
    exact hQ _ _ ⟨fr, _, tk3⟩ ⟨ok, hp3, h3, _, rfl, F3, N3⟩ (h D out.toList k ring tk3 hp3 hlD hRI hRP hRS)
  case turn =>
    intro i ti hi h tk own F3 N3
    have q1 := ok.hd
    refine wpAny_call ?_
    refine kla_code ok.B F3 ok.X N3 ok.T rfl rfl ok.hk (List.mem_append_left _ hf) (codeRec_news N3 (List.mem_append_left _ hc) d1 d2) (by show c.dp < recursionLimit; lia) (hb ti i) (List.forall_mem_singleton.mpr hloc) (fun g' L' h' FG' F4 N4 B' X' T' => ?_) hco hgen hk hcell
    obtain ⟨tj, ej⟩ := hI.at (show i < ss.length by lia)
    refine Subscript_ (nameX_F N4 hx (List.mem_append_left _ hA) dA (nameX_L F4 (v := .int i ti) (by show List.lookup y [(y, Value.int (i : Int) ti)] = _; rw [List.lookup_cons, beq_self_eq_true]) (sub_N N4 (List.mem_append_left _ ha) (Int.natCast_nonneg i) ?_ ?_ ?_ ?_) hk hloc hdy) hk hfree hdx hdc)
    · have := hI.1; lia
    · exact Nat.lt_of_le_of_lt (show xs.length ≤ 1000 by have := hI.1; lia) (by decide)
    · rw [Int.toNat_natCast, ej]
      exact leaveK_ F4 N4 fun F5 N5 => KskEnd.intro F5 N5 fun _ h => h
    · rfl
/- x[1:] of a list -/
theorem WPE.from1 {x : Str} {px p1 ps : Pos} {k1 : Nat} {l : Addr} {vs : List Value} {n : Nat} (hl : look fr x = some (.ref l)) (hx : cs.names.lookup x = some .local) (hd : (x == Str.ofString "__debug__") = false) (hm : (l, listOf vs.toArray n) ∈ led) (hz : vs.length ≤ 1000)
    (h : ∀ D, (∀ p ∈ led, p.1 < D) → K (.ref D) ⟨fr, (D, listOf (vs.drop 1).toArray 0) :: led, tk + 1⟩)
    (hs : ∀ (l a : Addr), subscripted (.Slice (some (.Constant (.int 1) k1 p1)) none none ps) false (.ref l) (.ref a) = operate [.ref a, .ref l] (getItem (.ref l) (.ref a))) (ht : ∀ (l : Addr) r, letTemporaryGo (.Name x px) (.ref l) r = pure ()) :
    WPE c (.Subscript (.Name x px) (.Slice (some (.Constant (.int 1) k1 p1)) none none ps) pos) ⟨fr, led, tk⟩ K := by
  rintro s Q E ⟨ok, hp, h', u, rfl, F, N⟩ hQ
  refine Subscript_ (nameX_L F (mp_look hl) ?_ ok.hk hx hd)
  refine wpAny_Slice ?_
  refine wpAny_Constant_int (k := k1) (pos := p1) ?_
  refine wpAny_pure ?_
  refine wpAny_pure ?_
  exact kmk_slice_lit (s := { c.s0 with heap := h', toks := tk + 1 }) F N (isL_N N hm) (IsPart.int _ _) IsPart.none (pick_from _ 1) (fun D h2 F2 N2 hl2 => hQ _ _ ⟨fr, _ :: led, tk + 1⟩ ⟨ok, Nat.succ_pos _, h2, u, rfl, F2, N2⟩ (h D hl2)) (hs _ _) (ht _) (by rw [List.size_toArray, sizeLine_eq]; lia)
theorem WPCall.zip {l1 l2 : Addr} {xs ys : List Value} {n1 n2 : Nat} (hm1 : (l1, listOf xs.toArray n1) ∈ led) (hm2 : (l2, listOf ys.toArray n2) ∈ led)
    (h : ∀ Z st, ZS Z l1 l2 0 st → (∀ p ∈ led, p.1 < Z) → (∀ q ∈ st, Z ≤ q.1) → K (.ref (Z + 4)) ⟨fr, st ++ led, tk⟩) : WPCall c (.type "zip") [.ref l1, .ref l2] ⟨fr, led, tk⟩ K := by
  rintro s Q E ⟨ok, hp, h', u, rfl, F, N⟩ hQ
  exact zip_N F N hm1 hm2 fun Z st h2 hZ F2 N2 q1 q2 => hQ _ _ ⟨fr, st ++ led, tk⟩ ⟨ok, hp, h2, u, rfl, F2, N2⟩ (h Z st hZ q1 q2)
theorem WPM.iterZ {Z l1 l2 : Addr} {i : Nat} {st₀ : List (Addr × Obj)} (hst : ZS Z l1 l2 i st₀) (h : K (.ref (Z + 4)) ⟨fr, st₀ ++ led, tk⟩) : WPM c (pyIter (.ref (Z + 4))) ⟨fr, st₀ ++ led, tk⟩ K := by
  rintro s Q E ⟨ok, hp, h', u, rfl, F, N⟩ hQ
  exact iter_zip N hst (hQ _ _ ⟨fr, _, tk⟩ ⟨ok, hp, h', u, rfl, F, N⟩ h)
theorem WPCall.sum {l : Addr} {vs : List Value} {ns : List Int} {n : Nat} (hm : (l, listOf vs.toArray n) ∈ led) (hi : Ints vs ns) (h : ∀ tk' t', K (.int ns.sum t') ⟨fr, led, tk'⟩) : WPCall c (.builtin "sum") [.ref l] ⟨fr, led, tk⟩ K := by
  rintro s Q E ⟨ok, hp, h', u, rfl, F, N⟩ hQ
  exact sum_N rfl F N hm hi hp fun h2 tk2 t2 hp2 F2 N2 => hQ _ _ ⟨fr, led, tk2⟩ ⟨ok, hp2, h2, u, rfl, F2, N2⟩ (h tk2 t2)
end
end Mine
end S_V11

section S_V12
set_option maxRecDepth 100000
namespace Mine
open PySem PySem.W PyProof.Rows PySem.Spec PySem.Calls PySem.SeqAt PyProof.Rows.LCg
section
variable {cs : Scope} {nd nu : Nat}
/- the next item of an iterator, with the loop's hold of its tuple given up -/
noncomputable def WPNG (c : Amb cs nd nu) (t : Expr) (it : Value) (st : AS) (K : Value → AS → Prop) : Prop :=
  ∀ (s : Shared) (Q E : Value → Shared → Prop), Re c s st → (∀ v s' st', Re c s' st' → K v st' → Q v s') → wpAny c.M c.A (pyNext it) (fun r s1 => ∃ v, r = some v ∧ wpAny c.M c.A (letOwnedTupleGo t it v) (fun _ s2 => Q v s2) E s1) E s
end
section
variable {cs : Scope} {nd nu : Nat} {c : Amb cs nd nu} {fr : List (Str × Value)} {led : List (Addr × Obj)} {tk : Nat} {K : Value → AS → Prop} {Kt Kf Kn : AS → Prop} {Kx : Flow → AS → Prop} {pos apos : Pos} {st : AS}
theorem WPFor.mkG {t : Expr} {it : Value} {b : List Stmt} {P : Type} (n : Nat) (I : Nat → P → Prop) (mk : Nat → P → AS) (p0 : P) (h0 : I 0 p0) (hS : Sub st (mk 0 p0))
    (turn : ∀ i p, i < n → I i p → WPNG c t it (mk i p) fun v st1 => WPAsg c t v st1 fun st2 => WPB c b st2 (AgainF I mk (i + 1)) (LoopX (AgainF I mk (i + 1)) Kn Kx))
    (last : ∀ p, I n p → WPLast c it (mk n p) Kn) : WPFor c t it b st Kn Kx := by
  intro s Q R hn hx
  refine my_forT (fun i s' => ∃ p, I i p ∧ Re c s' (mk i p)) n ⟨p0, h0, hS.re R⟩ ?_ ?_
  · rintro i s1 hi ⟨p, hI, R1⟩ _
    refine turn i p hi hI _ _ _ R1 fun v s2 st2 R2 h2 => h2 _ _ _ R2 fun s3 st3 R3 h3 => h3 _ _ R3 (fun s4 st4 R4 ⟨p', hI', hS'⟩ => ⟨p', hI', hS'.re R4⟩) fun f s4 st4 hf R4 h4 => ?_
    cases f with
    | ret v => exact hx _ _ _ hf R4 h4
    | brk => exact hn _ _ R4 h4
    | next => exact absurd rfl hf
    | cont => obtain ⟨p', hI', hS'⟩ := h4; exact ⟨p', hI', hS'.re R4⟩
  · rintro s1 ⟨p, hI, R1⟩ _
    exact last p hI _ _ _ R1 fun s2 st2 R2 h2 => ⟨rfl, hn _ _ R2 h2⟩
theorem WPNG.zip {Z l1 l2 : Addr} {i : Nat} {st₀ X : List (Addr × Obj)} {xs ys : List Value} {n1 n2 k : Nat} {es : List Expr} (hl : ∀ p ∈ st₀ ++ X, p ∈ led) (hst : ZS Z l1 l2 i st₀) (hs : ∀ q ∈ st₀, ∀ p ∈ X, p.1 ≠ q.1) (hm1 : (l1, listOf xs.toArray n1) ∈ X) (hm2 : (l2, listOf ys.toArray n2) ∈ X) (hi1 : i < xs.length) (hi2 : i < ys.length)
    (h : ∀ T st', ZS Z l1 l2 (i + 1) st' → (∀ q' ∈ st', ∃ q ∈ st₀, q.1 = q'.1) → K (.ref T) ⟨fr, (T, tupO [xs.getD i .none, ys.getD i .none]) :: (st' ++ X), tk⟩) : WPNG c (.Tuple es k pos) (.ref (Z + 4)) ⟨fr, led, tk⟩ K := by
  rintro s Q E ⟨ok, hp, h', u, rfl, F, N⟩ hQ
  refine next_zip F (News.sub N hl) hst hs hm1 hm2 hi1 hi2 fun T st' h2 hT hZ' hst' F2 N2 hTT lgo => ⟨_, rfl, lgo _ _ _ _ _ _ rfl fun h3 F3 N3 hT3 => ?_⟩
  exact hQ _ _ ⟨fr, (T, _) :: (st' ++ X), tk⟩ ⟨ok, hp, h3, u, rfl, F3, News.sub N3 (mem_bring st')⟩ (h T st' hZ' hst')
theorem WPLast.zip {Z l1 l2 : Addr} {i : Nat} {st₀ X : List (Addr × Obj)} {xs ys : List Value} {n1 n2 : Nat} (hl : ∀ p ∈ st₀ ++ X, p ∈ led) (hst : ZS Z l1 l2 i st₀) (hs : ∀ q ∈ st₀, ∀ p ∈ X, p.1 ≠ q.1) (hm1 : (l1, listOf xs.toArray n1) ∈ X) (hm2 : (l2, listOf ys.toArray n2) ∈ X) (hi : xs.length ≤ i ∨ ys.length ≤ i)
    (h : Kn ⟨fr, X, tk⟩) : WPLast c (.ref (Z + 4)) ⟨fr, led, tk⟩ Kn := by
  rintro s Q E ⟨ok, hp, h', u, rfl, F, N⟩ hQ
  exact next_zip_end rfl F (News.sub N hl) hst hs hm1 hm2 hi fun h2 F2 N2 => hQ _ ⟨fr, X, tk⟩ ⟨ok, hp, h2, u, rfl, F2, N2⟩ h
theorem WPSub.last {v i : Expr} {D : Addr} {vs : List Value} {x : Value} {n : Nat} {u : Tok} (hm : (D, listOf (vs ++ [x]).toArray n) ∈ led) (h : K x ⟨fr, led, tk⟩)
    (hs : ∀ D u, subscripted i false (.ref D) (.int (-1) u) = operate [.ref D, .int (-1) u] (getItem (.ref D) (.int (-1) u)) := by intro _ _; rfl) (hg : ∀ D r, letTemporaryGo v (.ref D) r = pure () := by intro _ _; rfl) : WPSub c v i (.ref D) (.int (-1) u) ⟨fr, led, tk⟩ K := by
  rintro s Q E ⟨ok, hp, h', u, rfl, F, N⟩ hQ
  exact sub_last N hm (hQ _ _ ⟨fr, led, tk⟩ ⟨ok, hp, h', u, rfl, F, N⟩ h) (hs _ _) (hg _)
theorem WPE.negI {i : Int} {k : Nat} {p1 : Pos} (h : K (.int (-i) (tk + 1)) ⟨fr, led, tk + 1 + 1⟩) : WPE c (.UnaryOp .USub (.Constant (.int i) k p1) pos) ⟨fr, led, tk⟩ K := by
  rintro s Q E ⟨ok, hp, h', u, rfl, F, N⟩ hQ
  exact UnaryOp_ (wpAny_Constant_int (PyProof.Rows.neg_int (hQ _ _ ⟨fr, led, tk + 1 + 1⟩ ⟨ok, Nat.succ_pos _, h', u, rfl, F, N⟩ h)))
theorem WPE.ledg {e : Expr} {led' : List (Addr × Obj)} (hl : ∀ p ∈ led', p ∈ led) (h : WPE c e ⟨fr, led', tk⟩ K) : WPE c e ⟨fr, led, tk⟩ K := by
  rintro s Q E ⟨ok, hp, h', u, rfl, F, N⟩ hQ
  exact h _ _ _ ⟨ok, hp, h', u, rfl, F, News.sub N hl⟩ hQ
theorem WPE.comp2 {elt i1 i2 ce : Expr} {scope : Scope} {cl : List (Str × Addr)} {px1 px2 : Pos} {x1 x2 : Str} {l : Addr} {n : Nat} {vs : List Value} {kv : Nat} (KK : Nat → Nat → List Value → Prop) (RR : Nat → Nat → Option Value → Prop)
    (hclos : closureFor scope c.env = pure cl) (hkind : scope.kind = .function) (hnames : ∀ y ∈ scope.names, y.2 = .local → scope.names.lookup y.1 = some .local) (hcell : ∀ y ∈ scope.names, y.2 ≠ .cell)
    (hx1 : scope.names.lookup x1 = some .local) (hx2 : scope.names.lookup x2 = some .local) (hx : x1 ≠ x2)
    (hs : ∀ env x, foldedSetIterable i1 env x = pure x) (hs2 : ∀ e x, foldedSetIterable i2 e x = pure x) (hn : n ≤ 1000)
    (h0 : KK 0 0 []) (hstep : ∀ i j ys o, KK i j ys → RR i j o → KK i (j + 1) (ys ++ o.toList)) (hwrap : ∀ i ys, i < n → KK i vs.length ys → KK (i + 1) 0 ys) (hlen : ∀ i j ys, i < n → j < vs.length → KK i j ys → ys.length ≤ 1000)
    (hl : (l, listOf vs.toArray kv) ∈ led)
    (ei2 : c.Ok → ∀ (m : Str → Option Value) (C : Addr) (oC : Obj) (Y : List (Addr × Obj)) (s' : Shared) (E' : Value → Shared → Prop) (Q' : Value → Shared → Prop), Fr c.g c.L s'.heap m → News c.g c.L s'.heap ((C, oC) :: Y) → (∀ p ∈ led, p ∈ Y) → Q' (.ref l) s' → wpAny c.M c.A (eval i2 (compEnvC scope cl C c.env)) Q' E' s')
    (body : c.Ok → ∀ (m : Str → Option Value) (C : Addr) (i : Nat), i < n → CBody PySem.Challenge.rw_mq0297_01.row.prog c.w c.A c.g c.L m elt ce (compEnvC scope cl C c.env) C led vs.length (fun j m' => (∃ t, m' x1 = some (.int i t)) ∧ m' x2 = some (vs.getD j .none)) (RR i))
    (h : WPE c i1 ⟨fr, led, tk⟩ fun xv st1 => ∃ r t u v tk1, xv = .ref r ∧ st1 = ⟨fr, (r, rngO 0 n t u v) :: led, tk1⟩) (hK : ∀ D ys k tk', 0 < tk' → KK n 0 ys → (∀ p ∈ led, p.1 < D) → K (.ref D) ⟨fr, (D, listOf (List.toArray ys) k) :: led, tk'⟩) :
    WPE c (.ListComp elt [⟨.Name x1 px1, i1, [], 0⟩, ⟨.Name x2 px2, i2, [ce], 0⟩] scope pos) ⟨fr, led, tk⟩ K := by
  rintro s Q E R hQ
  obtain ⟨ok, hp, h', u, rfl, F, N⟩ := id R
  refine wpAny_le (comp2_val KK RR hclos hkind hnames hcell rfl hx1 hx2 hx (hs _) hs2 h0 hstep hwrap hlen hl (ei2 ok) (body ok) (h _ _ _ R ?_))
  rintro _ s1 _ ⟨_, hp1, h1, u1, rfl, F1, N1⟩ ⟨r, t, u', v, tk1, rfl, rfl⟩
  refine iter_range F1 N1 (.head _) (Int.natCast_nonneg n) (Int.lt_of_le_of_lt (Int.ofNat_le.mpr hn) (by decide)) fun I h2 F2 N2 hl2 => ⟨I, _, rfl, ⟨h2, tk1, rfl, F2, News.sub N2 (sub_cons sub_tail)⟩, fun p hp => Nat.ne_of_lt (hl2 p (.tail _ hp)), fun D ys k h3 tk3 hKK hlD F3 N3 hle => ?_⟩
  have hp3 := Nat.lt_of_lt_of_le hp hle
  exact hQ _ _ ⟨fr, _, tk3⟩ ⟨ok, hp3, h3, _, rfl, F3, N3⟩ (hK D ys k tk3 hp3 hKK hlD)
end
end Mine
end S_V12

section S_PureCol
set_option maxRecDepth 100000
namespace Mine

theorem chan_eq (n c : Int) : chan n c = 512 * (n / 576 % 9) - (n / 576 % 9 * (n / 64 % 9)) * fallOf (n % 64) c := by
  unfold chan
  rw [Int.mul_sub, ← Int.mul_assoc, Int.mul_comm _ 512]

/- the facts of the 64 hues -/
noncomputable def hueOk (k : Int) : Bool :=
  let f0 := fallOf k 0; let f1 := fallOf k 128; let f2 := fallOf k 256
  (f0 == 0 || f1 == 0 || f2 == 0) && (f0 == 64 || f1 == 64 || f2 == 64) &&
  (if f0 = 0 then (64 * f2 - 64 * f1) % 6 == 0 else if f1 = 0 then (8192 + 64 * f0 - 64 * f2) % 6 == 0 else (16384 + 64 * f1 - 64 * f0) % 6 == 0) &&
  ((if f0 = 0 then 64 * f2 - 64 * f1 else if f1 = 0 then 8192 + 64 * f0 - 64 * f2 else 16384 + 64 * f1 - 64 * f0) / 6 % 4096 == 64 * k) &&
  (let q := 6 * k % 64; let t := 64 - 6 * k % 64; let i := 6 * k / 64;
   if i = 0 then f0 == 0 && f1 == t && f2 == 64 else if i = 1 then f0 == q && f1 == 0 && f2 == 64 else if i = 2 then f0 == 64 && f1 == 0 && f2 == t else if i = 3 then f0 == 64 && f1 == q && f2 == 0 else if i = 4 then f0 == t && f1 == 64 && f2 == 0 else f0 == 0 && f1 == 64 && f2 == q)
theorem hueOk_all : ∀ k : Fin 64, hueOk (k.val : Int) = true := by decide +kernel
theorem hueOk_int {k : Int} (h0 : 0 ≤ k) (h1 : k < 64) : hueOk k = true := by
  have := hueOk_all ⟨k.toNat, by lia⟩
  have e : ((k.toNat : Nat) : Int) = k := by lia
  rw [← e]; exact this

structure Hue (k f0 f1 f2 : Int) : Prop where
  b0 : 0 ≤ f0 ∧ f0 ≤ 64
  b1 : 0 ≤ f1 ∧ f1 ≤ 64
  b2 : 0 ≤ f2 ∧ f2 ≤ 64
  zero : f0 = 0 ∨ f1 = 0 ∨ f2 = 0
  top : f0 = 64 ∨ f1 = 64 ∨ f2 = 64
  s0 : f0 = 0 → (64 * f2 - 64 * f1) % 6 = 0
  s1 : f0 ≠ 0 → f1 = 0 → (8192 + 64 * f0 - 64 * f2) % 6 = 0
  s2 : f0 ≠ 0 → f1 ≠ 0 → (16384 + 64 * f1 - 64 * f0) % 6 = 0
  hue : (if f0 = 0 then 64 * f2 - 64 * f1 else if f1 = 0 then 8192 + 64 * f0 - 64 * f2 else 16384 + 64 * f1 - 64 * f0) / 6 % 4096 = 64 * k
  back : (if 6 * k / 64 = 0 then f0 = 0 ∧ f1 = 64 - 6 * k % 64 ∧ f2 = 64 else if 6 * k / 64 = 1 then f0 = 6 * k % 64 ∧ f1 = 0 ∧ f2 = 64 else if 6 * k / 64 = 2 then f0 = 64 ∧ f1 = 0 ∧ f2 = 64 - 6 * k % 64
    else if 6 * k / 64 = 3 then f0 = 64 ∧ f1 = 6 * k % 64 ∧ f2 = 0 else if 6 * k / 64 = 4 then f0 = 64 - 6 * k % 64 ∧ f1 = 64 ∧ f2 = 0 else f0 = 0 ∧ f1 = 64 ∧ f2 = 6 * k % 64)
theorem hue_of {k : Int} (h0 : 0 ≤ k) (h1 : k < 64) : Hue k (fallOf k 0) (fallOf k 128) (fallOf k 256) := by
  have h := hueOk_int h0 h1
  unfold hueOk at h
  dsimp only at h
  simp only [Bool.and_eq_true, Bool.or_eq_true, beq_iff_eq] at h
  obtain ⟨⟨⟨⟨hz, ht⟩, hs⟩, hh⟩, hb⟩ := h
  refine ⟨fall_bound _ _, fall_bound _ _, fall_bound _ _, by lia, by lia, fun e => ?_, fun e e1 => ?_, fun e e1 => ?_, hh, ?_⟩
  · rw [if_pos e] at hs; exact beq_iff_eq.mp hs
  · rw [if_neg e, if_pos e1] at hs; exact beq_iff_eq.mp hs
  · rw [if_neg e, if_neg e1] at hs; exact beq_iff_eq.mp hs
  · repeat' split at hb
    all_goals (simp only [Bool.and_eq_true, beq_iff_eq] at hb)
    all_goals simp_all
end Mine
end S_PureCol

section S_ZipQ
set_option maxRecDepth 100000
namespace Mine
open PySem PySem.W PyProof.Rows PySem.Spec PySem.Calls PySem.SeqAt PyProof.Rows.LCg
section
variable {prog : Program} {w : World} {A : Around} {E : Value → Shared → Prop} {s : Shared} {h₀ : Heap} {L r : Addr} {m : Str → Option Value} {news : List (Addr × Obj)} {env : Env}

theorem iter_call {D : Addr} {vs : List Value} {n : Nat} {Q : Value → Shared → Prop} (F : Fr h₀ L s.heap m) (N : News h₀ L s.heap news) (hm : (D, listOf vs.toArray n) ∈ news)
    (h : ∀ I o h', ListIt o D 0 → Fr h₀ L h' m → News h₀ L h' ((I, o) :: news) → (∀ p ∈ news, p.1 < I) → Q (.ref I) { s with heap := h' }) : wpAny (model prog w) A (call (.builtin "iter") [.ref D]) Q E s := by
  refine call_function_entry (by decide +kernel) (by decide +kernel) kdk_entry_iter (kdk_args_iter _) ?_
  unfold Builtin.«iter»
  refine wpAny_bind (m := someArgs "iter" 1 2 _) (wpAny_of_eq (a := [Value.ref D]) (by first | rfl | kernel_rfl!) ?_)
  show wpAny _ _ (pyIter (.ref D) >>= _) _ _ _
  refine wpAny_bind (iter_list F N hm fun I o h' ho F' N' hl => ?_)
  exact wpAny_pure ⟨_, rfl, h I o h' ho F' N' hl⟩

theorem nextOf_range {it : Addr} {x left step : Int} {Q : Value → Shared → Prop} (hit : IsRangeIter s.heap it x left step) (hleft : 0 < left)
    (hQ : ∀ h', IsRangeIter h' it (x + step) (left - 1) step → Heap.SameBut it s.heap h' → Q (.int x s.toks) { s with heap := h', toks := s.toks + 1 }) :
    wpAny (model prog w) A (Builtin.SmallTypes.nextOf (.ref it)) Q E s := by
  have hT : s.TypeIs (.ref it) "range_iterator" := ⟨_, hit, rfl⟩
  unfold Builtin.SmallTypes.nextOf
  refine wpAny_bind (wpAny_callSpecial?_slot (name := Str.ofString "__next__") hT F.slot_range_iterator_next
    (call_meets F.slot_range_iterator_next hT F.entry_range_iterator_next (F.args_range_iterator_next_1 _) (AutoRange.range_iterator___next___range_iterator_1 it x left step (by lia)) ⟨hit, ?_⟩))
  exact wpAny_pure (hQ _ (Heap.get?_update_self _ (Heap.get?_update_self _ hit rfl) rfl) ((Heap.SameBut.update ..).trans (Heap.SameBut.update ..)))
theorem nextOf_range_end {it : Addr} {x left step : Int} {Q : Value → Shared → Prop} (hh : A.handled = none) (hit : IsRangeIter s.heap it x left step) (hleft : left ≤ 0)
    (hE : ∀ h' e, Heap.ExtBut it s.heap h' → (∃ o, h'.get? e = some o ∧ o.cls = .type "StopIteration") → E (.ref e) { s with heap := h' }) : wpAny (model prog w) A (Builtin.SmallTypes.nextOf (.ref it)) Q E s := by
  have hT : s.TypeIs (.ref it) "range_iterator" := ⟨_, hit, rfl⟩
  unfold Builtin.SmallTypes.nextOf
  refine wpAny_bind (wpAny_callSpecial?_slot (name := Str.ofString "__next__") hT F.slot_range_iterator_next
    (wpAny_call_entry F.slot_range_iterator_next hT F.entry_range_iterator_next ?_ (F.args_range_iterator_next_1 _)))
  show wpAny _ _ (field (.ref it) 0 >>= _) _ _ s
  refine wpAny_bind (wpAny_field hit rfl (x := rawInt x) rfl ?_)
  show wpAny _ _ (field (.ref it) 1 >>= _) _ _ s
  refine wpAny_bind (wpAny_field hit rfl (x := rawInt left) rfl ?_)
  show wpAny _ _ (field (.ref it) 2 >>= _) _ _ s
  refine wpAny_bind (wpAny_field hit rfl (x := rawInt step) rfl ?_)
  show wpAny _ _ (if left ≤ 0 then _ else _) _ _ s
  rw [if_pos hleft]
  refine wpAny_bind (wpAny_rule ?_)
  refine wpAny_bind ?_
  show wpAny _ _ (newExc (.type "StopIteration") [] >>= _) _ _ _
  refine wpAny_bind ?_
  simp only [newExc, newTuple]
  refine wpAny_bind (wpAny_newObj_type ?_ (by size_fits))
  refine wpAny_bind (m := firstArgMember _ _) (wpAny_of_eq (a := Value.none) (by first | rfl | (simp only [firstArgMember]; rfl)) ?_)
  refine wpAny_newObj_type ?_ (by size_fits)
  simp only [raiseNew]
  refine wpAny_bind (wpAny_handled ?_)
  first | rw [show A.in1.handled = none from hh] | rw [hh]
  refine wpAny_bind (wpAny_pure (wpAny_throw ?_))
  exact hE _ _ (((Heap.ExtBut.refl it s.heap).push _).push _) ⟨_, Heap.get?_push_size _ rfl, rfl⟩

noncomputable abbrev zqH1 (h : Heap) (n : Int) : Heap := h.push { cls := .type "range_iterator", data := .fields #[rawInt 0, rawInt n, rawInt 1] }
noncomputable abbrev zqH3 (h : Heap) (n : Int) (I : Addr) : Heap := (zqH1 h n).push { cls := .type "tuple", data := .seq #[.ref h.objs.size, .ref I] }
noncomputable abbrev zqH4 (h : Heap) (n : Int) (I : Addr) : Heap := (zqH3 h n I).push { cls := .type "tuple", data := .seq #[.none, .none] }
noncomputable abbrev zqH5 (h : Heap) (n : Int) (I : Addr) : Heap := (zqH4 h n I).push { cls := .type "zip", data := .fields #[.none, .bool false, .bool false, .ref (zqH1 h n).objs.size, .ref (zqH3 h n I).objs.size] }

theorem meets_zipq (r I l : Addr) (n : Int) (t u v : Tok) (i : Nat) (h0 : 0 ≤ n) (h1 : n < 2 ^ 60) :
    Meets (Builtin.«zip.__new__» ⟨[.type "zip", .ref r, .ref I], []⟩) (fun _ R s => IsRange s.heap r 0 n 1 t u v ∧ s.heap.IsListIter I l i ∧
      R (.ok (.ret (.ref (zqH4 s.heap n I).objs.size))) { s with heap := zqH5 s.heap n I }) :=
  .of_wp fun prog w A R s h => by
    obtain ⟨hp, g, d, tk, os⟩ := s; obtain ⟨hl1, hl2, h⟩ := h
    have hsub := sub_zip
    have hL1 : IsRange (Shared.heap ⟨hp, g, d, tk, os⟩) r 0 n 1 t u v := hl1
    have hs : Builtin.Range.rangeSize 0 n 1 = n := by rw [rangeSize_one]; split <;> lia
    have hsm : Builtin.Range.small 0 n 1 = true := small_one (by lia) (by lia) (by lia) (by lia)
    have hL2 : Heap.IsListIter (Shared.heap ⟨hp.push { cls := .type "range_iterator", data := .fields #[rawInt 0, rawInt (Builtin.Range.rangeSize 0 n 1), rawInt 1] }, g, d, tk, os⟩) I l i := hl2.at fun o e => Heap.get?_push_of_some _ e
    wp_walk using wpAny_pyIter_range hL1 hsm, wpAny_pyIter_listiter hL2
    exact ⟨_, rfl, by rw [hs]; exact h⟩

noncomputable abbrev zqO (f0 : Value) (Z : Addr) : Obj := { cls := .type "zip", dict := none, data := .fields #[f0, .bool false, .bool false, .ref (Z + 1), .ref (Z + 2)], slots := #[] }
noncomputable def QS (Z I l : Addr) (n i : Nat) (st : List (Addr × Obj)) : Prop :=
  ∃ oI a b, st = [(Z + 3, zqO .none Z), (Z + 1, tupO [.ref Z, .ref I]), (Z + 2, tupO [a, b]), (Z, rngIt (i : Int) ((n : Int) - (i : Int)) 1), (I, oI)] ∧ ListIt oI l i

theorem zipq_N {I l : Addr} {oI : Obj} {n : Nat} {t u v : Tok} {Q : Value → Shared → Prop} (F : Fr h₀ L s.heap m) (N : News h₀ L s.heap news) (hr : (r, rngO 0 n t u v) ∈ news) (hI : (I, oI) ∈ news) (ho : ListIt oI l 0) (hn : n ≤ 1000)
    (h : ∀ Z st h', QS Z I l n 0 st → Fr h₀ L h' m → News h₀ L h' (st ++ news) → (∀ p ∈ news, p.1 < Z) → (∀ q ∈ st, q.1 = I ∨ Z ≤ q.1) → Q (.ref (Z + 3)) { s with heap := h' }) : wpAny (model prog w) A (call (.type "zip") [.ref r, .ref I]) Q E s := by
  refine callType_new PySem.F.called_zip (by decide) (PySem.F.typeCall_zip_2 _ _) (PySem.F.newCall_zip_2 _ _) (fun obj => PySem.F.args_object_init_3 obj _ _) PySem.F.entry_zip_new
    (meets_zipq r I l n t u v 0 (by lia) (by lia)) ⟨(N _ hr).1, ⟨oI, (N _ hI).1, ho.1, ho.2⟩, ?_⟩
  have z1 : (zqH1 s.heap n).objs.size = s.heap.objs.size + 1 := Heap.size_push ..
  have z3 : (zqH3 s.heap n I).objs.size = s.heap.objs.size + 2 := by rw [Heap.size_push, z1]
  have z4 : (zqH4 s.heap n I).objs.size = s.heap.objs.size + 3 := by rw [Heap.size_push, z3]
  have hk : ∀ c o, s.heap.get? c = some o → (zqH5 s.heap n I).get? c = some o := fun c o x => Heap.get?_push_of_some _ (Heap.get?_push_of_some _ (Heap.get?_push_of_some _ (Heap.get?_push_of_some _ x)))
  have g5 : (zqH5 s.heap n I).get? (zqH4 s.heap n I).objs.size = some _ := Heap.get?_push_size _ rfl
  have g4 : (zqH5 s.heap n I).get? (zqH3 s.heap n I).objs.size = some _ := Heap.get?_push_of_some _ (Heap.get?_push_size _ rfl)
  have g3 : (zqH5 s.heap n I).get? (zqH1 s.heap n).objs.size = some _ := Heap.get?_push_of_some _ (Heap.get?_push_of_some _ (Heap.get?_push_size _ rfl))
  have g1 : (zqH5 s.heap n I).get? s.heap.objs.size = some _ := Heap.get?_push_of_some _ (Heap.get?_push_of_some _ (Heap.get?_push_of_some _ (Heap.get?_push_size _ rfl)))
  show _ ∧ _
  rw [z1, z3, z4] at g5
  rw [z1] at g3
  rw [z3] at g4
  rw [z4]
  have hLs : L < s.heap.objs.size := F.ns.lt
  have fr : ∀ b, s.heap.objs.size ≤ b → b ≠ L ∧ h₀.get? b = none := fun b hb => ⟨Nat.ne_of_gt (Nat.lt_of_lt_of_le hLs hb), Heap.get?_none_of_le (Nat.le_trans F.above (Nat.le_trans (Nat.le_of_lt hLs) hb))⟩
  refine ⟨⟨_, g5, rfl⟩, h s.heap.objs.size _ _ ⟨oI, .none, .none, rfl, ho⟩ (F.kept hk) (fun p hp => ?_) (fun p hp => Heap.lt_size (N p hp).1) (fun q hq => ?_)⟩
  · rcases List.mem_append.mp hp with hp | hp
    · simp only [List.mem_cons, List.not_mem_nil, or_false] at hp
      rcases hp with rfl | rfl | rfl | rfl | rfl
      · exact ⟨g5, fr _ (Nat.le_add_right _ _)⟩
      · exact ⟨g3, fr _ (Nat.le_add_right _ _)⟩
      · exact ⟨g4, fr _ (Nat.le_add_right _ _)⟩
      · exact ⟨by simpa using g1, fr _ (Nat.le_refl _)⟩
      · exact ⟨hk _ _ (N _ hI).1, (N _ hI).2⟩
    · exact ⟨hk _ _ (N p hp).1, (N p hp).2⟩
  · simp only [List.mem_cons, List.not_mem_nil, or_false] at hq
    rcases hq with rfl | rfl | rfl | rfl | rfl
    · exact .inr (Nat.le_add_right _ _)
    · exact .inr (Nat.le_add_right _ _)
    · exact .inr (Nat.le_add_right _ _)
    · exact .inr (Nat.le_refl _)
    · exact .inl rfl

/- zip.__next__ over a range's and a list's iterator -/
theorem zipq_item {z TI TO i1 i2 l2 : Addr} {x left : Int} {k2 : Nat} {ys : Array Value} {y a b : Value} {Q : Value → Shared → Prop} (TIz : TI ≠ z) (TOz : TO ≠ z) (i1z : i1 ≠ z) (i2z : i2 ≠ z) (TITO : TI ≠ TO) (TIi1 : TI ≠ i1) (TIi2 : TI ≠ i2) (TOi1 : TO ≠ i1) (TOi2 : TO ≠ i2) (i12 : i1 ≠ i2)
    (l2z : l2 ≠ z) (l2TO : l2 ≠ TO) (l2i1 : l2 ≠ i1) (l2i2 : l2 ≠ i2)
    (hz : IsZip s.heap z TI TO .none) (hTI : IsPair s.heap TI (.ref i1) (.ref i2)) (hTO : IsPair s.heap TO a b)
    (h1 : IsRangeIter s.heap i1 x left 1) (hleft : 0 < left) (h2 : s.heap.IsListIter i2 l2 k2) (hl2 : s.heap.IsList l2 ys) (hy : ys[k2]? = some y)
    (hQ : ∀ h', IsZip h' z TI TO (rawInt s.heap.objs.size) → IsPair h' TO (.int x s.toks) y → IsRangeIter h' i1 (x + 1) (left - 1) 1 → h'.IsListIter i2 l2 (k2 + 1) → IsPair h' s.heap.objs.size (.int x s.toks) y → h'.objs.size = s.heap.objs.size + 1 →
      (∀ c o, c ≠ z → c ≠ TO → c ≠ i1 → c ≠ i2 → s.heap.get? c = some o → h'.get? c = some o) → Q (.ref s.heap.objs.size) { s with heap := h', toks := s.toks + 1 }) :
    wpAny (model prog w) A (Builtin.«zip.__next__» ⟨[.ref z], []⟩) (fun fin s' => ∃ v, fin = .done (.ret v) ∧ Q v s') E s := by
  show wpAny _ _ (field (.ref z) 2 >>= _) _ _ _
  refine wpAny_bind (wpAny_field hz rfl (x := .bool false) rfl ?_)
  show wpAny _ _ (field (.ref z) 3 >>= _) _ _ _
  refine wpAny_bind (wpAny_field hz rfl (x := .ref TI) rfl ?_)
  refine wpAny_bind (wpAny_seqItems hTI rfl ?_)
  show wpAny _ _ (Builtin.SmallTypes.ownedTupleIsFree (.ref z) >>= _) _ _ _
  refine wpAny_bind ?_
  unfold Builtin.SmallTypes.ownedTupleIsFree
  refine wpAny_bind (wpAny_field hz rfl (x := .none) rfl (wpAny_pure ?_))
  simp only [if_true]
  refine wpAny_bind (wpAny_rule ?_)
  refine wpAny_bind (wpAny_field hz rfl (x := .ref TO) rfl ?_)
  refine wpAny_bind (wpAny_setField_rec hz (by simp) fun h₁ hz₁ hs₁ => ?_)
  replace hz₁ : IsZip h₁ z TI TO .ellipsis := hz₁
  refine wpAny_bind ?_
  simp only [List.zipIdx_cons, List.zipIdx_nil, List.forIn_cons, List.forIn_nil]
  refine wpAny_bind (wpAny_bind (wpAny_onRaise ?_))
  show wpAny _ _ (Builtin.SmallTypes.nextOf (.ref i1) >>= _) _ _ _
  refine wpAny_bind (nextOf_range (hs₁.extBut _ _ i1z h1) hleft fun h₂ h1₂ hs₂ => wpAny_pure ?_)
  have hTO₂ : IsPair h₂ TO a b := hs₂.extBut _ _ TOi1 (hs₁.extBut _ _ TOz hTO)
  refine wpAny_bind (wpAny_seqItems hTO₂ rfl ?_)
  refine wpAny_bind (wpAny_updateSeq_pair hTO₂ fun h₃ hTO₃ hs₃ => ?_)
  replace hTO₃ : IsPair h₃ TO (.int x s.toks) b := hTO₃
  refine wpAny_bind (wpAny_letGo (wpAny_pure ?_))
  refine wpAny_bind (wpAny_bind (wpAny_onRaise ?_))
  show wpAny _ _ (Builtin.SmallTypes.nextOf (.ref i2) >>= _) _ _ _
  refine wpAny_bind (wpAny_nextOf_list_item (((h2.extBut hs₁.extBut i2z).extBut hs₂.extBut i12.symm).extBut hs₃.extBut TOi2.symm)
    (((hl2.extBut hs₁.extBut l2z).extBut hs₂.extBut l2i1).extBut hs₃.extBut l2TO) hy fun h₄ h2₄ hs₄ => wpAny_pure ?_)
  have hTO₄ : IsPair h₄ TO (.int x s.toks) b := hs₄.extBut _ _ TOi2 hTO₃
  refine wpAny_bind (wpAny_seqItems hTO₄ rfl ?_)
  refine wpAny_bind (wpAny_updateSeq_pair hTO₄ fun h₅ hTO₅ hs₅ => ?_)
  replace hTO₅ : IsPair h₅ TO (.int x s.toks) y := hTO₅
  refine wpAny_bind (wpAny_letGo (wpAny_pure (wpAny_pure ?_)))
  refine wpAny_bind (wpAny_seqItems hTO₅ rfl ?_)
  refine wpAny_bind (wpAny_newTuple ?_)
  have hsz : h₅.objs.size = s.heap.objs.size := by rw [hs₅.1, hs₄.1, hs₃.1, hs₂.1, hs₁.1]
  have hz₅ : IsZip h₅ z TI TO .ellipsis := hs₅.extBut _ _ TOz.symm (hs₄.extBut _ _ i2z.symm (hs₃.extBut _ _ TOz.symm (hs₂.extBut _ _ i1z.symm hz₁)))
  have hk₅ : ∀ c o, c ≠ z → c ≠ TO → c ≠ i1 → c ≠ i2 → s.heap.get? c = some o → h₅.get? c = some o := fun c o c1 c2 c3 c4 e =>
    hs₅.extBut _ _ c2 (hs₄.extBut _ _ c4 (hs₃.extBut _ _ c2 (hs₂.extBut _ _ c3 (hs₁.extBut _ _ c1 e))))
  have h1₅ : IsRangeIter h₅ i1 (x + 1) (left - 1) 1 := hs₅.extBut _ _ TOi1.symm (hs₄.extBut _ _ i12 (hs₃.extBut _ _ TOi1.symm h1₂))
  have h2₅ : h₅.IsListIter i2 l2 (k2 + 1) := h2₄.extBut hs₅.extBut TOi2.symm
  have hzlt : z < h₅.objs.size := Heap.lt_size hz₅
  have hTOlt : TO < h₅.objs.size := Heap.lt_size hTO₅
  show wpAny _ _ (Builtin.SmallTypes.ownedTupleHandOut (.ref z) (.ref h₅.objs.size) >>= _) _ _ _
  refine wpAny_bind ?_
  unfold Builtin.SmallTypes.ownedTupleHandOut
  have hz₆ : IsZip (h₅.push { cls := .type "tuple", data := .seq #[Value.int x s.toks, y] }) z TI TO .ellipsis := Heap.get?_push_of_some _ hz₅
  refine wpAny_bind (wpAny_setField_rec hz₆ (by simp) fun h₇ hz₇ hs₇ => ?_)
  replace hz₇ : IsZip h₇ z TI TO (rawInt h₅.objs.size) := hz₇
  refine wpAny_setField_rec hz₇ (by simp) fun h₈ hz₈ hs₈ => ?_
  replace hz₈ : IsZip h₈ z TI TO (rawInt h₅.objs.size) := hz₈
  have up : ∀ c o, c ≠ z → h₅.get? c = some o → h₈.get? c = some o := fun c o c1 e => hs₈.extBut _ _ c1 (hs₇.extBut _ _ c1 (Heap.get?_push_of_some _ e))
  have hT₈ : IsPair h₈ h₅.objs.size (.int x s.toks) y := hs₈.extBut _ _ (Nat.ne_of_gt hzlt) (hs₇.extBut _ _ (Nat.ne_of_gt hzlt) (Heap.get?_push_size _ rfl))
  have hz8 : h₈.objs.size = h₅.objs.size + 1 := by rw [hs₈.1, hs₇.1, Heap.size_push]
  rw [hsz] at hz₈ hT₈ hz8
  refine wpAny_pure ⟨_, rfl, ?_⟩
  show Q (.ref h₅.objs.size) _
  rw [hsz]
  exact hQ h₈ hz₈ (up _ _ TOz hTO₅) (up _ _ i1z h1₅) (h2₅.at fun o e => up _ o i2z e) hT₈ hz8 fun c o c1 c2 c3 c4 e => up c o c1 (hk₅ c o c1 c2 c3 c4 e)

theorem zipq_stop {z TI TO i1 i2 : Addr} {x left : Int} {a b : Value} {Q : Fin → Shared → Prop} (hh : A.handled = none) (i1z : i1 ≠ z)
    (hz : IsZip s.heap z TI TO .none) (hTI : IsPair s.heap TI (.ref i1) (.ref i2)) (_hTO : IsPair s.heap TO a b)
    (h1 : IsRangeIter s.heap i1 x left 1) (hleft : left ≤ 0)
    (hE : ∀ h' e, (∀ c o, c ≠ z → c ≠ i1 → s.heap.get? c = some o → h'.get? c = some o) → (∃ o, h'.get? e = some o ∧ o.cls = .type "StopIteration") → E (.ref e) { s with heap := h' }) :
    wpAny (model prog w) A (Builtin.«zip.__next__» ⟨[.ref z], []⟩) Q E s := by
  show wpAny _ _ (field (.ref z) 2 >>= _) _ _ _
  refine wpAny_bind (wpAny_field hz rfl (x := .bool false) rfl ?_)
  show wpAny _ _ (field (.ref z) 3 >>= _) _ _ _
  refine wpAny_bind (wpAny_field hz rfl (x := .ref TI) rfl ?_)
  refine wpAny_bind (wpAny_seqItems hTI rfl ?_)
  show wpAny _ _ (Builtin.SmallTypes.ownedTupleIsFree (.ref z) >>= _) _ _ _
  refine wpAny_bind ?_
  unfold Builtin.SmallTypes.ownedTupleIsFree
  refine wpAny_bind (wpAny_field hz rfl (x := .none) rfl (wpAny_pure ?_))
  simp only [if_true]
  refine wpAny_bind (wpAny_rule ?_)
  refine wpAny_bind (wpAny_field hz rfl (x := .ref TO) rfl ?_)
  refine wpAny_bind (wpAny_setField_rec hz (by simp) fun h₁ hz₁ hs₁ => ?_)
  replace hz₁ : IsZip h₁ z TI TO .ellipsis := hz₁
  refine wpAny_bind ?_
  simp only [List.zipIdx_cons, List.zipIdx_nil, List.forIn_cons, List.forIn_nil]
  refine wpAny_bind (wpAny_bind (wpAny_onRaise ?_))
  show wpAny _ _ (Builtin.SmallTypes.nextOf (.ref i1) >>= _) _ _ _
  refine wpAny_bind (nextOf_range_end hh (hs₁.extBut _ _ i1z h1) hleft fun h₂ e hs₂ he => ?_)
  obtain ⟨oe, hoe, hce⟩ := he
  have hz₂ : IsZip h₂ z TI TO .ellipsis := hs₂ _ _ i1z.symm hz₁
  have hez : e ≠ z := fun x => by subst x; rw [hz₂] at hoe; cases hoe; simp at hce
  refine wpAny_setField_rec hz₂ (by simp) fun h₃ _ hs₃ => hE h₃ e (fun c o c1 c3 x => hs₃.extBut _ _ c1 (hs₂ _ _ c3 (hs₁.extBut _ _ c1 x))) ⟨oe, hs₃.extBut _ _ hez hoe, hce⟩
end
end Mine
end S_ZipQ

section S_ZipQ2
set_option maxRecDepth 100000
namespace Mine
open PySem PySem.W PyProof.Rows PySem.Spec PySem.Calls PySem.SeqAt PyProof.Rows.LCg
section
variable {prog : Program} {w : World} {A : Around} {E : Value → Shared → Prop} {s : Shared} {h₀ : Heap} {L r : Addr} {m : Str → Option Value} {news st₀ : List (Addr × Obj)} {env : Env}

theorem qs_ne {Z I l : Addr} {n i : Nat} {st X : List (Addr × Obj)} (hst : QS Z I l n i st) (hIZ : I < Z) (hs : ∀ q ∈ st, ∀ p ∈ X, p.1 ≠ q.1) :
    (∀ p ∈ X, p.1 ≠ Z + 3 ∧ p.1 ≠ Z + 2 ∧ p.1 ≠ Z ∧ p.1 ≠ I) ∧ I ≠ Z + 3 ∧ I ≠ Z + 2 ∧ I ≠ Z + 1 := by
  obtain ⟨_, _, _, rfl, _⟩ := hst
  exact ⟨fun p hp => ⟨hs _ (.head _) p hp, hs _ (.tail _ (.tail _ (.head _))) p hp, hs _ (.tail _ (.tail _ (.tail _ (.head _)))) p hp, hs _ (.tail _ (.tail _ (.tail _ (.tail _ (.head _))))) p hp⟩,
    Nat.ne_of_lt (Nat.lt_of_lt_of_le hIZ (Nat.le_add_right _ _)), Nat.ne_of_lt (Nat.lt_of_lt_of_le hIZ (Nat.le_add_right _ _)), Nat.ne_of_lt (Nat.lt_of_lt_of_le hIZ (Nat.le_add_right _ _))⟩

theorem next_zipq {Z I l : Addr} {n i : Nat} {st X : List (Addr × Obj)} {ys : List Value} {k : Nat} {Q : Option Value → Shared → Prop} (hIZ : I < Z) (F : Fr h₀ L s.heap m) (N : News h₀ L s.heap (st ++ X)) (hst : QS Z I l n i st) (hs : ∀ q ∈ st, ∀ p ∈ X, p.1 ≠ q.1)
    (hm : (l, listOf ys.toArray k) ∈ X) (hi1 : i < n) (hi2 : i < ys.length)
    (h : ∀ T st' h' (t : Tok), (∀ p ∈ st ++ X, p.1 < T) → QS Z I l n (i + 1) st' → (∀ q' ∈ st', ∃ q ∈ st, q.1 = q'.1) → Fr h₀ L h' m → News h₀ L h' ((T, tupO [.int (i : Int) t, ys.getD i .none]) :: X) → h'.IsTuple T #[.int (i : Int) t, ys.getD i .none] →
      (∀ (elts : List Expr) (kk : Nat) (pos : Pos) (s' : Shared) (E' : Value → Shared → Prop) (Q' : Unit → Shared → Prop), s'.heap = h' → (∀ h2, Fr h₀ L h2 m → News h₀ L h2 (st' ++ (T, tupO [.int (i : Int) t, ys.getD i .none]) :: X) → h2.IsTuple T #[.int (i : Int) t, ys.getD i .none] → Q' () { s' with heap := h2 }) →
        wpAny (model prog w) A (letOwnedTupleGo (.Tuple elts kk pos) (.ref (Z + 3)) (.ref T)) Q' E' s') →
      Q (some (.ref T)) { s with heap := h', toks := s.toks + 1 }) : wpAny (model prog w) A (pyNext (.ref (Z + 3))) Q E s := by
  obtain ⟨xX, i3, i2, i1⟩ := qs_ne hst hIZ hs
  have lX := xX _ hm
  obtain ⟨oI, a, b, rfl, ⟨c2, d2⟩⟩ := hst
  have g4 := N _ (List.mem_append_left _ (.head _))
  have g2 := N _ (List.mem_append_left _ (.tail _ (.head _)))
  have g3 := N _ (List.mem_append_left _ (.tail _ (.tail _ (.head _))))
  have g0 := N _ (List.mem_append_left _ (.tail _ (.tail _ (.tail _ (.head _)))))
  have g1 := N _ (List.mem_append_left _ (.tail _ (.tail _ (.tail _ (.tail _ (.head _))))))
  have NX : News h₀ L s.heap X := fun p hp => N p (List.mem_append_right _ hp)
  have hT : s.TypeIs (.ref (Z + 3)) "zip" := ⟨_, g4.1, rfl⟩
  have key : ∀ (Q' : Value → Shared → Prop) (E' : Value → Shared → Prop), (∀ h', IsZip h' (Z + 3) (Z + 1) (Z + 2) (rawInt s.heap.objs.size) → IsPair h' (Z + 2) (.int (i : Int) s.toks) (ys.getD i .none) → IsRangeIter h' Z ((i : Int) + 1) ((n : Int) - (i : Int) - 1) 1 → h'.IsListIter I l (i + 1) → IsPair h' s.heap.objs.size (.int (i : Int) s.toks) (ys.getD i .none) → h'.objs.size = s.heap.objs.size + 1 →
      (∀ c o, c ≠ Z + 3 → c ≠ Z + 2 → c ≠ Z → c ≠ I → s.heap.get? c = some o → h'.get? c = some o) → Q' (.ref s.heap.objs.size) { s with heap := h', toks := s.toks + 1 }) →
      wpAny (model prog w) A.in1 (Builtin.«zip.__next__» ⟨[.ref (Z + 3)], []⟩) (fun fin s' => ∃ v, fin = .done (.ret v) ∧ Q' v s') E' s := fun Q' E' hq =>
    zipq_item (ne_add 1 3 (by decide)) (ne_add 2 3 (by decide)) (ne_add0 3 (by decide)) i3 (ne_add 1 2 (by decide)) (ne_add0 1 (by decide)).symm i1.symm (ne_add0 2 (by decide)).symm i2.symm (Nat.ne_of_gt hIZ)
      lX.1 lX.2.1 lX.2.2.1 lX.2.2.2 g4.1 g2.1 g3.1 g0.1 (by lia) ⟨oI, g1.1, c2, d2⟩ (isL_N NX hm) (y := ys.getD i .none) (by simp [hi2]) hq
  unfold pyNext
  refine wpAny_bind (wpAny_attempt (wpAny_callSpecial?_slot (name := Str.ofString "__next__") hT PySem.F.slot_zip_next
    (wpAny_call_entry PySem.F.slot_zip_next hT PySem.F.entry_zip_next (key _ _ fun h' hz' hTO' hi1' hi2' hT' hsz' hk' => wpAny_pure ?_) (PySem.F.args_zip_next_1 _))))
  obtain ⟨oI', e2', c2', d2'⟩ := hi2'
  have hlt : ∀ p ∈ [((Z + 3, zqO .none Z) : Addr × Obj), (Z + 1, tupO [.ref Z, .ref I]), (Z + 2, tupO [a, b]), (Z, rngIt (i : Int) ((n : Int) - (i : Int)) 1), (I, oI)] ++ X, p.1 < s.heap.objs.size := fun p hp => Heap.lt_size (N p hp).1
  have hLs : L < s.heap.objs.size := F.ns.lt
  have hTL : s.heap.objs.size ≠ L := Nat.ne_of_gt hLs
  have hT0 : h₀.get? s.heap.objs.size = none := Heap.get?_none_of_le (Nat.le_trans F.above (Nat.le_of_lt hLs))
  have hwr : ∀ c, c ∈ [Z + 3, Z + 2, Z, I] → c ≠ L ∧ h₀.get? c = none := fun c hc => by
    simp only [List.mem_cons, List.not_mem_nil, or_false] at hc
    rcases hc with rfl | rfl | rfl | rfl
    · exact g4.2
    · exact g3.2
    · exact g0.2
    · exact g1.2
  have hk2 : ∀ c o, c ∉ [Z + 3, Z + 2, Z, I] → s.heap.get? c = some o → h'.get? c = some o := fun c o hc e => by
    simp only [List.mem_cons, List.not_mem_nil, or_false, not_or] at hc
    exact hk' c o hc.1 hc.2.1 hc.2.2.1 hc.2.2.2 e
  have F' : Fr h₀ L h' m := Fr.chg F hk2 hwr
  have hXw : ∀ p ∈ X, p.1 ∉ [Z + 3, Z + 2, Z, I] := fun p hp hc => by
    simp only [List.mem_cons, List.not_mem_nil, or_false] at hc
    obtain ⟨x1, x2, x3, x4⟩ := xX p hp
    rcases hc with e | e | e | e
    · exact x1 e
    · exact x2 e
    · exact x3 e
    · exact x4 e
  have NX' : News h₀ L h' X := News.chg NX hk2 hXw
  have hTI' := hk2 (Z + 1) _ (by simp only [List.mem_cons, List.not_mem_nil, or_false, not_or]; exact ⟨ne_add 1 3 (by decide), ne_add 1 2 (by decide), (ne_add0 1 (by decide)).symm, i1.symm⟩) g2.1
  have er : ((n : Int) - ((i + 1 : Nat) : Int)) = (n : Int) - (i : Int) - 1 := by lia
  have er2 : ((i + 1 : Nat) : Int) = (i : Int) + 1 := by lia
  refine h s.heap.objs.size [(Z + 3, zqO .none Z), (Z + 1, tupO [.ref Z, .ref I]), (Z + 2, tupO [.int (i : Int) s.toks, ys.getD i .none]), (Z, rngIt ((i + 1 : Nat) : Int) ((n : Int) - ((i + 1 : Nat) : Int)) 1), (I, oI')] h' s.toks hlt ⟨oI', _, _, rfl, ⟨c2', d2'⟩⟩ ?_ F' (fun p hp => ?_) ⟨_, hT', rfl, 0, rfl⟩ ?_
  · intro q' hq'
    simp only [List.mem_cons, List.not_mem_nil, or_false] at hq'
    rcases hq' with rfl | rfl | rfl | rfl | rfl
    · exact ⟨_, .head _, rfl⟩
    · exact ⟨_, .tail _ (.head _), rfl⟩
    · exact ⟨_, .tail _ (.tail _ (.head _)), rfl⟩
    · exact ⟨_, .tail _ (.tail _ (.tail _ (.head _))), rfl⟩
    · exact ⟨_, .tail _ (.tail _ (.tail _ (.tail _ (.head _)))), rfl⟩
  · rcases List.mem_cons.mp hp with rfl | hp
    · exact ⟨hT', hTL, hT0⟩
    · exact NX' p hp
  · intro elts kk pos s' E' Q' hs' hQ'
    refine wpAny_letOwnedTupleGo_zip (z := Z + 3) (TI := Z + 1) (TO := Z + 2) (hs' ▸ hz') fun h2 hz2 hs2 => ?_
    rw [hs'] at hs2
    have k2 : ∀ c o, c ≠ Z + 3 → h'.get? c = some o → h2.get? c = some o := fun c o hc e => hs2.extBut c o hc e
    have hTz : s.heap.objs.size ≠ Z + 3 := Nat.ne_of_gt (hlt _ (List.mem_append_left _ (.head _)))
    refine hQ' h2 (F'.change hs2 g4.2.1 g4.2.2) (fun p hp => ?_) ⟨_, k2 _ _ hTz hT', rfl, 0, rfl⟩
    rcases List.mem_append.mp hp with hp | hp
    · simp only [List.mem_cons, List.not_mem_nil, or_false] at hp
      rcases hp with rfl | rfl | rfl | rfl | rfl
      · exact ⟨hz2, g4.2⟩
      · exact ⟨k2 _ _ (ne_add 1 3 (by decide)) hTI', g2.2⟩
      · exact ⟨k2 _ _ (ne_add 2 3 (by decide)) hTO', g3.2⟩
      · exact ⟨k2 _ _ (ne_add0 3 (by decide)) (by rw [er, er2]; exact hi1'), g0.2⟩
      · exact ⟨k2 _ _ i3 e2', g1.2⟩
    · rcases List.mem_cons.mp hp with rfl | hp
      · exact ⟨k2 _ _ hTz hT', hTL, hT0⟩
      · exact ⟨k2 _ _ (xX p hp).1 (NX' p hp).1, (NX p hp).2⟩

/- the range is at its end: the list's iterator stays -/
theorem next_zipq_end {Z I l : Addr} {n : Nat} {st X : List (Addr × Obj)} {Q : Option Value → Shared → Prop} (hh : A.handled = none) (hIZ : I < Z) (F : Fr h₀ L s.heap m) (N : News h₀ L s.heap (st ++ X)) (hst : QS Z I l n n st) (hs : ∀ q ∈ st, ∀ p ∈ X, p.1 ≠ q.1)
    (h : ∀ h' oI, ListIt oI l n → Fr h₀ L h' m → News h₀ L h' ((I, oI) :: X) → Q none { s with heap := h' }) : wpAny (model prog w) A (pyNext (.ref (Z + 3))) Q E s := by
  obtain ⟨xX, i3, i2, i1⟩ := qs_ne hst hIZ hs
  obtain ⟨oI, a, b, rfl, ⟨c2, d2⟩⟩ := hst
  have g4 := N _ (List.mem_append_left _ (.head _))
  have g2 := N _ (List.mem_append_left _ (.tail _ (.head _)))
  have g3 := N _ (List.mem_append_left _ (.tail _ (.tail _ (.head _))))
  have g0 := N _ (List.mem_append_left _ (.tail _ (.tail _ (.tail _ (.head _)))))
  have g1 := N _ (List.mem_append_left _ (.tail _ (.tail _ (.tail _ (.tail _ (.head _))))))
  have NX : News h₀ L s.heap X := fun p hp => N p (List.mem_append_right _ hp)
  have hT : s.TypeIs (.ref (Z + 3)) "zip" := ⟨_, g4.1, rfl⟩
  unfold pyNext
  refine wpAny_bind (wpAny_attempt (wpAny_callSpecial?_slot (name := Str.ofString "__next__") hT PySem.F.slot_zip_next
    (wpAny_call_entry PySem.F.slot_zip_next hT PySem.F.entry_zip_next (zipq_stop hh (ne_add0 3 (by decide)) g4.1 g2.1 g3.1 g0.1 (by lia) fun h' e hk he => ?_) (PySem.F.args_zip_next_1 _))))
  obtain ⟨o, ho, hc⟩ := he
  refine wpAny_bind (wpAny_isInstance (T := "StopIteration") (b := true) ⟨o, ho, hc⟩ isSubtype_stop ?_)
  have hwr : ∀ c, c ∈ [Z + 3, Z] → c ≠ L ∧ h₀.get? c = none := fun c hc => by
    simp only [List.mem_cons, List.not_mem_nil, or_false] at hc
    rcases hc with rfl | rfl
    · exact g4.2
    · exact g0.2
  have hk2 : ∀ c o, c ∉ [Z + 3, Z] → s.heap.get? c = some o → h'.get? c = some o := fun c o hc e => by
    simp only [List.mem_cons, List.not_mem_nil, or_false, not_or] at hc
    exact hk c o hc.1 hc.2 e
  refine wpAny_pure (h h' oI ⟨c2, d2⟩ (Fr.chg F hk2 hwr) fun p hp => ?_)
  rcases List.mem_cons.mp hp with rfl | hp
  · exact ⟨hk2 _ _ (by simp only [List.mem_cons, List.not_mem_nil, or_false, not_or]; exact ⟨i3, Nat.ne_of_lt hIZ⟩) g1.1, g1.2⟩
  · exact ⟨hk2 _ _ (by simp only [List.mem_cons, List.not_mem_nil, or_false, not_or]; exact ⟨(xX p hp).1, (xX p hp).2.2.1⟩) (NX p hp).1, (NX p hp).2⟩

theorem src_zipq {x y : Str} {px py tp : Pos} {kk : Nat} {scope : Scope} {cl : List (Str × Addr)} {Z I l : Addr} {ys : List Value} {k n : Nat} (hh : A.handled = none) (hxy : x ≠ y) (hn : n ≤ ys.length) (hIZ : I < Z)
    (hx : scope.names.lookup x = some .local := by rfl) (hy : scope.names.lookup y = some .local := by rfl) (hkind : scope.kind = .function := by rfl) :
    Src prog w A h₀ L (.Tuple [.Name x px, .Name y py] kk tp) scope cl env (.ref (Z + 3)) n [(l, listOf ys.toArray k)] (QS Z I l n) (fun i m' => (∃ t, m' x = some (.int (i : Int) t)) ∧ m' y = some (ys.getD i .none)) where
  step := by
    intro i st C oC mC X s m E Q' hi hst hs hC hb hN F N hQ
    have sep : ∀ q ∈ st, ∀ p ∈ (C, oC) :: X, p.1 ≠ q.1 := fun q hq p hp => by
      rcases List.mem_cons.mp hp with rfl | hp
      · exact (hs q hq).1.symm
      · exact (hs q hq).2 p hp
    refine next_zipq hIZ F N hst sep (.tail _ (hb _ (.head _))) hi (by lia) fun T st' h' t hT hst' hsub F' N' hTup go => ⟨_, rfl, ?_⟩
    refine go _ _ _ _ _ _ rfl fun h2 F2 N2 hTup2 => ?_
    have hCT : C < T := hT (C, oC) (List.mem_append_right _ (.head _))
    have sepC : ∀ p ∈ (T, tupO [.int (i : Int) t, ys.getD i .none]) :: (st' ++ X), p.1 ≠ C := fun p hp => by
      rcases List.mem_cons.mp hp with rfl | hp
      · exact Nat.ne_of_gt hCT
      · rcases List.mem_append.mp hp with hp | hp
        · obtain ⟨q, hq, e⟩ := hsub p hp
          rw [← e]; exact (hs q hq).1
        · exact hC p hp
    refine as_comp2 hh F2 (News.sub N2 (a := (C, oC) :: (T, tupO [.int (i : Int) t, ys.getD i .none]) :: (st' ++ X)) fun p hp => ?_) hN sepC hTup2 hxy (fun h5 oC' m' tk' _ hC' ha hb' F5 N5 => ?_) hx hy hkind
    · simp only [List.mem_cons, List.mem_append] at hp ⊢
      rcases hp with hp | hp | hp | hp
      · exact .inr (.inr (.inl hp))
      · exact .inr (.inl hp)
      · exact .inl hp
      · exact .inr (.inr (.inr hp))
    · refine hQ h5 _ st' oC' m' hst' hsub hC' ⟨⟨t, ha⟩, hb'⟩ F5 (News.sub N5 fun p hp => ?_)
      simp only [List.mem_cons, List.mem_append] at hp ⊢
      rcases hp with hp | hp | hp
      · exact .inr (.inr (.inl hp))
      · exact .inl hp
      · exact .inr (.inr (.inr hp))
  done := by
    intro st X s m E Q' hst hs hb F N hQ
    exact next_zipq_end hh hIZ F N hst hs fun h' oI _ F' N' => hQ h' _ F' (News.sub N' fun p hp => .tail _ hp)
  self := by
    intro st X s E Q' hst N hQ
    obtain ⟨oI, a, b, rfl, _⟩ := hst
    exact wpAny_pyIter_zip (N _ (.head _)).1 hQ

/- the comprehension over zip(range(n), it), assigned: the list's iterator is still there behind it -/
theorem cq_asg {elt iter : Expr} {x y : Str} {px py tp : Pos} {kk : Nat} {z : Str} {pz : Pos} {scope : Scope} {cl : List (Str × Addr)} {pos : Pos} {Q : Value → Shared → Prop} {Z I l : Addr} {ys : List Value} {k n : Nat} (K : Nat → List Value → List (Addr × Obj) → Prop)
    (hh : A.handled = none) (hxy : x ≠ y) (hn' : n ≤ ys.length) (hIZ : I < Z) (hlm : (l, listOf ys.toArray k) ∈ news) (hK : ∀ i ys acc, K i ys acc → ys.length = i) (hn : n ≤ 1000)
    (hcell : ∀ y ∈ scope.names, y.2 ≠ .cell) (F : Fr h₀ L s.heap m) (N : News h₀ L s.heap (st₀ ++ news)) (hLe : env.locals = L)
    (hz : env.kindOf z = some .local) (hp : (env.scope.kind == .class || (env.scope.kind == .module && env.locals != env.globals)) = false) (h0 : QS Z I l n 0 st₀) (hk0 : K 0 [] []) (hs0 : ∀ q ∈ st₀, ∀ p ∈ news, p.1 ≠ q.1)
    (el : CElt prog w A h₀ L m s news (QS Z I l n) K (fun i m' => (∃ t, m' x = some (.int (i : Int) t)) ∧ m' y = some (ys.getD i .none)) elt scope cl env n)
    (h : ∀ (D C : Addr) (vs : List Value) (k : Nat) (acc : List (Addr × Obj)) (oI : Obj) (h' : Heap) (tk' : Nat), s.toks ≤ tk' → ListIt oI l n → K n vs acc → (∀ p ∈ news, p.1 < D) → I < D → D < C → (∀ p ∈ acc, C < p.1) → Fr h₀ L h' (fun q => if q = z then some (.ref D) else m q) → News h₀ L h' ((D, listOf vs.toArray k) :: (I, oI) :: (acc ++ news)) → Q .none { s with heap := h', toks := tk' })
    (hx : scope.names.lookup x = some .local := by rfl) (hy : scope.names.lookup y = some .local := by rfl) (hkind : scope.kind = .function := by rfl) :
    CVal prog w A env elt (.Tuple [.Name x px, .Name y py] kk tp) iter scope cl pos (some (assign (.Name z pz) env)) E Q (.ref (Z + 3)) s := by
  have S := src_zipq (prog := prog) (w := w) (A := A) (h₀ := h₀) (L := L) (env := env) (l := l) (px := px) (py := py) (tp := tp) (kk := kk) (cl := cl) (k := k) hh hxy hn' hIZ hx hy hkind
  refine cval_asg n (CInv h₀ L m s news (QS Z I l n) K) hcell hkind F N hLe hz hp ?_ ?_ ?_ ?_
  · intro D C oC h' hC F' N' hlD hDC
    exact ⟨h', _, [], 0, oC, _, st₀, [], rfl, F', hC, News.sub N' (fun p hp => by
      simp only [List.mem_append, List.mem_cons, List.nil_append] at hp ⊢
      rcases hp with hp | hp | hp | hp
      · exact .inr (.inr (.inl hp))
      · exact .inl hp
      · exact .inr (.inl hp)
      · exact .inr (.inr (.inr hp))), h0, hk0, fun q hq => hlD q (List.mem_append.mpr (.inl hq)), hs0, (fun _ hp => nomatch hp), fun p hp => hlD p (List.mem_append.mpr (.inr hp)), hDC⟩
  · intro D C s₁ Q' E' hJ hq
    obtain ⟨h', tk, ys, k, oC, mC, st, acc, rfl, F', hC, N', hI, _⟩ := hJ
    exact S.self st _ _ _ _ hI N' hq
  · intro D C i s₁ E' hi hJ hle
    exact cinv_turn S (by intro p hp; rw [List.mem_singleton.mp hp]; exact hlm) hK hn el D C i s₁ E' hi hJ hle
  · intro D C s₁ E' hJ hle
    obtain ⟨h3, tk, vs, k3, oC, mC, st, acc, rfl, F3, hC, N3, hI, hk, o1, o2, o3, o4, o5⟩ := hJ
    have hID : I < D := by
      obtain ⟨_, _, _, rfl, _⟩ := hI
      exact o1 _ (.tail _ (.tail _ (.tail _ (.tail _ (.head _)))))
    refine wpAny_le (next_zipq_end hh hIZ F3 N3 hI (fun q hq p hp => ?_) fun h' oI hoI F' N' hle2 => ?_)
    · rcases List.mem_cons.mp hp with rfl | hp
      · exact Nat.ne_of_gt (Nat.lt_trans (o1 q hq) o5)
      rcases List.mem_cons.mp hp with rfl | hp
      · exact Nat.ne_of_gt (o1 q hq)
      · rcases List.mem_append.mp hp with hp | hp
        · exact Nat.ne_of_gt (Nat.lt_trans (Nat.lt_trans (o1 q hq) o5) (o3 p hp))
        · exact o2 q hq p hp
    · refine ⟨rfl, h', tk, oC, mC, _, (I, oI) :: (acc ++ news), rfl, hC, F', News.sub N' (fun p hp => ?_), fun p hp => ?_, o5, fun h2 tk2 ht2 _ F6 N6 => h D C vs k3 acc oI h2 tk2 (Nat.le_trans hle ht2) hoI hk o4 hID o5 o3 F6 N6⟩
      · simp only [List.mem_append, List.mem_cons] at hp ⊢
        rcases hp with hp | hp | hp | hp
        · exact .inr (.inl hp)
        · exact .inr (.inr (.inl hp))
        · exact .inl hp
        · exact .inr (.inr (.inr hp))
      · rcases List.mem_cons.mp hp with rfl | hp
        · exact Nat.ne_of_lt (Nat.lt_trans hID o5)
        · rcases List.mem_append.mp hp with hp | hp
          · exact Nat.ne_of_gt (o3 p hp)
          · exact Nat.ne_of_lt (Nat.lt_trans (o4 p hp) o5)
theorem iter_zipq {Z I l : Addr} {n i : Nat} {st X : List (Addr × Obj)} {Q : Value → Shared → Prop} (N : News h₀ L s.heap (st ++ X)) (hst : QS Z I l n i st) (h : Q (.ref (Z + 3)) s) : wpAny (model prog w) A (pyIter (.ref (Z + 3))) Q E s := by
  obtain ⟨oI, a, b, rfl, _⟩ := hst
  exact wpAny_pyIter_zip (N _ (.head _)).1 h
end

/- the pairs (gs[j], j) for j under i -/
noncomputable def KN (gs : List Int) (i : Nat) (ys : List Value) (acc : List (Addr × Obj)) : Prop :=
  ∃ (bs : List Addr) (kf : Addr → Int × Int), ys = bs.map Value.ref ∧ bs.map kf = (List.range i).map (fun j => (gs.getD j 0, (j : Int))) ∧ ∀ b ∈ bs, ∃ t t2, (b, tupO [.int (kf b).1 t, .int (kf b).2 t2]) ∈ acc
theorem KN.zero {gs : List Int} : KN gs 0 [] [] := ⟨[], fun _ => (0, 0), rfl, rfl, fun _ h => nomatch h⟩
theorem KN.length {gs : List Int} {i : Nat} {ys : List Value} {acc : List (Addr × Obj)} (h : KN gs i ys acc) : ys.length = i := by
  obtain ⟨bs, kf, rfl, h2, _⟩ := h
  have := congrArg List.length h2
  simpa using this
theorem KN.snoc {gs : List Int} {i : Nat} {ys : List Value} {acc : List (Addr × Obj)} {B : Addr} {t t2 : Tok} (h : KN gs i ys acc) (hB : ∀ p ∈ acc, p.1 < B) : KN gs (i + 1) (ys ++ [.ref B]) ([(B, tupO [.int (gs.getD i 0) t, .int (i : Int) t2])] ++ acc) := by
  obtain ⟨bs, kf, rfl, h2, h3⟩ := h
  have hn : ∀ b ∈ bs, b ≠ B := fun b hb e => by
    obtain ⟨_, _, hm⟩ := h3 b hb
    have := hB _ hm
    rw [e] at this; exact Nat.lt_irrefl _ this
  refine ⟨bs ++ [B], fun x => if x = B then (gs.getD i 0, (i : Int)) else kf x, by simp, ?_, fun b hb => ?_⟩
  · rw [List.map_append, List.range_succ, List.map_append, ← h2]
    congr 1
    · exact List.map_congr_left fun b hb => by simp [hn b hb]
    · simp
  · rcases List.mem_append.mp hb with hb | hb
    · obtain ⟨u, u2, hm⟩ := h3 b hb
      simp only [hn b hb, if_false]
      exact ⟨u, u2, .tail _ hm⟩
    · rw [List.mem_singleton.mp hb]
      simp only [if_true]
      exact ⟨t, t2, .head _⟩
end Mine
end S_ZipQ2

section S_HeapO
namespace Mine
/- a strict weak order as a Bool -/
structure Ord {α : Type} (lt : α → α → Bool) : Prop where
  asymm : ∀ a b, lt a b = true → lt b a = false
  trans : ∀ a b c, lt b a = false → lt c b = false → lt c a = false
theorem Ord.refl {α : Type} {lt : α → α → Bool} (O : Ord lt) (a : α) : lt a a = false := by
  cases h : lt a a with
  | false => rfl
  | true => exact absurd (O.asymm a a h) (by rw [h]; decide)

noncomputable def HeapFrom {α : Type} (lt : α → α → Bool) (d : α) (k : Nat) (xs : List α) : Prop := ∀ i, i < xs.length → 0 < i → k ≤ (i - 1) / 2 → lt (xs.getD i d) (xs.getD ((i - 1) / 2) d) = false

inductive Desc (k : Nat) : Nat → Prop
  | refl : Desc k k
  | left {q : Nat} : Desc k q → Desc k (2 * q + 1)
  | right {q : Nat} : Desc k q → Desc k (2 * q + 2)
theorem Desc.le {k q : Nat} (h : Desc k q) : k ≤ q := by induction h <;> lia
theorem Desc.up {k q : Nat} (h : Desc k q) (hq : k < q) : Desc k ((q - 1) / 2) := by
  cases h with
  | refl => lia
  | @left q h => rw [show (2 * q + 1 - 1) / 2 = q by lia]; exact h
  | @right q h => rw [show (2 * q + 2 - 1) / 2 = q by lia]; exact h

theorem getD_set_eq {α : Type} {xs : List α} {i : Nat} {a d : α} (h : i < xs.length) : (xs.set i a).getD i d = a := by
  rw [List.getD_eq_getElem?_getD, List.getElem?_set_self h]; rfl
theorem getD_set_ne {α : Type} {xs : List α} {i j : Nat} {a d : α} (h : i ≠ j) : (xs.set i a).getD j d = xs.getD j d := by
  rw [List.getD_eq_getElem?_getD, List.getElem?_set_ne h, List.getD_eq_getElem?_getD]

section
variable {α : Type} {lt : α → α → Bool} {d : α}

structure Sift (lt : α → α → Bool) (d x : α) (k : Nat) (zs : List α) (q : Nat) : Prop where
  desc : Desc k q
  low : q < zs.length
  other : ∀ i, i < zs.length → 0 < i → k ≤ (i - 1) / 2 → i ≠ q → (i - 1) / 2 ≠ q → lt (zs.getD i d) (zs.getD ((i - 1) / 2) d) = false
  grand : k < q → ∀ c, c < zs.length → 0 < c → (c - 1) / 2 = q → lt (zs.getD c d) (zs.getD ((q - 1) / 2) d) = false
  below : ∀ c, c < zs.length → 0 < c → (c - 1) / 2 = q → lt (zs.getD c d) x = false

theorem sd_stop {x : α} {k q : Nat} {zs : List α} (S : Sift lt d x k zs q) (h : k < q → lt x (zs.getD ((q - 1) / 2) d) = false) : HeapFrom lt d k (zs.set q x) := by
  intro i hi h0 hk
  rw [List.length_set] at hi
  by_cases h1 : i = q
  · subst h1
    have hlt : k < i := by lia
    rw [getD_set_eq S.low, getD_set_ne (by lia)]
    exact h hlt
  · by_cases h2 : (i - 1) / 2 = q
    · rw [getD_set_ne (Ne.symm h1), h2, getD_set_eq S.low]
      exact S.below i hi h0 h2
    · rw [getD_set_ne (Ne.symm h1), getD_set_ne (Ne.symm h2)]
      exact S.other i hi h0 hk h1 h2
theorem sdGo_heap (O : Ord lt) {x : α} {k : Nat} : ∀ (f : Nat) (zs : List α) (q : Nat), q ≤ f → Sift lt d x k zs q → HeapFrom lt d k (sdGo lt d x k f zs q)
  | 0, zs, q, hf, S => by
    have hq : q = 0 := Nat.le_zero.mp hf
    subst hq
    exact sd_stop S fun h => absurd h (Nat.not_lt_zero _)
  | f + 1, zs, q, hf, S => by
    rw [sdGo]
    split
    · rename_i hkq
      have hD := S.desc.up hkq
      have hkp := hD.le
      split
      · rename_i hlt
        have hql := S.low
        refine sdGo_heap O f _ _ (by lia) ⟨hD, by rw [List.length_set]; lia, ?_, ?_, ?_⟩
        · intro i hi h0 hk h1 h2
          rw [List.length_set] at hi
          by_cases h3 : i = q
          · subst h3; exact absurd rfl h2
          · rw [getD_set_ne (Ne.symm h3)]
            by_cases h4 : (i - 1) / 2 = q
            · rw [h4, getD_set_eq S.low]
              exact S.grand hkq i hi h0 h4
            · rw [getD_set_ne (Ne.symm h4)]
              exact S.other i hi h0 hk h3 h4
        · intro hkh c hc h0 hpc
          rw [List.length_set] at hc
          have hD2 := (hD.up hkh).le
          have hup : lt (zs.getD ((q - 1) / 2) d) (zs.getD (((q - 1) / 2 - 1) / 2) d) = false := S.other _ (by lia) (by lia) hD2 (by lia) (by lia)
          rw [getD_set_ne (i := q) (j := ((q - 1) / 2 - 1) / 2) (by lia)]
          by_cases h3 : c = q
          · subst h3
            rw [getD_set_eq S.low]
            exact hup
          · rw [getD_set_ne (Ne.symm h3)]
            have := S.other c hc h0 (by rw [hpc]; exact hkp) h3 (by lia)
            rw [hpc] at this
            exact O.trans _ _ _ hup this
        · intro c hc h0 hpc
          rw [List.length_set] at hc
          by_cases h3 : c = q
          · subst h3
            rw [getD_set_eq S.low]
            exact O.asymm _ _ hlt
          · rw [getD_set_ne (Ne.symm h3)]
            have := S.other c hc h0 (by rw [hpc]; exact hkp) h3 (by lia)
            rw [hpc] at this
            exact O.trans _ _ _ (O.asymm _ _ hlt) this
      · rename_i hlt
        exact sd_stop S fun _ => by simpa using hlt
    · rename_i hkq
      exact sd_stop S fun h => absurd h hkq

structure Sink (lt : α → α → Bool) (d : α) (k : Nat) (ys : List α) (q : Nat) : Prop where
  desc : Desc k q
  low : q < ys.length
  other : ∀ i, i < ys.length → 0 < i → k ≤ (i - 1) / 2 → i ≠ q → (i - 1) / 2 ≠ q → lt (ys.getD i d) (ys.getD ((i - 1) / 2) d) = false
  grand : k < q → ∀ c, c < ys.length → 0 < c → (c - 1) / 2 = q → lt (ys.getD c d) (ys.getD ((q - 1) / 2) d) = false

theorem kid_cases {ys : List α} {en c : Nat} : (kid lt d ys en c = c + 1 ∧ c + 1 < en ∧ lt (ys.getD c d) (ys.getD (c + 1) d) = false) ∨ (kid lt d ys en c = c ∧ (c + 1 < en → lt (ys.getD c d) (ys.getD (c + 1) d) = true)) := by
  unfold kid
  split
  · rename_i h; exact .inl ⟨rfl, h⟩
  · rename_i h
    refine .inr ⟨rfl, fun h1 => ?_⟩
    cases e : lt (ys.getD c d) (ys.getD (c + 1) d) with
    | true => rfl
    | false => exact absurd ⟨h1, e⟩ h

theorem suGo_sink (O : Ord lt) {k en : Nat} : ∀ (f : Nat) (ys : List α) (q : Nat), en ≤ f + q → ys.length = en → Sink lt d k ys q → ∃ zs r, suGo lt d en f ys q = (zs, r) ∧ zs.length = en ∧ en ≤ 2 * r + 1 ∧ Sink lt d k zs r
  | 0, ys, q, hf, hl, S => ⟨ys, q, rfl, hl, by have := S.low; lia, S⟩
  | f + 1, ys, q, hf, hl, S => by
    rw [suGo]
    split
    · rename_i hc
      have hk := kid_cases (lt := lt) (d := d) (ys := ys) (en := en) (c := 2 * q + 1)
      generalize kid lt d ys en (2 * q + 1) = c at hk
      have hc2 : (c = 2 * q + 1 ∨ c = 2 * q + 2) ∧ c < en := by lia
      have hpc : (c - 1) / 2 = q := by lia
      have hql := S.low
      have hkq := S.desc.le
      have hlt := S.low
      have sib : ∀ i, i < en → 0 < i → (i - 1) / 2 = q → i ≠ c → lt (ys.getD i d) (ys.getD c d) = false := by
        intro i hi h0 hp hn
        rcases hk with ⟨rfl, h1, h2⟩ | ⟨rfl, h1⟩
        · have : i = 2 * q + 1 := by lia
          subst this; exact h2
        · have : i = 2 * q + 1 + 1 := by lia
          subst this
          exact O.asymm _ _ (h1 hi)
      refine suGo_sink O f _ _ (by lia) (by rw [List.length_set]; exact hl) ⟨?_, by rw [List.length_set]; lia, ?_, ?_⟩
      · rcases hc2.1 with e | e
        · rw [e]; exact .left S.desc
        · rw [e]; exact .right S.desc
      · intro i hi h0 hki h1 h2
        rw [List.length_set] at hi
        by_cases h3 : i = q
        · subst h3
          rw [getD_set_eq hlt, getD_set_ne (by lia)]
          exact S.grand (by lia) c (by lia) (by lia) hpc
        · rw [getD_set_ne (Ne.symm h3)]
          by_cases h4 : (i - 1) / 2 = q
          · rw [h4, getD_set_eq hlt]
            exact sib i (by lia) h0 h4 h1
          · rw [getD_set_ne (Ne.symm h4)]
            exact S.other i hi h0 hki h3 h4
      · intro _ cc hcc h0 hp
        rw [List.length_set] at hcc
        rw [hpc, getD_set_eq hlt, getD_set_ne (by lia)]
        have := S.other cc hcc h0 (by lia) (by lia) (by lia)
        rw [hp] at this
        exact this
    · rename_i hc
      exact ⟨ys, q, rfl, hl, by lia, S⟩

theorem su_heap (O : Ord lt) {xs : List α} {k : Nat} (hk : k < xs.length) (h : HeapFrom lt d (k + 1) xs) : HeapFrom lt d k (su lt d xs k) := by
  obtain ⟨zs, r, e, hl, hr, S⟩ := suGo_sink O (en := xs.length) (k := k) xs.length xs k (by lia) rfl ⟨.refl, hk, fun i hi h0 hki h1 h2 => h i hi h0 (by lia), fun h => absurd h (Nat.lt_irrefl _)⟩
  unfold su
  rw [e]
  dsimp only
  unfold sd
  have hrl : r < (zs.set r (xs.getD k d)).length := by rw [List.length_set]; exact S.low
  rw [getD_set_eq S.low]
  refine sdGo_heap O r _ r (Nat.le_refl _) ⟨S.desc, hrl, fun i hi h0 hki h1 h2 => ?_, fun _ c hc h0 hp => ?_, fun c hc h0 hp => ?_⟩
  · rw [List.length_set] at hi
    rw [getD_set_ne (Ne.symm h1), getD_set_ne (Ne.symm h2)]
    exact S.other i hi h0 hki h1 h2
  · rw [List.length_set] at hc; lia
  · rw [List.length_set] at hc; lia

theorem hfGo_heap (O : Ord lt) : ∀ (k : Nat) (xs : List α), k ≤ xs.length → HeapFrom lt d k xs → HeapFrom lt d 0 (hfGo lt d k xs)
  | 0, _, _, h => h
  | k + 1, xs, hk, h => by
    rw [hfGo]
    exact hfGo_heap O k _ (by rw [su_length (by lia)]; lia) (su_heap O (by lia) h)
theorem hf_heap (O : Ord lt) {xs : List α} : HeapFrom lt d 0 (hf lt d xs) := hfGo_heap O _ _ (by lia) fun i hi h0 hk => by lia
theorem hp_heap (O : Ord lt) {xs : List α} (h : HeapFrom lt d 0 xs) (h0 : 0 < xs.length) : HeapFrom lt d 0 (hp lt d xs) := by
  unfold hp
  split
  · intro i hi; exact absurd hi (Nat.not_lt_zero _)
  · have hl : xs.dropLast.length = xs.length - 1 := List.length_dropLast
    refine su_heap O (by rw [List.length_set]; lia) fun i hi hi0 hki => ?_
    rw [List.length_set] at hi
    rw [getD_set_ne (by lia), getD_set_ne (by lia)]
    have e : ∀ j, j < xs.length - 1 → xs.dropLast.getD j d = xs.getD j d := fun j hj => by
      rw [getD_eq (by lia), getD_eq (by lia), List.getElem_dropLast]
    rw [e i (by lia), e _ (by lia)]
    exact h i (by lia) hi0 (Nat.zero_le _)
/- nothing in a heap lies under its root -/
theorem heap_root (O : Ord lt) {xs : List α} (h : HeapFrom lt d 0 xs) : ∀ (i : Nat), i < xs.length → lt (xs.getD i d) (xs.getD 0 d) = false := by
  intro i
  induction i using Nat.strongRecOn with
  | _ i ih =>
    intro hi
    by_cases h0 : i = 0
    · subst h0; exact O.refl _
    · exact O.trans _ _ _ (ih ((i - 1) / 2) (by lia) (by lia)) (h i hi (by lia) (Nat.zero_le _))
theorem hp_perm {xs : List α} (h0 : 0 < xs.length) : (xs.getD 0 d :: hp lt d xs).Perm xs := by
  unfold hp
  split
  · rename_i h1
    obtain ⟨x, rfl⟩ := List.length_eq_one_iff.mp h1
    exact .refl _
  · rename_i h1
    have hl : xs.dropLast.length = xs.length - 1 := List.length_dropLast
    have p1 : (su lt d (xs.dropLast.set 0 (xs.getD (xs.length - 1) d)) 0).Perm (xs.dropLast.set 0 (xs.getD (xs.length - 1) d)) := su_perm (by rw [List.length_set]; lia)
    refine (p1.cons _).trans ?_
    obtain ⟨x, l, rfl⟩ := List.exists_cons_of_length_pos h0
    cases l with
    | nil => exact absurd rfl h1
    | cons y r =>
      have e1 : (x :: y :: r).getD ((x :: y :: r).length - 1) d = (y :: r).getLast (by simp) := by
        rw [getD_eq (by simp), List.getLast_eq_getElem]
        simp
      rw [e1]
      have e2 : (x :: y :: r).dropLast = x :: (y :: r).dropLast := by simp [List.dropLast]
      rw [e2]
      show ((x :: y :: r).getD 0 d :: ((y :: r).getLast (by simp)) :: (y :: r).dropLast).Perm _
      refine .cons _ ?_
      have := List.dropLast_concat_getLast (show y :: r ≠ [] by simp)
      have h2 : ((y :: r).getLast (by simp) :: (y :: r).dropLast).Perm ((y :: r).dropLast ++ [(y :: r).getLast (by simp)]) := (List.perm_append_singleton _ _).symm
      rw [this] at h2
      exact h2
end

end Mine
end S_HeapO

section S_SortT
set_option maxRecDepth 100000
namespace Mine
open PySem PySem.W PyProof.Rows PySem.Spec PySem.Calls PySem.SeqAt

/- the sorting tree run with a pure answer -/
noncomputable def KRun {α : Type} (lt : Nat → Nat → Bool) (n : Nat) : KasT α → (α → Prop) → Prop
  | .ret a, Q => Q a
  | .ask i j k, Q => i < n ∧ j < n ∧ KRun lt n (k (lt i j)) Q
theorem krun_bind {α β : Type} {lt : Nat → Nat → Bool} {n : Nat} {f : α → KasT β} {Q : β → Prop} : ∀ (t : KasT α), KRun lt n t (fun a => KRun lt n (f a) Q) → KRun lt n (t.bind f) Q
  | .ret _, h => h
  | .ask i j k, h => ⟨h.1, h.2.1, krun_bind (k (lt i j)) h.2.2⟩
theorem krun_mono {α : Type} {lt : Nat → Nat → Bool} {n : Nat} {Q Q' : α → Prop} (hq : ∀ a, Q a → Q' a) : ∀ (t : KasT α), KRun lt n t Q → KRun lt n t Q'
  | .ret _, h => hq _ h
  | .ask i j k, h => ⟨h.1, h.2.1, krun_mono hq (k (lt i j)) h.2.2⟩
theorem krun_wp {α : Type} {lt : Nat → Nat → Bool} {n : Nat} {cmp : Nat → Nat → (Bool → Shared → Prop) → Shared → Prop} {s : Shared} {Q : α → Prop}
    (hc : ∀ i j C, i < n → j < n → C (lt i j) s → cmp i j C s) : ∀ (t : KasT α), KRun lt n t Q → t.kasWp cmp (fun a s' => Q a ∧ s' = s) s
  | .ret _, h => ⟨h, rfl⟩
  | .ask i j k, h => hc i j _ h.1 h.2.1 (krun_wp hc (k (lt i j)) h.2.2)

structure Strict (lt : Nat → Nat → Bool) (n : Nat) : Prop where
  total : ∀ i j, i < n → j < n → i ≠ j → lt i j = false → lt j i = true
  trans : ∀ i j k, lt i j = true → lt j k = true → lt i k = true

section
variable {lt : Nat → Nat → Bool} {n : Nat}
structure PermN (n : Nat) (p : Array Nat) : Prop where
  perm : p.toList.Perm (List.range n)
theorem PermN.size {p : Array Nat} (h : PermN n p) : p.size = n := by have := h.perm.length_eq; simpa using this
theorem PermN.low {p : Array Nat} (h : PermN n p) {i : Nat} (hi : i < n) : p.getD i 0 < n := by
  have hs := h.size
  have : p.getD i 0 ∈ p.toList := by
    have e : p.getD i 0 = p[i]'(by lia) := by simp [Array.getD, hs, hi]
    rw [e]; exact Array.mem_toList_iff.mpr (Array.getElem_mem _)
  exact List.mem_range.mp (h.perm.mem_iff.mp this)
theorem PermN.inj {p : Array Nat} (h : PermN n p) {i j : Nat} (hi : i < n) (hj : j < n) (hij : i ≠ j) : p.getD i 0 ≠ p.getD j 0 := by
  have hs := h.size
  have hn : p.toList.Nodup := h.perm.nodup_iff.mpr List.nodup_range
  have e1 : p.getD i 0 = p.toList[i]'(by simp; lia) := by simp [Array.getD, hs, hi]
  have e2 : p.getD j 0 = p.toList[j]'(by simp; lia) := by simp [Array.getD, hs, hj]
  rw [e1, e2]
  rcases Nat.lt_or_gt_of_ne hij with h1 | h1
  · exact List.pairwise_iff_getElem.mp hn i j _ _ h1
  · exact (List.pairwise_iff_getElem.mp hn j i _ _ h1).symm
noncomputable def Asc (lt : Nat → Nat → Bool) (p : Array Nat) (m : Nat) : Prop := ∀ i j, i < j → j < m → lt (p.getD i 0) (p.getD j 0) = true
noncomputable def Dsc (lt : Nat → Nat → Bool) (p : Array Nat) (m : Nat) : Prop := ∀ i j, i < j → j < m → lt (p.getD j 0) (p.getD i 0) = true
theorem asc_one {p : Array Nat} : Asc lt p 1 := fun i j h1 h2 => by lia
theorem Asc.succ (S : Strict lt n) {p : Array Nat} {m : Nat} (h : Asc lt p m) (h1 : 1 ≤ m) (h2 : lt (p.getD (m - 1) 0) (p.getD m 0) = true) : Asc lt p (m + 1) := fun i j hij hj => by
  by_cases e : j = m
  · subst e
    by_cases e2 : i = j - 1
    · subst e2; exact h2
    · exact S.trans _ _ _ (h i (j - 1) (by lia) (by lia)) h2
  · exact h i j hij (by lia)
theorem Dsc.succ (S : Strict lt n) {p : Array Nat} {m : Nat} (h : Dsc lt p m) (h1 : 1 ≤ m) (h2 : lt (p.getD m 0) (p.getD (m - 1) 0) = true) : Dsc lt p (m + 1) := fun i j hij hj => by
  by_cases e : j = m
  · subst e
    by_cases e2 : i = j - 1
    · subst e2; exact h2
    · exact S.trans _ _ _ h2 (h i (j - 1) (by lia) (by lia))
  · exact h i j hij (by lia)

theorem asc_run (S : Strict lt n) {p : Array Nat} (hp : PermN n p) : ∀ (f m : Nat), 1 ≤ m → m + f = n → Asc lt p m → KRun lt n (kas_asc p f m) (fun m' => m ≤ m' ∧ m' ≤ n ∧ Asc lt p m' ∧ (m' < n → lt (p.getD m' 0) (p.getD (m' - 1) 0) = true))
  | 0, m, h1, h2, ha => by rw [kas_asc]; exact ⟨Nat.le_refl _, by lia, ha, fun h => by lia⟩
  | f + 1, m, h1, h2, ha => by
    rw [kas_asc]
    refine ⟨hp.low (by lia), hp.low (by lia), ?_⟩
    cases hc : lt (p.getD m 0) (p.getD (m - 1) 0) with
    | true => simp only [if_true]; exact ⟨Nat.le_refl _, by lia, ha, fun _ => hc⟩
    | false =>
      simp only [Bool.false_eq_true, if_false]
      exact krun_mono (fun m' h => ⟨by lia, h.2⟩) _ (asc_run S hp f (m + 1) (by lia) (by lia) (ha.succ S h1 (S.total _ _ (hp.low (by lia)) (hp.low (by lia)) (hp.inj (by lia) (by lia) (by lia)) hc)))
theorem dsc_run (S : Strict lt n) {p : Array Nat} (hp : PermN n p) : ∀ (f m : Nat), 1 ≤ m → m + f = n → Dsc lt p m → KRun lt n (kas_desc f p m 0) (fun r => r.1 = p ∧ r.2.2 = 0 ∧ m ≤ r.2.1 ∧ r.2.1 ≤ n ∧ Dsc lt p r.2.1)
  | 0, m, h1, h2, ha => by rw [kas_desc]; exact ⟨rfl, rfl, Nat.le_refl _, by show m ≤ n; lia, ha⟩
  | f + 1, m, h1, h2, ha => by
    rw [kas_desc]
    refine ⟨hp.low (by lia), hp.low (by lia), ?_⟩
    cases hc : lt (p.getD m 0) (p.getD (m - 1) 0) with
    | true =>
      simp only [if_true]
      rw [if_neg (by lia)]
      exact krun_mono (fun r h => ⟨h.1, h.2.1, by lia, h.2.2.2⟩) _ (dsc_run S hp f (m + 1) (by lia) (by lia) (ha.succ S h1 hc))
    | false =>
      simp only [Bool.false_eq_true, if_false]
      refine ⟨hp.low (by lia), hp.low (by lia), ?_⟩
      rw [S.total _ _ (hp.low (by lia)) (hp.low (by lia)) (hp.inj (by lia) (by lia) (by lia)) hc]
      simp only [if_true]
      exact ⟨rfl, rfl, Nat.le_refl _, by show m ≤ n; lia, ha⟩
theorem rev_get {p : Array Nat} {m k : Nat} (hm : m ≤ p.size) : (kas_rev p 0 m).getD k 0 = if k < m then p.getD (m - 1 - k) 0 else p.getD k 0 := by
  have e := getElem?_mirror_all (xs := p) (i := 0) hm k
  unfold kas_rev
  rw [Array.getD_eq_getD_getElem?, e]
  by_cases h : k < m
  · rw [if_pos ⟨Nat.zero_le _, h⟩, if_pos h, Array.getD_eq_getD_getElem?, show 0 + m - 1 - k = m - 1 - k by lia]
  · rw [if_neg (fun q => h q.2), if_neg h, Array.getD_eq_getD_getElem?]
theorem rev_perm {p : Array Nat} {m : Nat} (hp : PermN n p) : PermN n (kas_rev p 0 m) := ⟨(Array.perm_iff_toList_perm.mp (mirror_perm p 0 m ((m - 0) / 2))).trans hp.perm⟩
theorem dsc_rev {p : Array Nat} {m : Nat} (hm : m ≤ p.size) (h : Dsc lt p m) : Asc lt (kas_rev p 0 m) m := fun i j hij hj => by
  rw [rev_get hm, rev_get hm, if_pos (by lia), if_pos hj]
  exact h _ _ (by lia) (by lia)

theorem count_run (S : Strict lt n) {p : Array Nat} (hp : PermN n p) (h2 : 2 ≤ n) : KRun lt n (kas_count n p) (fun r => 1 ≤ r.1 ∧ r.1 ≤ n ∧ PermN n r.2 ∧ Asc lt r.2 r.1) := by
  unfold kas_count
  refine krun_bind _ (krun_mono (fun m h => ?_) _ (asc_run S hp (n - 1) 1 (Nat.le_refl _) (by lia) asc_one))
  obtain ⟨h1, hm, ha, hs⟩ := h
  by_cases e : m = n
  · rw [if_pos (by simpa using e)]
    exact ⟨h1, hm, hp, ha⟩
  · rw [if_neg (by simpa using e)]
    by_cases e1 : m > 1
    · rw [if_pos e1]
      refine ⟨hp.low (by lia), hp.low (by lia), ?_⟩
      rw [ha 0 (m - 1) (by lia) (by lia)]
      simp only [if_true]
      exact ⟨h1, hm, hp, ha⟩
    · rw [if_neg e1]
      have hm1 : m = 1 := by lia
      subst hm1
      unfold kas_descPart
      have hd : Dsc lt p 2 := fun i j hij hj => by
        have : i = 0 ∧ j = 1 := by lia
        rw [this.1, this.2]
        exact hs (by lia)
      refine krun_bind _ (krun_mono (fun r h => ?_) _ (dsc_run S hp (n - (1 + 1)) (1 + 1) (by lia) (by lia) hd))
      obtain ⟨p', m', q⟩ := r
      obtain ⟨rfl, rfl, a1, a2, a3⟩ := h
      dsimp only at a1 a2 a3 ⊢
      rw [if_neg (by lia)]
      unfold kas_tail3
      have hsz := hp.size
      refine krun_bind _ (krun_mono (fun m2 h => ?_) _ (asc_run S (rev_perm (m := m') hp) (n - m') m' (by lia) (by lia) (dsc_rev (by lia) a3)))
      exact ⟨by show 1 ≤ m2; lia, h.2.1, rev_perm hp, h.2.2.1⟩

theorem place_run (S : Strict lt n) {p : Array Nat} (hp : PermN n p) {k : Nat} (hk : k < n) (ha : Asc lt p k) : ∀ (f l r : Nat), r ≤ l + f → l ≤ r → r ≤ k → (∀ i, i < l → lt (p.getD i 0) (p.getD k 0) = true) → (∀ i, r ≤ i → i < k → lt (p.getD k 0) (p.getD i 0) = true) →
    KRun lt n (kas_place p k f l r) (fun l' => l' ≤ k ∧ (∀ i, i < l' → lt (p.getD i 0) (p.getD k 0) = true) ∧ ∀ i, l' ≤ i → i < k → lt (p.getD k 0) (p.getD i 0) = true)
  | 0, l, r, h1, h2, h3, a, b => by
    rw [kas_place]
    have : l = r := by lia
    subst this
    exact ⟨h3, a, b⟩
  | f + 1, l, r, h1, h2, h3, a, b => by
    rw [kas_place]
    by_cases e : l ≥ r
    · rw [if_pos e]
      have : l = r := by lia
      subst this
      exact ⟨h3, a, b⟩
    · rw [if_neg e]
      refine ⟨hp.low hk, hp.low (by lia), ?_⟩
      cases hc : lt (p.getD k 0) (p.getD ((l + r) / 2) 0) with
      | true =>
        simp only [if_true]
        refine place_run S hp hk ha f l _ (by lia) (by lia) (by lia) a fun i hi hik => ?_
        by_cases e2 : i = (l + r) / 2
        · rw [e2]; exact hc
        · exact S.trans _ _ _ hc (ha _ _ (by lia) hik)
      | false =>
        simp only [Bool.false_eq_true, if_false]
        have hc' := S.total _ _ (hp.low hk) (hp.low (show (l + r) / 2 < n by lia)) (hp.inj hk (by lia) (by lia)) hc
        refine place_run S hp hk ha f _ r (by lia) (by lia) h3 (fun i hi => ?_) b
        by_cases e2 : i = (l + r) / 2
        · rw [e2]; exact hc'
        · exact S.trans _ _ _ (ha _ _ (by lia) (by lia)) hc'
theorem bubble_get {p : Array Nat} {k l : Nat} (hk : k < p.size) (hl : l ≤ k) (i : Nat) : (bubble p k (k - l)).getD i 0 = if i = l then p.getD k 0 else if l < i ∧ i ≤ k then p.getD (i - 1) 0 else p.getD i 0 := by
  have e := getElem?_bubble hk (k - l) (by lia) i
  rw [show k - (k - l) = l by lia] at e
  rw [Array.getD_eq_getD_getElem?, e]
  by_cases h : i = l
  · rw [if_pos h, if_pos h, Array.getD_eq_getD_getElem?]
  · rw [if_neg h, if_neg h]
    by_cases h2 : l < i ∧ i ≤ k
    · rw [if_pos h2, if_pos h2, Array.getD_eq_getD_getElem?]
    · rw [if_neg h2, if_neg h2, Array.getD_eq_getD_getElem?]
theorem bin_run (S : Strict lt n) : ∀ (f : Nat) (p : Array Nat) (k : Nat), PermN n p → k + f = n → Asc lt p k → KRun lt n (kas_bin f p k) (fun p' => PermN n p' ∧ Asc lt p' n)
  | 0, p, k, hp, h, ha => by
    rw [kas_bin]
    have : k = n := by lia
    subst this
    exact ⟨hp, ha⟩
  | f + 1, p, k, hp, h, ha => by
    rw [kas_bin]
    have hs := hp.size
    refine krun_bind _ (krun_mono (fun l hl => ?_) _ (place_run S hp (by lia) ha k 0 k (by lia) (by lia) (Nat.le_refl _) (fun i hi => absurd hi (Nat.not_lt_zero _)) (fun i h1 h2 => by lia)))
    obtain ⟨h1, h2, h3⟩ := hl
    refine bin_run S f _ (k + 1) ⟨(Array.perm_iff_toList_perm.mp (bubble_perm p k (k - l))).trans hp.perm⟩ (by lia) fun i j hij hj => ?_
    rw [bubble_get (by lia) h1, bubble_get (by lia) h1]
    by_cases e1 : i = l
    · rw [if_pos e1, if_neg (by lia), if_pos (by lia)]
      exact h3 _ (by lia) (by lia)
    · rw [if_neg e1]
      by_cases e2 : j = l
      · rw [if_pos e2, if_neg (by lia)]
        exact h2 _ (by lia)
      · rw [if_neg e2]
        by_cases e3 : l < i ∧ i ≤ k
        · rw [if_pos e3, if_pos (by lia)]
          exact ha _ _ (by lia) (by lia)
        · rw [if_neg e3]
          by_cases e4 : l < j ∧ j ≤ k
          · rw [if_pos e4]
            exact ha _ _ (by lia) (by lia)
          · rw [if_neg e4]
            exact ha _ _ hij (by lia)
theorem permN_range : PermN n (List.toArray (List.range n)) := ⟨by simp⟩
theorem sort_run (S : Strict lt n) (h2 : 2 ≤ n) : KRun lt n (kas_sort n) (fun p => PermN n p ∧ Asc lt p n) := by
  unfold kas_sort
  refine krun_bind _ (krun_mono (fun r h => ?_) _ (count_run S permN_range h2))
  obtain ⟨a1, a2, a3, a4⟩ := h
  have hmx : max r.1 1 = r.1 := Nat.max_eq_left a1
  rw [hmx]
  by_cases e : r.1 < n
  · rw [if_pos e]
    exact bin_run S _ _ _ a3 (by lia) a4
  · rw [if_neg e]
    have : r.1 = n := by lia
    rw [this] at a4
    exact ⟨a3, a4⟩
end
end Mine
end S_SortT

section S_SortU
set_option maxRecDepth 100000
namespace Mine
open PySem PySem.W PyProof.Rows PySem.Spec PySem.Calls PySem.SeqAt
theorem krun_to {α : Type} {lt : Nat → Nat → Bool} {n : Nat} {cmp : Nat → Nat → (Bool → Shared → Prop) → Shared → Prop} {s : Shared} {Q : α → Prop} {Q' : α → Shared → Prop} (hq : ∀ a, Q a → Q' a s)
    (hc : ∀ i j C, i < n → j < n → C (lt i j) s → cmp i j C s) : ∀ (t : KasT α), KRun lt n t Q → t.kasWp cmp Q' s
  | .ret _, h => hq _ h
  | .ask i j k, h => hc i j _ h.1 h.2.1 (krun_to hq hc (k (lt i j)) h.2.2)
section
variable {prog : Program} {w : World} {A : Around} {E : Value → Shared → Prop} {s : Shared} {h₀ : Heap} {L D : Addr} {m : Str → Option Value} {rest : List (Addr × Obj)}

theorem plt_lex {a a' b b' : Int} {t u t' u' : Tok} {C : Bool → Shared → Prop} (h : C (plt (a, b) (a', b')) s) :
    KatLex prog w A true false C [(.int a t, .int a' t'), (.int b u, .int b' u')] 0 s := by
  refine kat_cons ((eqAt_int (A := A) (s := s) (a := a) (b := a') (t := t) (u := t')) prog w _ _ ?_)
  by_cases e : a = a'
  · rw [show (a == a') = true by simpa using e]
    refine kat_yes (kat_cons ((eqAt_int (A := A) (s := s) (a := b) (b := b') (t := u) (u := u')) prog w _ _ ?_))
    by_cases e2 : b = b'
    · rw [show (b == b') = true by simpa using e2]
      refine kat_yes (kat_nil ?_)
      have : plt (a, b) (a', b') = false := by unfold plt; simp [e, e2]
      rw [this] at h; exact h
    · rw [show (b == b') = false by simpa using e2]
      refine kat_no (kat_one _ _ ?_)
      refine (ltAt_int (A := A) (s := s) (a := b) (b := b') (t := u) (u := u')) prog w _ _ ?_
      have : plt (a, b) (a', b') = decide (b < b') := by unfold plt; simp [e]
      rw [this] at h; exact h
  · rw [show (a == a') = false by simpa using e]
    refine kat_no ?_
    refine oneLt_int ?_
    have : plt (a, b) (a', b') = decide (a < a') := by unfold plt; simp [e]
    rw [this] at h; exact h

theorem katTups_of {h : Heap} (N : News h₀ L h rest) (key : Value → Int × Int) : ∀ (vs : List Value), (∀ v ∈ vs, Tup2 rest v (key v)) → ∃ fs, KatTups h vs fs ∧ fs.length = vs.length ∧ ∀ f ∈ fs, ∃ a t, f = Value.int a t
  | [], _ => ⟨[], .nil, rfl, fun _ h => nomatch h⟩
  | v :: vs, hv => by
    obtain ⟨fs, h1, h2, h3⟩ := katTups_of N key vs fun u hu => hv u (.tail _ hu)
    obtain ⟨b, t2, t3, rfl, hm⟩ := hv v (.head _)
    refine ⟨.int (key (.ref b)).1 t2 :: fs, .cons (N _ hm).1 rfl rfl rfl h1, by simp [h2], fun f hf => ?_⟩
    rcases List.mem_cons.mp hf with rfl | hf
    · exact ⟨_, _, rfl⟩
    · exact h3 f hf

theorem plt_strict {key : Value → Int × Int} {vs : List Value} (hinj : ∀ i j, i < vs.length → j < vs.length → i ≠ j → key (vs.getD i .none) ≠ key (vs.getD j .none)) : Strict (fun i j => plt (key (vs.getD i .none)) (key (vs.getD j .none))) vs.length where
  total := fun i j hi hj hij h => by
    have hn := hinj i j hi hj hij
    generalize key (vs.getD i .none) = x at *
    generalize key (vs.getD j .none) = y at *
    obtain ⟨x1, x2⟩ := x
    obtain ⟨y1, y2⟩ := y
    unfold plt at *
    dsimp only at *
    by_cases e : x1 = y1
    · subst e
      simp only [if_true, decide_eq_false_iff_not, decide_eq_true_eq] at h ⊢
      have : x2 ≠ y2 := fun q => hn (by rw [q])
      lia
    · rw [if_neg e] at h
      rw [if_neg (Ne.symm e)]
      simp only [decide_eq_false_iff_not, decide_eq_true_eq] at h ⊢
      lia
  trans := fun i j k h1 h2 => by
    generalize key (vs.getD i .none) = x at *
    generalize key (vs.getD j .none) = y at *
    generalize key (vs.getD k .none) = z at *
    obtain ⟨x1, x2⟩ := x
    obtain ⟨y1, y2⟩ := y
    obtain ⟨z1, z2⟩ := z
    unfold plt at *
    dsimp only at *
    split at h1 <;> split at h2 <;> simp only [decide_eq_true_eq] at h1 h2 <;> split <;> simp only [decide_eq_true_eq] <;> lia

theorem sort_tups {vs : List Value} {n : Nat} {Q : Value → Shared → Prop} (key : Value → Int × Int) (F : Fr h₀ L s.heap m) (N : News h₀ L s.heap ((D, listOf vs.toArray n) :: rest)) (hsep : ∀ p ∈ rest, p.1 ≠ D) (h2 : 2 ≤ vs.length) (h64 : vs.length < 64)
    (hk : ∀ v ∈ vs, Tup2 rest v (key v)) (hinj : ∀ i j, i < vs.length → j < vs.length → i ≠ j → key (vs.getD i .none) ≠ key (vs.getD j .none))
    (h : ∀ h' c out, Fr h₀ L h' m → News h₀ L h' ((D, listOf (List.toArray out) c) :: rest) → out.Perm vs → out.Pairwise (fun u v => plt (key u) (key v) = true) → Q .none { s with heap := h' }) :
    wpAny (model prog w) A (call (.builtin "list.sort") [.ref D]) Q E s := by
  refine kat_lsort (vs := vs) F N (.head hsep) (by simp) h2 h64 fun e1 h' F' N' => ?_
  have N2 : News h₀ L h' rest := fun p hp => N' p (.tail _ hp)
  obtain ⟨fs, t, hl, hf⟩ := katTups_of N2 key vs hk
  refine kat_kind (T := .type "int") (s := { s with heap := h' }) t (by lia) (fun v hv => ?_) rfl ?_
  · obtain ⟨a, u, rfl⟩ := hf v hv
    exact Looks.of_pure rfl
  · rw [show (Value.type "int" != Value.type "tuple") = true by decide]
    have R := sort_run (plt_strict hinj) h2
    refine krun_to (fun p hp => ?_) (fun i j C hi hj hC => ?_) _ R
    · obtain ⟨hP, hA⟩ := hp
      have hsz := hP.size
      have hmap : (p.toList.map fun i => vs.getD i Value.none).Perm vs := by
        have := hP.perm.map fun i => vs.getD i Value.none
        refine this.trans ?_
        have e : (List.range vs.length).map (fun i => vs.getD i Value.none) = vs := by
          apply List.ext_getElem?
          intro i
          rcases Nat.lt_or_ge i vs.length with hi | hi
          · rw [List.getElem?_map, List.getElem?_range hi, List.getElem?_eq_getElem hi]
            simp [hi]
          · rw [List.getElem?_eq_none (by simpa using hi), List.getElem?_eq_none hi]
        rw [e]
      refine KasFin.intro F' N' (.head hsep) fun h3 c F3 N3 => h h3 c _ F3 N3 hmap ?_
      rw [List.pairwise_map, List.pairwise_iff_getElem]
      intro i j hi hj hij
      have e : ∀ q (hq : q < p.toList.length), p.toList[q] = p.getD q 0 := fun q hq => by
        have : q < p.size := by simpa using hq
        simp [Array.getD, this]
      rw [e i hi, e j hj]
      exact hA i j hij (by simpa [hsz] using hj)
    · show wpAny (model prog w) A.in1 (keyLt' (tuples' true) (vs.getD i Value.none) (vs.getD j Value.none)) C (fun _ _ => False) _
      obtain ⟨b1, t2, t3, e1, m1⟩ := hk _ (getD_mem (d := Value.none) hi)
      obtain ⟨b2, u2, u3, e2, m2⟩ := hk _ (getD_mem (d := Value.none) hj)
      rw [e1, e2] at hC ⊢
      rw [e1] at m1
      rw [e2] at m2
      have p1 := N2 _ m1
      have p2 := N2 _ m2
      refine kat_lt p1.1 rfl p2.1 rfl ?_
      exact plt_lex hC
end
end Mine
end S_SortU

section S_LstT
set_option maxRecDepth 100000
namespace Mine
open PySem PySem.W PyProof.Rows PySem.Spec PySem.Calls PySem.SeqAt PyProof.Rows.LCg
section
variable {prog : Program} {w : World} {A : Around} {E : Value → Shared → Prop} {s : Shared} {h₀ : Heap} {L : Addr} {m : Str → Option Value} {news st₀ : List (Addr × Obj)} {env : Env}

theorem go_listiter {elts : List Expr} {kk : Nat} {pos : Pos} {I l T : Addr} {i : Nat} {o : Obj} {Q : Unit → Shared → Prop} (N : News h₀ L s.heap ((I, o) :: news)) (ho : ListIt o l i) (hQ : Q () s) : wpAny (model prog w) A (letOwnedTupleGo (.Tuple elts kk pos) (.ref I) (.ref T)) Q E s :=
  wpAny_letOwnedTupleGo_listiter ⟨o, (N _ (.head _)).1, ho.1, ho.2⟩ hQ

/- a list of pairs, two names -/
theorem src_listT {x y : Str} {px py tp : Pos} {kk : Nat} {scope : Scope} {cl : List (Str × Addr)} {I l : Addr} {vs : List Value} {k : Nat} {base : List (Addr × Obj)} (key : Value → Int × Int) (hh : A.handled = none) (hxy : x ≠ y) (ht : ∀ v ∈ vs, Tup2 base v (key v))
    (hx : scope.names.lookup x = some .local := by rfl) (hy : scope.names.lookup y = some .local := by rfl) (hkind : scope.kind = .function := by rfl) :
    Src prog w A h₀ L (.Tuple [.Name x px, .Name y py] kk tp) scope cl env (.ref I) vs.length ((l, listOf vs.toArray k) :: base) (LS I l) (fun i m' => ∃ t, m' x = some (.int (key (vs.getD i .none)).1 t)) where
  step := by
    rintro i st C oC mC X s m E Q' hi ⟨o, rfl, ho⟩ hs hC hb hN F N hQ
    have sep : ∀ p ∈ (C, oC) :: X, p.1 ≠ I := fun p hp => by
      rcases List.mem_cons.mp hp with rfl | hp
      · exact (hs (I, o) (.head _)).1.symm
      · exact (hs (I, o) (.head _)).2 p hp
    refine next_list F N ho (.tail _ (hb _ (.head _))) hi sep fun o' h' hI F' N' => ⟨_, rfl, ?_⟩
    obtain ⟨b, t2, t3, e, hm⟩ := ht _ (getD_mem (d := Value.none) hi)
    have hm' := hb _ (.tail _ hm)
    rw [e]
    refine go_listiter N' hI ?_
    have sepC : ∀ p ∈ (I, o') :: X, p.1 ≠ C := fun p hp => by
      rcases List.mem_cons.mp hp with rfl | hp
      · exact (hs (I, o) (.head _)).1
      · exact hC p hp
    refine as_comp2 hh F' (News.swap N') hN sepC ⟨_, (N' _ (.tail _ (.tail _ hm'))).1, rfl, 0, rfl⟩ hxy (fun h5 oC' m' tk' _ hC' ha hb' F5 N5 => ?_) hx hy hkind
    exact hQ h5 _ [(I, o')] oC' m' ⟨o', rfl, hI⟩ (fun q hq => ⟨(I, o), .head _, by rw [List.mem_singleton.mp hq]⟩) hC' ⟨t2, ha⟩ F5 (News.swap N5)
  done := by
    rintro st X s m E Q' ⟨o, rfl, ho⟩ hs hb F N hQ
    exact next_list_end hh F N ho (hb _ (.head _)) (Nat.le_refl _) (fun p hp => hs (I, o) (.head _) p hp) fun h' F' N' => hQ h' _ F' N'
  self := by
    rintro st X s E Q' ⟨o, rfl, ho⟩ N hQ
    exact iter_listiter N (.head _) ho hQ
end

noncomputable def keyw (kf : Addr → Int × Int) (v : Value) : Int × Int := match v with | .ref b => kf b | _ => (0, 0)
theorem KN.tup {gs : List Int} {i : Nat} {ys : List Value} {acc : List (Addr × Obj)} (h : KN gs i ys acc) : ∃ kf : Addr → Int × Int, (∀ v ∈ ys, Tup2 acc v (keyw kf v)) ∧ ys.map (keyw kf) = (List.range i).map (fun j => (gs.getD j 0, (j : Int))) := by
  obtain ⟨bs, kf, rfl, h2, h3⟩ := h
  refine ⟨kf, fun v hv => ?_, ?_⟩
  · obtain ⟨b, hb, rfl⟩ := List.mem_map.mp hv
    obtain ⟨t, t2, hm⟩ := h3 b hb
    exact ⟨b, t, t2, rfl, hm⟩
  · rw [← h2, List.map_map]; rfl

theorem plt_ord (key : Value → Int × Int) : Ord (fun u v => plt (key v) (key u)) where
  asymm := fun a b h => by
    generalize key a = x at *
    generalize key b = y at *
    obtain ⟨x1, x2⟩ := x
    obtain ⟨y1, y2⟩ := y
    unfold plt at *
    dsimp only at *
    split at h <;> simp only [decide_eq_true_eq] at h <;> split <;> simp only [decide_eq_false_iff_not] <;> lia
  trans := fun a b c h1 h2 => by
    generalize key a = x at *
    generalize key b = y at *
    generalize key c = z at *
    obtain ⟨x1, x2⟩ := x
    obtain ⟨y1, y2⟩ := y
    obtain ⟨z1, z2⟩ := z
    unfold plt at *
    dsimp only at *
    split at h1 <;> split at h2 <;> simp only [decide_eq_false_iff_not] at h1 h2 <;> split <;> simp only [decide_eq_false_iff_not] <;> lia
theorem plt_fst {a b : Int × Int} (h : plt a b = false) : b.1 ≤ a.1 := by
  unfold plt at h
  split at h
  · lia
  · simp only [decide_eq_false_iff_not] at h; lia

/- what the list holds ahead of the sort: all gaps but a greatest -/
structure Small (gs : List Int) (zs : List Value) (key : Value → Int × Int) (mx : Int) : Prop where
  perm : (mx :: zs.map fun v => (key v).1).Perm gs
  top : ∀ v ∈ zs, (key v).1 ≤ mx
  inj : (zs.map fun v => (key v).2).Nodup
theorem gs_take {gs : List Int} {k : Nat} (hk : k + 1 = gs.length) : ((List.range k).map fun j => gs.getD j 0) ++ [gs.getD k 0] = gs := by
  apply List.ext_getElem
  · simp; lia
  · intro i h1 h2
    rw [List.getElem_append]
    split
    · rename_i h; simp; exact getD_eq h2
    · rename_i h
      simp at h
      have : i = k := by lia
      subst this
      simp; exact getD_eq h2
theorem small_perm {gs : List Int} {ys : List Value} {key : Value → Int × Int} {k : Nat} (hk : k + 1 = gs.length) (hp : (ys.map key).Perm ((List.range k).map fun j => (gs.getD j 0, (j : Int)))) : (gs.getD k 0 :: ys.map fun v => (key v).1).Perm gs := by
  have h1 := hp.map Prod.fst
  rw [List.map_map, List.map_map] at h1
  have h2 : (gs.getD k 0 :: ys.map fun v => (key v).1).Perm (gs.getD k 0 :: (List.range k).map fun j => gs.getD j 0) := h1.cons _
  refine h2.trans ?_
  have h3 := (List.perm_append_singleton (gs.getD k 0) ((List.range k).map fun j => gs.getD j 0)).symm
  rw [gs_take hk] at h3
  exact h3
theorem small_keep {gs : List Int} {ys : List Value} {key : Value → Int × Int} {k : Nat} (hk : k + 1 = gs.length) (hp : (ys.map key).Perm ((List.range k).map fun j => (gs.getD j 0, (j : Int)))) (ht : ∀ v ∈ ys, (key v).1 ≤ gs.getD k 0) : Small gs ys key (gs.getD k 0) where
  perm := small_perm hk hp
  top := ht
  inj := by
    have h1 := hp.map Prod.snd
    rw [List.map_map, List.map_map] at h1
    refine h1.nodup_iff.mpr ?_
    show (List.map (fun j : Nat => (j : Int)) (List.range k)).Nodup
    exact List.Pairwise.map _ (fun a b h => by lia) List.nodup_range
theorem small_swap {gs : List Int} {y0 B : Value} {yr zs : List Value} {key key' : Value → Int × Int} {k : Nat} (hk : k + 1 = gs.length) (hp : ((y0 :: yr).map key).Perm ((List.range k).map fun j => (gs.getD j 0, (j : Int)))) (ht : ∀ v ∈ yr, (key v).1 ≤ (key y0).1)
    (hlt : gs.getD k 0 < (key y0).1) (hB : key' B = (gs.getD k 0, (k : Int))) (hr : ∀ v ∈ yr, key' v = key v) (hz : zs.Perm (B :: yr)) : Small gs zs key' (key y0).1 where
  perm := by
    have h0 := hz.map fun v => (key' v).1
    rw [List.map_cons, hB] at h0
    have e : (yr.map fun v => (key' v).1) = yr.map fun v => (key v).1 := List.map_congr_left fun v hv => by rw [hr v hv]
    rw [e] at h0
    refine (h0.cons _).trans ((List.Perm.swap _ _ _).trans ?_)
    exact small_perm (ys := y0 :: yr) hk hp
  top := fun v hv => by
    rcases List.mem_cons.mp (hz.mem_iff.mp hv) with rfl | hv
    · rw [hB]; exact Int.le_of_lt hlt
    · rw [hr v hv]; exact ht v hv
  inj := by
    have h0 := hz.map fun v => (key' v).2
    refine h0.nodup_iff.mpr ?_
    rw [List.map_cons, hB]
    have e : (yr.map fun v => (key' v).2) = yr.map fun v => (key v).2 := List.map_congr_left fun v hv => by rw [hr v hv]
    rw [e]
    have h1 := hp.map Prod.snd
    rw [List.map_map, List.map_map] at h1
    have hn : ((y0 :: yr).map (Prod.snd ∘ key)).Nodup := h1.nodup_iff.mpr (by
      show (List.map (fun j : Nat => (j : Int)) (List.range k)).Nodup
      exact List.Pairwise.map _ (fun a b h => by lia) List.nodup_range)
    rw [List.map_cons, List.nodup_cons] at hn
    refine List.nodup_cons.mpr ⟨fun hm => ?_, hn.2⟩
    have : (k : Int) ∈ (y0 :: yr).map (Prod.snd ∘ key) := by rw [List.map_cons]; exact .tail _ hm
    have := h1.mem_iff.mp this
    obtain ⟨j, hj, ej⟩ := List.mem_map.mp this
    have := List.mem_range.mp hj
    simp at ej
    lia
theorem Small.key_inj {gs : List Int} {zs : List Value} {key : Value → Int × Int} {mx : Int} (h : Small gs zs key mx) : ∀ i j, i < zs.length → j < zs.length → i ≠ j → key (zs.getD i .none) ≠ key (zs.getD j .none) := by
  have hp := List.pairwise_iff_getElem.mp (List.pairwise_map.mp h.inj)
  have one : ∀ i j, i < zs.length → j < zs.length → i < j → key (zs.getD i .none) ≠ key (zs.getD j .none) := fun i j hi hj hij e => by
    rw [getD_eq hi, getD_eq hj] at e
    exact hp i j hi hj hij (congrArg Prod.snd e)
  intro i j hi hj hij
  rcases Nat.lt_or_gt_of_ne hij with h1 | h1
  · exact one i j hi hj h1
  · exact (one j i hj hi h1).symm
/- behind the sort: the gaps but a greatest one, in order -/
theorem Small.sorted {gs : List Int} {zs out : List Value} {key : Value → Int × Int} {mx : Int} (h : Small gs zs key mx) (hp : out.Perm zs) (hs : out.Pairwise (fun u v => plt (key u) (key v) = true)) :
    (out.map fun v => (key v).1).Pairwise (· ≤ ·) ∧ (mx :: out.map fun v => (key v).1).Perm gs ∧ ∀ x ∈ out.map (fun v => (key v).1), x ≤ mx := by
  refine ⟨?_, ((hp.map _).cons _).trans h.perm, fun x hx => ?_⟩
  · rw [List.pairwise_map]
    refine hs.imp fun {u v} huv => ?_
    unfold plt at huv
    split at huv
    · lia
    · simp only [decide_eq_true_eq] at huv; lia
  · obtain ⟨v, hv, rfl⟩ := List.mem_map.mp hx
    exact h.top v (hp.mem_iff.mp hv)
end Mine
end S_LstT

section S_V10
set_option maxRecDepth 100000
namespace Mine
open PySem PySem.W PyProof.Rows PySem.Spec PySem.Calls PySem.SeqAt PyProof.Rows.LCg
section
variable {cs : Scope} {nd nu : Nat} {c : Amb cs nd nu} {fr : List (Str × Value)} {led : List (Addr × Obj)} {tk : Nat} {K : Value → AS → Prop} {Kt Kf Kn : AS → Prop} {Kx : Flow → AS → Prop} {pos apos : Pos} {st : AS}
theorem WPS.try {body orelse : List Stmt} {h₀ : ExceptHandler} {hs : List ExceptHandler} (h : WPB c body st (fun st1 => WPB c orelse st1 Kn Kx) Kx) : WPS c (.Try body (h₀ :: hs) orelse [] pos) st Kn Kx := by
  intro s Q R hn hx
  refine wpAny_Try_except (wpAny_mono (h s (fun f s₁ => match f with | .next => wpAny c.M c.A (execs orelse c.env) Q (fun _ _ => False) s₁ | f => Q f s₁) R (fun s1 st1 R1 h1 => h1 s1 Q R1 hn hx) fun f s1 st1 hf R1 h1 => ?_) (fun _ _ h => h) fun _ _ e => e.elim)
  have q := hx _ _ _ hf R1 h1
  cases f with
  | next => exact absurd rfl hf
  | brk => exact q
  | cont => exact q
  | ret v => exact q
theorem WPCmp.geI {x y : Int} {t u : Tok} (h1 : y ≤ x → Kt st) (h2 : x < y → Kf st) : WPCmp c .GtE (.int x t) (.int y u) st Kt Kf := by
  intro s Q E R ht hf
  refine ge_int ?_
  by_cases e : y ≤ x
  · rw [decide_eq_true e]; exact ht _ _ R (h1 e)
  · rw [decide_eq_false e]; exact hf _ _ R (h2 (Int.not_le.mp e))
theorem WPE.none {k : Nat} (h : K .none st) : WPE c (.Constant .none k pos) st K := fun _ _ _ R hQ => Constant_none (hQ _ _ _ R h)
theorem WPCmp.isN (h : Kt st) : WPCmp c .Is .none .none st Kt Kf := fun _ _ _ R ht _ => is_none (ht _ _ R h)
theorem WPCall.iter {D : Addr} {vs : List Value} {n : Nat} (hm : (D, listOf vs.toArray n) ∈ led) (h : ∀ I o, ListIt o D 0 → (∀ p ∈ led, p.1 < I) → K (.ref I) ⟨fr, (I, o) :: led, tk⟩) : WPCall c (.builtin "iter") [.ref D] ⟨fr, led, tk⟩ K := by
  rintro s Q E ⟨ok, hp, h', u, rfl, F, N⟩ hQ
  exact iter_call F N hm fun I o h2 ho F2 N2 hl => hQ _ _ ⟨fr, _ :: led, tk⟩ ⟨ok, hp, h2, u, rfl, F2, N2⟩ (h I o ho hl)
theorem WPCall.zipq {r I l : Addr} {oI : Obj} {n : Nat} {t u v : Tok} (hr : (r, rngO 0 n t u v) ∈ led) (hI : (I, oI) ∈ led) (ho : ListIt oI l 0) (hn : n ≤ 1000)
    (h : ∀ Z st, QS Z I l n 0 st → (∀ p ∈ led, p.1 < Z) → (∀ q ∈ st, q.1 = I ∨ Z ≤ q.1) → K (.ref (Z + 3)) ⟨fr, st ++ led, tk⟩) : WPCall c (.type "zip") [.ref r, .ref I] ⟨fr, led, tk⟩ K := by
  rintro s Q E ⟨ok, hp, h', u, rfl, F, N⟩ hQ
  exact zipq_N F N hr hI ho hn fun Z st h2 hq F2 N2 h1 h3 => hQ _ _ ⟨fr, st ++ led, tk⟩ ⟨ok, hp, h2, u, rfl, F2, N2⟩ (h Z st hq h1 h3)
theorem WPM.iterZQ {Z I l : Addr} {n i : Nat} {st₀ : List (Addr × Obj)} (hst : QS Z I l n i st₀) (h : K (.ref (Z + 3)) ⟨fr, st₀ ++ led, tk⟩) : WPM c (pyIter (.ref (Z + 3))) ⟨fr, st₀ ++ led, tk⟩ K := by
  rintro s Q E ⟨ok, hp, h', u, rfl, F, N⟩ hQ
  exact iter_zipq N hst (hQ _ _ ⟨fr, _, tk⟩ ⟨ok, hp, h', u, rfl, F, N⟩ h)
theorem WPM.iterLI {I l : Addr} {o : Obj} {i : Nat} (hm : (I, o) ∈ led) (ho : ListIt o l i) (h : K (.ref I) ⟨fr, led, tk⟩) : WPM c (pyIter (.ref I)) ⟨fr, led, tk⟩ K := by
  rintro s Q E ⟨ok, hp, h', u, rfl, F, N⟩ hQ
  exact iter_listiter N hm ho (hQ _ _ ⟨fr, _, tk⟩ ⟨ok, hp, h', u, rfl, F, N⟩ h)
theorem WPE.callL {x : Str} {px : Pos} {f : Addr} {e : Expr} {r : List Expr} (hl : look fr x = some (.ref f) := by intros; k_dflt exact rfl) (hf : IsDef f := by exact fun _ => ⟨_, _, by k_dflt k_is, rfl⟩) (hx : cs.names.lookup x = some .local := by intros; k_dflt exact rfl) (hd : (x == Str.ofString "__debug__") = false := by intros; k_dflt exact rfl)
    (he : ∀ env, starEach (e :: r) env = (false, eval e env) :: starEach r env := by intros; k_dflt exact rfl) (h : WPL c pos (e :: r) ⟨fr, led, tk⟩ fun vs st1 => WPCall c (.ref f) vs st1 K) : WPE c (.Call (.Name x px) (e :: r) [] pos) ⟨fr, led, tk⟩ K := by
  intro s Q E R hQ
  refine Call_ (WPE.name (K := fun v st1 => v = .ref f ∧ st1 = ⟨fr, led, tk⟩) hl hx hd ⟨rfl, rfl⟩ s _ _ R ?_)
  rintro _ s1 _ R1 ⟨rfl, rfl⟩
  obtain ⟨o, fd, ho, hdat⟩ := hf c.w
  refine callWith_def hdat (h _ _ _ R1 fun vs s2 st2 R2 h2 => ⟨?_, h2 _ _ _ R2 hQ⟩) (he _)
  obtain ⟨ok, hp, h', u, rfl, F, N⟩ := R2
  exact F.keep _ _ (ok.X _ _ ho)
theorem WPCall.sort {D : Addr} {vs : List Value} {n : Nat} {rest : List (Addr × Obj)} (key : Value → Int × Int) (hsep : ∀ p ∈ rest, p.1 ≠ D) (h2 : 2 ≤ vs.length) (h64 : vs.length < 64) (hk : ∀ v ∈ vs, Tup2 rest v (key v)) (hinj : ∀ i j, i < vs.length → j < vs.length → i ≠ j → key (vs.getD i .none) ≠ key (vs.getD j .none))
    (h : ∀ k out, List.Perm out vs → out.Pairwise (fun u v => plt (key u) (key v) = true) → K .none ⟨fr, (D, listOf (List.toArray out) k) :: rest, tk⟩) : WPCall c (.builtin "list.sort") [.ref D] ⟨fr, (D, listOf vs.toArray n) :: rest, tk⟩ K := by
  rintro s Q E ⟨ok, hp, h', u, rfl, F, N⟩ hQ
  exact sort_tups key F N hsep h2 h64 hk hinj fun h3 k out F2 N2 hp2 hs => hQ _ _ ⟨fr, (D, listOf (List.toArray out) k) :: rest, tk⟩ ⟨ok, hp, h3, u, rfl, F2, N2⟩ (h k out hp2 hs)
/- the comprehension over zip(range(n), it), assigned -/
theorem WPCa.q {elt iter : Expr} {x y z : Str} {px py pz tp : Pos} {kk : Nat} {scope : Scope} {cl : List (Str × Addr)} {Z I l : Addr} {ys : List Value} {k n : Nat} {st₀ : List (Addr × Obj)} (KK : Nat → List Value → List (Addr × Obj) → Prop)
    (hxy : x ≠ y) (hn' : n ≤ ys.length) (hIZ : I < Z) (hlm : (l, listOf ys.toArray k) ∈ led) (hK : ∀ i ys acc, KK i ys acc → ys.length = i) (hn : n ≤ 1000) (hcell : ∀ y ∈ scope.names, y.2 ≠ .cell) (hz : cs.names.lookup z = some .local) (h0 : QS Z I l n 0 st₀) (hk0 : KK 0 [] []) (hs0 : ∀ q ∈ st₀, ∀ p ∈ led, p.1 ≠ q.1)
    (el : c.Ok → ∀ (m : Str → Option Value) (s : Shared), 0 < s.toks → CElt PySem.Challenge.rw_mq0297_01.row.prog c.w c.A c.g c.L m s led (QS Z I l n) KK (fun i m' => (∃ t, m' x = some (.int (i : Int) t)) ∧ m' y = some (ys.getD i .none)) elt scope cl c.env n)
    (hx : scope.names.lookup x = some .local) (hy : scope.names.lookup y = some .local) (hkind : scope.kind = .function)
    (h : ∀ D C vs k acc oI tk', 0 < tk' → ListIt oI l n → KK n vs acc → (∀ p ∈ led, p.1 < D) → I < D → D < C → (∀ p ∈ acc, C < p.1) → Kn ⟨(z, .ref D) :: fr, (D, listOf (List.toArray vs) k) :: (I, oI) :: (acc ++ led), tk'⟩) :
    WPCa c z pz elt (.Tuple [.Name x px, .Name y py] kk tp) iter scope cl pos (.ref (Z + 3)) ⟨fr, st₀ ++ led, tk⟩ Kn := by
  rintro s Q ⟨ok, hp, h', u, rfl, F, N⟩ hQ
  exact cq_asg KK rfl hxy hn' hIZ hlm hK hn hcell F N rfl hz (by
    show (cs.kind == .class || (cs.kind == .module && _)) = false
    rw [ok.hk]; rfl) h0 hk0 hs0 (el ok _ _ hp) (fun D C vs k acc oI h2 tk' hle ho hKn hD hID hDC hacc F2 N2 => hQ _ ⟨(z, .ref D) :: fr, _, tk'⟩ ⟨ok, Nat.lt_of_lt_of_le hp hle, h2, u, rfl, F2, N2⟩ (h D C vs k acc oI tk' (Nat.lt_of_lt_of_le hp hle) ho hKn hD hID hDC hacc)) hx hy hkind
theorem WPCa.ledg {elt target iter : Expr} {y : Str} {py : Pos} {scope : Scope} {cl : List (Str × Addr)} {it : Value} {led' : List (Addr × Obj)} (hl : ∀ p ∈ led', p ∈ led) (h : WPCa c y py elt target iter scope cl pos it ⟨fr, led', tk⟩ Kn) : WPCa c y py elt target iter scope cl pos it ⟨fr, led, tk⟩ Kn := by
  rintro s Q ⟨ok, hp, h', u, rfl, F, N⟩ hQ
  exact h _ _ ⟨ok, hp, h', u, rfl, F, News.sub N hl⟩ hQ
/- a loop of one turn -/
theorem WPFor.one {t : Expr} {it : Value} {b : List Stmt} (Af : AS → Prop) (turn : WPNext c it st fun v st1 => WPAsg c t v st1 fun st2 => WPB c b st2 Af (LoopX Af Kn Kx)) (last : ∀ st', Af st' → WPLast c it st' Kn) (ht : ∀ v, letOwnedTupleGo t it v = pure ()) : WPFor c t it b st Kn Kx := by
  intro s Q R hn hx
  refine my_for (fun i s' => (i = 0 ∧ Re c s' st) ∨ (i = 1 ∧ ∃ st', Af st' ∧ Re c s' st')) 1 (.inl ⟨rfl, R⟩) ?_ ?_ ht
  · rintro i s1 hi (⟨rfl, R1⟩ | ⟨rfl, _⟩) _
    · refine turn _ _ _ R1 fun v s2 st2 R2 h2 => ⟨v, rfl, h2 _ _ _ R2 fun s3 st3 R3 h3 => h3 _ _ R3 (fun s4 st4 R4 h4 => .inr ⟨rfl, st4, h4, R4⟩) fun f s4 st4 hf R4 h4 => ?_⟩
      cases f with
      | ret v => exact hx _ _ _ hf R4 h4
      | brk => exact hn _ _ R4 h4
      | next => exact absurd rfl hf
      | cont => exact .inr ⟨rfl, st4, h4, R4⟩
    · exact absurd hi (Nat.lt_irrefl _)
  · rintro s1 (⟨e, _⟩ | ⟨_, st', h', R1⟩) _
    · cases e
    · exact last st' h' _ _ _ R1 fun s2 st2 R2 h2 => ⟨rfl, hn _ _ R2 h2⟩
theorem WPFor.ledg {t : Expr} {it : Value} {b : List Stmt} {led' : List (Addr × Obj)} (hl : ∀ p ∈ led', p ∈ led) (h : WPFor c t it b ⟨fr, led', tk⟩ Kn Kx) : WPFor c t it b ⟨fr, led, tk⟩ Kn Kx := by
  rintro s Q ⟨ok, hp, h', u, rfl, F, N⟩
  exact h _ _ ⟨ok, hp, h', u, rfl, F, News.sub N hl⟩
theorem WPLast.weak {it : Value} {a b : AS} (h : Sub a b) (k : WPLast c it b Kn) : WPLast c it a Kn := fun _ _ _ R => k _ _ _ (h.re R)
end
end Mine
end S_V10

section S_Krs
namespace Mine

noncomputable def tieL (gs : List Int) (one two : Nat) : List Int := gs.map fun g => if g = max (gs.getD one 0) (gs.getD two 0) then min (gs.getD one 0) (gs.getD two 0) else g
noncomputable abbrev K3 := Int × Int × Int
noncomputable def kr (G : List Int) : List K3 → List Int × List Int
  | [] => (G, [])
  | k :: P => if G.getD k.2.1.toNat 0 = G.getD k.2.2.toNat 0 then kr G P else ((kr (tieL G k.2.1.toNat k.2.2.toNat) P).1, k.1 :: (kr (tieL G k.2.1.toNat k.2.2.toNat) P).2)
theorem kr_append (P Q : List K3) : ∀ G, kr G (P ++ Q) = ((kr (kr G P).1 Q).1, (kr G P).2 ++ (kr (kr G P).1 Q).2) := by
  induction P with
  | nil => intro G; rfl
  | cons k P ih =>
    intro G
    rw [List.cons_append, kr, kr]
    split
    · exact ih G
    · rw [ih]; rfl
theorem kr_sub (P : List K3) : ∀ G, (kr G P).2.Sublist (P.map (·.1)) := by
  induction P with
  | nil => intro G; exact .slnil
  | cons k P ih =>
    intro G
    rw [kr]
    split
    · exact .cons _ (ih G)
    · exact .cons_cons _ (ih _)
theorem tieL_length (G : List Int) (a b : Nat) : (tieL G a b).length = G.length := by simp [tieL]
theorem tieL_getD {G : List Int} {a b i : Nat} (h : i < G.length) : (tieL G a b).getD i 0 = if G.getD i 0 = max (G.getD a 0) (G.getD b 0) then min (G.getD a 0) (G.getD b 0) else G.getD i 0 := by
  unfold tieL
  rw [List.getD_eq_getElem?_getD, List.getElem?_map, List.getElem?_eq_getElem h]
  simp only [Option.map_some, Option.getD_some]
  have : G[i] = G.getD i 0 := by rw [List.getD_eq_getElem?_getD, List.getElem?_eq_getElem h]; rfl
  rw [this]

/- the labels after the edges P; t ties were made -/
structure KI (n : Nat) (P : List K3) (G : List Int) (t : Nat) : Prop where
  len : G.length = n
  rng : ∀ i, i < n → 0 ≤ G.getD i 0 ∧ G.getD i 0 ≤ i
  idem : ∀ i, i < n → G.getD (G.getD i 0).toNat 0 = G.getD i 0
  edge : ∀ k ∈ P, G.getD k.2.1.toNat 0 = G.getD k.2.2.toNat 0
  univ : ∀ f : Nat → Nat, (∀ k ∈ P, f k.2.1.toNat = f k.2.2.toNat) → ∀ i, i < n → f (G.getD i 0).toNat = f i
  count : t + (List.range n).countP (fun i => decide (G.getD i 0 = i)) = n

theorem range_int_getD {n i : Nat} (h : i < n) : ((List.range n).map Int.ofNat).getD i 0 = (i : Int) := by
  rw [List.getD_eq_getElem?_getD, List.getElem?_map, List.getElem?_range h]; rfl
theorem KI.start (n : Nat) : KI n [] ((List.range n).map Int.ofNat) 0 where
  len := by simp
  rng := fun i h => by rw [range_int_getD h]; lia
  idem := fun i h => by rw [range_int_getD h]; exact range_int_getD (by lia)
  edge := fun _ h => nomatch h
  univ := fun f _ i h => by rw [range_int_getD h]; rfl
  count := by
    have : (List.range n).countP (fun i => decide (((List.range n).map Int.ofNat).getD i 0 = i)) = (List.range n).length := by
      rw [List.countP_eq_length]
      intro i hi
      rw [range_int_getD (List.mem_range.mp hi)]; simp
    rw [this]; simp

/- one fixed point less -/
theorem countP_drop {p q : Nat → Bool} {h : Nat} : ∀ {l : List Nat}, l.Nodup → h ∈ l → p h = true → q h = false → (∀ i ∈ l, i ≠ h → p i = q i) → l.countP p = l.countP q + 1
  | x :: l, hn, hm, hp, hq, he => by
    have hn' := List.nodup_cons.mp hn
    by_cases hx : x = h
    · subst hx
      have : l.countP p = l.countP q := List.countP_congr fun i hi => by
        have := he i (.tail _ hi) (fun e => hn'.1 (e ▸ hi))
        rw [this]
      rw [List.countP_cons, List.countP_cons, this, hp, hq]; simp
    · have hm' : h ∈ l := by
        rcases List.mem_cons.mp hm with e | e
        · exact absurd e.symm hx
        · exact e
      have := countP_drop hn'.2 hm' hp hq fun i hi => he i (.tail _ hi)
      rw [List.countP_cons, List.countP_cons, this, he x (.head _) hx]
      lia

theorem KI.skip {n : Nat} {P : List K3} {G : List Int} {t : Nat} (h : KI n P G t) {k : K3} (e : G.getD k.2.1.toNat 0 = G.getD k.2.2.toNat 0) : KI n (P ++ [k]) G t :=
  ⟨h.len, h.rng, h.idem, fun k' hk => by
    rcases List.mem_append.mp hk with hk | hk
    · exact h.edge k' hk
    · rw [List.mem_singleton.mp hk]; exact e,
   fun f hf i hi => h.univ f (fun k hk => hf k (List.mem_append.mpr (.inl hk))) i hi, h.count⟩
theorem KI.tie {n : Nat} {P : List K3} {G : List Int} {t : Nat} (h : KI n P G t) {k : K3} (h1 : k.2.1.toNat < n) (h2 : k.2.2.toNat < n) (e : G.getD k.2.1.toNat 0 ≠ G.getD k.2.2.toNat 0) : KI n (P ++ [k]) (tieL G k.2.1.toNat k.2.2.toNat) (t + 1) := by
  obtain ⟨ka, kb, kc⟩ := k
  simp only at h1 h2 e ⊢
  generalize ha : kb.toNat = a at h1 h2 e ⊢
  generalize hb : kc.toNat = b at h1 h2 e ⊢
  have r1 := h.rng a h1
  have r2 := h.rng b h2
  have hget : ∀ i, i < n → (tieL G a b).getD i 0 = if G.getD i 0 = max (G.getD a 0) (G.getD b 0) then min (G.getD a 0) (G.getD b 0) else G.getD i 0 := fun i hi => tieL_getD (by rw [h.len]; exact hi)
  obtain ⟨H, hH⟩ : ∃ H, H = max (G.getD a 0) (G.getD b 0) := ⟨_, rfl⟩
  obtain ⟨W, hW⟩ : ∃ W, W = min (G.getD a 0) (G.getD b 0) := ⟨_, rfl⟩
  rw [← hH, ← hW] at hget
  have hWH : W < H := by lia
  have hWa : W = G.getD a 0 ∨ W = G.getD b 0 := by lia
  have hHa : (H = G.getD a 0 ∧ W = G.getD b 0) ∨ (H = G.getD b 0 ∧ W = G.getD a 0) := by lia
  have hW0 : 0 ≤ W := by lia
  have hHn : H.toNat < n := by lia
  have hWn : W.toNat < n := by lia
  have gW : G.getD W.toNat 0 = W := by
    rcases hWa with e | e
    · rw [e]; exact h.idem a h1
    · rw [e]; exact h.idem b h2
  have gH : G.getD H.toNat 0 = H := by
    rcases hHa with ⟨e, _⟩ | ⟨e, _⟩
    · rw [e]; exact h.idem a h1
    · rw [e]; exact h.idem b h2
  refine ⟨by rw [tieL_length, h.len], fun i hi => ?_, fun i hi => ?_, fun k' hk => ?_, fun f hf i hi => ?_, ?_⟩
  · have := h.rng i hi
    rw [hget i hi]
    split <;> lia
  · have hi2 := h.rng i hi
    rw [hget i hi]
    split
    · rw [hget _ hWn, gW, if_neg (by lia)]
    · rename_i hne
      rw [hget _ (by lia), h.idem i hi, if_neg hne]
  · rcases List.mem_append.mp hk with hk | hk
    · have e1 := h.edge k' hk
      by_cases b1 : k'.2.1.toNat < n
      · by_cases b2 : k'.2.2.toNat < n
        · rw [hget _ b1, hget _ b2, e1]
        · rw [hget _ b1, e1]
          have o1 : G.getD k'.2.2.toNat 0 = 0 := by rw [List.getD_eq_getElem?_getD, List.getElem?_eq_none (by rw [h.len]; lia)]; rfl
          have o2 : (tieL G a b).getD k'.2.2.toNat 0 = 0 := by rw [List.getD_eq_getElem?_getD, List.getElem?_eq_none (by rw [tieL_length, h.len]; lia)]; rfl
          rw [o1, o2, if_neg (by lia)]
      · have o1 : G.getD k'.2.1.toNat 0 = 0 := by rw [List.getD_eq_getElem?_getD, List.getElem?_eq_none (by rw [h.len]; lia)]; rfl
        have o2 : (tieL G a b).getD k'.2.1.toNat 0 = 0 := by rw [List.getD_eq_getElem?_getD, List.getElem?_eq_none (by rw [tieL_length, h.len]; lia)]; rfl
        rw [o2]
        by_cases b2 : k'.2.2.toNat < n
        · rw [hget _ b2, ← e1, o1, if_neg (by lia)]
        · have o3 : (tieL G a b).getD k'.2.2.toNat 0 = 0 := by rw [List.getD_eq_getElem?_getD, List.getElem?_eq_none (by rw [tieL_length, h.len]; lia)]; rfl
          rw [o3]
    · rw [List.mem_singleton.mp hk]
      simp only
      rw [ha, hb, hget a h1, hget b h2]
      rcases hHa with ⟨e1, e2⟩ | ⟨e1, e2⟩
      · rw [if_pos e1.symm, if_neg (by lia)]; exact e2
      · rw [if_neg (by lia), if_pos e1.symm]; exact e2.symm
  · have fo := h.univ f fun k hk => hf k (List.mem_append.mpr (.inl hk))
    have fe := hf _ (List.mem_append.mpr (.inr (.head _)))
    simp only [ha, hb] at fe
    have fa := fo a h1
    have fb := fo b h2
    rw [hget i hi]
    split
    · rename_i hi2
      rw [← fo i hi, hi2]
      rcases hHa with ⟨e1, e2⟩ | ⟨e1, e2⟩
      · rw [e1, e2, fa, fb, fe]
      · rw [e1, e2, fa, fb, fe]
    · exact fo i hi
  · have := countP_drop (p := fun i => decide (G.getD i 0 = (i : Int))) (q := fun i => decide ((tieL G a b).getD i 0 = (i : Int))) (h := H.toNat) (l := List.range n) List.nodup_range (List.mem_range.mpr hHn) (by
        rw [gH]; simp only [decide_eq_true_eq]; lia) (by
        rw [hget _ hHn, gH, if_pos rfl]; simp only [decide_eq_false_iff_not]; lia) (fun i hi hne => by
        have hi := List.mem_range.mp hi
        rw [hget i hi]
        split
        · rename_i h3
          rw [h3]
          have n1 : ¬ (H = (i : Int)) := by lia
          have n2 : ¬ (W = (i : Int)) := fun e => by
            have : W.toNat = i := by lia
            rw [← this, gW] at h3
            lia
          simp [n1, n2]
        · rfl)
    have := h.count
    lia

theorem kr_KI {n : Nat} : ∀ (Q P : List K3) (G : List Int) (t : Nat), KI n P G t → (∀ k ∈ Q, k.2.1.toNat < n ∧ k.2.2.toNat < n) → KI n (P ++ Q) (kr G Q).1 (t + (kr G Q).2.length)
  | [], P, G, t, h, _ => by rw [List.append_nil]; exact h
  | k :: Q, P, G, t, h, hv => by
    have e : P ++ k :: Q = (P ++ [k]) ++ Q := by simp
    have hk := hv k (.head _)
    rw [e, kr]
    split
    · rename_i he
      exact kr_KI Q (P ++ [k]) G t (h.skip he) fun k' hk' => hv k' (.tail _ hk')
    · rename_i he
      have := kr_KI Q (P ++ [k]) _ _ (h.tie hk.1 hk.2 he) fun k' hk' => hv k' (.tail _ hk')
      simp only [List.length_cons]
      rw [show t + ((kr (tieL G k.2.1.toNat k.2.2.toNat) Q).2.length + 1) = t + 1 + (kr (tieL G k.2.1.toNat k.2.2.toNat) Q).2.length by lia]
      exact this

/- P: all edges no longer than R -/
structure Upto (hs : List Int) (n : Nat) (R : Int) (P : List K3) : Prop where
  isE : ∀ k ∈ P, ∃ a b : Nat, a < b ∧ b < n ∧ k = (dst hs a b, (a : Int), (b : Int)) ∧ dst hs a b ≤ R
  all : ∀ a b : Nat, a < b → b < n → dst hs a b ≤ R → (dst hs a b, (a : Int), (b : Int)) ∈ P

theorem dst_comm (hs : List Int) (a b : Nat) : dst hs a b = dst hs b a := by unfold dst; rw [← Int.neg_sub (hs.getD b 0), Int.natAbs_neg]

section
variable {hs ring gs : List Int} (C : Circ hs ring gs)
include C
theorem rows_G {R : Int} {P : List K3} {G : List Int} {t : Nat} (U : Upto hs ring.length R P) (K : KI ring.length P G t) :
    (∀ row ∈ rowsOf (cutR R ring gs ring.length), ∀ x ∈ row, x ∈ ring ∧ G.getD x.toNat 0 ∈ row ∧ ∀ y ∈ row, G.getD x.toNat 0 ≤ y) := by
  have RO := rows_ok R ring gs C.pos
  generalize rowsOf (cutR R ring gs ring.length) = rows at RO ⊢
  have nd := C.nodup
  have hg : ∀ a b, a < ring.length → b < ring.length → a ≠ b → dst hs a b ≤ R → G.getD a 0 = G.getD b 0 := fun a b ha hb hne hd => by
    rcases Nat.lt_or_ge a b with h1 | h1
    · have := K.edge _ (U.all a b h1 hb hd)
      simpa using this
    · have := K.edge _ (U.all b a (by lia) ha (by rw [dst_comm]; exact hd))
      simp only [Int.toNat_natCast] at this
      exact this.symm
  have same : ∀ k l, k < ring.length → l < ring.length → Fr0 R ring gs ring.length k = Fr0 R ring gs ring.length l → G.getD (pl ring k) 0 = G.getD (pl ring l) 0 := fun k l hk hl e => by
    rcases Nat.le_total k l with h1 | h1
    · exact C.same (g := fun i => G.getD i 0) hg h1 hl e
    · exact (C.same (g := fun i => G.getD i 0) hg h1 hk e.symm).symm
  -- the row's number of a place
  let f : Nat → Nat := fun p => Fr0 R ring gs ring.length (ring.idxOf (p : Int))
  have idx : ∀ k, k < ring.length → ring.idxOf (ring.getD k 0) = k := fun k hk => by
    have hm := k_getD_mem (d := 0) hk
    have hlt := List.idxOf_lt_length_of_mem hm
    refine k_nodup_inj nd hlt hk ?_
    have := List.getElem_idxOf hlt
    rw [List.getD_eq_getElem?_getD, List.getElem?_eq_getElem hlt]
    exact this
  have fpl : ∀ k, k < ring.length → f (pl ring k) = Fr0 R ring gs ring.length k := fun k hk => by
    have := C.bound hk
    show Fr0 R ring gs ring.length (ring.idxOf ((pl ring k : Nat) : Int)) = _
    rw [show ((pl ring k : Nat) : Int) = ring.getD k 0 by unfold pl; lia, idx k hk]
  have fedge : ∀ k ∈ P, f k.2.1.toNat = f k.2.2.toNat := fun k hk => by
    obtain ⟨a, b, h1, h2, rfl, h3⟩ := U.isE k hk
    simp only [Int.toNat_natCast]
    obtain ⟨i, hi, ei⟩ := C.place (p := a) (by lia)
    obtain ⟨j, hj, ej⟩ := C.place (p := b) h2
    have pa : pl ring i = a := by unfold pl; lia
    have pb : pl ring j = b := by unfold pl; lia
    rw [← pa, ← pb] at h3 ⊢
    rw [fpl i hi, fpl j hj]
    rcases Nat.lt_trichotomy i j with h | h | h
    · exact C.near h hj h3
    · rw [h]
    · exact (C.near h hi (by rw [dst_comm]; exact h3)).symm
  have fG := K.univ f fedge
  intro row hrow x hx
  obtain ⟨t0, ht0, et0⟩ := k_mem_getD (d := []) hrow
  have rowE : ∀ y ∈ row, ∃ k, k < ring.length ∧ y = ring.getD k 0 ∧ Fr0 R ring gs ring.length k = t0 := fun y hy => RO.row t0 ht0 y (by rw [et0]; exact hy)
  obtain ⟨k, hk, ek, fk⟩ := rowE x hx
  have bk := C.bound hk
  have hxn : x.toNat < ring.length := by lia
  have pk' : pl ring k = x.toNat := by unfold pl; rw [ek]
  have rG := K.rng x.toNat hxn
  obtain ⟨k2, hk2, ek2⟩ := C.place (p := (G.getD x.toNat 0).toNat) (by lia)
  have eG : ring.getD k2 0 = G.getD x.toNat 0 := by lia
  refine ⟨by rw [ek]; exact k_getD_mem hk, ?_, fun y hy => ?_⟩
  · have h1 := fG x.toNat hxn
    have e2 : pl ring k2 = (G.getD x.toNat 0).toNat := by unfold pl; lia
    rw [← e2, fpl k2 hk2, ← pk', fpl k hk, fk] at h1
    have hm : G.getD x.toNat 0 ∈ rows.flatten := RO.perm.mem_iff.mpr (by rw [← eG]; exact k_getD_mem hk2)
    obtain ⟨row', hr', hm'⟩ := List.mem_flatten.mp hm
    obtain ⟨t', ht', et'⟩ := k_mem_getD (d := []) hr'
    obtain ⟨k3, hk3, ek3, fk3⟩ := RO.row t' ht' _ (by rw [et']; exact hm')
    have : k3 = k2 := k_nodup_inj nd hk3 hk2 (by rw [← ek3, eG])
    have : t' = t0 := by rw [← fk3, this, h1]
    rw [this, et0] at et'
    rw [et']; exact hm'
  · obtain ⟨l, hl, el, fl⟩ := rowE y hy
    have bl := C.bound hl
    have := same k l hk hl (by rw [fk, fl])
    rw [pk'] at this
    rw [this]
    have pl' : pl ring l = y.toNat := by unfold pl; rw [el]
    have := K.rng (pl ring l) (by rw [pl']; lia)
    rw [pl'] at this ⊢
    lia

/- the stretches answer as the groups -/
theorem strOut_G {R : Int} {P : List K3} {G : List Int} {t : Nat} (U : Upto hs ring.length R P) (K : KI ring.length P G t) :
    strOut ring.length (rowsOf (cutR R ring gs ring.length)) = G := by
  have HG := rows_G C U K
  have RO := rows_ok R ring gs C.pos
  generalize rowsOf (cutR R ring gs ring.length) = rows at RO HG ⊢
  have nd : rows.flatten.Nodup := RO.perm.nodup_iff.mpr C.nodup
  have h1 : ∀ p ∈ List.range ring.length, ((rows.filter fun r => r.contains (p : Int)).map minL) = [G.getD p 0] := fun p hp => by
    have hp := List.mem_range.mp hp
    have hm : (p : Int) ∈ rows.flatten := RO.perm.mem_iff.mpr (C.perm.mem_iff.mpr (List.mem_map.mpr ⟨p, List.mem_range.mpr hp, rfl⟩))
    obtain ⟨row, hr, hpr, e⟩ := filter_one nd hm
    rw [e]
    obtain ⟨_, b, c⟩ := HG row hr _ hpr
    simp only [Int.toNat_natCast] at b c
    simp only [List.map_cons, List.map_nil]
    rw [minL_eq b c]
  have h2 : strOut ring.length rows = (List.range ring.length).flatMap fun p => [G.getD p 0] := by
    unfold strOut
    rw [List.flatMap_def, List.flatMap_def, List.map_congr_left h1]
  rw [h2, ← List.map_eq_flatMap]
  apply List.ext_getElem
  · simp [K.len]
  · intro i a b
    simp [List.getElem?_eq_getElem b]
omit C
theorem countP_one {m : Int} : ∀ {row : List Int}, row.Nodup → m ∈ row → row.countP (fun x => decide (x = m)) = 1
  | x :: l, hn, hm => by
    have hn' := List.nodup_cons.mp hn
    by_cases hx : x = m
    · subst hx
      have : l.countP (fun y => decide (y = x)) = 0 := by
        rw [List.countP_eq_zero]
        intro y hy
        simp only [decide_eq_true_eq]
        intro e
        exact hn'.1 (e ▸ hy)
      rw [List.countP_cons, this]; simp
    · have hm' : m ∈ l := by
        rcases List.mem_cons.mp hm with e | e
        · exact absurd e.symm hx
        · exact e
      rw [List.countP_cons, countP_one hn'.2 hm']; simp [hx]

theorem countP_flat {p : Int → Bool} : ∀ {rows : List (List Int)}, (∀ row ∈ rows, row.countP p = 1) → rows.flatten.countP p = rows.length
  | [], _ => rfl
  | r :: rs, h => by
    rw [List.flatten_cons, List.countP_append, h r (.head _), countP_flat fun row hr => h row (.tail _ hr), List.length_cons]; lia
theorem nodup_row : ∀ {rows : List (List Int)} {row : List Int}, rows.flatten.Nodup → row ∈ rows → row.Nodup
  | r :: rs, row, h, hr => by
    rw [List.flatten_cons] at h
    have h := List.nodup_append.mp h
    rcases List.mem_cons.mp hr with rfl | hr
    · exact h.1
    · exact nodup_row h.2.1 hr
include C
theorem rows_count {R : Int} {P : List K3} {G : List Int} {t : Nat} (U : Upto hs ring.length R P) (K : KI ring.length P G t) :
    t + max 1 (gs.countP fun g => decide (R < 64 * g)) = ring.length := by
  have HG := rows_G C U K
  have RO := rows_ok R ring gs C.pos
  have hc := rid_count R ring gs ring.length (by rw [C.glen]; exact Nat.le_refl _)
  rw [show gs.take ring.length = gs by rw [← C.glen, List.take_length]] at hc
  generalize rowsOf (cutR R ring gs ring.length) = rows at RO HG ⊢
  have nd : rows.flatten.Nodup := RO.perm.nodup_iff.mpr C.nodup
  have h1 : ∀ row ∈ rows, row.countP (fun x => decide (G.getD x.toNat 0 = x)) = 1 := fun row hr => by
    have hne := RO.ne row hr
    obtain ⟨x0, hx0⟩ := List.exists_mem_of_ne_nil row hne
    obtain ⟨_, g1, g2⟩ := HG row hr x0 hx0
    have key : row.countP (fun x => decide (G.getD x.toNat 0 = x)) = row.countP (fun x => decide (x = G.getD x0.toNat 0)) := List.countP_congr fun x hx => by
      obtain ⟨_, b1, b2⟩ := HG row hr x hx
      have : G.getD x.toNat 0 = G.getD x0.toNat 0 := Int.le_antisymm (b2 _ g1) (g2 _ b1)
      simp only [decide_eq_true_eq, this]
      exact eq_comm
    rw [key]
    exact countP_one (nodup_row nd hr) g1
  have h2 := countP_flat h1
  rw [RO.perm.countP_eq, C.perm.countP_eq, List.countP_map] at h2
  have h3 : (List.range ring.length).countP ((fun x : Int => decide (G.getD x.toNat 0 = x)) ∘ Int.ofNat) = (List.range ring.length).countP (fun i => decide (G.getD i 0 = (i : Int))) := List.countP_congr fun i _ => by simp
  rw [h3, RO.len, hc] at h2
  have := K.count
  lia
omit C

/-! sorted lists with the same counts -/
theorem sorted_le_count : ∀ {a b : List Int}, a.Pairwise (· ≤ ·) → b.Pairwise (· ≤ ·) → a.length = b.length → (∀ r, a.countP (fun x => decide (x ≤ r)) = b.countP (fun x => decide (x ≤ r))) → a = b
  | [], [], _, _, _, _ => rfl
  | x :: a, y :: b, ha, hb, hl, h => by
    have ha' := List.pairwise_cons.mp ha
    have hb' := List.pairwise_cons.mp hb
    have key : ∀ {x y : Int} {a b : List Int}, (∀ z ∈ b, y ≤ z) → (∀ r, (x :: a).countP (fun z => decide (z ≤ r)) = (y :: b).countP (fun z => decide (z ≤ r))) → y ≤ x := fun {x y a b} hy h => by
      rcases Int.lt_or_le x y with h1 | h1
      · have e := h x
        have : (y :: b).countP (fun z => decide (z ≤ x)) = 0 := by
          rw [List.countP_eq_zero]
          intro z hz
          rcases List.mem_cons.mp hz with rfl | hz
          · simp only [decide_eq_true_eq]; lia
          · have := hy z hz
            simp only [decide_eq_true_eq]; lia
        rw [this, List.countP_cons] at e
        simp at e
      · exact h1
    have e : x = y := Int.le_antisymm (key ha'.1 fun r => (h r).symm) (key hb'.1 h)
    subst e
    rw [sorted_le_count ha'.2 hb'.2 (by simpa using hl) fun r => by
      have := h r
      rw [List.countP_cons, List.countP_cons] at this
      lia]

include C
/- the ties of the whole run are the gaps but the greatest -/
theorem ties_gaps {P : List K3} {out : List Int} {mx : Int} (hP : ∀ k ∈ P, ∃ a b : Nat, a < b ∧ b < ring.length ∧ k = (dst hs a b, (a : Int), (b : Int)))
    (hall : ∀ a b : Nat, a < b → b < ring.length → (dst hs a b, (a : Int), (b : Int)) ∈ P) (hsort : P.Pairwise (fun x y => x.1 ≤ y.1)) (hb : ∀ k ∈ P, 0 ≤ k.1)
    (hso : out.Pairwise (· ≤ ·)) (hpm : (mx :: out).Perm gs) (hmx : ∀ x ∈ out, x ≤ mx) :
    (kr ((List.range ring.length).map Int.ofNat) P).2 = out.map (64 * ·) := by
  have hval : ∀ k ∈ P, k.2.1.toNat < ring.length ∧ k.2.2.toNat < ring.length := fun k hk => by
    obtain ⟨a, b, h1, h2, rfl⟩ := hP k hk
    simp only [Int.toNat_natCast]
    lia
  have hlen : (mx :: out).length = ring.length := by rw [hpm.length_eq, C.glen]
  simp only [List.length_cons] at hlen
  have g0 : ∀ g ∈ gs, 0 ≤ g := fun g hg => by
    obtain ⟨i, hi, e⟩ := k_mem_getD (d := 0) hg
    rw [← e]; exact C.gpos i hi
  have o0 : ∀ g ∈ out, 0 ≤ g := fun g hg => g0 g (hpm.mem_iff.mp (.tail _ hg))
  have hsub := kr_sub P ((List.range ring.length).map Int.ofNat)
  have tsort : (kr ((List.range ring.length).map Int.ofNat) P).2.Pairwise (· ≤ ·) := by
    refine List.Pairwise.sublist hsub ?_
    exact List.Pairwise.map _ (fun _ _ h => h) hsort
  have osort : (out.map (64 * ·)).Pairwise (· ≤ ·) := List.Pairwise.map _ (fun a b h => by show 64 * a ≤ 64 * b; lia) hso
  -- the run up to R
  have upto : ∀ R : Int, 0 ≤ R → (kr ((List.range ring.length).map Int.ofNat) P).2.countP (fun x => decide (x ≤ R)) + max 1 (gs.countP fun g => decide (R < 64 * g)) = ring.length := fun R hR => by
    obtain ⟨P1, P2, e, h1, h2⟩ : ∃ P1 P2, P = P1 ++ P2 ∧ (∀ k ∈ P1, k.1 ≤ R) ∧ (∀ k ∈ P2, R < k.1) := by
      clear hall hval hP hsub tsort hb
      induction P with
      | nil => exact ⟨[], [], rfl, (fun _ h => nomatch h), fun _ h => nomatch h⟩
      | cons k P ih =>
        have hs' := List.pairwise_cons.mp hsort
        rcases Int.lt_or_le R k.1 with hk | hk
        · refine ⟨[], k :: P, rfl, (fun _ h => nomatch h), fun k' hk' => ?_⟩
          rcases List.mem_cons.mp hk' with rfl | hk'
          · exact hk
          · have := hs'.1 k' hk'; lia
        · obtain ⟨P1, P2, e, h1, h2⟩ := ih hs'.2
          refine ⟨k :: P1, P2, by rw [e]; rfl, fun k' hk' => ?_, h2⟩
          rcases List.mem_cons.mp hk' with rfl | hk'
          · exact hk
          · exact h1 k' hk'
    have K := kr_KI P1 [] _ 0 (KI.start ring.length) fun k hk => hval k (e ▸ List.mem_append.mpr (.inl hk))
    rw [List.nil_append, Nat.zero_add] at K
    have U : Upto hs ring.length R P1 := ⟨fun k hk => by
      obtain ⟨a, b, x, y, z⟩ := hP k (e ▸ List.mem_append.mpr (.inl hk))
      refine ⟨a, b, x, y, z, ?_⟩
      have := h1 k hk
      rw [z] at this
      exact this, fun a b hab hbn hd => by
      have := hall a b hab hbn
      rw [e] at this
      rcases List.mem_append.mp this with h | h
      · exact h
      · have := h2 _ h
        simp only at this
        lia⟩
    have := rows_count C U K
    rw [e, kr_append]
    simp only [List.countP_append]
    have c1 : (kr ((List.range ring.length).map Int.ofNat) P1).2.countP (fun x => decide (x ≤ R)) = (kr ((List.range ring.length).map Int.ofNat) P1).2.length := by
      rw [List.countP_eq_length]
      intro x hx
      obtain ⟨k, hk, rfl⟩ := List.mem_map.mp ((kr_sub P1 _).subset hx)
      exact decide_eq_true (h1 k hk)
    have c2 : (kr (kr ((List.range ring.length).map Int.ofNat) P1).1 P2).2.countP (fun x => decide (x ≤ R)) = 0 := by
      rw [List.countP_eq_zero]
      intro x hx
      obtain ⟨k, hk, rfl⟩ := List.mem_map.mp ((kr_sub P2 _).subset hx)
      have := h2 k hk
      simp only [decide_eq_true_eq]
      lia
    rw [c1, c2]
    exact this
  -- the gaps up to R
  have outc : ∀ R : Int, (out.map (64 * ·)).countP (fun x => decide (x ≤ R)) + max 1 (gs.countP fun g => decide (R < 64 * g)) = ring.length := fun R => by
    rw [List.countP_map, ← hpm.countP_eq, List.countP_cons]
    have split : ∀ l : List Int, l.countP ((fun x => decide (x ≤ R)) ∘ (64 * ·)) + l.countP (fun g => decide (R < 64 * g)) = l.length := by
      intro l
      induction l with
      | nil => rfl
      | cons a l ih =>
        rw [List.countP_cons, List.countP_cons, List.length_cons]
        by_cases h : 64 * a ≤ R
        · have : ¬ R < 64 * a := by lia
          simp [h, this]; lia
        · have : R < 64 * a := by lia
          simp [h, this]; lia
    have h1 := split out
    by_cases h : R < 64 * mx
    · simp only [h, decide_true, if_true]; lia
    · have : out.countP (fun g => decide (R < 64 * g)) = 0 := by
        rw [List.countP_eq_zero]
        intro x hx
        have := hmx x hx
        simp only [decide_eq_true_eq]; lia
      simp only [h, decide_false, Bool.false_eq_true, if_false]; lia
  have tlen : (kr ((List.range ring.length).map Int.ofNat) P).2.length = (out.map (64 * ·)).length := by
    -- a bound above everything
    obtain ⟨B, hB0, hB⟩ : ∃ B : Int, 0 ≤ B ∧ (∀ x ∈ (kr ((List.range ring.length).map Int.ofNat) P).2, x ≤ B) ∧ ∀ x ∈ out.map (64 * ·), x ≤ B := by
      have ex : ∀ l : List Int, ∃ B : Int, 0 ≤ B ∧ ∀ x ∈ l, x ≤ B := by
        intro l
        induction l with
        | nil => exact ⟨0, Int.le_refl _, fun _ h => nomatch h⟩
        | cons a l ih =>
          obtain ⟨B, h0, h⟩ := ih
          refine ⟨max a B, by lia, fun x hx => ?_⟩
          rcases List.mem_cons.mp hx with rfl | hx
          · lia
          · have := h x hx; lia
      obtain ⟨B1, p1, q1⟩ := ex (kr ((List.range ring.length).map Int.ofNat) P).2
      obtain ⟨B2, p2, q2⟩ := ex (out.map (64 * ·))
      exact ⟨max B1 B2, by lia, fun x hx => by have := q1 x hx; lia, fun x hx => by have := q2 x hx; lia⟩
    have u := upto B hB0
    have o := outc B
    have c1 : (kr ((List.range ring.length).map Int.ofNat) P).2.countP (fun x => decide (x ≤ B)) = (kr ((List.range ring.length).map Int.ofNat) P).2.length := by
      rw [List.countP_eq_length]; intro x hx; exact decide_eq_true (hB.1 x hx)
    have c2 : (out.map (64 * ·)).countP (fun x => decide (x ≤ B)) = (out.map (64 * ·)).length := by
      rw [List.countP_eq_length]; intro x hx; exact decide_eq_true (hB.2 x hx)
    lia
  refine sorted_le_count tsort osort tlen fun r => ?_
  by_cases hr : 0 ≤ r
  · have u := upto r hr
    have o := outc r
    lia
  · have c1 : (kr ((List.range ring.length).map Int.ofNat) P).2.countP (fun x => decide (x ≤ r)) = 0 := by
      rw [List.countP_eq_zero]
      intro x hx
      obtain ⟨k, hk, rfl⟩ := List.mem_map.mp (hsub.subset hx)
      have := hb k hk
      simp only [decide_eq_true_eq]; lia
    have c2 : (out.map (64 * ·)).countP (fun x => decide (x ≤ r)) = 0 := by
      rw [List.countP_eq_zero]
      intro x hx
      obtain ⟨k, hk, rfl⟩ := List.mem_map.mp hx
      have := o0 k hk
      simp only [decide_eq_true_eq]; lia
    rw [c1, c2]
end
end Mine
end S_Krs

namespace Mine
open PySem PySem.W PyProof.Rows PySem.Spec PySem.Calls
theorem fill_V (w : World) : model PySem.Challenge.rw_mq0297_01.row.prog w = model PySem.Challenge.rw_mq0297_01.row.prog w ∧ Mine.hd.heap_39 w.params = Mine.hd.heap_39 w.params := by k_fill; exact ⟨rfl, rfl⟩
local macro_rules | `(tactic| walk_at "vr") => `(tactic| k_dflt exact rfl)
local macro_rules | `(tactic| walk_at "ve") => `(tactic| first
  | refine WPE.name (h := ?_) | refine WPE.int ?_ | refine WPE.bin ?_ | refine WPE.sub ?_ | refine WPE.glob (h := ?_)
  | (show WPE _ (Expr.Constant (Const.float _) _ _) _ _; k_dflt first | refine WPE.fl fl_lit1 ?_ | refine WPE.fl fl_lit0 ?_ | refine WPE.fl fl_lit2 ?_ | refine WPE.fl fl_lit6 ?_ | refine WPE.fl fl_lit4 ?_ | refine WPE.fl fl_lit05 ?_)
  | refine WPE.tup ?_ | refine WPE.lst ?_ | refine WPE.bool ?_ | refine WPE.none ?_ | refine WPE.cmp ?_ | refine WPE.call (h := ?_) | refine WPE.callB (h := ?_) | refine WPE.callT (h := ?_)
  | refine WPE.callL (h := ?_) | refine WPE.callStar (h := ?_) | refine WPE.app ?_ | refine WPE.meth0 PySem.F.slot_list_pop PySem.F.type_list_pop ?_)
local macro_rules | `(tactic| walk_at "vs") => `(tactic| first | refine WPS.asg ?_ | refine WPS.asgI ?_ | refine WPS.expr ?_ | refine WPS.ret ?_ | refine WPS.asgT ?_ | refine WPS.for ?_ | refine WPS.aug (h := ?_) | refine WPS.try ?_ | refine WPS.brk ?_ | refine WPS.cont ?_)
local macro_rules | `(tactic| walk_at "v1") => `(tactic| with_reducible first
  | (show WPE _ _ _ _; walk_at "ve") | (show WPB _ _ _ _ _; first | refine WPB.cons ?_ | refine WPB.nil ?_) | (show WPS _ _ _ _ _; walk_at "vs") | (show WPL _ _ _ _ _; first | refine WPL.cons ?_ | refine WPL.nil ?_)
  | refine WPStore.mk (h := ?_) | refine WPBin.add ?_ | refine WPBin.sub ?_ | (show WPT _ _ _ _ _; first | refine WPT.cmp ?_ | refine WPT.and ?_ | refine WPT.or ?_ | refine WPT.not ?_ | refine WPT.name ?_ | refine WPT.val ?_)
  | refine WPAsg.name ?_ | (show WPIn _ _ _ _ _; k_dflt first | refine WPIn.nil ?_ | refine WPIn.asg ?_ | refine WPIn.bind ?_))
local macro_rules | `(tactic| walk_at "v") => `(tactic| repeat (walk_at "v1"))
local macro_rules | `(tactic| walk_at "v enter0") => `(tactic| ((case k1 | k2 => k_is); (case k3 => first | exact fun _ _ => BindsTo.of_eq rfl | exact fun _ hX => binds_K hX rfl (by k_is) rfl rfl rfl); (case k5 | k6 | k7 => exact rfl)))
local macro_rules | `(tactic| walk_at "v enter") => `(tactic| (walk_at "v enter0"; (case k4 => exact locs rfl); (case k8 => decide); (case k9 => exact rfl)))
local macro_rules | `(tactic| walk_at "v enterC") => `(tactic| (walk_at "v enter0"; (case kK => exact rfl); (case kD => decide +kernel); (case k9 => exact fun _ => rfl)))

section S_V_str
open PySem PySem.W PyProof.Rows PySem.Spec PySem.Calls PyProof.Rows.LCg
set_option maxRecDepth 100000
set_option maxHeartbeats 4000000
theorem cut_len (R : Int) (ring gs : List Int) : ∀ i, (cutR R ring gs i).1.length ≤ i ∧ (cutR R ring gs i).2.length ≤ i
  | 0 => ⟨Nat.le_refl _, Nat.le_refl _⟩
  | i + 1 => by
    have := cut_len R ring gs i
    unfold cutR
    split
    · simp; lia
    · simp; lia
/- the rows stand in the ledger -/
noncomputable def RowsAt (T : List (Addr × Obj)) (B : List Addr) (rows : List (List Int)) : Prop := B.length = rows.length ∧ ∀ t, t < rows.length → ∃ v k, (B.getD t 0, listOf (List.toArray v) k) ∈ T ∧ Ints v (rows.getD t [])
theorem RowsAt.push {T : List (Addr × Obj)} {B : List Addr} {rows : List (List Int)} {b : Addr} {v : List Value} {k : Nat} {row : List Int} (h : RowsAt T B rows) (hv : Ints v row) : RowsAt ((b, listOf v.toArray k) :: T) (B ++ [b]) (rows ++ [row]) := by
  refine ⟨by simp [h.1], fun t ht => ?_⟩
  simp only [List.length_append, List.length_singleton] at ht
  by_cases hlt : t < rows.length
  · obtain ⟨v', k', hm, hi⟩ := h.2 t hlt
    rw [getD_app_l (by rw [h.1]; exact hlt), getD_app_l hlt]
    exact ⟨v', k', .tail _ hm, hi⟩
  · have e : t = rows.length := by lia
    rw [getD_app_r (by rw [h.1]; lia), getD_app_r (by lia), h.1, e, Nat.sub_self]
    exact ⟨v, k, .head _, hv⟩

noncomputable def strP (rows : List (List Int)) (i j : Nat) : List Int := strOut i rows ++ ((rows.take j).filter fun r => r.contains (i : Int)).map minL
theorem strP_len (rows : List (List Int)) (i j : Nat) : (strP rows i j).length ≤ i * rows.length + rows.length := by
  unfold strP
  have h1 : (strOut i rows).length ≤ i * rows.length := by
    induction i with
    | zero => simp [strOut]
    | succ i ih =>
      unfold strOut at ih ⊢
      rw [List.range_succ, List.flatMap_append, List.length_append]
      have : ((rows.filter fun r => r.contains (i : Int)).map minL).length ≤ rows.length := by rw [List.length_map]; exact List.length_filter_le _ _
      have e : (List.flatMap (fun p : Nat => (rows.filter fun r => r.contains (p : Int)).map minL) [i]).length = ((rows.filter fun r => r.contains (i : Int)).map minL).length := by simp
      rw [e, Nat.succ_mul]
      lia
  have h2 : (((rows.take j).filter fun r => r.contains (i : Int)).map minL).length ≤ rows.length := by
    rw [List.length_map]
    refine Nat.le_trans (List.length_filter_le _ _) ?_
    rw [List.length_take]
    lia
  rw [List.length_append]
  lia
theorem strP_wrap (rows : List (List Int)) (i : Nat) : strP rows i rows.length = strP rows (i + 1) 0 := by
  unfold strP strOut
  rw [List.take_length, List.range_succ, List.flatMap_append]
  simp
theorem strP_yes {rows : List (List Int)} {i j : Nat} (hj : j < rows.length) (h : (rows.getD j []).contains (i : Int) = true) : strP rows i (j + 1) = strP rows i j ++ [minL (rows.getD j [])] := by
  unfold strP
  rw [k_take (d := []) hj, List.filter_append, List.filter_cons, if_pos h]
  simp
theorem strP_no {rows : List (List Int)} {i j : Nat} (h : (rows.getD j []).contains (i : Int) = false) : strP rows i (j + 1) = strP rows i j := by
  unfold strP
  by_cases hj : j < rows.length
  · rw [k_take (d := []) hj, List.filter_append, List.filter_cons, if_neg (by rw [h]; decide)]
    simp
  · rw [List.take_of_length_le (by lia), List.take_of_length_le (by lia)]
noncomputable def strRR (rows : List (List Int)) (i j : Nat) (o : Option Value) : Prop := match o with
  | some v => j < rows.length ∧ (rows.getD j []).contains (i : Int) = true ∧ ∃ t, v = .int (minL (rows.getD j [])) t
  | none => (rows.getD j []).contains (i : Int) = false

theorem rowsOf_nil {c : List (List Int) × List Int} (h : c.1 = []) : rowsOf c = [c.2] := by unfold rowsOf; rw [h]
theorem rowsOf_cons {c : List (List Int) × List Int} {r : List Int} {rs : List (List Int)} (h : c.1 = r :: rs) : rowsOf c = (c.2 ++ r) :: rs := by unfold rowsOf; rw [h]
theorem Ints.app {a b : List Value} {as bs : List Int} (h1 : Ints a as) (h2 : Ints b bs) : Ints (a ++ b) (as ++ bs) := by
  refine ⟨by rw [List.length_append, List.length_append, h1.1, h2.1], fun i hi => ?_⟩
  rw [List.length_append] at hi
  by_cases h : i < as.length
  · rw [getD_app_l (by rw [h1.1]; exact h), getD_app_l h]; exact h1.2 i h
  · rw [getD_app_r (by rw [h1.1]; lia), getD_app_r (by lia), h1.1]; exact h2.2 _ (by lia)
theorem RowsAt.join {T : List (Addr × Obj)} {b1 D : Addr} {Bs : List Addr} {r row : List Int} {rs : List (List Int)} {v : List Value} {k : Nat} (h : RowsAt T (b1 :: Bs) (r :: rs)) (hv : Ints v row) : RowsAt ((D, listOf v.toArray k) :: T) (D :: Bs) (row :: rs) := by
  refine ⟨by simpa using h.1, fun t ht => ?_⟩
  cases t with
  | zero => exact ⟨v, k, .head _, hv⟩
  | succ t =>
    obtain ⟨v', k', hm, hi⟩ := h.2 (t + 1) ht
    exact ⟨v', k', .tail _ hm, hi⟩
theorem any_contains (k : Int) : ∀ (row : List Int), row.any (fun x => x == k) = row.contains k
  | [] => rfl
  | x :: l => by
    rw [List.any_cons, List.contains_cons, any_contains k l]
    congr 1
    rw [Bool.eq_iff_iff, beq_iff_eq, beq_iff_eq]
    exact eq_comm

theorem mem_flip {α : Type} (l l2 r : List α) : ∀ p ∈ l ++ (l2 ++ r), p ∈ l2 ++ (l ++ r) := fun p hp => by
  rcases List.mem_append.mp hp with hp | hp
  · exact List.mem_append.mpr (.inr (List.mem_append.mpr (.inl hp)))
  · exact (List.mem_append.mp hp).elim (fun h => List.mem_append.mpr (.inl h)) fun h => List.mem_append.mpr (.inr (List.mem_append.mpr (.inr h)))
theorem ne_swap {l l' r : List (Addr × Obj)} {x : Addr} (pre : List (Addr × Obj)) (hl : ∀ q' ∈ l', ∃ q ∈ l, q.1 = q'.1) (h : ∀ p ∈ pre ++ (l ++ r), p.1 ≠ x) : ∀ p ∈ pre ++ (l' ++ r), p.1 ≠ x := fun p hp => by
  rcases List.mem_append.mp hp with hp | hp
  · exact h p (List.mem_append.mpr (.inl hp))
  rcases List.mem_append.mp hp with hp | hp
  · obtain ⟨q, hq, e⟩ := hl p hp
    rw [← e]
    exact h q (List.mem_append.mpr (.inr (List.mem_append.mpr (.inl hq))))
  · exact h p (List.mem_append.mpr (.inr (List.mem_append.mpr (.inr hp))))
theorem str_ok (w : World) {ra ga : Addr} {rs gv : List Value} {ring gs : List Int} {n1 n2 : Nat} {R : Int} {t1 : Tok} {rest : List (Addr × Obj)}
   (hr : Ints rs ring) (hg : Ints gv gs) (h0r : 0 < ring.length) (h3 : ring.length ≤ 20) (hl : gs.length = ring.length) (hag : ga ≠ ra) (ht1 : 0 < t1) (hgb : ∀ v ∈ gs, 0 ≤ v ∧ v ≤ 64) (hR : 0 ≤ R ∧ R ≤ 4096) (hga : ∀ p ∈ rest, p.1 ≠ ga ∧ p.1 ≠ ra) :
  Call w 133 [.ref ra, .ref ga, .float (fl R) t1] ((ga, listOf gv.toArray n2) :: (ra, listOf rs.toArray n1) :: rest) 20 60 (fun r news' => ∃ D ys k, r = .ref D ∧ news' = (D, listOf ys.toArray k) :: (ga, listOf gv.toArray n2) :: (ra, listOf rs.toArray n1) :: rest ∧ Ints ys (strOut ring.length (rowsOf (cutR R ring gs ring.length)))) := by
  refine' call_VC [(Str.ofString "ring", .ref ra), (Str.ofString "gaps", .ref ga), (Str.ofString "reach", .float (fl R) t1)] ?k1 ?k2 ?k3 ?kK ?kD ?k5 ?k6 ?k7 ?k9 ?_
  walk_at "v enterC"
  intro c tk0 cells _ hcl hY hlt
  k_cells hY
  rename_i oS dS
  have hrs := hr.1
  have hgl := hg.1
  show WPB c _ ⟨_, (c.L + 1, oS) :: (ga, listOf gv.toArray n2) :: (ra, listOf rs.toArray n1) :: rest, _⟩ _ _
  walk_at "v"
  refine WPM.lst (Nat.le_of_ble_eq_true rfl) fun b0 hb0 => ?_
  walk_at "v"
  refine WPM.lst (Nat.le_of_ble_eq_true rfl) fun sl hsl => ?_
  have hgaL := hlt _ (.head _)
  have hraL := hlt _ (.tail _ (.head _))
  have hrL : ∀ p ∈ rest, p.1 < c.L := fun p hp => hlt p (.tail _ (.tail _ hp))
  have hb0L := hb0 _ (.head _)
  have hb0s := hsl _ (.head _)
  have hL1 : ∀ p ∈ (ga, listOf gv.toArray n2) :: (ra, listOf rs.toArray n1) :: rest, p.1 ≠ c.L + 1 := fun p hp => Nat.ne_of_lt (Nat.lt_succ_of_lt (hlt p hp))
  have hsL := Nat.lt_trans hb0L hb0s
  walk_at "v"
  refine WPStore.cell hcl rfl (.tail (Nat.ne_of_gt hsL) (.tail (Nat.ne_of_gt hb0L) (.head hL1))) dS rfl fun oA hA => ?_
  walk_at "v"
  refine WPCall.zip (.tail _ (.tail _ (.tail _ (.tail _ (.head _))))) (.tail _ (.tail _ (.tail _ (.head _)))) fun Z st0 hZ z1 z2 => ?_
  refine WPM.iterZ hZ ?_
  refine WPFor.mkG (P := Addr × List Value × Nat × List Addr × Nat × List (Addr × Obj) × List (Addr × Obj) × Nat) ring.length
    (fun i p => ZS Z ra ga i p.2.2.2.2.2.1 ∧ sl ≠ p.1 ∧ (∀ q ∈ (c.L + 1, oA) :: (ga, listOf gv.toArray n2) :: (ra, listOf rs.toArray n1) :: (p.2.2.2.2.2.1 ++ (p.2.2.2.2.2.2.1 ++ rest)), q.1 ≠ p.1) ∧ (∀ q ∈ (c.L + 1, oA) :: (ga, listOf gv.toArray n2) :: (ra, listOf rs.toArray n1) :: (p.2.2.2.2.2.1 ++ (p.2.2.2.2.2.2.1 ++ rest)), q.1 ≠ sl) ∧
      (∀ q ∈ p.2.2.2.2.2.1, ∀ r ∈ (c.L + 1, oA) :: (ga, listOf gv.toArray n2) :: (ra, listOf rs.toArray n1) :: (p.2.2.2.2.2.2.1 ++ rest), r.1 ≠ q.1) ∧ Ints p.2.1 (cutR R ring gs i).2 ∧ RowsAt p.2.2.2.2.2.2.1 p.2.2.2.1 (cutR R ring gs i).1)
    (fun _ p => ⟨[(Str.ofString "ring", .ref ra), (Str.ofString "gaps", .ref ga), (Str.ofString "reach", .float (fl R) t1)], (p.1, listOf p.2.1.toArray p.2.2.1) :: (sl, listOf (p.2.2.2.1.map Value.ref ++ [Value.ref p.1]).toArray p.2.2.2.2.1) :: (c.L + 1, oA) :: (ga, listOf gv.toArray n2) :: (ra, listOf rs.toArray n1) :: (p.2.2.2.2.2.1 ++ (p.2.2.2.2.2.2.1 ++ rest)), p.2.2.2.2.2.2.2⟩)
    (b0, [], 0, [], 0, st0, [], _) ?i0 (Sub.ofS rfl ?l0 rfl) ?turn ?last
  case i0 =>
    refine ⟨hZ, Nat.ne_of_gt hb0s, fun q hq => ?_, fun q hq => ?_, fun q hq r hr => Nat.ne_of_lt (Nat.lt_of_lt_of_le (z1 r (.tail _ (.tail _ hr))) (z2 q hq)), Ints.nil, rfl, fun _ h => nomatch h⟩
    · exact ne_app (fun q hq => Nat.ne_of_gt (Nat.lt_of_lt_of_le (z1 _ (.tail _ (.head _))) (z2 q hq))) (ne_cons (Nat.ne_of_lt hb0L) fun p hp => Nat.ne_of_lt (hb0 p (.tail _ hp))) q (mem_flip [_, _, _] st0 rest q hq)
    · exact ne_app (fun q hq => Nat.ne_of_gt (Nat.lt_of_lt_of_le (z1 _ (.head _)) (z2 q hq))) (ne_cons (Nat.ne_of_lt hsL) fun p hp => Nat.ne_of_lt (hsl p (.tail _ (.tail _ hp)))) q (mem_flip [_, _, _] st0 rest q hq)
  case l0 => exact fun p hp => mem_flip [_, _, _, _, _] st0 rest p (mem_swap p hp)
  case turn =>
    rintro i ⟨b, vs, kb, Bs, ks, st, T, tk⟩ hi ⟨hZ2, hsb, hB, hS, hsep, hv, hrow⟩
    dsimp only at *
    obtain ⟨hc1, hc2⟩ := cut_len R ring gs i
    have hvl := hv.1
    have hBl := hrow.1
    refine WPNG.zip (X := (b, listOf vs.toArray kb) :: (sl, listOf (Bs.map Value.ref ++ [Value.ref b]).toArray ks) :: (c.L + 1, oA) :: (ga, listOf gv.toArray n2) :: (ra, listOf rs.toArray n1) :: (T ++ rest)) (mem_flip st [_, _, _, _, _] _) hZ2 (fun q hq => ne_cons (Ne.symm (hB q (.tail _ (.tail _ (.tail _ (List.mem_append.mpr (.inl hq))))))) (ne_cons (Ne.symm (hS q (.tail _ (.tail _ (.tail _ (List.mem_append.mpr (.inl hq))))))) (hsep q hq)))
      (.tail _ (.tail _ (.tail _ (.tail _ (.head _))))) (.tail _ (.tail _ (.tail _ (.head _)))) (by lia) (by lia) fun T0 st' hZ' hst' => ?_
    obtain ⟨tr, er⟩ := hr.at hi
    obtain ⟨tg, eg⟩ := hg.at (show i < gs.length by lia)
    rw [er, eg]
    have hB2 : ∀ p ∈ (c.L + 1, oA) :: (ga, listOf gv.toArray n2) :: (ra, listOf rs.toArray n1) :: (st' ++ (T ++ rest)), p.1 ≠ b := ne_swap [_, _, _] hst' hB
    have hS2 : ∀ p ∈ (c.L + 1, oA) :: (ga, listOf gv.toArray n2) :: (ra, listOf rs.toArray n1) :: (st' ++ (T ++ rest)), p.1 ≠ sl := ne_swap [_, _, _] hst' hS
    have hsep2 : ∀ q ∈ st', ∀ r ∈ (c.L + 1, oA) :: (ga, listOf gv.toArray n2) :: (ra, listOf rs.toArray n1) :: (T ++ rest), r.1 ≠ q.1 := fun q' hq' => by
      obtain ⟨q, hq, e⟩ := hst' q' hq'
      rw [← e]
      exact hsep q hq
    have hgi := hgb (gs.getD i 0) (getD_mem (by lia))
    clear hB hS hsep hst' hZ2
    refine WPAsg.tup (.head _) (by walk_at "vr") (by walk_at "vr") ?_
    walk_at "v"
    refine WPE.ledg (led' := (b, listOf vs.toArray kb) :: (sl, listOf (Bs.map Value.ref ++ [Value.ref b]).toArray ks) :: (c.L + 1, oA) :: (ga, listOf gv.toArray n2) :: (ra, listOf rs.toArray n1) :: (st' ++ (T ++ rest))) (fun p hp => .tail _ (mem_flip [_, _, _, _, _] st' _ p hp)) ?_
    refine WPE.cell hcl rfl (.tail _ (.tail _ (.head _))) hA rfl rfl ?_
    walk_at "v"
    refine WPE.negI ?_
    walk_at "v"
    refine WPSub.last (.tail _ (.head _)) ?_
    refine ⟨.mk (.head _), ?_⟩
    walk_at "v"
    refine WPCall.app (Upd.head (ne_cons hsb hB2)) (by lia) ?_
    walk_at "v"
    refine WPS.ite ?_
    walk_at "v"
    refine WPBin.div64 (Sm.of (i := 64) hgi.1 hgi.2) (by decide) ?_
    walk_at "v"
    refine WPCmp.gtF (i := 4096) (j := 4096) (Sm.of (by lia) (by lia)) (Sm.of hR.1 hR.2) (by decide) (by decide) (fun hc => ?_) (fun hc => ?_)
    · have ec : cutR R ring gs (i + 1) = ((cutR R ring gs i).1 ++ [(cutR R ring gs i).2 ++ [ring.getD i 0]], []) := by rw [cutR, if_pos hc]
      walk_at "v"
      refine WPE.cell hcl rfl (.tail _ (.tail _ (.head _))) hA rfl rfl ?_
      refine ⟨.mk (.tail _ (.head _)), ?_⟩
      walk_at "v"
      refine WPM.lst (Nat.le_of_ble_eq_true rfl) fun b2 hb2 => ?_
      walk_at "v"
      refine WPCall.app (Upd.tail (Nat.ne_of_gt (hb2 _ (.tail _ (.head _)))) (Upd.tail hsb.symm (Upd.head hS2))) (by rw [List.length_append, List.length_map, List.length_singleton]; lia) ?_
      walk_at "v"
      refine ⟨(b2, [], 0, Bs ++ [b], ks + 1, st', (b, listOf (vs ++ [Value.int (ring.getD i 0) tr]).toArray (kb + 1)) :: T, _), ⟨hZ', Nat.ne_of_lt (hb2 _ (.tail _ (.head _))), fun q hq => Nat.ne_of_lt (hb2 q (sub_cons sub_tail q (mem_move (_ :: _ :: _ :: st') q hq))), fun q hq => ne_cons hsb.symm hS2 q (mem_move (_ :: _ :: _ :: st') q hq),
        fun q hq r hr => ne_cons (Ne.symm (hB2 q (.tail _ (.tail _ (.tail _ (List.mem_append.mpr (.inl hq))))))) (hsep2 q hq) r (mem_move [_, _, _] r hr), by rw [ec]; exact Ints.nil, by rw [ec]; exact hrow.push hv.snoc⟩, Sub.ofS rfl (by dsimp only; rw [List.map_append]; exact sub_cons (mem_move (_ :: _ :: _ :: _ :: st'))) rfl⟩
    · have ec : cutR R ring gs (i + 1) = ((cutR R ring gs i).1, (cutR R ring gs i).2 ++ [ring.getD i 0]) := by rw [cutR, if_neg (Int.not_lt.mpr hc)]
      walk_at "v"
      exact ⟨(b, vs ++ [Value.int (ring.getD i 0) tr], kb + 1, Bs, ks, st', T, _), ⟨hZ', hsb, hB2, hS2, hsep2, by rw [ec]; exact hv.snoc, by rw [ec]; exact hrow⟩, Sub.of rfl rfl rfl⟩
  case last =>
    rintro ⟨b, vs, kb, Bs, ks, st, T, tk⟩ ⟨hZ2, hsb, hB, hS, hsep, hv, hrow⟩
    dsimp only at *
    obtain ⟨hc1, hc2⟩ := cut_len R ring gs ring.length
    have hvl := hv.1
    have hBl := hrow.1
    have RO := rows_ok R ring gs h0r
    refine WPLast.zip (X := (b, listOf vs.toArray kb) :: (sl, listOf (Bs.map Value.ref ++ [Value.ref b]).toArray ks) :: (c.L + 1, oA) :: (ga, listOf gv.toArray n2) :: (ra, listOf rs.toArray n1) :: (T ++ rest)) (mem_flip st [_, _, _, _, _] _) hZ2 (fun q hq => ne_cons (Ne.symm (hB q (.tail _ (.tail _ (.tail _ (List.mem_append.mpr (.inl hq))))))) (ne_cons (Ne.symm (hS q (.tail _ (.tail _ (.tail _ (List.mem_append.mpr (.inl hq))))))) (hsep q hq)))
      (.tail _ (.tail _ (.tail _ (.tail _ (.head _))))) (.tail _ (.tail _ (.tail _ (.head _)))) (.inl (by lia)) ?_
    have hS2 : ∀ q ∈ (c.L + 1, oA) :: (ga, listOf gv.toArray n2) :: (ra, listOf rs.toArray n1) :: (T ++ rest), q.1 ≠ sl := fun q hq => hS q (sub_cons (sub_cons (sub_cons fun _ h => List.mem_append.mpr (.inr h))) q hq)
    clear hB hS hsep hZ2
    walk_at "v1"
    refine WPS.join (P := List Addr × List (Addr × Obj) × Nat × Nat) (fun p => RowsAt p.2.1 p.1 (rowsOf (cutR R ring gs ring.length)))
      (fun p => ⟨[(Str.ofString "ring", .ref ra), (Str.ofString "gaps", .ref ga), (Str.ofString "reach", .float (fl R) t1)], (sl, listOf (p.1.map Value.ref).toArray p.2.2.1) :: (c.L + 1, oA) :: (ga, listOf gv.toArray n2) :: (ra, listOf rs.toArray n1) :: (p.2.1 ++ rest), p.2.2.2⟩) ?st3 ?st2
    case st2 =>
      clear RO
      refine WPS.ite ?_
      walk_at "v"
      refine WPE.cell hcl rfl (.tail _ (.tail _ (.head _))) hA rfl rfl ?_
      walk_at "v"
      have hSl : (Bs.map Value.ref ++ [Value.ref b]).length = Bs.length + 1 := by rw [List.length_append, List.length_map, List.length_singleton]
      refine WPCall.len (.tail _ (.head _)) (by lia) ?_
      walk_at "v"
      refine WPCmp.gtI (fun hlen => ?_) (fun hlen => ?_)
      · cases Bs with
        | nil => exact absurd hlen (Int.lt_irrefl 1)
        | cons b1 Bs =>
          obtain ⟨v0, k0, hm0, hv0⟩ := hrow.2 0 (by rw [← hBl]; exact Nat.succ_pos _)
          have hm1 : (b1, listOf v0.toArray k0) ∈ T ++ rest := List.mem_append.mpr (.inl hm0)
          have hfl := congrArg List.length (cut_ok R ring gs ring.length (Nat.le_refl _)).flat
          cases hc4 : (cutR R ring gs ring.length).1 with
          | nil => rw [hc4] at hBl; cases hBl
          | cons r rr =>
          rw [hc4] at hrow hv0 hfl
          rw [List.take_length, List.flatten_cons, List.length_append, List.length_append] at hfl
          have hv0l := hv0.1
          rw [show (r :: rr).getD 0 [] = r from rfl] at hv0l
          rw [List.length_cons] at hSl hBl
          walk_at "v"
          refine WPE.cell hcl rfl (.tail _ (.tail _ (.head _))) hA rfl rfl ?_
          refine ⟨.mk (.tail _ (.head _)), WPCall.pop (Upd.tail hsb.symm (Upd.head hS2)) (by lia) (by lia) ?_⟩
          rw [show ((b1 :: Bs).map Value.ref ++ [Value.ref b]).dropLast = (b1 :: Bs).map Value.ref from List.dropLast_concat]
          rw [show ((b1 :: Bs).map Value.ref ++ [Value.ref b]).getD (((b1 :: Bs).map Value.ref ++ [Value.ref b]).length - 1) Value.none = .ref b by
            rw [List.length_append, List.length_singleton, Nat.add_sub_cancel, getD_app_r (Nat.le_refl _), Nat.sub_self]; rfl]
          have hSm : ((b1 :: Bs).map Value.ref).length = Bs.length + 1 := by rw [List.length_map, List.length_cons]
          walk_at "v"
          refine WPE.cell hcl rfl (.tail _ (.tail _ (.head _))) hA rfl rfl ?_
          walk_at "v"
          refine WPSub.list (k := 0) (.tail _ (.head _)) (Int.le_refl _) (by lia) (by lia) ?_
          refine WPBin.cat (.head _) (.tail _ (.tail _ (.tail _ (.tail _ (.tail _ hm1))))) (by lia) fun D2 hD2 => ?_
          have hD2s := Nat.ne_of_gt (hD2 _ (.tail _ (.head _)))
          walk_at "v"
          refine WPE.cell hcl rfl (.tail _ (.tail _ (.tail _ (.head _)))) hA rfl rfl ?_
          walk_at "v"
          refine WPSet.list (Upd.tail hD2s (Upd.tail hsb.symm (Upd.head hS2))) (Int.le_refl _) (by lia) (by lia) ?_
          walk_at "v"
          exact ⟨(D2 :: Bs, (D2, listOf (vs ++ v0).toArray 0) :: T, ks + 1, _), by rw [rowsOf_cons hc4]; exact hrow.join (hv.app hv0), Sub.ofS rfl (fun p hp => sub_cons sub_tail p (mem_move [_, _, _, _] p hp)) rfl⟩
      · cases Bs with
        | cons b1 Bs => exfalso; rw [hSl, List.length_cons] at hlen; lia
        | nil =>
          have hc3 : (cutR R ring gs ring.length).1 = [] := List.eq_nil_of_length_eq_zero hBl.symm
          walk_at "v"
          exact ⟨([b], (b, listOf vs.toArray kb) :: T, ks, _), by rw [rowsOf_nil hc3]; exact RowsAt.push (B := []) (rows := []) ⟨rfl, fun _ h => nomatch h⟩ hv, Sub.ofS rfl (mem_move [_, _, _, _]) rfl⟩
    case st3 =>
      rintro ⟨B, T', ks', tk'⟩ hrow6
      dsimp only at *
      have RL := RO.perm.length_eq
      have RN := RO.ne
      have RLl : (rowsOf (cutR R ring gs ring.length)).length ≤ 20 := by rw [RO.len]; unfold rid; lia
      clear RO hrow hv
      generalize rowsOf (cutR R ring gs ring.length) = rows at hrow6 RL RN RLl ⊢
      have hBl6 : (B.map Value.ref).length = rows.length := by rw [List.length_map, hrow6.1]
      walk_at "v"
      refine WPE.comp2 (n := ring.length) (vs := B.map Value.ref) (fun i j ys => Ints ys (strP rows i j)) (strRR rows) (by show closureFor _ (envX c.cn _ c.L c.a c.ccd c.cl) = _; rw [hcl]; rfl) rfl (by decide) (by decide) rfl rfl (by decide) (fun _ _ => rfl) (fun _ _ => rfl) (by lia) Ints.nil ?st ?wr ?ln (.head _) ?ei ?bd ?i1 ?fin
      case st =>
        intro i j ys o hK hR
        cases o with
        | none => rw [Option.toList_none, List.append_nil, strP_no hR]; exact hK
        | some v =>
          obtain ⟨h1, h2, t, rfl⟩ := hR
          rw [strP_yes h1 h2]
          exact hK.snoc
      case wr =>
        intro i ys _ hK
        rw [hBl6, strP_wrap] at hK
        exact hK
      case ln =>
        intro i j ys hi hj hK
        have h1 := strP_len rows i j
        have h2 : i * rows.length ≤ 20 * 20 := Nat.mul_le_mul (Nat.le_of_lt (Nat.lt_of_lt_of_le hi h3)) RLl
        have := hK.1
        lia
      case ei =>
        intro ok m C oC Y s' E' Q' F N hY hQ
        exact lcf_cell N rfl (.tail _ (hY _ (.tail _ (.head _)))) hA hQ rfl rfl
      case bd =>
        intro ok m C i hi j oC mC Y s' E' hj hC hB F N hY hYC
        obtain ⟨⟨tp, e1⟩, e2⟩ := hB
        have hj' : j < rows.length := by rw [← hBl6]; exact hj
        obtain ⟨v, k, hm, hv⟩ := hrow6.2 j hj'
        rw [getD_map (d := 0) (by rw [hrow6.1]; exact hj')] at e2
        have hrn := List.length_pos_iff.mpr (RN _ (k_getD_mem (d := []) hj'))
        have hmem := hY _ (.tail _ (.tail _ (.tail _ (.tail _ (List.mem_append.mpr (.inl hm))))))
        refine wpAny_isTrue_Compare1 (ld_own N hC e1 (ld_own N hC e2 (in_list_ints (isL_N N (.tail _ hmem)) (intsAre_of hv) (wpAny_truthy_bool ?_)))) rfl
        rw [any_contains]
        cases hcc : (rows.getD j []).contains (i : Int) with
        | true =>
          rw [if_pos rfl]
          refine Call_ (LCgL.ld_built F ok.X ok.T (by k_dflt k_is) (by walk_at "vr") (by decide) ?_)
          refine callWith_builtin1 (args_cons (ld_own N hC e2 (args_nil ?_)))
          refine min_list_N rfl F N (isL_N N (.tail _ hmem)) (intsAre_of hv) hrn fun h9 M tM tk9 F9 N9 hM hle => ?_
          exact ⟨h9, tk9, rfl, ⟨hj', hcc, tM, by rw [minL_eq hM hle]⟩, F9, N9⟩
        | false =>
          rw [if_neg Bool.false_ne_true]
          exact ⟨_, _, rfl, hcc, F, N⟩
      case i1 =>
        walk_at "v"
        refine WPCall.len (.tail _ (.tail _ (.tail _ (.head _)))) (by lia) ?_
        walk_at "v"
        rw [hrs]
        refine WPCall.rng fun r t u v hr => ?_
        exact ⟨r, t, u, v, _, rfl, rfl⟩
      case fin =>
        intro D ys k tk2 htk2 hK hD
        refine EndX.sub ((D, _) :: (ga, _) :: (ra, _) :: rest) (sub_cons fun p hp => .tail _ (.tail _ ?_)) ⟨D, ys, k, rfl, rfl, ?_⟩
        · exact sub_cons (sub_cons fun _ h => List.mem_append.mpr (.inr h)) p hp
        · have e : strP rows ring.length 0 = strOut ring.length rows := List.append_nil _
          rw [← e]
          exact hK
end S_V_str

section S_V_ring
open PySem PySem.W PyProof.Rows PySem.Spec PySem.Calls PyProof.Rows.LCg
set_option maxRecDepth 100000
set_option maxHeartbeats 4000000
noncomputable def gap1 (ss ring : List Int) (i : Nat) : Int := ss.getD (ring.getD (i + 1) 0).toNat 0 - ss.getD (ring.getD i 0).toNat 0
noncomputable def gapsOf (ss ring : List Int) : List Int := (List.range (ss.length - 1)).map (gap1 ss ring) ++ [64 - ((List.range (ss.length - 1)).map (gap1 ss ring)).sum]
theorem range_getD {n i : Nat} (h : i < n) : (List.range n).getD i 0 = i := by
  rw [List.getD_eq_getElem?_getD, List.getElem?_range h]; rfl
theorem ring_bound {ring : List Int} {n i : Nat} (h : ring.Perm ((List.range n).map Int.ofNat)) (hi : i < ring.length) : 0 ≤ ring.getD i 0 ∧ ring.getD i 0 < n := by
  obtain ⟨j, hj, e⟩ := List.mem_map.mp (h.mem_iff.mp (getD_mem (d := 0) hi))
  rw [← e]
  exact ⟨Int.natCast_nonneg j, Int.ofNat_lt.mpr (List.mem_range.mp hj)⟩
theorem ring_ok (w : World) {a : Addr} {xs : List Value} {ss : List Int} {n : Nat} {rest : List (Addr × Obj)}
   (hi' : Ints xs ss) (h3 : ss.length ≤ 20) (h4 : 2 ≤ ss.length) (haP : 106 < a) (hrP : ∀ p ∈ rest, 106 < p.1) :
  CallH (fun h => CodeHd h 108 106) w 109 [.ref a] ((106, tabObj #[]) :: (a, listOf xs.toArray n) :: rest) 20 60 (fun r news' => ∃ T D G outL c gv k ring ps, r = .ref T ∧ news' = (T, tupO [.ref D, .ref G]) :: (G, listOf gv.toArray k) :: (D, listOf outL.toArray c) :: (106, tabObj ps) :: (a, listOf xs.toArray n) :: rest ∧ Ints outL ring ∧ Ints gv (gapsOf ss ring) ∧
    ring.Perm ((List.range ss.length).map Int.ofNat) ∧ ring.Pairwise (fun a b => ss.getD a.toNat 0 ≤ ss.getD b.toNat 0) ∧ a < D ∧ D < G ∧ G < T ∧ 106 < D ∧ ∀ p ∈ rest, p.1 < D) := by
  refine' call_VH [] (fun _ _ h k => k.keeps h) ?k1 ?k2 ?k3 ?kK ?kD ?k5 ?k6 ?k7 ?k9 ?_
  walk_at "v enterC"
  intro c tk0 cells _ hccd hH hcl hY hlt
  k_cells hY
  rename_i oS hS
  have hS : oS.data = .cell (some (.ref a)) := hS
  have hl : xs.length = ss.length := hi'.1
  show WPB c _ ⟨_, (c.L + 1, oS) :: (106, tabObj #[]) :: (a, listOf xs.toArray n) :: rest, _⟩ _ _
  have hPL : @LT.lt Nat _ 106 c.L := hlt _ (.head _)
  have ha := hlt _ (.tail _ (.head _))
  have hr0 : ∀ p ∈ rest, p.1 < c.L := fun p hp => hlt p (.tail _ (.tail _ hp))
  walk_at "v"
  refine WPE.callK ⟨fun _ => by k_dflt k_is, by walk_at "vr", by decide⟩ (by walk_at "vr") (by walk_at "vr") (fun _ => by walk_at "vr") (fun _ => by walk_at "vr") ?_
  walk_at "v"
  refine WPE.cell hcl rfl (.head _) hS rfl rfl ?_
  walk_at "v"
  refine WPCall.len (.tail _ (.tail _ (.head _))) (by lia) ?_
  walk_at "v"
  refine WPCall.rng fun r1 t1 t2 t3 hr => ?_
  have hr1 := hr _ (.tail _ (.head _))
  walk_at "v"
  refine WPE.lam hccd hH (.tail (Nat.ne_of_gt hr1) (.tail (Nat.ne_of_gt (Nat.lt_succ_of_lt hPL)) (.head (ne_cons (Nat.ne_of_gt haP) fun p hp => Nat.ne_of_gt (hrP p hp))))) True.intro rfl (by show closureFor _ (envX c.cn _ c.L c.a c.ccd c.cl) = _; rw [hcl]; rfl) rfl ?_
  intro f c' oc vs t ctv tk2 htk2 d1 d2 l1 l2
  walk_at "v"
  refine WPM.sortedL (ss := ss) (.tail _ (.tail _ (.head _))) (by lia) hl.symm (.head _) (.tail _ (.head _)) d1 d2 rfl (.tail _ (.tail _ (.tail _ (.head _)))) hS (.tail _ (.tail _ (.tail _ (.tail _ (.tail _ (.head _)))))) hi' (by decide) (fun _ _ => rfl) rfl rfl rfl rfl rfl (by decide) rfl rfl rfl ?_
  intro D outL k ring tk3 htk3 hlD hRI hRP hRS
  rw [hl] at hRP
  have hD0 := hlD _ (.tail _ (.tail _ (.tail _ (.tail _ (.head _)))))
  have hD1 := hlD _ (.tail _ (.tail _ (.tail _ (.tail _ (.tail _ (.head _))))))
  have hD2 : ∀ p ∈ rest, p.1 < D := fun p hp => hlD p (.tail _ (.tail _ (.tail _ (.tail _ (.tail _ (.tail _ hp))))))
  have hrl : ring.length = ss.length := by rw [hRP.length_eq, List.length_map, List.length_range]
  have hol : outL.length = ss.length := by rw [hRI.1, hrl]
  walk_at "v1"
  refine WPB.ledg (led' := (D, listOf outL.toArray k) :: (c.L + 1, oS) :: (106, _) :: (a, listOf xs.toArray n) :: rest) (sub_cons fun p hp => .tail _ (.tail _ (.tail _ hp))) ?_
  walk_at "v1"
  refine WPS.asgC (by walk_at "vr") (by show closureFor _ (envX c.cn _ c.L c.a c.ccd c.cl) = _; rw [hcl]; rfl) rfl (by decide) ?_ (fun _ _ => by walk_at "vr")
  walk_at "v1"
  walk_at "v1"
  walk_at "v1"
  walk_at "v1"
  refine WPE.from1 rfl rfl rfl (.head _) (by lia) (fun S hSl => ?_) (fun _ _ => rfl) (fun _ _ => rfl)
  walk_at "v"
  refine WPCall.zip (.tail _ (.head _)) (.head _) fun Z st hZ z1 z2 => ?_
  refine WPM.iterZ hZ ?_
  have hsd : ((List.drop 1 outL).length = ss.length - 1) := by rw [List.length_drop, hol]
  refine WPCa.map (n := ss.length - 1) (fun i v => ∃ t, v = .int (gap1 ss ring i) t) (src_zip (n1 := k) (n2 := 0) (xs := outL) (ys := List.drop 1 outL) (l1 := D) (l2 := S) (Z := Z) rfl (by decide) (by rw [hsd, hol]; lia)) (List.forall_mem_cons.mpr ⟨.tail _ (.head _), List.forall_mem_singleton.mpr (.head _)⟩) (by lia) (by decide) rfl hZ (fun q hq p hp => Nat.ne_of_lt (Nat.lt_of_lt_of_le (z1 p hp) (z2 q hq))) rfl ?el ?fin
  case el =>
    intro ok m s htk C oC mC X i s' E' hi hle hC hB F N hlt2
    obtain ⟨hB1, hB2⟩ := hB
    obtain ⟨u1, e1⟩ := hRI.at (show i < ring.length by lia)
    obtain ⟨u2, e2⟩ := hRI.at (show i + 1 < ring.length by lia)
    have e3 : (List.drop 1 outL).getD i Value.none = .int (ring.getD (i + 1) 0) u2 := by
      rw [← e2, List.getD_eq_getElem?_getD, List.getElem?_drop, Nat.add_comm 1 i, List.getD_eq_getElem?_getD]
    rw [e1] at hB1
    rw [e3] at hB2
    obtain ⟨a1, b1⟩ := ring_bound hRP (show i < ring.length by lia)
    obtain ⟨a2, b2⟩ := ring_bound hRP (show i + 1 < ring.length by lia)
    obtain ⟨v1, f1⟩ := hi'.at ((Int.toNat_lt a1).mpr b1)
    obtain ⟨v2, f2⟩ := hi'.at ((Int.toNat_lt a2).mpr b2)
    have hz := Nat.lt_of_le_of_lt (show xs.length ≤ 1000 by lia) (show 1000 < 2 ^ 62 by decide)
    refine wpAny_BinOp (Subscript_ (lcf_cell N rfl (.tail _ (.tail _ (.tail _ (.head _)))) hS (ld_own N hC hB2 (sub_N N (.tail _ (.tail _ (.tail _ (.tail _ (.tail _ (.head _)))))) a2 (by rw [hl]; exact b2) hz ?_ rfl)) rfl rfl))
    rw [f2]
    refine Subscript_ (lcf_cell N rfl (.tail _ (.tail _ (.tail _ (.head _)))) hS (ld_own N hC hB1 (sub_N N (.tail _ (.tail _ (.tail _ (.tail _ (.tail _ (.head _)))))) a1 (by rw [hl]; exact b1) hz ?_ rfl)) rfl rfl)
    rw [f1]
    exact sub_int (eDone (s' := s') ⟨_, rfl⟩ F N)
  case fin =>
    intro G ys k2 tk5 htk5 hy hR hlG
    have hG : Ints ys ((List.range (ss.length - 1)).map (gap1 ss ring)) := by
      refine ⟨by rw [hy, List.length_map, List.length_range], fun i hi => ?_⟩
      have hi3 : i < ss.length - 1 := by rwa [List.length_map, List.length_range] at hi
      obtain ⟨t, e⟩ := hR i hi3
      exact ⟨t, by rw [e, getD_map (d := 0) (by rwa [List.length_range]), range_getD hi3]⟩
    walk_at "v"
    refine WPCall.sum (.head _) hG fun tk6 t6 => ?_
    walk_at "v"
    refine WPM.lst (Nat.le_of_ble_eq_true rfl) fun E hE => ?_
    walk_at "v"
    refine WPBin.cat (.tail _ (.head _)) (.head _) (by rw [hy, List.length_singleton]; lia) fun G2 hG2 => ?_
    walk_at "v"
    refine WPM.tup (Nat.le_of_ble_eq_true rfl) fun T hT => ?_
    exact EndX.sub ((T, _) :: (G2, _) :: (D, _) :: (106, _) :: (a, _) :: rest) (sub_cons (sub_cons fun p hp => .tail _ (.tail _ (.tail _ (sub_cons sub_tail p hp))))) ⟨T, D, G2, outL, k, _, 0, ring, _, rfl, rfl, hRI, hG.snoc, hRP, hRS, hD1, hG2 _ (.tail _ (.tail _ (.tail _ (.head _)))), hT _ (.head _), hD0, hD2⟩
end S_V_ring

section S_V_rgb
open PySem PySem.W PyProof.Rows PySem.Spec PySem.Calls
set_option maxRecDepth 100000
set_option maxHeartbeats 4000000
noncomputable def sext (i M P Qv Tv : Int) : Int × Int × Int := if i = 0 then (M, Tv, P) else if i = 1 then (Qv, M, P) else if i = 2 then (P, M, Tv) else if i = 3 then (P, Qv, M) else if i = 4 then (Tv, P, M) else (M, P, Qv)
/- a fresh triple of floats is handed back -/
noncomputable def Back3 (rest : List (Addr × Obj)) (a b d : Int) (v : Value) (news' : List (Addr × Obj)) : Prop :=
  ∃ D u1 u2 u3, v = .ref D ∧ news' = (D, tupO [.float (fl a) u1, .float (fl b) u2, .float (fl d) u3]) :: rest ∧ 0 < u1 ∧ 0 < u2 ∧ 0 < u3 ∧ ∀ p ∈ rest, p.1 < D
theorem WPM.back3 {cs : Scope} {nd nu : Nat} {c : Amb cs nd nu} {fr : List (Str × Value)} {rest : List (Addr × Obj)} {tk : Nat} {a b d : Int} {t u v : Tok} {Post : Value → List (Addr × Obj) → Prop} (ht : 0 < t) (hu : 0 < u) (hv : 0 < v) (h : ∀ r l, Back3 rest a b d r l → Post r l) :
    WPM c (newTuple [.float (fl a) t, .float (fl b) u, .float (fl d) v]) ⟨fr, rest, tk⟩ fun x st1 => EndX Post (.ret x) st1 := WPM.tup (Nat.le_of_ble_eq_true rfl) fun r hr => EndX.mk (h _ _ ⟨r, t, u, v, rfl, rfl, ht, hu, hv, hr⟩)

theorem rgb_ok (w : World) {H si M H6 P sf Qv sg Tv : Int} {t1 t2 t3 : Tok} {rest : List (Addr × Obj)} (ht1 : 0 < t1) (ht2 : 0 < t2) (ht3 : 0 < t3)
   (hH0 : 0 ≤ H) (hH : Sm 40960 H) (hM0 : 0 ≤ M) (hM : Sm 4096 M) (hs0 : 0 < si) (hs1 : si ≤ 4096) (e6 : Prod3 H 24576 H6 4096) (h60 : 0 ≤ H6) (hH6 : Sm 1000000 H6)
   (e1 : Prod3 M (4096 - si) P 4096) (hP : Sm 4096 P) (e2 : Prod3 si (H6 - H6 / 4096 * 4096) sf 4096) (hsf : 0 ≤ sf ∧ sf ≤ 4096) (e3 : Prod3 M (4096 - sf) Qv 4096) (hQ : Sm 4096 Qv)
   (e4 : Prod3 si (4096 - (H6 - H6 / 4096 * 4096)) sg 4096) (hsg : 0 ≤ sg ∧ sg ≤ 4096) (e5 : Prod3 M (4096 - sg) Tv 4096) (hT : Sm 4096 Tv) :
  Call w 97 [.float (fl H) t1, .float (fl si) t2, .float (fl M) t3] rest 10 40 (Back3 rest (sext (H6 / 4096 % 6) M P Qv Tv).1 (sext (H6 / 4096 % 6) M P Qv Tv).2.1 (sext (H6 / 4096 % 6) M P Qv Tv).2.2) := by
  refine' call_V [(Str.ofString "h", .float (fl H) t1), (Str.ofString "s", .float (fl si) t2), (Str.ofString "v", .float (fl M) t3)] ?k1 ?k2 ?k3 ?k4 ?k5 ?k6 ?k7 ?k8 ?k9 ?_
  walk_at "v enter"
  intro c tk0 _
  have hs0' := Int.le_of_lt hs0
  have hsi : Sm 4096 si := .of hs0' hs1
  have hF : 0 ≤ H6 - H6 / 4096 * 4096 ∧ H6 - H6 / 4096 * 4096 ≤ 4096 := by lia
  have sF : Sm 4096 (H6 - H6 / 4096 * 4096) := .of hF.1 hF.2
  have hj : Sm 1000000 (H6 / 4096) := .of (by lia) (by have : Sm 1000000 H6 := hH6; unfold Sm at this; lia)
  have hm : 0 ≤ H6 / 4096 % 6 ∧ H6 / 4096 % 6 < 6 := by lia
  walk_at "v"
  refine WPS.ite ?_
  walk_at "v"
  refine WPCmp.eqF hsi (.lit 0) (by decide) (by decide) (fun e => absurd e (Int.ne_of_gt hs0)) (fun _ => ?_)
  walk_at "v"
  refine WPBin.mulF e6 hH0 (by decide) hH (.lit 24576) hH6 (by decide) (by decide) (by decide) ?_
  walk_at "v"
  refine WPCall.intF h60 hH6 (by decide) ?_
  walk_at "v"
  refine WPBin.mulF e6 hH0 (by decide) hH (.lit 24576) hH6 (by decide) (by decide) (by decide) ?_
  walk_at "v"
  refine WPBin.subFI hH6 hj (by decide) (by decide) ?_
  walk_at "v"
  refine WPBin.subF (.lit 4096) hsi (by decide) (by decide) ?_
  refine WPBin.mulF e1 hM0 (Int.sub_nonneg_of_le hs1) hM ((Sm.lit 4096).sub hsi) hP (by decide) (by decide) (by decide) ?_
  walk_at "v"
  refine WPBin.mulF e2 hs0' hF.1 hsi sF (.of hsf.1 hsf.2) (by decide) (by decide) (i := 4096) (j := 4096) (k := 4096) (by decide) ?_
  walk_at "v"
  refine WPBin.subF (.lit 4096) (.of hsf.1 hsf.2) (by decide) (j := 4096) (by decide) ?_
  refine WPBin.mulF e3 hM0 (Int.sub_nonneg_of_le hsf.2) hM ((Sm.lit 4096).sub (.of hsf.1 hsf.2)) hQ (by decide) (j := 4096 + 4096) (by decide) (by decide) ?_
  walk_at "v"
  refine WPBin.subF (.lit 4096) sF (by decide) (by decide) ?_
  refine WPBin.mulF e4 hs0' (Int.sub_nonneg_of_le hF.2) hsi ((Sm.lit 4096).sub sF) (.of hsg.1 hsg.2) (k := 4096) (by decide) (by decide) (by decide) ?_
  refine WPBin.subF (.lit 4096) (.of hsg.1 hsg.2) (by decide) (j := 4096) (by decide) ?_
  refine WPBin.mulF e5 hM0 (Int.sub_nonneg_of_le hsg.2) hM ((Sm.lit 4096).sub (.of hsg.1 hsg.2)) hT (by decide) (j := 4096 + 4096) (by decide) (by decide) ?_
  walk_at "v"
  refine WPBin.mod (by decide) ?_
  walk_at "v"
  generalize H6 / 4096 % 6 = z at *
  refine WPS.ite ?_
  walk_at "v"
  refine WPCmp.eqI (fun e => ?_) (fun d0 => ?_)
  · walk_at "v"
    rw [e]
    exact .back3 ht3 (Nat.succ_pos _) (Nat.succ_pos _) fun _ _ h => h
  walk_at "v"
  refine WPS.ite ?_
  walk_at "v"
  refine WPCmp.eqI (fun e => ?_) (fun d1 => ?_)
  · walk_at "v"
    rw [e]
    exact .back3 (Nat.succ_pos _) ht3 (Nat.succ_pos _) fun _ _ h => h
  walk_at "v"
  refine WPS.ite ?_
  walk_at "v"
  refine WPCmp.eqI (fun e => ?_) (fun d2 => ?_)
  · walk_at "v"
    rw [e]
    exact .back3 (Nat.succ_pos _) ht3 (Nat.succ_pos _) fun _ _ h => h
  walk_at "v"
  refine WPS.ite ?_
  walk_at "v"
  refine WPCmp.eqI (fun e => ?_) (fun d3 => ?_)
  · walk_at "v"
    rw [e]
    exact .back3 (Nat.succ_pos _) (Nat.succ_pos _) ht3 fun _ _ h => h
  walk_at "v"
  refine WPS.ite ?_
  walk_at "v"
  refine WPCmp.eqI (fun e => ?_) (fun d4 => ?_)
  · walk_at "v"
    rw [e]
    exact .back3 (Nat.succ_pos _) (Nat.succ_pos _) ht3 fun _ _ h => h
  walk_at "v"
  refine WPS.ite ?_
  walk_at "v"
  refine WPCmp.eqI (fun e => ?_) (fun d5 => ?_)
  · walk_at "v"
    rw [e]
    exact .back3 ht3 (Nat.succ_pos _) (Nat.succ_pos _) fun _ _ h => h
  · exfalso; lia

theorem rgb_grey (w : World) {H M : Int} {t1 t2 t3 : Tok} {rest : List (Addr × Obj)} (ht1 : 0 < t1) (ht2 : 0 < t2) (ht3 : 0 < t3) (hM : Sm 4096 M) :
  Call w 97 [.float (fl H) t1, .float (fl 0) t2, .float (fl M) t3] rest 10 40 (Back3 rest M M M) := by
  refine' call_V [(Str.ofString "h", .float (fl H) t1), (Str.ofString "s", .float (fl 0) t2), (Str.ofString "v", .float (fl M) t3)] ?k1 ?k2 ?k3 ?k4 ?k5 ?k6 ?k7 ?k8 ?k9 ?_
  walk_at "v enter"
  intro c tk0 _
  walk_at "v"
  refine WPS.ite ?_
  walk_at "v"
  refine WPCmp.eqF (.lit 0) (.lit 0) (by decide) (by decide) (fun _ => ?_) (fun e => absurd rfl e)
  walk_at "v"
  exact .back3 ht3 ht3 ht3 fun _ _ h => h
end S_V_rgb

section S_V_hsv
open PySem PySem.W PyProof.Rows PySem.Spec PySem.Calls
set_option maxRecDepth 100000
set_option maxHeartbeats 4000000
/- the hue of a colour: what rgb_to_hsv and rgb_to_hls reckon alike -/
structure HueIn (r g b M mi xc yc zc H : Int) : Prop where
  hM : Max3 r g b M
  hm : Min3 r g b mi
  sr : Sm 4096 r
  sg : Sm 4096 g
  sb : Sm 4096 b
  sM : Sm 4096 M
  sm : Sm 4096 mi
  hR0 : 0 < M - mi
  fr : Prod3 (M - r) 4096 xc (M - mi)
  fg : Prod3 (M - g) 4096 yc (M - mi)
  fb : Prod3 (M - b) 4096 zc (M - mi)
  sx : Sm 4096 xc
  sy : Sm 4096 yc
  sz : Sm 4096 zc
  k1 : r = M → Six (zc - yc) ∧ (zc - yc) / 6 % 4096 = H
  k2 : r ≠ M → g = M → Six (8192 + xc - zc) ∧ (8192 + xc - zc) / 6 % 4096 = H
  k3 : r ≠ M → g ≠ M → Six (16384 + yc - xc) ∧ (16384 + yc - xc) / 6 % 4096 = H
theorem Sm.div6 {i : Nat} {a : Int} (h : Sm i a) : Sm i (a / 6) := Nat.le_trans (Int.natAbs_ediv_le_natAbs a 6) h
theorem hsv_ok (w : World) {r g b M mi xc yc zc si H : Int} {t1 t2 t3 : Tok} {rest : List (Addr × Obj)} (ht1 : 0 < t1) (ht2 : 0 < t2) (ht3 : 0 < t3) (h : HueIn r g b M mi xc yc zc H) (hM0 : 0 < M)
   (es : Prod3 (M - mi) 4096 si M) (ss : Sm 4096 si) :
  Call w 90 [.float (fl r) t1, .float (fl g) t2, .float (fl b) t3] rest 10 40 (Back3 rest H si M) := by
  refine' call_V [(Str.ofString "r", .float (fl r) t1), (Str.ofString "g", .float (fl g) t2), (Str.ofString "b", .float (fl b) t3)] ?k1 ?k2 ?k3 ?k4 ?k5 ?k6 ?k7 ?k8 ?k9 ?_
  walk_at "v enter"
  intro c tk0 _
  obtain ⟨hM, hm, sr, sg, sb, sM, sm, hR0, fr, fg, fb, sx, sy, sz, k1, k2, k3⟩ := h
  have sR := sM.sub sm
  walk_at "v"
  refine WPCall.max3 hM sr sg sb (by decide) ht1 ht2 ht3 fun tk1 tM hM' => ?_
  walk_at "v"
  refine WPCall.min3 hm sr sg sb (by decide) ht1 ht2 ht3 fun tk2 tm _ => ?_
  walk_at "v"
  refine WPBin.subF sM sm (by decide) (by decide) ?_
  walk_at "v"
  refine WPS.ite ?_
  walk_at "v"
  refine WPCmp.eqF sm sM (by decide) (by decide) (fun e => absurd hR0 (by rw [e, Int.sub_self]; decide)) (fun _ => ?_)
  walk_at "v"
  refine WPBin.divF es hM0 sR sM ss (by decide) (by decide) (by decide) ?_
  walk_at "v"
  refine WPBin.subF sM sr (by decide) (by decide) ?_
  walk_at "v"
  refine WPBin.divF fr hR0 (sM.sub sr) sR sx (by decide) (by decide) (by decide) ?_
  walk_at "v"
  refine WPBin.subF sM sg (by decide) (by decide) ?_
  walk_at "v"
  refine WPBin.divF fg hR0 (sM.sub sg) sR sy (by decide) (by decide) (by decide) ?_
  walk_at "v"
  refine WPBin.subF sM sb (by decide) (by decide) ?_
  walk_at "v"
  refine WPBin.divF fb hR0 (sM.sub sb) sR sz (by decide) (by decide) (by decide) ?_
  walk_at "v"
  refine WPS.join (P := Int × Tok × Tok × Nat) (fun p => Six p.1 ∧ p.1 / 6 % 4096 = H ∧ Sm (16384 + 4096 + 4096) p.1 ∧ 0 < p.2.2.1) (fun p => ⟨[(Str.ofString "h", .float (fl p.1) p.2.1), (Str.ofString "s", .float (fl si) p.2.2.1), (Str.ofString "v", .float (fl M) tM)], rest, p.2.2.2⟩) ?_ ?_
  · rintro ⟨x, t, t', tk⟩ ⟨h6, hx, hs, ht'⟩
    dsimp only at *
    walk_at "v"
    refine WPBin.div6F h6 hs (by decide) ?_
    walk_at "v"
    refine WPBin.mod1F (Sm.div6 hs) (by decide) ?_
    rw [hx]
    walk_at "v"
    exact .back3 (Nat.succ_pos _) ht' hM' fun _ _ h => h
  · refine WPS.ite ?_
    walk_at "v"
    refine WPCmp.eqF sr sM (by decide) (by decide) (fun e1 => ?_) (fun e1 => ?_)
    · walk_at "v"
      refine WPBin.subF sz sy (by decide) (by decide) ?_
      walk_at "v"
      exact ⟨(_, _, _, _), ⟨(k1 e1).1, (k1 e1).2, Nat.le_trans (sz.sub sy) (by decide), Nat.succ_pos _⟩, Sub.of rfl rfl rfl⟩
    walk_at "v"
    refine WPS.ite ?_
    walk_at "v"
    refine WPCmp.eqF sg sM (by decide) (by decide) (fun e2 => ?_) (fun e2 => ?_)
    · walk_at "v"
      refine WPBin.addF (.lit 8192) sx (by decide) (by decide) ?_
      walk_at "v"
      refine WPBin.subF ((Sm.lit 8192).add sx) sz (by decide) (by decide) ?_
      walk_at "v"
      exact ⟨(_, _, _, _), ⟨(k2 e1 e2).1, (k2 e1 e2).2, Nat.le_trans (((Sm.lit 8192).add sx).sub sz) (by decide), Nat.succ_pos _⟩, Sub.of rfl rfl rfl⟩
    · walk_at "v"
      refine WPBin.addF (.lit 16384) sy (by decide) (by decide) ?_
      walk_at "v"
      refine WPBin.subF ((Sm.lit 16384).add sy) sx (by decide) (by decide) ?_
      walk_at "v"
      exact ⟨(_, _, _, _), ⟨(k3 e1 e2).1, (k3 e1 e2).2, ((Sm.lit 16384).add sy).sub sx, Nat.succ_pos _⟩, Sub.of rfl rfl rfl⟩

theorem hsv_grey (w : World) {M : Int} {t1 t2 t3 : Tok} {rest : List (Addr × Obj)} (ht1 : 0 < t1) (ht2 : 0 < t2) (ht3 : 0 < t3) (hM : Max3 M M M M) (hm : Min3 M M M M) (sM : Sm 4096 M) :
  Call w 90 [.float (fl M) t1, .float (fl M) t2, .float (fl M) t3] rest 10 40 (Back3 rest 0 0 M) := by
  refine' call_V [(Str.ofString "r", .float (fl M) t1), (Str.ofString "g", .float (fl M) t2), (Str.ofString "b", .float (fl M) t3)] ?k1 ?k2 ?k3 ?k4 ?k5 ?k6 ?k7 ?k8 ?k9 ?_
  walk_at "v enter"
  intro c tk0 _
  walk_at "v"
  refine WPCall.max3 hM sM sM sM (by decide) ht1 ht2 ht3 fun tk1 tM hM' => ?_
  walk_at "v"
  refine WPCall.min3 hm sM sM sM (by decide) ht1 ht2 ht3 fun tk2 tm _ => ?_
  walk_at "v"
  refine WPBin.subF sM sM (by decide) (by decide) ?_
  walk_at "v"
  refine WPS.ite ?_
  walk_at "v"
  refine WPCmp.eqF sM sM (by decide) (by decide) (fun _ => ?_) (fun e => absurd rfl e)
  refine WPB.posit fun hp => ?_
  walk_at "v"
  exact .back3 hp (Nat.succ_pos _) hM' fun _ _ h => h
end S_V_hsv

section S_V_hls
open PySem PySem.W PyProof.Rows PySem.Spec PySem.Calls
set_option maxRecDepth 100000
set_option maxHeartbeats 4000000
/- a fresh triple that begins with this float is handed back -/
noncomputable def Back1 (rest : List (Addr × Obj)) (a : Int) (v : Value) (news' : List (Addr × Obj)) : Prop := ∃ D u1 v2 v3, v = .ref D ∧ news' = (D, tupO [.float (fl a) u1, v2, v3]) :: rest ∧ 0 < u1 ∧ ∀ p ∈ rest, p.1 < D
theorem hls_ok (w : World) {r g b M mi xc yc zc hf H : Int} {t1 t2 t3 : Tok} {rest : List (Addr × Obj)} (ht1 : 0 < t1) (ht2 : 0 < t2) (ht3 : 0 < t3) (h : HueIn r g b M mi xc yc zc H) (h0 : 0 ≤ mi) (hM4 : M ≤ 4096)
   (hl : Prod3 (M + mi) 4096 hf 8192) (shf : Sm 4096 hf) :
  Call w 83 [.float (fl r) t1, .float (fl g) t2, .float (fl b) t3] rest 10 40 (Back1 rest H) := by
  refine' call_V [(Str.ofString "r", .float (fl r) t1), (Str.ofString "g", .float (fl g) t2), (Str.ofString "b", .float (fl b) t3)] ?k1 ?k2 ?k3 ?k4 ?k5 ?k6 ?k7 ?k8 ?k9 ?_
  walk_at "v enter"
  intro c tk0 _
  obtain ⟨hM, hm, sr, sg, sb, sM, sm, hR0, fr, fg, fb, sx, sy, sz, k1, k2, k3⟩ := h
  have sR := sM.sub sm
  have sS := sM.add sm
  walk_at "v"
  refine WPCall.max3 hM sr sg sb (by decide) ht1 ht2 ht3 fun tk1 tM hM' => ?_
  walk_at "v"
  refine WPCall.min3 hm sr sg sb (by decide) ht1 ht2 ht3 fun tk2 tm _ => ?_
  walk_at "v"
  refine WPBin.addF sM sm (by decide) (by decide) ?_
  walk_at "v"
  refine WPBin.subF sM sm (by decide) (by decide) ?_
  walk_at "v"
  refine WPBin.divF hl (by decide) sS (.lit 8192) shf (by decide) (by decide) (by decide) ?_
  walk_at "v"
  refine WPS.ite ?_
  walk_at "v"
  refine WPCmp.eqF sm sM (by decide) (by decide) (fun e => absurd hR0 (by rw [e, Int.sub_self]; decide)) (fun _ => ?_)
  walk_at "v1"
  walk_at "v1"
  refine WPS.join (P := Value × Value × Nat) (fun _ => True) (fun p => ⟨[(Str.ofString "r", .float (fl r) t1), (Str.ofString "g", .float (fl g) t2), (Str.ofString "b", .float (fl b) t3), (Str.ofString "maxc", .float (fl M) tM), (Str.ofString "rangec", .float (fl (M - mi)) (tk2 + 1 + 1 + 1)), (Str.ofString "l", p.1), (Str.ofString "s", p.2.1)], rest, p.2.2⟩) ?_ ?_
  rotate_left
  · refine WPS.ite ?_
    walk_at "v"
    refine WPCmp.leF shf (.lit 2048) (by decide) (by decide) (fun _ => ?_) (fun _ => ?_)
    · walk_at "v"
      refine WPBin.divFx (by lia) sS (by decide) fun x => ?_
      walk_at "v"
      exact ⟨(_, _, _), trivial, Sub.of rfl rfl rfl⟩
    · walk_at "v"
      refine WPBin.subF (.lit 8192) sM (by decide) (by decide) ?_
      walk_at "v"
      refine WPBin.subF ((Sm.lit 8192).sub sM) sm (by decide) (by decide) ?_
      walk_at "v"
      refine WPBin.divFx (by show (8192 : Int) - M - mi ≠ 0; lia) (((Sm.lit 8192).sub sM).sub sm) (by decide) fun x => ?_
      walk_at "v"
      exact ⟨(_, _, _), trivial, Sub.of rfl rfl rfl⟩
  rintro ⟨vl, vs, tk2⟩ _
  dsimp only at *
  walk_at "v"
  refine WPBin.subF sM sr (by decide) (by decide) ?_
  walk_at "v"
  refine WPBin.divF fr hR0 (sM.sub sr) sR sx (by decide) (by decide) (by decide) ?_
  walk_at "v"
  refine WPBin.subF sM sg (by decide) (by decide) ?_
  walk_at "v"
  refine WPBin.divF fg hR0 (sM.sub sg) sR sy (by decide) (by decide) (by decide) ?_
  walk_at "v"
  refine WPBin.subF sM sb (by decide) (by decide) ?_
  walk_at "v"
  refine WPBin.divF fb hR0 (sM.sub sb) sR sz (by decide) (by decide) (by decide) ?_
  walk_at "v"
  refine WPS.join (P := Int × Tok × Nat) (fun p => Six p.1 ∧ p.1 / 6 % 4096 = H ∧ Sm (16384 + 4096 + 4096) p.1) (fun p => ⟨[(Str.ofString "h", .float (fl p.1) p.2.1), (Str.ofString "l", vl), (Str.ofString "s", vs)], rest, p.2.2⟩) ?_ ?_
  · rintro ⟨x, t, tk⟩ ⟨h6, hx, hs⟩
    dsimp only at *
    walk_at "v"
    refine WPBin.div6F h6 hs (by decide) ?_
    walk_at "v"
    refine WPBin.mod1F (Sm.div6 hs) (by decide) ?_
    rw [hx]
    walk_at "v"
    refine WPM.tup (Nat.le_of_ble_eq_true rfl) fun r hr => EndX.mk ⟨r, _, _, _, rfl, rfl, Nat.succ_pos _, hr⟩
  · refine WPS.ite ?_
    walk_at "v"
    refine WPCmp.eqF sr sM (by decide) (by decide) (fun e1 => ?_) (fun e1 => ?_)
    · walk_at "v"
      refine WPBin.subF sz sy (by decide) (by decide) ?_
      walk_at "v"
      exact ⟨(_, _, _), ⟨(k1 e1).1, (k1 e1).2, Nat.le_trans (sz.sub sy) (by decide)⟩, Sub.of rfl rfl rfl⟩
    walk_at "v"
    refine WPS.ite ?_
    walk_at "v"
    refine WPCmp.eqF sg sM (by decide) (by decide) (fun e2 => ?_) (fun e2 => ?_)
    · walk_at "v"
      refine WPBin.addF (.lit 8192) sx (by decide) (by decide) ?_
      walk_at "v"
      refine WPBin.subF ((Sm.lit 8192).add sx) sz (by decide) (by decide) ?_
      walk_at "v"
      exact ⟨(_, _, _), ⟨(k2 e1 e2).1, (k2 e1 e2).2, Nat.le_trans (((Sm.lit 8192).add sx).sub sz) (by decide)⟩, Sub.of rfl rfl rfl⟩
    · walk_at "v"
      refine WPBin.addF (.lit 16384) sy (by decide) (by decide) ?_
      walk_at "v"
      refine WPBin.subF ((Sm.lit 16384).add sy) sx (by decide) (by decide) ?_
      walk_at "v"
      exact ⟨(_, _, _), ⟨(k3 e1 e2).1, (k3 e1 e2).2, ((Sm.lit 16384).add sy).sub sx⟩, Sub.of rfl rfl rfl⟩

theorem hls_grey (w : World) {M : Int} {t1 t2 t3 : Tok} {rest : List (Addr × Obj)} (ht1 : 0 < t1) (ht2 : 0 < t2) (ht3 : 0 < t3) (hM : Max3 M M M M) (hm : Min3 M M M M) (sM : Sm 4096 M) (hl : Prod3 (M + M) 4096 M 8192) :
  Call w 83 [.float (fl M) t1, .float (fl M) t2, .float (fl M) t3] rest 10 40 (Back1 rest 0) := by
  refine' call_V [(Str.ofString "r", .float (fl M) t1), (Str.ofString "g", .float (fl M) t2), (Str.ofString "b", .float (fl M) t3)] ?k1 ?k2 ?k3 ?k4 ?k5 ?k6 ?k7 ?k8 ?k9 ?_
  walk_at "v enter"
  intro c tk0 _
  walk_at "v"
  refine WPCall.max3 hM sM sM sM (by decide) ht1 ht2 ht3 fun tk1 tM hM' => ?_
  walk_at "v"
  refine WPCall.min3 hm sM sM sM (by decide) ht1 ht2 ht3 fun tk2 tm _ => ?_
  walk_at "v"
  refine WPBin.addF sM sM (by decide) (by decide) ?_
  walk_at "v"
  refine WPBin.subF sM sM (by decide) (by decide) ?_
  walk_at "v"
  refine WPBin.divF hl (by decide) (sM.add sM) (.lit 8192) sM (by decide) (by decide) (by decide) ?_
  walk_at "v"
  refine WPS.ite ?_
  walk_at "v"
  refine WPCmp.eqF sM sM (by decide) (by decide) (fun _ => ?_) (fun e => absurd rfl e)
  walk_at "v"
  refine WPM.tup (Nat.le_of_ble_eq_true rfl) fun r hr => EndX.mk ⟨r, _, _, _, rfl, rfl, Nat.succ_pos _, hr⟩
end S_V_hls

section S_V_cc
set_option maxRecDepth 100000
open PySem PySem.W PyProof.Rows PySem.Spec PySem.Calls

noncomputable def spotOf (n : Int) : Int := if n / 64 % 9 * (n / 576 % 9) > 0 then n % 64 else 0
noncomputable def siOf (n : Int) : Int := if n / 64 % 9 * (n / 576 % 9) > 0 then 512 * (n / 64 % 9) else 0
noncomputable def mOf (n : Int) : Int := 512 * (n / 576 % 9)

/- a colour that is no grey -/
structure Col (n k l sh q f0 f1 f2 : Int) : Prop where
  hk : n % 64 = k
  hl : 1 ≤ l ∧ l ≤ 8
  hs : 1 ≤ sh ∧ sh ≤ 8
  hq : l * sh = q
  q1 : 1 ≤ q
  q2 : 64 * q ≤ 512 * l
  hue : Hue k f0 f1 f2
  c0 : chan n 0 = 512 * l - q * f0
  c1 : chan n 128 = 512 * l - q * f1
  c2 : chan n 256 = 512 * l - q * f2
  sp : spotOf n = k
  si : siOf n = 512 * sh
  m : mOf n = 512 * l
theorem col_of {n : Int} (h : n / 64 % 9 * (n / 576 % 9) > 0) : ∃ k l sh q f0 f1 f2, Col n k l sh q f0 f1 f2 := by
  have h1 : 0 ≤ n / 64 % 9 ∧ n / 64 % 9 ≤ 8 := by lia
  have h2 : 0 ≤ n / 576 % 9 ∧ n / 576 % 9 ≤ 8 := by lia
  have h3 : 1 ≤ n / 64 % 9 := by
    rcases Int.lt_or_eq_of_le h1.1 with h' | h'
    · lia
    · rw [← h', Int.zero_mul] at h; lia
  have h4 : 1 ≤ n / 576 % 9 := by
    rcases Int.lt_or_eq_of_le h2.1 with h' | h'
    · lia
    · rw [← h', Int.mul_zero] at h; lia
  refine ⟨n % 64, n / 576 % 9, n / 64 % 9, _, _, _, _, rfl, ⟨h4, h2.2⟩, ⟨h3, h1.2⟩, rfl, ?_, ?_, hue_of (by lia) (by lia), chan_eq n 0, chan_eq n 128, chan_eq n 256, ?_, ?_, rfl⟩
  · rw [Int.mul_comm]; lia
  · have := Int.mul_le_mul_of_nonneg_left h1.2 h2.1
    lia
  · unfold spotOf; rw [if_pos h]
  · unfold siOf; rw [if_pos h]
theorem grey_of {n : Int} (h : ¬ n / 64 % 9 * (n / 576 % 9) > 0) : (∀ c, chan n c = mOf n) ∧ spotOf n = 0 ∧ siOf n = 0 ∧ 0 ≤ mOf n ∧ mOf n ≤ 4096 := by
  have h1 : 0 ≤ n / 64 % 9 ∧ n / 64 % 9 ≤ 8 := by lia
  have h2 : 0 ≤ n / 576 % 9 ∧ n / 576 % 9 ≤ 8 := by lia
  have h3 := Int.mul_nonneg h1.1 h2.1
  have h4 : n / 576 % 9 * (n / 64 % 9) = 0 := by rw [Int.mul_comm]; lia
  refine ⟨fun c => ?_, ?_, ?_, ?_, ?_⟩
  · rw [chan_eq, h4]; unfold mOf; lia
  · unfold spotOf; rw [if_neg h]
  · unfold siOf; rw [if_neg h]
  · unfold mOf; lia
  · unfold mOf; lia
theorem max3 {a b c d : Int} (h : max (max a b) c = d) : Max3 a b c d := by unfold Max3; exact h
theorem min3 {a b c d : Int} (h : min (min a b) c = d) : Min3 a b c d := by unfold Min3; exact h
theorem six {a : Int} (h : a % 6 = 0) : Six a := by unfold Six; exact h

section
variable {n k l sh q f0 f1 f2 : Int}
theorem Col.prod (h : Col n k l sh q f0 f1 f2) : (0 ≤ q * f0 ∧ q * f0 ≤ 64 * q) ∧ (0 ≤ q * f1 ∧ q * f1 ≤ 64 * q) ∧ (0 ≤ q * f2 ∧ q * f2 ≤ 64 * q) := by
  have hq := h.q1
  refine ⟨⟨Int.mul_nonneg (by lia) h.hue.b0.1, ?_⟩, ⟨Int.mul_nonneg (by lia) h.hue.b1.1, ?_⟩, ⟨Int.mul_nonneg (by lia) h.hue.b2.1, ?_⟩⟩
  · have := Int.mul_le_mul_of_nonneg_left h.hue.b0.2 (show 0 ≤ q by lia); lia
  · have := Int.mul_le_mul_of_nonneg_left h.hue.b1.2 (show 0 ≤ q by lia); lia
  · have := Int.mul_le_mul_of_nonneg_left h.hue.b2.2 (show 0 ≤ q by lia); lia
theorem Col.is0 (h : Col n k l sh q f0 f1 f2) : (512 * l - q * f0 = 512 * l ↔ f0 = 0) ∧ (512 * l - q * f1 = 512 * l ↔ f1 = 0) := by
  have hq := h.q1
  have key : ∀ f : Int, 512 * l - q * f = 512 * l ↔ f = 0 := fun f => by
    constructor
    · intro e
      have : q * f = 0 := by lia
      rcases Int.mul_eq_zero.mp this with h' | h'
      · lia
      · exact h'
    · rintro rfl; rw [Int.mul_zero]; lia
  exact ⟨key _, key _⟩
theorem Col.max (h : Col n k l sh q f0 f1 f2) : Max3 (512 * l - q * f0) (512 * l - q * f1) (512 * l - q * f2) (512 * l) := by
  obtain ⟨a, b, c⟩ := h.prod
  apply max3
  rcases h.hue.zero with e | e | e <;> rw [e, Int.mul_zero] at * <;> lia
theorem Col.min (h : Col n k l sh q f0 f1 f2) : Min3 (512 * l - q * f0) (512 * l - q * f1) (512 * l - q * f2) (512 * l - 64 * q) := by
  obtain ⟨a, b, c⟩ := h.prod
  apply min3
  rcases h.hue.top with e | e | e <;> rw [e, Int.mul_comm q 64] at * <;> lia
theorem Col.dist (f : Int) : Prod3 (q * f) 4096 (64 * f) (64 * q) := by
  apply prod3
  rw [Int.mul_comm q f, Int.mul_assoc, Int.mul_comm 64 f, Int.mul_assoc]
  congr 1
  lia
theorem Col.hueM (h : Col n k l sh q f0 f1 f2) : (if 512 * l - q * f0 = 512 * l then 64 * f2 - 64 * f1 else if 512 * l - q * f1 = 512 * l then 8192 + 64 * f0 - 64 * f2 else 16384 + 64 * f1 - 64 * f0) / 6 % 4096 = 64 * k := by
  rw [← h.hue.hue]
  simp only [h.is0.1, h.is0.2]
theorem Col.sat (h : Col n k l sh q f0 f1 f2) : Prod3 (64 * q) 4096 (512 * sh) (512 * l) := by
  apply prod3
  rw [← h.hq, show (512 * sh) * (512 * l) = (512 * 512) * (l * sh) by rw [Int.mul_assoc, Int.mul_left_comm sh 512 l, ← Int.mul_assoc, Int.mul_comm sh l]]
  lia
end

section
variable {n k l sh q f0 f1 f2 : Int}
theorem Col.chanSm (h : Col n k l sh q f0 f1 f2) {f : Int} (b : 0 ≤ f ∧ f ≤ 64) : Sm 4096 (512 * l - q * f) := by
  have h1 := h.q1
  have h2 := h.q2
  have h3 := h.hl
  have a := Int.mul_nonneg (show 0 ≤ q by lia) b.1
  have d := Int.mul_le_mul_of_nonneg_left b.2 (show 0 ≤ q by lia)
  exact .of (by lia) (by lia)
theorem Sm.f64 {f : Int} (b : 0 ≤ f ∧ f ≤ 64) : Sm 4096 (64 * f) := .of (by lia) (by lia)
theorem Col.dist' (M f : Int) : Prod3 (M - (M - q * f)) 4096 (64 * f) (M - (M - 64 * q)) := by
  rw [Int.sub_sub_self, Int.sub_sub_self]; exact Col.dist _
theorem Col.hin (c : Col n k l sh q f0 f1 f2) : HueIn (512 * l - q * f0) (512 * l - q * f1) (512 * l - q * f2) (512 * l) (512 * l - 64 * q) (64 * f0) (64 * f1) (64 * f2) (64 * k) := by
  have hu := c.hue
  have e := c.hueM
  refine ⟨c.max, c.min, c.chanSm hu.b0, c.chanSm hu.b1, c.chanSm hu.b2, ?_, ?_, ?_, Col.dist' _ _, Col.dist' _ _, Col.dist' _ _, .f64 hu.b0, .f64 hu.b1, .f64 hu.b2, fun e1 => ?_, fun e1 e2 => ?_, fun e1 e2 => ?_⟩
  · have := c.chanSm (f := 0) (by decide)
    rwa [Int.mul_zero, Int.sub_zero] at this
  · have := c.chanSm (f := 64) (by decide)
    rwa [Int.mul_comm q] at this
  · rw [Int.sub_sub_self]
    have := c.q1
    lia
  · rw [if_pos e1] at e
    exact ⟨six (hu.s0 (c.is0.1.mp e1)), e⟩
  · rw [if_neg e1, if_pos e2] at e
    exact ⟨six (hu.s1 (fun q => e1 (c.is0.1.mpr q)) (c.is0.2.mp e2)), e⟩
  · rw [if_neg e1, if_neg e2] at e
    exact ⟨six (hu.s2 (fun q => e1 (c.is0.1.mpr q)) (fun q => e2 (c.is0.2.mpr q))), e⟩
end

theorem hsv_col (w : World) {n : Int} {t1 t2 t3 : Tok} {rest : List (Addr × Obj)} (ht1 : 0 < t1) (ht2 : 0 < t2) (ht3 : 0 < t3) :
  Call w 90 [.float (fl (chan n 0)) t1, .float (fl (chan n 128)) t2, .float (fl (chan n 256)) t3] rest 10 40 (Back3 rest (64 * spotOf n) (siOf n) (mOf n)) := by
  by_cases h : n / 64 % 9 * (n / 576 % 9) > 0
  · obtain ⟨k, l, sh, q, f0, f1, f2, c⟩ := col_of h
    have hl := c.hl
    have hs := c.hs
    rw [c.c0, c.c1, c.c2, c.sp, c.si, c.m]
    exact hsv_ok w ht1 ht2 ht3 c.hin (by lia) (by rw [Int.sub_sub_self]; exact c.sat) (.of (by lia) (by lia))
  · obtain ⟨hc, hsp, hsi, hm⟩ := grey_of h
    rw [hc, hc, hc, hsp, hsi]
    exact hsv_grey w ht1 ht2 ht3 (max3 (by lia)) (min3 (by lia)) (.of hm.1 hm.2)

theorem hls_col (w : World) {n : Int} {t1 t2 t3 : Tok} {rest : List (Addr × Obj)} (ht1 : 0 < t1) (ht2 : 0 < t2) (ht3 : 0 < t3) :
  Call w 83 [.float (fl (chan n 0)) t1, .float (fl (chan n 128)) t2, .float (fl (chan n 256)) t3] rest 10 40 (Back1 rest (64 * spotOf n)) := by
  by_cases h : n / 64 % 9 * (n / 576 % 9) > 0
  · obtain ⟨k, l, sh, q, f0, f1, f2, c⟩ := col_of h
    have hl := c.hl
    have hq := c.q1
    have hq2 := c.q2
    rw [c.c0, c.c1, c.c2, c.sp]
    exact hls_ok w (hf := 512 * l - 32 * q) ht1 ht2 ht3 c.hin (by lia) (by lia) (prod3 (by lia)) (.of (by lia) (by lia))
  · obtain ⟨hc, hsp, hsi, hm⟩ := grey_of h
    rw [hc, hc, hc, hsp]
    exact hls_grey w ht1 ht2 ht3 (max3 (by lia)) (min3 (by lia)) (.of hm.1 hm.2) (prod3 (by lia))

/- back from the hue, j turns round the circle -/
theorem rgb_col (w : World) {n H j : Int} {t1 t2 t3 : Tok} {rest : List (Addr × Obj)} (ht1 : 0 < t1) (ht2 : 0 < t2) (ht3 : 0 < t3) (hH : H = 64 * spotOf n + 4096 * j) (hj : 0 ≤ j ∧ j ≤ 3) :
  Call w 97 [.float (fl H) t1, .float (fl (siOf n)) t2, .float (fl (mOf n)) t3] rest 10 40 (Back3 rest (chan n 0) (chan n 128) (chan n 256)) := by
  by_cases h : n / 64 % 9 * (n / 576 % 9) > 0
  · obtain ⟨k, l, sh, q, f0, f1, f2, c⟩ := col_of h
    obtain ⟨p0, p1, p2⟩ := c.prod
    have hl := c.hl
    have hs := c.hs
    have hq := c.q1
    have hq2 := c.q2
    have hu := c.hue
    have b0 := hu.b0
    have b1 := hu.b1
    have b2 := hu.b2
    have hk := c.hk
    rw [c.c0, c.c1, c.c2, c.si, c.m]
    rw [c.sp] at hH
    have hk2 : 0 ≤ k ∧ k < 64 := by lia
    have e1 : (6 * H) / 4096 = 6 * k / 64 + 6 * j := by lia
    have e2 : 6 * H - (6 * H) / 4096 * 4096 = 64 * (6 * k % 64) := by lia
    have e3 : (6 * H) / 4096 % 6 = 6 * k / 64 := by lia
    generalize hz : 6 * k % 64 = z at *
    have hz2 : 0 ≤ z ∧ z ≤ 64 := by lia
    have m1 : 0 ≤ sh * z ∧ sh * z ≤ 8 * 64 := ⟨Int.mul_nonneg (by lia) hz2.1, Int.mul_le_mul hs.2 hz2.2 hz2.1 (by decide)⟩
    have m2 : 0 ≤ sh * (64 - z) ∧ sh * (64 - z) ≤ 8 * 64 := ⟨Int.mul_nonneg (by lia) (by lia), Int.mul_le_mul hs.2 (by lia) (by lia) (by decide)⟩
    have hlq : ∀ z : Int, 512 * l * (4096 - 8 * (sh * z)) = (512 * l - q * z) * 4096 := fun z => by
      rw [← c.hq, Int.mul_sub, Int.sub_mul, show 512 * l * (8 * (sh * z)) = l * sh * z * 4096 by
        rw [Int.mul_assoc l sh z, Int.mul_assoc 512 l, Int.mul_left_comm l 8 (sh * z), ← Int.mul_assoc 512 8, Int.mul_comm (512 * 8)]; rfl]
    have sl : Sm 4096 (512 * l) := .of (by lia) (by lia)
    have R := rgb_ok w (H := H) (si := 512 * sh) (M := 512 * l) (H6 := 6 * H) (P := 512 * l - 64 * q) (sf := 8 * (sh * z)) (Qv := 512 * l - q * z) (sg := 8 * (sh * (64 - z))) (Tv := 512 * l - q * (64 - z)) (rest := rest) ht1 ht2 ht3
      (by lia) (.of (by lia) (by lia)) (by lia) sl (by lia) (by lia) (prod3 (by lia)) (by lia) (.of (by lia) (by lia))
      (prod3 (by have := hlq 64; rw [Int.mul_comm q 64] at this; rw [← this]; congr 1; lia)) (.of (by lia) (by lia))
      (prod3 (by rw [e2, show 512 * sh * (64 * z) = (512 * 64) * (sh * z) by rw [Int.mul_assoc, Int.mul_left_comm sh 64 z, ← Int.mul_assoc]]; lia)) (by lia)
      (prod3 (hlq z)) (c.chanSm hz2)
      (prod3 (by rw [e2, show 4096 - 64 * z = 64 * (64 - z) by lia, show 512 * sh * (64 * (64 - z)) = (512 * 64) * (sh * (64 - z)) by rw [Int.mul_assoc, Int.mul_left_comm sh 64 (64 - z), ← Int.mul_assoc]]; lia)) (by lia)
      (prod3 (hlq (64 - z))) (c.chanSm (by lia))
    have hb := hu.back
    rw [hz] at hb
    have key : sext ((6 * H) / 4096 % 6) (512 * l) (512 * l - 64 * q) (512 * l - q * z) (512 * l - q * (64 - z)) = (512 * l - q * f0, 512 * l - q * f1, 512 * l - q * f2) := by
      rw [e3]
      unfold sext
      have h64 : 64 * q = q * 64 := Int.mul_comm _ _
      have h0 : 512 * l = 512 * l - q * 0 := by rw [Int.mul_zero]; lia
      repeat' split at hb
      · rename_i e; obtain ⟨r0, r1, r2⟩ := hb; rw [if_pos e, r0, r1, r2, h64, ← h0]
      · rename_i d0 e; obtain ⟨r0, r1, r2⟩ := hb; rw [if_neg d0, if_pos e, r0, r1, r2, h64, ← h0]
      · rename_i d0 d1 e; obtain ⟨r0, r1, r2⟩ := hb; rw [if_neg d0, if_neg d1, if_pos e, r0, r1, r2, h64, ← h0]
      · rename_i d0 d1 d2 e; obtain ⟨r0, r1, r2⟩ := hb; rw [if_neg d0, if_neg d1, if_neg d2, if_pos e, r0, r1, r2, h64, ← h0]
      · rename_i d0 d1 d2 d3 e; obtain ⟨r0, r1, r2⟩ := hb; rw [if_neg d0, if_neg d1, if_neg d2, if_neg d3, if_pos e, r0, r1, r2, h64, ← h0]
      · rename_i d0 d1 d2 d3 e; obtain ⟨r0, r1, r2⟩ := hb; rw [if_neg d0, if_neg d1, if_neg d2, if_neg d3, if_neg e, r0, r1, r2, h64, ← h0]
    rw [key] at R
    exact R
  · obtain ⟨hc, hsp, hsi, hm⟩ := grey_of h
    rw [hc, hc, hc, hsi]
    exact rgb_grey w ht1 ht2 ht3 (.of hm.1 hm.2)
end S_V_cc

section S_V_col
open PySem PySem.W PyProof.Rows PySem.Spec PySem.Calls
set_option maxRecDepth 100000
set_option maxHeartbeats 4000000
theorem chan_small (n c : Int) : Sm 4096 (chan n c) := .of (chan_bound n c).1 (chan_bound n c).2
theorem Fls.len {ps : List Value} {as : List Int} (h : Fls ps as) : ps.length = as.length := h.1
theorem colour_ok (w : World) {n : Int} {t1 : Tok} {rest : List (Addr × Obj)} :
  Call w 104 [.int n t1] rest 10 40 (fun v news' => ∃ D T u1 u2 u3 u4, v = .ref D ∧
    news' = (D, tupO [.ref T, .int (if n / 64 % 9 * (n / 576 % 9) > 0 then n % 64 else 0) u4]) :: (T, tupO [.float (fl (chan n 0)) u1, .float (fl (chan n 128)) u2, .float (fl (chan n 256)) u3]) :: rest ∧ 0 < u1 ∧ 0 < u2 ∧ 0 < u3 ∧ T < D ∧ ∀ p ∈ rest, p.1 < T) := by
  refine' call_V [(Str.ofString "number", .int n t1)] ?k1 ?k2 ?k3 ?k4 ?k5 ?k6 ?k7 ?k8 ?k9 ?_
  walk_at "v enter"
  intro c tk0 _
  walk_at "v1"
  refine WPS.asgSwT [Str.ofString "hue", Str.ofString "share", Str.ofString "level"] ?_ (fun _ _ => by walk_at "vr") (by walk_at "vr")
  walk_at "v"
  refine WPBin.mod (by decide) ?_
  walk_at "v"
  refine WPBin.mul (by lia) ?_
  walk_at "v"
  refine WPBin.fdiv (by decide) (by decide) ?_
  walk_at "v"
  refine WPBin.mod (by decide) ?_
  walk_at "v"
  refine WPBin.fdiv (by decide) (by decide) ?_
  walk_at "v"
  refine WPBin.mod (by decide) ?_
  walk_at "v"
  refine ⟨rfl, Nat.le_of_ble_eq_true rfl, ?_⟩
  walk_at "v"
  refine WPM.lst (Nat.le_of_ble_eq_true rfl) fun l0 hl0 => ?_
  walk_at "v"
  refine WPM.tup (Nat.le_of_ble_eq_true rfl) fun D0 hD0 => ?_
  refine WPM.iterT (.head _) fun I o hIt hI => ?_
  have hDl := Nat.ne_of_gt (hD0 _ (.head _))
  have hIl := Nat.ne_of_gt (hI _ (.tail _ (.head _)))
  have hl : ∀ p ∈ rest, p.1 ≠ l0 := fun p hp => Nat.ne_of_lt (hl0 p hp)
  have hDI := Nat.ne_of_lt (hI _ (.head _))
  have hlI := Nat.ne_of_lt (hI _ (.tail _ (.head _)))
  have hIs : ∀ (vs : List Value) (k : Nat) (x : Obj), ∀ p ∈ (D0, x) :: (l0, listOf vs.toArray k) :: rest, p.1 ≠ I := fun vs k x =>
    List.forall_mem_cons.mpr ⟨hDI, List.forall_mem_cons.mpr ⟨hlI, fun p hp => Nat.ne_of_lt (hI p (.tail _ (.tail _ hp)))⟩⟩
  refine WPFor.mk (P := List Value × Nat × Obj × Nat) 3 (fun i p => TupIt p.2.2.1 D0 i ∧ Fls p.1 (([0, 128, 256].take i).map (chan n)))
    (fun i p => ⟨[(Str.ofString "parts", .ref l0), (Str.ofString "hue", .int (n % 64 * 6) (tk0 + 3)), (Str.ofString "share", .int (n / 64 % 9) (tk0 + 7)), (Str.ofString "level", .int (n / 576 % 9) (tk0 + 11)), (Str.ofString "number", .int n t1)],
      (I, p.2.2.1) :: (D0, tupO [.int 0 (tk0 + 16), .int 128 (tk0 + 17), .int 256 (tk0 + 18)]) :: (l0, listOf p.1.toArray p.2.1) :: rest, p.2.2.2⟩) ([], 0, o, _) ⟨hIt, .nil⟩ (Sub.of rfl rfl rfl) ?_ ?_ (fun _ => rfl)
  · rintro i ⟨ps, k, o, tk⟩ hi ⟨hIt, hJ⟩
    dsimp only at *
    have hlen : ps.length ≤ 1000 := by rw [hJ.len, List.length_map]; exact Nat.le_trans (List.length_take_le _ _) (by lia)
    refine WPNext.tup hIt (.head _) hi (hIs _ _ _) fun o' hIt' => ?_
    obtain ⟨tc, hv⟩ : ∃ tc, ([.int 0 (tk0 + 16), .int 128 (tk0 + 17), .int 256 (tk0 + 18)] : List Value).getD i .none = .int (128 * i) tc :=
      lt3 (P := fun i => ∃ tc, ([.int 0 (tk0 + 16), .int 128 (tk0 + 17), .int 256 (tk0 + 18)] : List Value).getD i .none = .int (128 * i) tc) ⟨_, rfl⟩ ⟨_, rfl⟩ ⟨_, rfl⟩ i hi
    rw [hv]
    walk_at "v"
    refine WPBin.mod (by decide) ?_
    walk_at "v"
    refine WPCall.minI fun _ _ => ?_
    walk_at "v"
    refine WPCall.maxI fun _ _ => ?_
    walk_at "v"
    refine WPCall.minI fun _ _ => ?_
    walk_at "v"
    refine ⟨.mk (.tail _ (.tail _ (.head _))), ?_⟩
    walk_at "v"
    refine WPBin.mul (by lia) ?_
    walk_at "v"
    refine WPBin.mul (by lia) ?_
    walk_at "v"
    refine WPBin.div4096 (a := chan n (128 * i)) (chan_small _ _) (by decide) ?_
    refine WPCall.app (.tail hIl (.tail hDl (.head hl))) hlen ?_
    walk_at "v"
    refine ⟨(ps ++ [_], _, o', _), ⟨hIt', ?_⟩, Sub.of rfl rfl rfl⟩
    have e : ([0, 128, 256].take (i + 1)).map (chan n) = ([0, 128, 256].take i).map (chan n) ++ [chan n (128 * i)] :=
      lt3 (P := fun i => ([0, 128, 256].take (i + 1)).map (chan n) = ([0, 128, 256].take i).map (chan n) ++ [chan n (128 * i)]) rfl rfl rfl i hi
    rw [e]
    exact hJ.snoc (Nat.succ_pos _)
  · rintro ⟨ps, k, o, tk⟩ ⟨hIt, hJ⟩
    dsimp only at *
    refine WPLast.tup hIt (.head _) (Nat.le_refl _) (hIs _ _ _) ?_
    obtain ⟨v1, v2, v3, hv1, hv2, hv3, rfl⟩ := Fls.three hJ
    walk_at "v"
    refine WPCall.tup (.tail _ (.head _)) (Nat.le_of_ble_eq_true rfl) fun T hT => ?_
    walk_at "v"
    refine WPE.ifexp ?_
    walk_at "v"
    refine WPBin.mul (by lia) ?_
    walk_at "v"
    refine WPCmp.gtI (fun e => ?_) (fun e => ?_)
    · walk_at "v"
      refine WPBin.mod (by decide) ?_
      walk_at "v"
      refine WPM.tup (Nat.le_of_ble_eq_true rfl) fun D hD => ?_
      exact EndX.sub ((D, _) :: (T, _) :: rest) (List.forall_mem_cons.mpr ⟨.head _, List.forall_mem_cons.mpr ⟨.tail _ (.head _), fun p hp => .tail _ (.tail _ (.tail _ (.tail _ hp)))⟩⟩) ⟨D, T, v1, v2, v3, _, rfl, by rw [if_pos e], hv1, hv2, hv3, hD _ (.head _), fun p hp => hT p (.tail _ (.tail _ hp))⟩
    · walk_at "v"
      refine WPM.tup (Nat.le_of_ble_eq_true rfl) fun D hD => ?_
      exact EndX.sub ((D, _) :: (T, _) :: rest) (List.forall_mem_cons.mpr ⟨.head _, List.forall_mem_cons.mpr ⟨.tail _ (.head _), fun p hp => .tail _ (.tail _ (.tail _ (.tail _ hp)))⟩⟩) ⟨D, T, v1, v2, v3, _, rfl, by rw [if_neg (Int.not_lt.mpr e)], hv1, hv2, hv3, hD _ (.head _), fun p hp => hT p (.tail _ (.tail _ hp))⟩
end S_V_col

section S_V_round
open PySem PySem.W PyProof.Rows PySem.Spec PySem.Calls
set_option maxRecDepth 100000
set_option maxHeartbeats 4000000
/- the colours' tuples -/
noncomputable def Cols (rest : List (Addr × Obj)) (cs : List Value) (ns : List Int) : Prop :=
  cs.length = ns.length ∧ ∀ i, i < ns.length → ∃ T t u v, cs.getD i .none = .ref T ∧ 0 < t ∧ 0 < u ∧ 0 < v ∧ (T, tupO [.float (fl (chan (ns.getD i 0) 0)) t, .float (fl (chan (ns.getD i 0) 128)) u, .float (fl (chan (ns.getD i 0) 256)) v]) ∈ rest
noncomputable def sp (ns : List Int) (i : Int) : Int := spotOf (ns.getD i.toNat 0)
theorem spot_bound (n : Int) : 0 ≤ spotOf n ∧ spotOf n < 64 := by unfold spotOf; split <;> lia
/- gs are the gaps of the ring -/
structure Gaps (ns ring gs : List Int) : Prop where
  pos : 0 < ring.length
  len : gs.length = ring.length
  idx : ∀ k, k < ring.length → 0 ≤ ring.getD k 0 ∧ ring.getD k 0 < ns.length
  step : ∀ k, k + 1 < ring.length → sp ns (ring.getD (k + 1) 0) = sp ns (ring.getD k 0) + gs.getD k 0
  last : sp ns (ring.getD 0 0) + 64 = sp ns (ring.getD (ring.length - 1) 0) + gs.getD (ring.length - 1) 0
theorem Gaps.next {ns ring gs : List Int} (h : Gaps ns ring gs) (i : Nat) :
    64 * sp ns (ring.getD (i % ring.length) 0) + 4096 * ((i / ring.length : Nat) : Int) + 64 * gs.getD (i % ring.length) 0 = 64 * sp ns (ring.getD ((i + 1) % ring.length) 0) + 4096 * (((i + 1) / ring.length : Nat) : Int) := by
  have hp := h.pos
  by_cases hc : i % ring.length + 1 < ring.length
  · have e1 : (i + 1) % ring.length = i % ring.length + 1 := by
      rw [Nat.add_mod, Nat.mod_eq_of_lt (show 1 < ring.length by lia), Nat.mod_eq_of_lt hc]
    have e2 : (i + 1) / ring.length = i / ring.length := by
      have h1 := Nat.div_add_mod i ring.length
      have h2 := Nat.div_add_mod (i + 1) ring.length
      rw [e1] at h2
      have h3 : ring.length * (i / ring.length) = ring.length * ((i + 1) / ring.length) := by lia
      exact (Nat.eq_of_mul_eq_mul_left hp h3).symm
    rw [e1, e2]
    have := h.step (i % ring.length) hc
    lia
  · have hlt := Nat.mod_lt i hp
    have e0 : i % ring.length = ring.length - 1 := by lia
    have h1 := Nat.div_add_mod i ring.length
    have e3 : i + 1 = ring.length * (i / ring.length + 1) := by rw [Nat.mul_add]; lia
    have e1 : (i + 1) % ring.length = 0 := by rw [e3]; exact Nat.mul_mod_right _ _
    have e2 : (i + 1) / ring.length = i / ring.length + 1 := by rw [e3]; exact Nat.mul_div_cancel_left _ hp
    rw [e1, e2, e0]
    have := h.last
    lia


theorem round_ok (w : World) {ca ra ga : Addr} {cs rs gv : List Value} {ns ring gs : List Int} {n1 n2 n3 : Nat} {t1 : Tok} {rest : List (Addr × Obj)}
   (hcr : ca < ra) (hrg : ra < ga) (hC : Cols rest cs ns) (hR : Ints rs ring) (hG : Ints gv gs) (hg : Gaps ns ring gs) (h3 : ring.length ≤ 20) (h4 : ns.length ≤ 20) (ht1 : 0 < t1) (hgb : ∀ v ∈ gs, 0 ≤ v ∧ v ≤ 64) :
  Call w 116 [.ref ca, .float (fl (64 * sp ns (ring.getD 0 0))) t1, .ref ra, .ref ga] ((ga, listOf gv.toArray n3) :: (ra, listOf rs.toArray n2) :: (ca, listOf cs.toArray n1) :: rest) 30 80 (fun r news' => r = .bool true ∧ news' = (ga, listOf gv.toArray n3) :: (ra, listOf rs.toArray n2) :: (ca, listOf cs.toArray n1) :: rest) := by
  refine' call_V [(Str.ofString "colours", .ref ca), (Str.ofString "start", .float (fl (64 * sp ns (ring.getD 0 0))) t1), (Str.ofString "ring", .ref ra), (Str.ofString "gaps", .ref ga)] ?k1 ?k2 ?k3 ?k4 ?k5 ?k6 ?k7 ?k8 ?k9 ?_
  walk_at "v enter"
  intro c tk0 _
  have hl : rs.length = ring.length := hR.1
  walk_at "v"
  refine WPCall.len (.tail _ (.head _)) (by lia) ?_
  walk_at "v"
  refine WPBin.mulE (2 * rs.length : Nat) (by decide) (by lia) ?_
  walk_at "v"
  refine WPCall.rng fun r _ _ _ hr => ?_
  walk_at "v"
  refine WPM.iterRN (.head _) (by lia) fun I hI => ?_
  have hIg := Nat.ne_of_lt (hI _ (.tail _ (.head _)))
  have hIr := Nat.ne_of_lt (hI _ (.tail _ (.tail _ (.head _))))
  have hIc := Nat.ne_of_lt (hI _ (.tail _ (.tail _ (.tail _ (.head _)))))
  have hIs := ne_cons (o := listOf gv.toArray n3) hIg (ne_cons (o := listOf rs.toArray n2) hIr (ne_cons (o := listOf cs.toArray n1) hIc fun p hp => Nat.ne_of_lt (hI p (.tail _ (.tail _ (.tail _ (.tail _ hp)))))))
  refine WPFor.mk (P := Tok × Nat) (2 * rs.length) (fun i p => 0 < p.1)
    (fun i p => ⟨[(Str.ofString "colours", .ref ca), (Str.ofString "ring", .ref ra), (Str.ofString "gaps", .ref ga), (Str.ofString "hue", .float (fl (64 * sp ns (ring.getD (i % ring.length) 0) + 4096 * ((i / ring.length : Nat) : Int))) p.1)],
      (I, rngAt (2 * rs.length) i) :: (ga, listOf gv.toArray n3) :: (ra, listOf rs.toArray n2) :: (ca, listOf cs.toArray n1) :: rest, p.2⟩) (t1, _) ht1 (Sub.ofS ?_ (sub_cons sub_tail) rfl) ?_ ?_ (fun _ => rfl)
  · dsimp only
    rw [Nat.zero_mod, Nat.zero_div, Int.natCast_zero, Int.mul_zero, Int.add_zero]
    rfl
  · rintro i ⟨th, tk⟩ hi hth
    dsimp only at *
    refine WPNext.rngN hi hIs ?_
    have hnext := hg.next i
    have hq := Nat.mod_lt i hg.pos
    have hj : i / ring.length < 2 := Nat.div_lt_of_lt_mul (by lia)
    have hm : (i : Int) % (ring.length : Int) = ((i % ring.length : Nat) : Int) := by norm_cast
    generalize i % ring.length = q at *
    generalize i / ring.length = j at *
    obtain ⟨tr, er⟩ := hR.at hq
    obtain ⟨tg, eg⟩ := hG.at (show q < gs.length by rw [hg.len]; exact hq)
    have hb := hg.idx q hq
    obtain ⟨C, c1, c2, c3, ec, hc1, hc2, hc3, hCm⟩ := hC.2 (ring.getD q 0).toNat (by lia)
    have hsb : 0 ≤ sp ns (ring.getD q 0) ∧ sp ns (ring.getD q 0) < 64 := spot_bound _
    have hgb1 := hgb (gs.getD q 0) (getD_mem (by rw [hg.len]; exact hq))
    have hcl := hC.1
    have hgl : gv.length = ring.length := by rw [hG.1, hg.len]
    have sH : Sm 8192 (64 * sp ns (ring.getD q 0) + 4096 * (j : Int)) := .of (by lia) (by lia)
    have hmod : (64 * sp ns (ring.getD q 0) + 4096 * (j : Int)) % 4096 = 64 * sp ns (ring.getD q 0) := by lia
    have sS : Sm 4096 (64 * sp ns (ring.getD q 0)) := .of (by lia) (by lia)
    walk_at "v"
    refine WPCall.len (.tail _ (.tail _ (.head _))) (by lia) ?_
    refine WPBin.modE q (by lia) (by rw [hl]; exact hm) ?_
    refine WPSub.listN (.tail _ (.tail _ (.head _))) (by lia) (by lia) ?_
    rw [er]
    refine WPSub.list (.tail _ (.tail _ (.tail _ (.head _)))) hb.1 (by lia) (by lia) ?_
    rw [ec]
    walk_at "v"
    refine ⟨_, Nat.le_of_ble_eq_true rfl, ⟨C, rfl, .tail _ (.tail _ (.tail _ (.tail _ hCm)))⟩, ?_⟩
    refine WPCall.use (hsv_col c.w hc1 hc2 hc3) (by decide) (by decide) ?_
    rintro _ _ tk7 htk7 ⟨D7, u1, u2, u3, rfl, rfl, hu1, hu2, hu3, hl7⟩
    refine WPAsg.tup (.head _) (by walk_at "vr") (by walk_at "vr") ?_
    walk_at "v"
    refine WPS.ite ?_
    walk_at "v"
    refine WPBin.mod1F sH (by decide) ?_
    rw [hmod]
    refine WPCmp.neF (i := 4096) (j := 4096) sS sS (by decide) (by decide) (fun e => absurd rfl e) (fun _ => ?_)
    walk_at "v"
    refine WPCall.use (rgb_col c.w (n := ns.getD (ring.getD q 0).toNat 0) (j := (j : Int)) hth hu2 hu3 rfl (by lia)) (by decide) (by decide) ?_
    rintro _ _ tk9 htk9 ⟨D9, w1, w2, w3, rfl, rfl, hw1, hw2, hw3, hl9⟩
    walk_at "v"
    refine WPCmp.neT3 (.head _) (.tail _ (.tail _ (.tail _ (.tail _ (.tail _ (.tail _ hCm)))))) hw1 hw2 hw3 hc1 hc2 hc3 (chan_small _ _) (chan_small _ _) (chan_small _ _) (by decide) (by decide) ?_
    walk_at "v"
    refine WPCall.len (.tail _ (.tail _ (.tail _ (.tail _ (.head _))))) (by lia) ?_
    refine WPBin.modE q (by lia) (by rw [hl]; exact hm) ?_
    refine WPSub.listN (.tail _ (.tail _ (.tail _ (.head _)))) (by lia) (by lia) ?_
    rw [eg]
    walk_at "v"
    refine WPBin.div64 (i := 64) (.of hgb1.1 hgb1.2) (by decide) ?_
    refine WPM.iaddF (j := 4096) sH (.of (by lia) (by lia)) (by decide) (by decide) ?_
    rw [hnext]
    walk_at "v"
    exact ⟨(_, _), Nat.succ_pos _, Sub.ofS rfl (fun p hp => .tail _ (.tail _ hp)) rfl⟩
  · rintro ⟨th, tk⟩ hth
    dsimp only at *
    refine WPLast.rngN hIs ?_
    walk_at "v"
    exact EndX.mk ⟨rfl, rfl⟩
end S_V_round

section S_V_pairs
open PySem PySem.W PyProof.Rows PySem.Spec PySem.Calls
set_option maxRecDepth 100000
set_option maxHeartbeats 4000000
noncomputable def pk (hs : List Int) (one two : Nat) : Int × Int × Int := (min ((hs.getD one 0 - hs.getD two 0).natAbs : Int) (4096 - ((hs.getD one 0 - hs.getD two 0).natAbs : Int)), (one : Int), (two : Int))
noncomputable def pairKeys (hs : List Int) (i : Nat) : List (Int × Int × Int) := (List.range i).flatMap fun two => (List.range two).map fun one => pk hs one two
theorem pairKeys_succ (hs : List Int) (i : Nat) : pairKeys hs (i + 1) = pairKeys hs i ++ (List.range i).map fun one => pk hs one i := by
  unfold pairKeys
  rw [List.range_succ, List.flatMap_append]
  simp
theorem range_map_succ (hs : List Int) (i j : Nat) : ((List.range (j + 1)).map fun one => pk hs one i) = ((List.range j).map fun one => pk hs one i) ++ [pk hs j i] := by
  rw [List.range_succ, List.map_append]; rfl
theorem pairKeys_length (hs : List Int) : ∀ i, i ≤ 20 → (pairKeys hs i).length ≤ i * 20
  | 0, _ => by simp [pairKeys]
  | i + 1, h => by
    have := pairKeys_length hs i (by lia)
    rw [pairKeys_succ, List.length_append, List.length_map, List.length_range]
    lia

noncomputable def PInv (tk : Nat) (T : List (Addr × Obj)) (ys : List Value) (ct : Tok → Int) (kf : Addr → Int × Int × Int) (ks : List (Int × Int × Int)) : Prop :=
  ∃ bs : List Addr, ys = bs.map Value.ref ∧ bs.map kf = ks ∧ ∀ b ∈ bs, ∃ t t2 t3, 0 < t ∧ t < tk ∧ ct t = (kf b).1 ∧ (kf b).1.natAbs < 2 ^ 52 ∧ (b, tupO [.float (fl (kf b).1) t, .int (kf b).2.1 t2, .int (kf b).2.2 t3]) ∈ T
theorem PInv.nil {tk : Nat} {ct : Tok → Int} {kf : Addr → Int × Int × Int} : PInv tk [] [] ct kf [] := ⟨[], rfl, rfl, fun _ h => nomatch h⟩
theorem PInv.mono {tk tk' : Nat} {T : List (Addr × Obj)} {ys : List Value} {ct : Tok → Int} {kf : Addr → Int × Int × Int} {ks : List (Int × Int × Int)} (h : PInv tk T ys ct kf ks) (hle : tk ≤ tk') : PInv tk' T ys ct kf ks := by
  obtain ⟨bs, h1, h2, h3⟩ := h
  exact ⟨bs, h1, h2, fun b hb => (h3 b hb).imp fun _ => Exists.imp fun _ => Exists.imp fun _ => And.imp_right (And.imp_left fun h => Nat.lt_of_lt_of_le h hle)⟩
theorem PInv.length {tk : Nat} {T : List (Addr × Obj)} {ys : List Value} {ct : Tok → Int} {kf : Addr → Int × Int × Int} {ks : List (Int × Int × Int)} (h : PInv tk T ys ct kf ks) : ys.length = ks.length := by
  obtain ⟨bs, rfl, rfl, _⟩ := h; simp
theorem PInv.snoc {tk tk' : Nat} {T : List (Addr × Obj)} {ys : List Value} {ct : Tok → Int} {kf : Addr → Int × Int × Int} {ks : List (Int × Int × Int)} (h : PInv tk T ys ct kf ks) {B : Addr} {k : Int × Int × Int} {t t2 t3 : Tok}
    (hB : ∀ p ∈ T, p.1 < B) (h0 : 0 < t) (h1 : tk ≤ t) (h2 : t < tk') (hk : k.1.natAbs < 2 ^ 52) :
    PInv tk' ((B, tupO [.float (fl k.1) t, .int k.2.1 t2, .int k.2.2 t3]) :: T) (ys ++ [.ref B]) (fun x => if x = t then k.1 else ct x) (fun x => if x = B then k else kf x) (ks ++ [k]) := by
  obtain ⟨bs, rfl, rfl, h3⟩ := h
  have hn : ∀ b ∈ bs, b ≠ B := fun b hb e => by
    obtain ⟨_, _, _, _, _, _, _, hm⟩ := h3 b hb
    have := hB _ hm
    rw [e] at this; exact Nat.lt_irrefl _ this
  refine ⟨bs ++ [B], by simp, ?_, fun b hb => ?_⟩
  · rw [List.map_append]
    congr 1
    · exact List.map_congr_left fun b hb => by simp [hn b hb]
    · simp
  · rcases List.mem_append.mp hb with hb | hb
    · obtain ⟨u, u2, u3, a1, a2, a3, a4, a5⟩ := h3 b hb
      simp only [hn b hb, if_false]
      exact ⟨u, u2, u3, a1, Nat.lt_trans (Nat.lt_of_lt_of_le a2 h1) h2, by rw [if_neg (Nat.ne_of_lt (Nat.lt_of_lt_of_le a2 h1))]; exact a3, a4, .tail _ a5⟩
    · rw [List.mem_singleton.mp hb]
      simp only [if_true]
      exact ⟨t, t2, t3, h0, h2, if_pos rfl, hk, .head _⟩
noncomputable def keyv (kf : Addr → Int × Int × Int) (v : Value) : Int × Int × Int := match v with | .ref b => kf b | _ => (0, 0, 0)
theorem PInv.tup {tk : Nat} {T : List (Addr × Obj)} {ys : List Value} {ct : Tok → Int} {kf : Addr → Int × Int × Int} {ks : List (Int × Int × Int)} (h : PInv tk T ys ct kf ks) : (∀ v ∈ ys, Tup3 ct T v (keyv kf v)) ∧ ys.map (keyv kf) = ks := by
  obtain ⟨bs, rfl, rfl, h3⟩ := h
  refine ⟨fun v hv => ?_, by rw [List.map_map]; rfl⟩
  obtain ⟨b, hb, rfl⟩ := List.mem_map.mp hv
  obtain ⟨u, u2, u3, a1, a2, a3, a4, a5⟩ := h3 b hb
  exact ⟨b, u, u2, u3, rfl, a1, a3, a4, a5⟩

theorem pk_small {hs : List Int} {j i : Nat} (b1 : 0 ≤ hs.getD j 0 ∧ hs.getD j 0 ≤ 4096) (b2 : 0 ≤ hs.getD i 0 ∧ hs.getD i 0 ≤ 4096) : (pk hs j i).1.natAbs < 2 ^ 52 := by
  have h : (hs.getD j 0 - hs.getD i 0).natAbs ≤ 4096 := by lia
  show (min ((hs.getD j 0 - hs.getD i 0).natAbs : Int) (4096 - ((hs.getD j 0 - hs.getD i 0).natAbs : Int))).natAbs < 2 ^ 52
  generalize (hs.getD j 0 - hs.getD i 0).natAbs = x at *
  rw [Int.min_def]
  split <;> lia
theorem pairs_ok (w : World) {a : Addr} {xs : List Value} {hs : List Int} {n : Nat} {rest : List (Addr × Obj)}
   (hsep : ∀ p ∈ rest, p.1 ≠ a) (hi' : Fls xs hs) (h3 : hs.length ≤ 20) (hb' : ∀ v ∈ hs, 0 ≤ v ∧ v ≤ 4096) :
  Call w 123 [.ref a] ((a, listOf xs.toArray n) :: rest) 10 40 (fun r news' => ∃ D ys k T ct kf tk, r = .ref D ∧ news' = (D, listOf ys.toArray k) :: (a, listOf xs.toArray n) :: (T ++ rest) ∧ PInv tk T ys ct kf (pairKeys hs hs.length) ∧ a < D ∧ (∀ p ∈ rest, p.1 < D) ∧ ∀ p ∈ T, D < p.1) := by
  refine' call_V [(Str.ofString "hues", .ref a)] ?k1 ?k2 ?k3 ?k4 ?k5 ?k6 ?k7 ?k8 ?k9 ?_
  walk_at "v enter"
  intro c tk0 _
  have hl : xs.length = hs.length := hi'.1
  walk_at "v"
  refine WPM.lst (Nat.le_of_ble_eq_true rfl) fun D hD => ?_
  have hDa := hD _ (.head _)
  have hDr : ∀ p ∈ rest, p.1 < D := fun p hp => hD p (.tail _ hp)
  walk_at "v"
  refine WPCall.len (.tail _ (.head _)) (by lia) ?_
  walk_at "v"
  refine WPCall.rng fun r _ _ _ hr => ?_
  walk_at "v"
  refine WPM.iterRN (.head _) (by lia) fun I hI => ?_
  have hID := hI _ (.tail _ (.head _))
  have hIa := Nat.lt_trans hDa hID
  have hIr : ∀ p ∈ rest, p.1 < I := fun p hp => Nat.lt_trans (hDr p hp) hID
  refine WPFor.mk (P := List Value × Nat × List (Addr × Obj) × (Tok → Int) × (Addr → Int × Int × Int) × Nat) xs.length
    (fun i p => 0 < p.2.2.2.2.2 ∧ PInv p.2.2.2.2.2 p.2.2.1 p.1 p.2.2.2.1 p.2.2.2.2.1 (pairKeys hs i) ∧ ∀ q ∈ p.2.2.1, I < q.1)
    (fun i p => ⟨[(Str.ofString "hues", .ref a), (Str.ofString "pairs", .ref D)], (I, rngAt xs.length i) :: (D, listOf p.1.toArray p.2.1) :: (a, listOf xs.toArray n) :: (p.2.2.1 ++ rest), p.2.2.2.2.2⟩)
    ([], 0, [], fun _ => 0, fun _ => (0, 0, 0), _) ⟨Nat.succ_pos _, .nil, fun _ h => nomatch h⟩ (Sub.ofS rfl (sub_cons sub_tail) rfl) ?_ ?_ (fun _ => rfl)
  · rintro i ⟨ys, k, T, ct, kf, tk⟩ hi ⟨htk, hP, hTI⟩
    dsimp only at *
    refine WPNext.rngN hi (ne_cons (Nat.ne_of_lt hID) (ne_cons (Nat.ne_of_lt hIa) (ne_app (fun p hp => Nat.ne_of_gt (hTI p hp)) fun p hp => Nat.ne_of_lt (hIr p hp)))) ?_
    walk_at "v"
    refine WPCall.rng fun r _ _ _ hr => ?_
    walk_at "v"
    refine WPM.iterRN (.head _) (by lia) fun J hJ => ?_
    have hJI := hJ _ (.tail _ (.head _))
    have hJD := Nat.lt_trans hID hJI
    have hJT : ∀ p ∈ T, p.1 < J := fun p hp => hJ p (.tail _ (.tail _ (.tail _ (.tail _ (List.mem_append.mpr (.inl hp))))))
    have hJr : ∀ p ∈ rest, p.1 < J := fun p hp => Nat.lt_trans (hIr p hp) hJI
    refine WPFor.mk (P := List Value × Nat × List (Addr × Obj) × (Tok → Int) × (Addr → Int × Int × Int) × Nat) i
      (fun j p => 0 < p.2.2.2.2.2 ∧ PInv p.2.2.2.2.2 p.2.2.1 p.1 p.2.2.2.1 p.2.2.2.2.1 (pairKeys hs i ++ (List.range j).map fun one => pk hs one i) ∧ (∀ q ∈ p.2.2.1, I < q.1) ∧ ∀ q ∈ p.2.2.1, q.1 ≠ J)
      (fun j p => ⟨[(Str.ofString "hues", .ref a), (Str.ofString "pairs", .ref D), (Str.ofString "two", .int i tk)], (J, rngAt i j) :: (I, rngAt xs.length (i + 1)) :: (D, listOf p.1.toArray p.2.1) :: (a, listOf xs.toArray n) :: (p.2.2.1 ++ rest), p.2.2.2.2.2⟩)
      (ys, k, T, ct, kf, _) ⟨Nat.succ_pos _, by rw [List.range_zero, List.map_nil, List.append_nil]; exact hP.mono (by lia), hTI, fun p hp => Nat.ne_of_lt (hJT p hp)⟩ (Sub.ofS rfl (sub_cons sub_tail) rfl) ?_ ?_ (fun _ => rfl)
    · clear hP hTI hJT hr hJ
      rintro j ⟨ys, k, T, ct, kf, tk2⟩ hj ⟨htk, hP, hTI, hTJ⟩
      dsimp only at *
      refine WPNext.rngN hj (ne_cons (Nat.ne_of_lt hJI) (ne_cons (Nat.ne_of_lt hJD) (ne_cons (Nat.ne_of_lt (Nat.lt_trans hIa hJI)) (ne_app hTJ fun p hp => Nat.ne_of_lt (hJr p hp))))) ?_
      obtain ⟨t1, ht1, e1⟩ := hi'.2 j (by lia)
      obtain ⟨t2, ht2, e2⟩ := hi'.2 i (by lia)
      have b1 := hb' (hs.getD j 0) (getD_mem (by lia))
      have b2 := hb' (hs.getD i 0) (getD_mem (by lia))
      have hlen := hP.length
      rw [List.length_append, List.length_map, List.length_range] at hlen
      have hpl := pairKeys_length hs i (by lia)
      have s1 : Sm 4096 (hs.getD j 0) := .of b1.1 b1.2
      have s2 : Sm 4096 (hs.getD i 0) := .of b2.1 b2.2
      have s3 : Sm 8192 ((hs.getD j 0 - hs.getD i 0).natAbs : Int) := s1.sub s2
      walk_at "v"
      refine WPSub.listN (.tail _ (.tail _ (.tail _ (.head _)))) (by lia) (by lia) ?_
      walk_at "v"
      refine WPSub.listN (.tail _ (.tail _ (.tail _ (.head _)))) (by lia) (by lia) ?_
      rw [e1, e2]
      refine WPBin.subF s1 s2 (by decide) (by decide) ?_
      walk_at "v"
      refine WPCall.absF (s1.sub s2) (by decide) ?_
      walk_at "v"
      refine ⟨.mk (.tail _ (.tail _ (.head _))), ?_⟩
      walk_at "v"
      refine WPBin.subF (.lit 4096) s3 (by decide) (by decide) ?_
      walk_at "v"
      refine WPCall.min2 s3 ((Sm.lit 4096).sub s3) (by decide) (by decide) fun tk3 tt htt hle => ?_
      walk_at "v"
      refine WPM.tup (Nat.le_of_ble_eq_true rfl) fun B hB => ?_
      have hBI := hB _ (.tail _ (.head _))
      have hBJ := hB _ (.head _)
      have hBT : ∀ p ∈ T, p.1 < B := fun p hp => hB p (.tail _ (.tail _ (.tail _ (.tail _ (List.mem_append.mpr (.inl hp))))))
      have hBD := Nat.ne_of_gt (Nat.lt_trans hID hBI)
      walk_at "v"
      refine WPCall.app (.tail hBD (.tail (Nat.ne_of_gt hJD) (.tail (Nat.ne_of_gt hID) (.head (ne_cons (Nat.ne_of_lt hDa) (ne_app (fun p hp => Nat.ne_of_gt (Nat.lt_trans hID (hTI p hp))) fun p hp => Nat.ne_of_lt (hDr p hp))))))) (by lia) ?_
      walk_at "v"
      have hP2 := hP.snoc (tk' := tk3) (k := pk hs j i) (t := tt) (t2 := tk2) (t3 := tk) hBT (by lia) (by lia) (by lia) (pk_small b1 b2)
      rw [List.append_assoc, ← range_map_succ] at hP2
      refine ⟨(ys ++ [.ref B], k + 1, (B, _) :: T, _, _, _), ⟨by lia, hP2, List.forall_mem_cons.mpr ⟨hBI, hTI⟩, List.forall_mem_cons.mpr ⟨Nat.ne_of_gt hBJ, hTJ⟩⟩, Sub.ofS rfl ?_ rfl⟩
      exact mem_move [_, _, _, _]
    · clear hP hTI hJT hr hJ
      rintro ⟨ys, k, T, ct, kf, tk2⟩ ⟨htk, hP, hTI, hTJ⟩
      dsimp only at *
      refine WPLast.rngN (ne_cons (Nat.ne_of_lt hJI) (ne_cons (Nat.ne_of_lt hJD) (ne_cons (Nat.ne_of_lt (Nat.lt_trans hIa hJI)) (ne_app hTJ fun p hp => Nat.ne_of_lt (hJr p hp))))) ?_
      walk_at "v"
      exact ⟨(ys, k, T, ct, kf, tk2), ⟨htk, by rw [pairKeys_succ]; exact hP, hTI⟩, Sub.of rfl rfl rfl⟩
  · rintro ⟨ys, k, T, ct, kf, tk⟩ ⟨htk, hP, hTI⟩
    dsimp only at *
    refine WPLast.rngN (ne_cons (Nat.ne_of_lt hID) (ne_cons (Nat.ne_of_lt hIa) (ne_app (fun p hp => Nat.ne_of_gt (hTI p hp)) fun p hp => Nat.ne_of_lt (hIr p hp)))) ?_
    walk_at "v"
    exact EndX.mk ⟨D, ys, k, T, ct, kf, tk, rfl, rfl, by rw [← hl]; exact hP, hDa, hDr, fun p hp => Nat.lt_trans hID (hTI p hp)⟩
end S_V_pairs

section S_V_sd
open PySem PySem.W PyProof.Rows PySem.Spec PySem.Calls
set_option maxRecDepth 100000
set_option maxHeartbeats 4000000

theorem siftdown_ok (w : World) {a : Addr} {xs : List Value} {n : Nat} {rest : List (Addr × Obj)} {st pos : Nat} {t1 t2 : Tok} (ct : Tok → Int) (key : Value → Int × Int × Int)
   (hsep : ∀ p ∈ rest, p.1 ≠ a) (hz : xs.length ≤ 100) (hk' : ∀ v ∈ xs, Tup3 ct rest v (key v)) (h2 : pos < xs.length) :
  Call w 49 [.ref a, .int st t1, .int pos t2] ((a, listOf xs.toArray n) :: rest) 10 40 (fun r news' => r = .none ∧ news' = (a, listOf (sd (fun u v => klt (key u) (key v)) .none xs st pos).toArray n) :: rest) := by
  refine' call_V [(Str.ofString "heap", .ref a), (Str.ofString "startpos", .int st t1), (Str.ofString "pos", .int pos t2)] ?k1 ?k2 ?k3 ?k4 ?k5 ?k6 ?k7 ?k8 ?k9 ?_
  walk_at "v enter"
  intro c tk _
  walk_at "v"
  refine WPSub.listN (.head _) h2 (by lia) ?_
  walk_at "v"
  refine WPS.whl (P := List Value × Nat × Tok × Nat)
    (fun p => p.2.1 < xs.length ∧ p.1.length = xs.length ∧ (∀ v ∈ p.1, Tup3 ct rest v (key v)) ∧
      sdGo (fun u v => klt (key u) (key v)) .none (xs.getD pos .none) st p.2.1 p.1 p.2.1 = sd (fun u v => klt (key u) (key v)) .none xs st pos)
    (fun p => ⟨[(Str.ofString "heap", .ref a), (Str.ofString "startpos", .int st t1), (Str.ofString "pos", .int p.2.1 p.2.2.1), (Str.ofString "newitem", xs.getD pos .none)], (a, listOf p.1.toArray n) :: rest, p.2.2.2⟩)
    (fun p => p.2.1) (xs, pos, t2, _) ⟨h2, rfl, hk', rfl⟩ (Sub.of rfl rfl rfl) fun p hI => ?_
  obtain ⟨ys, q, tq, tk⟩ := p
  obtain ⟨q1, q2, q3, q4⟩ := hI
  dsimp only at *
  walk_at "v"
  refine WPCmp.gtI (fun hst => ?_) (fun hst => ?_)
  · walk_at "v"
    refine WPBin.rshE ((q - 1) / 2 : Nat) (by lia) ?_
    walk_at "v"
    have hq : (q - 1) / 2 < q := by lia
    refine WPSub.listN (.head _) (by lia) (by lia) ?_
    walk_at "v"
    refine WPS.ite ?_
    walk_at "v"
    refine WPCmp.lt3 (fun _ h => .tail _ h) (hk' _ (getD_mem h2)) (q3 _ (getD_mem (by lia))) (by decide) (fun hlt => ?_) (fun hlt => ?_)
    · walk_at "v"
      refine WPSet.listN hsep (by lia) (by lia) ?_
      walk_at "v"
      refine LoopX.cont ⟨(ys.set q (ys.getD ((q - 1) / 2) .none), (q - 1) / 2, _, _), hq, ⟨Nat.lt_trans hq q1, by simp [q2], ?_, ?_⟩, Sub.of rfl rfl rfl⟩
      · intro v hv
        rcases List.mem_or_eq_of_mem_set hv with hv | rfl
        · exact q3 v hv
        · exact q3 _ (getD_mem (by lia))
      · rw [← q4]
        obtain ⟨j, rfl⟩ : ∃ j, q = j + 1 := ⟨q - 1, by lia⟩
        rw [sdGo, if_pos (by lia), if_pos hlt]
        exact sdGo_fuel _ _ _ _ (Nat.le_refl _) (by lia)
    · walk_at "v"
      refine LoopX.brk ?_
      walk_at "v"
      refine WPSet.listN hsep (by lia) (by lia) ?_
      walk_at "v"
      refine EndN.mk ⟨rfl, ?_⟩
      rw [← q4]
      obtain ⟨j, rfl⟩ : ∃ j, q = j + 1 := ⟨q - 1, by lia⟩
      rw [sdGo, if_pos (by lia), if_neg (by rw [hlt]; exact Bool.false_ne_true)]
  · walk_at "v"
    refine WPSet.listN hsep (by lia) (by lia) ?_
    walk_at "v"
    refine EndN.mk ⟨rfl, ?_⟩
    rw [← q4]
    cases q with
    | zero => rfl
    | succ j => rw [sdGo, if_neg (by lia)]
end S_V_sd

section S_V_su
open PySem PySem.W PyProof.Rows PySem.Spec PySem.Calls
set_option maxRecDepth 100000
set_option maxHeartbeats 4000000

theorem siftup_ok (w : World) {a : Addr} {xs : List Value} {n : Nat} {rest : List (Addr × Obj)} {pos : Nat} {t1 : Tok} (ct : Tok → Int) (key : Value → Int × Int × Int)
   (hsep : ∀ p ∈ rest, p.1 ≠ a) (hz : xs.length ≤ 100) (hk' : ∀ v ∈ xs, Tup3 ct rest v (key v)) (h2 : pos < xs.length) :
  Call w 56 [.ref a, .int pos t1] ((a, listOf xs.toArray n) :: rest) 20 60 (fun r news' => r = .none ∧ news' = (a, listOf (su (fun u v => klt (key u) (key v)) .none xs pos).toArray n) :: rest) := by
  refine' call_V [(Str.ofString "heap", .ref a), (Str.ofString "pos", .int pos t1)] ?k1 ?k2 ?k3 ?k4 ?k5 ?k6 ?k7 ?k8 ?k9 ?_
  walk_at "v enter"
  intro c tk0 _
  walk_at "v"
  refine WPCall.len (.head _) (by lia) ?_
  walk_at "v"
  refine WPSub.listN (.head _) h2 (by lia) ?_
  walk_at "v"
  refine WPBin.mulE (2 * pos : Nat) (by decide) (by lia) ?_
  walk_at "v1"
  refine WPBin.addE (2 * pos + 1 : Nat) (by lia) ?_
  walk_at "v"
  refine WPS.whl (P := List Value × Nat × Nat × Tok × Tok × Nat)
    (fun p => p.2.1 < xs.length ∧ p.1.length = xs.length ∧ p.2.2.1 + p.2.1 = xs.length ∧ (∀ v ∈ p.1, Tup3 ct rest v (key v)) ∧
      suGo (fun u v => klt (key u) (key v)) .none xs.length p.2.2.1 p.1 p.2.1 = suGo (fun u v => klt (key u) (key v)) .none xs.length xs.length xs pos)
    (fun p => ⟨[(Str.ofString "heap", .ref a), (Str.ofString "startpos", .int pos t1), (Str.ofString "endpos", .int xs.length (tk0 + 1)), (Str.ofString "pos", .int p.2.1 p.2.2.2.1), (Str.ofString "childpos", .int (2 * p.2.1 + 1 : Nat) p.2.2.2.2.1), (Str.ofString "newitem", xs.getD pos .none)], (a, listOf p.1.toArray n) :: rest, p.2.2.2.2.2⟩)
    (fun p => p.2.2.1) (xs, pos, xs.length - pos, t1, _, _) ⟨h2, rfl, by lia, hk', suGo_fuel _ _ _ _ (by lia) (by lia)⟩ (Sub.of rfl rfl rfl) fun p hI => ?_
  obtain ⟨ys, q, k, tq, tc, tk⟩ := p
  obtain ⟨q1, q2, hkq, q3, q4⟩ := hI
  dsimp only at *
  walk_at "v"
  refine WPCmp.ltI (fun hst => ?_) (fun hst => ?_)
  · replace hst := Int.ofNat_lt.mp hst
    walk_at "v1"
    walk_at "v1"
    walk_at "v1"
    walk_at "v1"
    walk_at "v1"
    refine WPBin.addE (2 * q + 2 : Nat) (by lia) ?_
    walk_at "v"
    have hc1 := @kid_gt _ (fun u v => klt (key u) (key v)) .none ys xs.length (2 * q + 1)
    have hc2 := @kid_lt _ (fun u v => klt (key u) (key v)) .none ys xs.length (2 * q + 1) hst
    refine WPS.join (P := Nat × Tok × Nat) (fun p => kid (fun u v => klt (key u) (key v)) .none ys xs.length (2 * q + 1) = p.1)
      (fun p => ⟨[(Str.ofString "heap", .ref a), (Str.ofString "startpos", .int pos t1), (Str.ofString "endpos", .int xs.length (tk0 + 1)), (Str.ofString "pos", .int q tq), (Str.ofString "childpos", .int p.1 p.2.1), (Str.ofString "newitem", xs.getD pos .none)], (a, listOf ys.toArray n) :: rest, p.2.2⟩) ?_ ?_
    · rintro ⟨c0, tc, tk⟩ hc
      dsimp only at *
      rw [hc] at hc1 hc2
      walk_at "v"
      refine WPSub.listN (.head _) (by lia) (by lia) ?_
      walk_at "v"
      refine WPSet.listN hsep (by lia) (by lia) ?_
      walk_at "v"
      refine WPBin.mulE (2 * c0 : Nat) (by decide) (by lia) ?_
      walk_at "v1"
      refine WPBin.addE (2 * c0 + 1 : Nat) (by lia) ?_
      walk_at "v"
      refine ⟨(ys.set q (ys.getD c0 .none), c0, xs.length - c0, _, _, _), by lia, ⟨hc2, by simp [q2], by lia, ?_, ?_⟩, Sub.of rfl rfl rfl⟩
      · intro v hv
        rcases List.mem_or_eq_of_mem_set hv with hv | rfl
        · exact q3 v hv
        · exact q3 _ (getD_mem (by lia))
      · rw [← q4]
        exact (suGo_step hst (by lia) q1 hc).symm
    · refine WPS.ite ?_
      walk_at "v"
      refine WPCmp.ltI (fun h3 => ?_) (fun h3 => ?_)
      · walk_at "v"
        refine WPSub.listN (.head _) (by lia) (by lia) ?_
        walk_at "v"
        refine WPSub.listN (.head _) (by lia) (by lia) ?_
        refine WPCmp.lt3 (fun _ h => .tail _ h) (q3 _ (getD_mem (by lia))) (q3 _ (getD_mem (by lia))) (by decide) (fun hlt => ?_) (fun hlt => ?_)
        · walk_at "v"
          exact ⟨(2 * q + 1, _, _), by unfold kid; rw [if_neg]; rintro ⟨_, h⟩; exact absurd (hlt.symm.trans h) (by decide), Sub.of rfl rfl rfl⟩
        · walk_at "v"
          exact ⟨(2 * q + 2, _, _), by unfold kid; rw [if_pos]; exact ⟨Int.ofNat_lt.mp h3, hlt⟩, Sub.of rfl rfl rfl⟩
      · walk_at "v"
        exact ⟨(2 * q + 1, _, _), by unfold kid; rw [if_neg]; rintro ⟨h, _⟩; lia, Sub.of rfl rfl rfl⟩
  · walk_at "v"
    refine WPSet.listN hsep (by lia) (by lia) ?_
    walk_at "v"
    refine WPCall.use (siftdown_ok c.w (xs := ys.set q (xs.getD pos .none)) (pos := q) ct key hsep (by rw [List.length_set, q2]; exact hz) ?_ (by rw [List.length_set, q2]; exact q1)) (by decide) (by decide) ?_
    · intro v hv
      rcases List.mem_or_eq_of_mem_set hv with hv | rfl
      · exact q3 v hv
      · exact hk' _ (getD_mem h2)
    rintro r _ tk' _ ⟨rfl, rfl⟩
    walk_at "v"
    refine EndN.mk ⟨rfl, ?_⟩
    unfold su
    rw [← q4, suGo_stop (by lia)]
end S_V_su

section S_V_hp
open PySem PySem.W PyProof.Rows PySem.Spec PySem.Calls
set_option maxRecDepth 100000
set_option maxHeartbeats 4000000

theorem heappop_ok (w : World) {a : Addr} {xs : List Value} {n : Nat} {rest : List (Addr × Obj)} (ct : Tok → Int) (key : Value → Int × Int × Int)
   (hsep : ∀ p ∈ rest, p.1 ≠ a) (hz : xs.length ≤ 100) (hk' : ∀ v ∈ xs, Tup3 ct rest v (key v)) (h2 : 0 < xs.length) :
  Call w 21 [.ref a] ((a, listOf xs.toArray n) :: rest) 30 80 (fun r news' => r = xs.getD 0 .none ∧ news' = (a, listOf (hp (fun u v => klt (key u) (key v)) .none xs).toArray (n + 1)) :: rest) := by
  refine' call_V [(Str.ofString "heap", .ref a)] ?k1 ?k2 ?k3 ?k4 ?k5 ?k6 ?k7 ?k8 ?k9 ?_
  walk_at "v enter"
  intro c tk0 _
  have hdl : xs.dropLast.length = xs.length - 1 := List.length_dropLast
  walk_at "v"
  refine ⟨.mk (.head _), WPCall.pop (.head hsep) h2 (by lia) ?_⟩
  walk_at "v"
  refine WPS.ite ?_
  walk_at "v"
  refine WPTru.list (.head _) (by lia) (fun he => ?_) (fun he => ?_)
  · have h3 : 0 < xs.dropLast.length := by
      cases hq : xs.dropLast with
      | nil => rw [hq] at he; cases he
      | cons _ _ => exact Nat.succ_pos _
    walk_at "v"
    refine WPSub.list (k := 0) (.head _) (Int.le_refl _) (Int.ofNat_lt.mpr h3) (by lia) ?_
    walk_at "v"
    refine WPSet.list (k := 0) (.head hsep) (Int.le_refl _) (Int.ofNat_lt.mpr h3) (by lia) ?_
    walk_at "v"
    refine WPCall.use (siftup_ok c.w (pos := 0) (xs := xs.dropLast.set 0 (xs.getD (xs.length - 1) .none)) ct key hsep (by rw [List.length_set]; lia) (fun v hv => ?_) (by rw [List.length_set]; exact h3)) (by decide) (by decide) ?_
    · rcases List.mem_or_eq_of_mem_set hv with hv | rfl
      · exact hk' v (List.dropLast_subset _ hv)
      · exact hk' _ (getD_mem (by lia))
    rintro r _ tk' _ ⟨rfl, rfl⟩
    walk_at "v"
    refine EndX.mk ⟨?_, ?_⟩
    · show xs.dropLast.getD 0 .none = xs.getD 0 .none
      rw [getD_eq h3, getD_eq h2, List.getElem_dropLast]
    · rw [hp, if_neg (by lia)]
  · have he := List.isEmpty_iff.mp he
    have h3 : xs.length = 1 := by rw [he] at hdl; simp at hdl; lia
    walk_at "v"
    refine EndX.mk ⟨by rw [h3], ?_⟩
    rw [he, hp, if_pos h3]

theorem heapify_ok (w : World) {a : Addr} {xs : List Value} {n : Nat} {rest : List (Addr × Obj)} (ct : Tok → Int) (key : Value → Int × Int × Int)
   (hsep : ∀ p ∈ rest, p.1 ≠ a) (hz : xs.length ≤ 100) (hk' : ∀ v ∈ xs, Tup3 ct rest v (key v)) :
  Call w 28 [.ref a] ((a, listOf xs.toArray n) :: rest) 30 80 (fun r news' => r = .none ∧ news' = (a, listOf (hf (fun u v => klt (key u) (key v)) .none xs).toArray n) :: rest) := by
  refine' call_V [(Str.ofString "x", .ref a)] ?k1 ?k2 ?k3 ?k4 ?k5 ?k6 ?k7 ?k8 ?k9 ?_
  walk_at "v enter"
  intro c tk0 _
  walk_at "v"
  refine WPCall.len (.head _) (by lia) ?_
  walk_at "v"
  refine WPBin.fdivE (xs.length / 2 : Nat) (by decide) (by decide) (by lia) ?_
  walk_at "v"
  refine WPCall.rng fun r t u v hr => ?_
  walk_at "v"
  refine WPCall.rev (.head _) (Int.natCast_nonneg _) (by lia) fun I hI => ?_
  walk_at "v"
  refine WPM.iterI (.head _) ?_
  have hIa : I ≠ a := (Nat.ne_of_lt (hI _ (.tail _ (.head _)))).symm
  have hIr : ∀ p ∈ rest, p.1 ≠ I := fun p hp => Nat.ne_of_lt (hI _ (.tail _ (.tail _ hp)))
  refine WPFor.mk (P := List Value × Nat) (xs.length / 2) (fun i p => p.1.Perm xs ∧ hfGo (fun u v => klt (key u) (key v)) .none (xs.length / 2 - i) p.1 = hf (fun u v => klt (key u) (key v)) .none xs)
    (fun i p => ⟨[(Str.ofString "x", .ref a)], (I, rngIt ((xs.length / 2 : Nat) - 1 - (i : Int)) ((xs.length / 2 : Nat) - (i : Int)) (-1)) :: (a, listOf p.1.toArray n) :: rest, p.2⟩) (xs, _) ⟨.refl _, rfl⟩ (Sub.ofS rfl ?_ rfl) ?_ ?_ (fun _ => rfl)
  · show ∀ p ∈ (I, rngIt ((xs.length / 2 : Nat) - 1 - ((0 : Nat) : Int)) ((xs.length / 2 : Nat) - ((0 : Nat) : Int)) (-1)) :: (a, listOf xs.toArray n) :: rest, _
    rw [Int.natCast_zero, Int.sub_zero, Int.sub_zero]
    intro p hp
    rcases List.mem_cons.mp hp with rfl | hp
    · exact .head _
    · exact .tail _ (.tail _ hp)
  · rintro i ⟨ys, tk⟩ hi ⟨hp2, hJ⟩
    dsimp only at *
    have hlen := hp2.length_eq
    refine WPNext.rng (by lia) (fun p hp => by rcases List.mem_cons.mp hp with rfl | hp; exact hIa.symm; exact hIr p hp) ?_
    have e : ((xs.length / 2 : Nat) : Int) - 1 - (i : Int) = ((xs.length / 2 - 1 - i : Nat) : Int) := by lia
    rw [e]
    walk_at "v"
    refine WPM.ledg mem_swap (WPCall.use (siftup_ok c.w (a := a) (n := n) (xs := ys) ct key (rest := (I, _) :: rest) (List.forall_mem_cons.mpr ⟨hIa, hsep⟩) (by lia) (fun v hv => (hk' v (hp2.mem_iff.mp hv)).mono fun _ hp => .tail _ hp) (by lia)) (by decide) (by decide) ?_)
    rintro r _ tk' _ ⟨rfl, rfl⟩
    walk_at "v"
    refine ⟨(su (fun u v => klt (key u) (key v)) .none ys (xs.length / 2 - 1 - i), _), ⟨(su_perm (by lia)).trans hp2, ?_⟩, Sub.ofS rfl ?_ rfl⟩
    · rw [← hJ, show xs.length / 2 - i = (xs.length / 2 - 1 - i) + 1 by lia, hfGo, show xs.length / 2 - (i + 1) = xs.length / 2 - 1 - i by lia]
    · have e1 : ((xs.length / 2 : Nat) : Int) - 1 - (i : Int) + -1 = ((xs.length / 2 : Nat) : Int) - 1 - ((i + 1 : Nat) : Int) := by lia
      have e2 : ((xs.length / 2 : Nat) : Int) - (i : Int) - 1 = ((xs.length / 2 : Nat) : Int) - ((i + 1 : Nat) : Int) := by lia
      dsimp only
      rw [← e, e1, e2]
      exact mem_swap
  · rintro ⟨ys, tk⟩ ⟨hp2, hJ⟩
    dsimp only at *
    refine WPLast.rng (by lia) (fun p hp => by rcases List.mem_cons.mp hp with rfl | hp; exact hIa.symm; exact hIr p hp) ?_
    walk_at "v"
    refine EndN.mk ⟨rfl, ?_⟩
    rw [← hJ, Nat.sub_self, hfGo]
end S_V_hp

section S_V_tied
open PySem PySem.W PyProof.Rows PySem.Spec PySem.Calls PyProof.Rows.LCg
set_option maxRecDepth 100000
set_option maxHeartbeats 4000000
noncomputable def tied (gs : List Int) (one two : Nat) : List Int := gs.map fun g => if g = max (gs.getD one 0) (gs.getD two 0) then min (gs.getD one 0) (gs.getD two 0) else g
theorem tied_ok (w : World) {a : Addr} {xs : List Value} {gs : List Int} {n : Nat} {rest : List (Addr × Obj)} {one two : Nat} {t1 t2 : Tok}
   (hsep : ∀ p ∈ rest, p.1 ≠ a) (hi' : Ints xs gs) (h3 : gs.length ≤ 100) (h1 : one < gs.length) (h2 : two < gs.length) :
  Call w 128 [.ref a, .int one t1, .int two t2] ((a, listOf xs.toArray n) :: rest) 10 40 (fun r news' => ∃ D ys k, r = .ref D ∧ news' = (D, listOf ys.toArray k) :: (a, listOf xs.toArray n) :: rest ∧ Ints ys (tied gs one two) ∧ a < D ∧ ∀ p ∈ rest, p.1 < D) := by
  refine' call_VC [(Str.ofString "groups", .ref a), (Str.ofString "one", .int one t1), (Str.ofString "two", .int two t2)] ?k1 ?k2 ?k3 ?kK ?kD ?k5 ?k6 ?k7 ?k9 ?_
  walk_at "v enterC"
  intro c tk0 cells _ hcl hY hlt
  k_cells hY
  have hl : xs.length = gs.length := hi'.1
  rename_i o1 o2 d1 d2
  show WPB c _ ⟨_, (c.L + 1 + 1, o1) :: (c.L + 1, o2) :: (a, listOf xs.toArray n) :: rest, _⟩ _ _
  obtain ⟨u1, e1⟩ := hi'.at h1
  obtain ⟨u2, e2⟩ := hi'.at h2
  have ha := hlt _ (.head _)
  have hr0 : ∀ p ∈ rest, p.1 < c.L := fun p hp => hlt p (.tail _ hp)
  have nl : ∀ p ∈ (a, listOf xs.toArray n) :: rest, p.1 ≠ c.L + 1 := ne_cons (Nat.ne_of_lt (Nat.lt_succ_of_lt ha)) fun p hp => Nat.ne_of_lt (Nat.lt_succ_of_lt (hr0 p hp))
  have nh : ∀ p ∈ (a, listOf xs.toArray n) :: rest, p.1 ≠ c.L + 1 + 1 := ne_cons (Nat.ne_of_lt (Nat.lt_succ_of_lt (Nat.lt_succ_of_lt ha))) fun p hp => Nat.ne_of_lt (Nat.lt_succ_of_lt (Nat.lt_succ_of_lt (hr0 p hp)))
  walk_at "v"
  refine WPSub.listN (.tail _ (.tail _ (.head _))) (by lia) (by lia) ?_
  walk_at "v"
  refine WPSub.listN (.tail _ (.tail _ (.head _))) (by lia) (by lia) ?_
  rw [e1, e2]
  walk_at "v"
  refine WPCall.minI fun _ tA => ?_
  walk_at "v"
  refine WPSub.listN (.tail _ (.tail _ (.head _))) (by lia) (by lia) ?_
  walk_at "v"
  refine WPSub.listN (.tail _ (.tail _ (.head _))) (by lia) (by lia) ?_
  rw [e1, e2]
  walk_at "v"
  refine WPCall.maxI fun _ tB => ?_
  walk_at "v"
  refine WPM.tup (Nat.le_of_ble_eq_true rfl) fun T hT => ?_
  have hTl := Nat.ne_of_gt (hT _ (.tail _ (.head _)))
  have hTh := Nat.ne_of_gt (hT _ (.head _))
  refine WPAsg.tup (.head _) (by walk_at "vr") (by walk_at "vr") ?_
  walk_at "v"
  refine WPStore.cell hcl rfl (.tail hTl (.tail (Nat.succ_ne_self _) (.head nl))) d2 rfl fun oA hA => ?_
  walk_at "v"
  refine WPStore.cell hcl rfl (.tail hTh (.head (ne_cons (Nat.succ_ne_self _).symm nh))) d1 rfl fun oB hB => ?_
  walk_at "v"
  refine WPE.comp (by show closureFor _ (envX c.cn _ c.L c.a c.ccd c.cl) = _; rw [hcl]; rfl) rfl (by decide) ?_ (fun _ _ => by walk_at "vr")
  walk_at "v"
  refine WPM.iterL (.tail _ (.tail _ (.tail _ (.head _)))) fun I o hIt hI => ?_
  have hll : (tied gs one two).length = gs.length := List.length_map _
  refine WPCv.map (st₀ := [(I, o)]) (fun i v => ∃ t, v = .int ((tied gs one two).getD i 0) t) (src_list (k := n) (vs := xs) (l := a) rfl) (List.forall_mem_singleton.mpr (.tail _ (.tail _ (.tail _ (.head _))))) (by lia) (by decide) rfl ⟨o, rfl, hIt⟩ (List.forall_mem_singleton.mpr fun p hp => Nat.ne_of_lt (hI p hp)) ?el ?fin
  case el =>
    intro ok m s htk C oC mC X i s' E' hi hle hC hB' F N hlt2
    have hi' : i < gs.length := by lia
    obtain ⟨tv, ev⟩ := Ints.at (by assumption) hi'
    rw [ev] at hB'
    have e3 : (tied gs one two).getD i 0 = if gs.getD i 0 = max (gs.getD one 0) (gs.getD two 0) then min (gs.getD one 0) (gs.getD two 0) else gs.getD i 0 := getD_map hi'
    refine IfExp_ (wpAny_isTrue_Compare1 (ld_own N hC hB' (lcf_cell N rfl (.tail _ (.tail _ (.head _))) hB (eq_int (wpAny_truthy_bool ?_)) rfl rfl)) rfl)
    by_cases e : gs.getD i 0 = max (gs.getD one 0) (gs.getD two 0)
    · rw [beq_iff_eq.mpr e, if_pos rfl]
      exact lcf_cell N rfl (.tail _ (.tail _ (.tail _ (.head _)))) hA (eDone (s' := s') ⟨_, by rw [e3, if_pos e]⟩ F N) rfl rfl
    · rw [beq_eq_false_iff_ne.mpr e, if_neg Bool.false_ne_true]
      exact ld_own N hC hB' (eDone (s' := s') ⟨_, by rw [e3, if_neg e]⟩ F N)
  case fin =>
    intro D ys k tk' _ hy hR hD
    rw [hl] at hy hR
    exact EndX.sub ((D, _) :: (a, _) :: rest) (List.forall_mem_cons.mpr ⟨.head _, fun p hp => .tail _ (.tail _ (.tail _ (.tail _ hp)))⟩) ⟨D, ys, k, rfl, rfl, ⟨by rw [hy, hll], fun i hi => hR i (by rw [← hll]; exact hi)⟩, hD _ (.tail _ (.tail _ (.tail _ (.head _)))), fun p hp => hD p (.tail _ (.tail _ (.tail _ (.tail _ hp))))⟩
end S_V_tied

section S_V_sdm
open PySem PySem.W PyProof.Rows PySem.Spec PySem.Calls
set_option maxRecDepth 100000
set_option maxHeartbeats 4000000

theorem siftdownmax_ok (w : World) {a : Addr} {xs : List Value} {n : Nat} {rest : List (Addr × Obj)} {st pos : Nat} {t1 t2 : Tok} (key : Value → Int × Int)
   (hsep : ∀ p ∈ rest, p.1 ≠ a) (hz : xs.length ≤ 100) (hk' : ∀ v ∈ xs, Tup2 rest v (key v)) (h2 : pos < xs.length) :
  Call w 63 [.ref a, .int st t1, .int pos t2] ((a, listOf xs.toArray n) :: rest) 10 40 (fun r news' => r = .none ∧ news' = (a, listOf (sd (fun u v => plt (key v) (key u)) .none xs st pos).toArray n) :: rest) := by
  refine' call_V [(Str.ofString "heap", .ref a), (Str.ofString "startpos", .int st t1), (Str.ofString "pos", .int pos t2)] ?k1 ?k2 ?k3 ?k4 ?k5 ?k6 ?k7 ?k8 ?k9 ?_
  walk_at "v enter"
  intro c tk _
  walk_at "v"
  refine WPSub.listN (.head _) h2 (by lia) ?_
  walk_at "v"
  refine WPS.whl (P := List Value × Nat × Tok × Nat)
    (fun p => p.2.1 < xs.length ∧ p.1.length = xs.length ∧ (∀ v ∈ p.1, Tup2 rest v (key v)) ∧
      sdGo (fun u v => plt (key v) (key u)) .none (xs.getD pos .none) st p.2.1 p.1 p.2.1 = sd (fun u v => plt (key v) (key u)) .none xs st pos)
    (fun p => ⟨[(Str.ofString "heap", .ref a), (Str.ofString "startpos", .int st t1), (Str.ofString "pos", .int p.2.1 p.2.2.1), (Str.ofString "newitem", xs.getD pos .none)], (a, listOf p.1.toArray n) :: rest, p.2.2.2⟩)
    (fun p => p.2.1) (xs, pos, t2, _) ⟨h2, rfl, hk', rfl⟩ (Sub.of rfl rfl rfl) fun p hI => ?_
  obtain ⟨ys, q, tq, tk⟩ := p
  obtain ⟨q1, q2, q3, q4⟩ := hI
  dsimp only at *
  walk_at "v"
  refine WPCmp.gtI (fun hst => ?_) (fun hst => ?_)
  · walk_at "v"
    refine WPBin.rshE ((q - 1) / 2 : Nat) (by lia) ?_
    walk_at "v"
    have hq : (q - 1) / 2 < q := by lia
    refine WPSub.listN (.head _) (by lia) (by lia) ?_
    walk_at "v"
    refine WPS.ite ?_
    walk_at "v"
    refine WPCmp.lt2 (fun _ h => .tail _ h) (q3 _ (getD_mem (by lia))) (hk' _ (getD_mem h2)) (by decide) (fun hlt => ?_) (fun hlt => ?_)
    · walk_at "v"
      refine WPSet.listN hsep (by lia) (by lia) ?_
      walk_at "v"
      refine LoopX.cont ⟨(ys.set q (ys.getD ((q - 1) / 2) .none), (q - 1) / 2, _, _), hq, ⟨Nat.lt_trans hq q1, by simp [q2], ?_, ?_⟩, Sub.of rfl rfl rfl⟩
      · intro v hv
        rcases List.mem_or_eq_of_mem_set hv with hv | rfl
        · exact q3 v hv
        · exact q3 _ (getD_mem (by lia))
      · rw [← q4]
        obtain ⟨j, rfl⟩ : ∃ j, q = j + 1 := ⟨q - 1, by lia⟩
        rw [sdGo, if_pos (by lia), if_pos hlt]
        exact sdGo_fuel _ _ _ _ (Nat.le_refl _) (by lia)
    · walk_at "v"
      refine LoopX.brk ?_
      walk_at "v"
      refine WPSet.listN hsep (by lia) (by lia) ?_
      walk_at "v"
      refine EndN.mk ⟨rfl, ?_⟩
      rw [← q4]
      obtain ⟨j, rfl⟩ : ∃ j, q = j + 1 := ⟨q - 1, by lia⟩
      rw [sdGo, if_pos (by lia), if_neg (by rw [hlt]; exact Bool.false_ne_true)]
  · walk_at "v"
    refine WPSet.listN hsep (by lia) (by lia) ?_
    walk_at "v"
    refine EndN.mk ⟨rfl, ?_⟩
    rw [← q4]
    cases q with
    | zero => rfl
    | succ j => rw [sdGo, if_neg (by lia)]
end S_V_sdm

section S_V_sum
open PySem PySem.W PyProof.Rows PySem.Spec PySem.Calls
set_option maxRecDepth 100000
set_option maxHeartbeats 4000000

theorem siftupmax_ok (w : World) {a : Addr} {xs : List Value} {n : Nat} {rest : List (Addr × Obj)} {pos : Nat} {t1 : Tok} (key : Value → Int × Int)
   (hsep : ∀ p ∈ rest, p.1 ≠ a) (hz : xs.length ≤ 100) (hk' : ∀ v ∈ xs, Tup2 rest v (key v)) (h2 : pos < xs.length) :
  Call w 70 [.ref a, .int pos t1] ((a, listOf xs.toArray n) :: rest) 20 60 (fun r news' => r = .none ∧ news' = (a, listOf (su (fun u v => plt (key v) (key u)) .none xs pos).toArray n) :: rest) := by
  refine' call_V [(Str.ofString "heap", .ref a), (Str.ofString "pos", .int pos t1)] ?k1 ?k2 ?k3 ?k4 ?k5 ?k6 ?k7 ?k8 ?k9 ?_
  walk_at "v enter"
  intro c tk0 _
  walk_at "v"
  refine WPCall.len (.head _) (by lia) ?_
  walk_at "v"
  refine WPSub.listN (.head _) h2 (by lia) ?_
  walk_at "v"
  refine WPBin.mulE (2 * pos : Nat) (by decide) (by lia) ?_
  walk_at "v1"
  refine WPBin.addE (2 * pos + 1 : Nat) (by lia) ?_
  walk_at "v"
  refine WPS.whl (P := List Value × Nat × Nat × Tok × Tok × Nat)
    (fun p => p.2.1 < xs.length ∧ p.1.length = xs.length ∧ p.2.2.1 + p.2.1 = xs.length ∧ (∀ v ∈ p.1, Tup2 rest v (key v)) ∧
      suGo (fun u v => plt (key v) (key u)) .none xs.length p.2.2.1 p.1 p.2.1 = suGo (fun u v => plt (key v) (key u)) .none xs.length xs.length xs pos)
    (fun p => ⟨[(Str.ofString "heap", .ref a), (Str.ofString "startpos", .int pos t1), (Str.ofString "endpos", .int xs.length (tk0 + 1)), (Str.ofString "pos", .int p.2.1 p.2.2.2.1), (Str.ofString "childpos", .int (2 * p.2.1 + 1 : Nat) p.2.2.2.2.1), (Str.ofString "newitem", xs.getD pos .none)], (a, listOf p.1.toArray n) :: rest, p.2.2.2.2.2⟩)
    (fun p => p.2.2.1) (xs, pos, xs.length - pos, t1, _, _) ⟨h2, rfl, by lia, hk', suGo_fuel _ _ _ _ (by lia) (by lia)⟩ (Sub.of rfl rfl rfl) fun p hI => ?_
  obtain ⟨ys, q, k, tq, tc, tk⟩ := p
  obtain ⟨q1, q2, hkq, q3, q4⟩ := hI
  dsimp only at *
  walk_at "v"
  refine WPCmp.ltI (fun hst => ?_) (fun hst => ?_)
  · replace hst := Int.ofNat_lt.mp hst
    walk_at "v1"
    walk_at "v1"
    walk_at "v1"
    walk_at "v1"
    walk_at "v1"
    refine WPBin.addE (2 * q + 2 : Nat) (by lia) ?_
    walk_at "v"
    have hc1 := @kid_gt _ (fun u v => plt (key v) (key u)) .none ys xs.length (2 * q + 1)
    have hc2 := @kid_lt _ (fun u v => plt (key v) (key u)) .none ys xs.length (2 * q + 1) hst
    refine WPS.join (P := Nat × Tok × Nat) (fun p => kid (fun u v => plt (key v) (key u)) .none ys xs.length (2 * q + 1) = p.1)
      (fun p => ⟨[(Str.ofString "heap", .ref a), (Str.ofString "startpos", .int pos t1), (Str.ofString "endpos", .int xs.length (tk0 + 1)), (Str.ofString "pos", .int q tq), (Str.ofString "childpos", .int p.1 p.2.1), (Str.ofString "newitem", xs.getD pos .none)], (a, listOf ys.toArray n) :: rest, p.2.2⟩) ?_ ?_
    · rintro ⟨c0, tc, tk⟩ hc
      dsimp only at *
      rw [hc] at hc1 hc2
      walk_at "v"
      refine WPSub.listN (.head _) (by lia) (by lia) ?_
      walk_at "v"
      refine WPSet.listN hsep (by lia) (by lia) ?_
      walk_at "v"
      refine WPBin.mulE (2 * c0 : Nat) (by decide) (by lia) ?_
      walk_at "v1"
      refine WPBin.addE (2 * c0 + 1 : Nat) (by lia) ?_
      walk_at "v"
      refine ⟨(ys.set q (ys.getD c0 .none), c0, xs.length - c0, _, _, _), by lia, ⟨hc2, by simp [q2], by lia, ?_, ?_⟩, Sub.of rfl rfl rfl⟩
      · intro v hv
        rcases List.mem_or_eq_of_mem_set hv with hv | rfl
        · exact q3 v hv
        · exact q3 _ (getD_mem (by lia))
      · rw [← q4]
        exact (suGo_step hst (by lia) q1 hc).symm
    · refine WPS.ite ?_
      walk_at "v"
      refine WPCmp.ltI (fun h3 => ?_) (fun h3 => ?_)
      · walk_at "v"
        refine WPSub.listN (.head _) (by lia) (by lia) ?_
        walk_at "v"
        refine WPSub.listN (.head _) (by lia) (by lia) ?_
        refine WPCmp.lt2 (fun _ h => .tail _ h) (q3 _ (getD_mem (by lia))) (q3 _ (getD_mem (by lia))) (by decide) (fun hlt => ?_) (fun hlt => ?_)
        · walk_at "v"
          exact ⟨(2 * q + 1, _, _), by unfold kid; rw [if_neg]; rintro ⟨_, h⟩; exact absurd (hlt.symm.trans h) (by decide), Sub.of rfl rfl rfl⟩
        · walk_at "v"
          exact ⟨(2 * q + 2, _, _), by unfold kid; rw [if_pos]; exact ⟨Int.ofNat_lt.mp h3, hlt⟩, Sub.of rfl rfl rfl⟩
      · walk_at "v"
        exact ⟨(2 * q + 1, _, _), by unfold kid; rw [if_neg]; rintro ⟨h, _⟩; lia, Sub.of rfl rfl rfl⟩
  · walk_at "v"
    refine WPSet.listN hsep (by lia) (by lia) ?_
    walk_at "v"
    refine WPCall.use (siftdownmax_ok c.w (xs := ys.set q (xs.getD pos .none)) (pos := q) key hsep (by rw [List.length_set, q2]; exact hz) ?_ (by rw [List.length_set, q2]; exact q1)) (by decide) (by decide) ?_
    · intro v hv
      rcases List.mem_or_eq_of_mem_set hv with hv | rfl
      · exact q3 v hv
      · exact hk' _ (getD_mem h2)
    rintro r _ tk' _ ⟨rfl, rfl⟩
    walk_at "v"
    refine EndN.mk ⟨rfl, ?_⟩
    unfold su
    rw [← q4, suGo_stop (by lia)]
end S_V_sum

section S_V_hpm
open PySem PySem.W PyProof.Rows PySem.Spec PySem.Calls
set_option maxRecDepth 100000
set_option maxHeartbeats 4000000

theorem heapifymax_ok (w : World) {a : Addr} {xs : List Value} {n : Nat} {rest : List (Addr × Obj)} (key : Value → Int × Int)
   (hsep : ∀ p ∈ rest, p.1 ≠ a) (hz : xs.length ≤ 100) (hk' : ∀ v ∈ xs, Tup2 rest v (key v)) :
  Call w 42 [.ref a] ((a, listOf xs.toArray n) :: rest) 30 80 (fun r news' => r = .none ∧ news' = (a, listOf (hf (fun u v => plt (key v) (key u)) .none xs).toArray n) :: rest) := by
  refine' call_V [(Str.ofString "x", .ref a)] ?k1 ?k2 ?k3 ?k4 ?k5 ?k6 ?k7 ?k8 ?k9 ?_
  walk_at "v enter"
  intro c tk0 _
  walk_at "v"
  refine WPCall.len (.head _) (by lia) ?_
  walk_at "v"
  refine WPBin.fdivE (xs.length / 2 : Nat) (by decide) (by decide) (by lia) ?_
  walk_at "v"
  refine WPCall.rng fun r t u v hr => ?_
  walk_at "v"
  refine WPCall.rev (.head _) (Int.natCast_nonneg _) (by lia) fun I hI => ?_
  walk_at "v"
  refine WPM.iterI (.head _) ?_
  have hIa : I ≠ a := (Nat.ne_of_lt (hI _ (.tail _ (.head _)))).symm
  have hIr : ∀ p ∈ rest, p.1 ≠ I := fun p hp => Nat.ne_of_lt (hI _ (.tail _ (.tail _ hp)))
  refine WPFor.mk (P := List Value × Nat) (xs.length / 2) (fun i p => p.1.Perm xs ∧ hfGo (fun u v => plt (key v) (key u)) .none (xs.length / 2 - i) p.1 = hf (fun u v => plt (key v) (key u)) .none xs)
    (fun i p => ⟨[(Str.ofString "x", .ref a)], (I, rngIt ((xs.length / 2 : Nat) - 1 - (i : Int)) ((xs.length / 2 : Nat) - (i : Int)) (-1)) :: (a, listOf p.1.toArray n) :: rest, p.2⟩) (xs, _) ⟨.refl _, rfl⟩ (Sub.ofS rfl ?_ rfl) ?_ ?_ (fun _ => rfl)
  · show ∀ p ∈ (I, rngIt ((xs.length / 2 : Nat) - 1 - ((0 : Nat) : Int)) ((xs.length / 2 : Nat) - ((0 : Nat) : Int)) (-1)) :: (a, listOf xs.toArray n) :: rest, _
    rw [Int.natCast_zero, Int.sub_zero, Int.sub_zero]
    intro p hp
    rcases List.mem_cons.mp hp with rfl | hp
    · exact .head _
    · exact .tail _ (.tail _ hp)
  · rintro i ⟨ys, tk⟩ hi ⟨hp2, hJ⟩
    dsimp only at *
    have hlen := hp2.length_eq
    refine WPNext.rng (by lia) (fun p hp => by rcases List.mem_cons.mp hp with rfl | hp; exact hIa.symm; exact hIr p hp) ?_
    have e : ((xs.length / 2 : Nat) : Int) - 1 - (i : Int) = ((xs.length / 2 - 1 - i : Nat) : Int) := by lia
    rw [e]
    walk_at "v"
    refine WPM.ledg mem_swap (WPCall.use (siftupmax_ok c.w (a := a) (n := n) (xs := ys) key (rest := (I, _) :: rest) (List.forall_mem_cons.mpr ⟨hIa, hsep⟩) (by lia) (fun v hv => (hk' v (hp2.mem_iff.mp hv)).mono fun _ hp => .tail _ hp) (by lia)) (by decide) (by decide) ?_)
    rintro r _ tk' _ ⟨rfl, rfl⟩
    walk_at "v"
    refine ⟨(su (fun u v => plt (key v) (key u)) .none ys (xs.length / 2 - 1 - i), _), ⟨(su_perm (by lia)).trans hp2, ?_⟩, Sub.ofS rfl ?_ rfl⟩
    · rw [← hJ, show xs.length / 2 - i = (xs.length / 2 - 1 - i) + 1 by lia, hfGo, show xs.length / 2 - (i + 1) = xs.length / 2 - 1 - i by lia]
    · have e1 : ((xs.length / 2 : Nat) : Int) - 1 - (i : Int) + -1 = ((xs.length / 2 : Nat) : Int) - 1 - ((i + 1 : Nat) : Int) := by lia
      have e2 : ((xs.length / 2 : Nat) : Int) - (i : Int) - 1 = ((xs.length / 2 : Nat) : Int) - ((i + 1 : Nat) : Int) := by lia
      dsimp only
      rw [← e, e1, e2]
      exact mem_swap
  · rintro ⟨ys, tk⟩ ⟨hp2, hJ⟩
    dsimp only at *
    refine WPLast.rng (by lia) (fun p hp => by rcases List.mem_cons.mp hp with rfl | hp; exact hIa.symm; exact hIr p hp) ?_
    walk_at "v"
    refine EndN.mk ⟨rfl, ?_⟩
    rw [← hJ, Nat.sub_self, hfGo]

theorem hreplace_ok (w : World) {a : Addr} {xs : List Value} {n : Nat} {v : Value} {rest : List (Addr × Obj)} (key : Value → Int × Int)
   (hsep : ∀ p ∈ rest, p.1 ≠ a) (hz : xs.length ≤ 100) (hk' : ∀ v ∈ xs, Tup2 rest v (key v)) (hv : Tup2 rest v (key v)) (h2 : 0 < xs.length) :
  Call w 35 [.ref a, v] ((a, listOf xs.toArray n) :: rest) 30 80 (fun r news' => r = xs.getD 0 .none ∧ news' = (a, listOf (su (fun u v => plt (key v) (key u)) .none (xs.set 0 v) 0).toArray n) :: rest) := by
  refine' call_V [(Str.ofString "heap", .ref a), (Str.ofString "item", v)] ?k1 ?k2 ?k3 ?k4 ?k5 ?k6 ?k7 ?k8 ?k9 ?_
  walk_at "v enter"
  intro c tk0 _
  walk_at "v"
  refine WPSub.list (k := 0) (.head _) (Int.le_refl _) (Int.ofNat_lt.mpr h2) (by lia) ?_
  walk_at "v"
  refine WPSet.list (k := 0) (.head hsep) (Int.le_refl _) (Int.ofNat_lt.mpr h2) (by lia) ?_
  walk_at "v"
  refine WPCall.use (siftupmax_ok c.w (pos := 0) (xs := xs.set 0 v) key hsep (by rw [List.length_set]; exact hz) (fun u hu => ?_) (by rw [List.length_set]; exact h2)) (by decide) (by decide) ?_
  · rcases List.mem_or_eq_of_mem_set hu with hu | rfl
    · exact hk' u hu
    · exact hv
  rintro r _ tk' _ ⟨rfl, rfl⟩
  walk_at "v"
  exact EndX.mk ⟨rfl, rfl⟩
end S_V_hpm

section S_V_nsm
open PySem PySem.W PyProof.Rows PySem.Spec PySem.Calls PyProof.Rows.LCg
set_option maxRecDepth 100000
set_option maxHeartbeats 4000000
theorem nsm_ok (w : World) {a : Addr} {xs : List Value} {gs : List Int} {k n : Nat} {t1 : Tok} {rest : List (Addr × Obj)}
   (hi' : Ints xs gs) (h3 : gs.length ≤ 20) (h4 : 3 ≤ gs.length) (hk : k + 1 = gs.length) :
  Call w 76 [.int k t1, .ref a] ((a, listOf xs.toArray n) :: rest) 40 100 (fun r news' => ∃ D ys c out mx, r = .ref D ∧ news' = (D, listOf ys.toArray c) :: (a, listOf xs.toArray n) :: rest ∧ Ints ys out ∧ out.Pairwise (· ≤ ·) ∧ (mx :: out).Perm gs ∧ (∀ x ∈ out, x ≤ mx) ∧ a < D ∧ ∀ p ∈ rest, p.1 < D) := by
  refine' call_VC [(Str.ofString "n", .int k t1), (Str.ofString "iterable", .ref a)] ?k1 ?k2 ?k3 ?kK ?kD ?k5 ?k6 ?k7 ?k9 ?_
  walk_at "v enterC"
  intro c tk0 cells _ hcl hY hlt
  k_cells hY
  rename_i oK dK
  have dK : oK.data = .cell (some .none) := dK
  show WPB c _ ⟨_, (c.L + 1, oK) :: (a, listOf xs.toArray n) :: rest, _⟩ _ _
  have hl : xs.length = gs.length := hi'.1
  have ha := hlt _ (.head _)
  have hr0 : ∀ p ∈ rest, p.1 < c.L := fun p hp => hlt p (.tail _ hp)
  walk_at "v"
  refine WPS.ite ?_
  walk_at "v"
  refine WPCmp.eqI (fun e => by exfalso; lia) (fun _ => ?_)
  walk_at "v"
  refine WPCall.len (.tail _ (.head _)) (by lia) ?_
  walk_at "v"
  refine WPS.ite ?_
  walk_at "v"
  refine WPCmp.geI (fun e => by exfalso; lia) (fun _ => ?_)
  walk_at "v"
  refine WPS.ite ?_
  walk_at "v"
  refine WPE.cell hcl rfl (.head _) dK rfl rfl ?_
  walk_at "v"
  refine WPCmp.isN ?_
  walk_at "v"
  refine WPCall.iter (.tail _ (.head _)) fun I oI hI l1 => ?_
  walk_at "v1"
  walk_at "v1"
  have hIa := l1 _ (.tail _ (.head _))
  have hIL := l1 _ (.head _)
  have hIr : ∀ p ∈ rest, p.1 < I := fun p hp => l1 p (.tail _ (.tail _ hp))
  refine WPS.asgC (by walk_at "vr") (by walk_at "vr") rfl (by decide) ?_ (fun _ _ => by walk_at "vr")
  walk_at "v"
  refine WPCall.rng fun r _ _ _ hr => ?_
  walk_at "v"
  refine WPCall.zipq (.head _) (.tail _ (.head _)) hI (by lia) fun Z st hZ l3 l4 => ?_
  refine WPM.iterZQ hZ ?_
  have hIZ := l3 _ (.tail _ (.head _))
  have hb : ∀ p ∈ (c.L + 1, oK) :: (a, listOf xs.toArray n) :: rest, p.1 < I := List.forall_mem_cons.mpr ⟨hIL, List.forall_mem_cons.mpr ⟨hIa, hIr⟩⟩
  have hst : ∀ q ∈ st, ∀ p ∈ (c.L + 1, oK) :: (a, listOf xs.toArray n) :: rest, p.1 ≠ q.1 := fun q hq p hp => (l4 q hq).elim (fun e => by rw [e]; exact Nat.ne_of_lt (hb p hp)) fun e => Nat.ne_of_lt (Nat.lt_of_lt_of_le (Nat.lt_trans (hb p hp) hIZ) e)
  refine WPCa.ledg (led' := st ++ (c.L + 1, oK) :: (a, listOf xs.toArray n) :: rest) (fun p hp => (List.mem_append.mp hp).elim (fun h => List.mem_append.mpr (.inl h)) fun h => List.mem_append.mpr (.inr (.tail _ (.tail _ h)))) ?_
  refine WPCa.q (KN gs) (k := n) (ys := xs) (l := a) (n := k) (I := I) (Z := Z) (by decide) (by lia) hIZ (.tail _ (.head _)) (fun _ _ _ h => h.length) (by lia) (by decide) rfl hZ KN.zero hst ?el rfl rfl rfl ?fin
  case el =>
    intro ok m s htk D C oC oD mC st' i ys acc s' E' hi hle _ hC hB hk F N o1 o2 o3 o4 o5
    obtain ⟨⟨ti, hB1⟩, hB2⟩ := hB
    obtain ⟨te, ee⟩ := hi'.at (show i < gs.length by lia)
    rw [ee] at hB2
    have N1 := News.sub N (mem_bring st')
    refine Tuple_ (args_cons (ld_own N1 hC hB2 (args_cons (ld_own N1 hC hB1 (args_nil (newTuple_N F N (fun h2 F2 N2 => ?_) (Nat.le_of_ble_eq_true rfl)))))))
    exact ⟨h2, s'.toks, [(_, _)], rfl, hk.snoc fun p hp => Heap.lt_size (N p (List.mem_append.mpr (.inr (.tail _ (.tail _ (List.mem_append.mpr (.inl hp))))))).1, List.forall_mem_singleton.mpr fun q hq => Heap.lt_size (N q hq).1, F2, N2⟩
  case fin =>
    intro D C vs kk acc oI' tk6 htk6 hoI hKN hnD hID hDC hCacc
    clear hst hZ l4 hr l3 l1 hIZ
    have hvl := hKN.length
    obtain ⟨kf, hT, hkeys⟩ := hKN.tup
    generalize hr2 : acc ++ (c.L + 1, oK) :: (a, listOf xs.toArray n) :: rest = rest2
    have hsI : ∀ p ∈ rest2, p.1 ≠ I := by
      subst hr2
      exact ne_app (fun p hp => Nat.ne_of_gt (Nat.lt_trans hID (Nat.lt_trans hDC (hCacc p hp)))) fun p hp => Nat.ne_of_lt (hb p hp)
    have hsD : ∀ p ∈ rest2, p.1 ≠ D := by
      subst hr2
      exact ne_app (fun p hp => Nat.ne_of_gt (Nat.lt_trans hDC (hCacc p hp))) fun p hp => Nat.ne_of_lt (hnD p hp)
    have hT2 : ∀ v ∈ vs, Tup2 rest2 v (keyw kf v) := fun v hv => (hT v hv).mono fun p hp => by subst hr2; exact List.mem_append.mpr (.inl hp)
    have ham : (a, listOf xs.toArray n) ∈ rest2 := by subst hr2; exact List.mem_append.mpr (.inr (.tail _ (.head _)))
    have hrr : ∀ p ∈ rest, p ∈ rest2 := fun p hp => by subst hr2; exact List.mem_append.mpr (.inr (.tail _ (.tail _ hp)))
    clear hKN hT hr2 hCacc
    have hlx : vs.length ≤ 100 := by lia
    walk_at "v"
    refine WPS.ite ?_
    walk_at "v"
    refine WPTru.list (.head _) (by lia) (fun he => ?_) (fun he => by
      exfalso
      rw [List.isEmpty_iff.mp he] at hvl
      rw [List.length_nil] at hvl
      lia)
    walk_at "v"
    refine WPCall.use (heapifymax_ok c.w (keyw kf) (ne_cons (Nat.ne_of_lt hID) hsD) hlx fun v hv => (hT2 v hv).mono sub_tail) (by decide) (by decide) ?_
    rintro _ _ tk8 htk8 ⟨rfl, rfl⟩
    have hyp : (hf (fun u v => plt (keyw kf v) (keyw kf u)) .none vs).Perm vs := hf_perm
    have hyh := hf_heap (plt_ord (keyw kf)) (xs := vs) (d := Value.none)
    generalize hf (fun u v => plt (keyw kf v) (keyw kf u)) .none vs = ys at *
    have hyl : ys.length = k := by rw [hyp.length_eq]; exact hvl
    have hroot := heap_root (plt_ord (keyw kf)) hyh
    have hTy : ∀ v ∈ ys, Tup2 rest2 v (keyw kf v) := fun v hv => hT2 v (hyp.mem_iff.mp hv)
    obtain ⟨b0, v0, v1, e0, m0⟩ := hTy _ (getD_mem (d := Value.none) (show 0 < ys.length by lia))
    rw [e0] at m0 hroot
    walk_at "v"
    refine WPSub.list (k := 0) (.head _) (Int.le_refl _) (by lia) (by lia) ?_
    rw [show ys.getD (Int.toNat 0) Value.none = .ref b0 from e0]
    walk_at "v"
    refine WPSub.tup0 (.tail _ (.tail _ m0)) ?_
    walk_at "v"
    refine WPM.iterLI (.tail _ (.head _)) hoI ?_
    refine WPFor.ledg (led' := (I, oI') :: (D, listOf ys.toArray kk) :: rest2) mem_swap ?_
    refine WPFor.one (AgainF (P := List Value × Nat × (Addr → Int × Int) × List (Addr × Obj) × Int × Obj × Nat) (fun _ p => ListIt p.2.2.2.2.2.1 a (k + 1) ∧ (∀ q ∈ p.2.2.2.1, q.1 ≠ I) ∧ (∀ q ∈ p.2.2.2.1, q.1 ≠ D) ∧ (∀ q ∈ rest2, q ∈ p.2.2.2.1) ∧ (∀ v ∈ p.1, Tup2 p.2.2.2.1 v (keyw p.2.2.1 v)) ∧ p.1.length = k ∧ Small gs p.1 (keyw p.2.2.1) p.2.2.2.2.1)
      (fun _ p => ⟨[(Str.ofString "result", .ref D)], (I, p.2.2.2.2.2.1) :: (D, listOf p.1.toArray p.2.1) :: p.2.2.2.1, p.2.2.2.2.2.2⟩) 0) ?turn ?last (fun _ => rfl)
    case turn =>
      refine WPNext.lst hoI (.tail _ ham) (by lia) (ne_cons (Nat.ne_of_gt hID) hsI) fun o' hoE => ?_
      obtain ⟨tg, eg⟩ := hi'.at (show k < gs.length by lia)
      rw [eg]
      walk_at "v"
      refine WPS.ite ?_
      walk_at "v"
      refine WPCmp.ltI (fun hlt => ?_) (fun hge => ?_)
      · walk_at "v"
        refine WPM.tup (Nat.le_of_ble_eq_true rfl) fun B hB => ?_
        have hBI := hB _ (.head _)
        have hBD := hB _ (.tail _ (.head _))
        have hBr : ∀ p ∈ rest2, p.1 < B := fun p hp => hB p (.tail _ (.tail _ hp))
        obtain ⟨yr, rfl⟩ : ∃ yr, ys = .ref b0 :: yr := by
          cases ys with
          | nil => rw [List.length_nil] at hyl; lia
          | cons y0 yr => exact ⟨yr, by rw [show y0 = .ref b0 from e0]⟩
        let kf' : Addr → Int × Int := fun x => if x = B then (gs.getD k 0, (k : Int)) else kf x
        have hkB : keyw kf' (.ref B) = (gs.getD k 0, (k : Int)) := if_pos rfl
        have hkr : ∀ v ∈ (Value.ref b0 :: yr), keyw kf' v = keyw kf v := fun v hv => by
          obtain ⟨b, x1, x2, rfl, hm⟩ := hTy v hv
          exact if_neg (Nat.ne_of_lt (hBr _ hm))
        clear_value kf'
        have hTn : ∀ v ∈ (Value.ref b0 :: yr), Tup2 rest2 v (keyw kf' v) := fun v hv => by rw [hkr v hv]; exact hTy v hv
        walk_at "v"
        refine WPM.ledg (led' := (D, listOf (Value.ref b0 :: yr).toArray kk) :: (B, tupO [.int (gs.getD k 0) tg, .int (k : Int) t1]) :: (I, o') :: rest2) (mem_bring [_, _]) ?_
        have hTB : ∀ rr, Tup2 ((B, tupO [.int (gs.getD k 0) tg, .int (k : Int) t1]) :: rr) (.ref B) (keyw kf' (.ref B)) := fun rr => by
          rw [hkB]; exact ⟨B, _, _, rfl, .head _⟩
        refine WPCall.use (hreplace_ok c.w (xs := Value.ref b0 :: yr) (v := .ref B) (n := kk) (a := D) (keyw kf') (ne_cons (Nat.ne_of_gt hBD) (ne_cons (Nat.ne_of_lt hID) hsD)) (by lia) (fun v hv => (hTn v hv).mono fun p hp => .tail _ (.tail _ hp)) (hTB _) (by lia)) (by decide) (by decide) ?_
        rintro _ _ tk14 htk14 ⟨rfl, rfl⟩
        have hzp : (su (fun u v => plt (keyw kf' v) (keyw kf' u)) .none ((Value.ref b0 :: yr).set 0 (.ref B)) 0).Perm (.ref B :: yr) := su_perm (Nat.succ_pos _)
        generalize su (fun u v => plt (keyw kf' v) (keyw kf' u)) .none ((Value.ref b0 :: yr).set 0 (.ref B)) 0 = zs at *
        have hzl : zs.length = k := by rw [hzp.length_eq, ← hyl]; rfl
        have hTz : ∀ v ∈ zs, Tup2 ((B, tupO [.int (gs.getD k 0) tg, .int (k : Int) t1]) :: rest2) v (keyw kf' v) := fun v hv => by
          rcases List.mem_cons.mp (hzp.mem_iff.mp hv) with rfl | hv
          · exact hTB _
          · exact (hTn v (.tail _ hv)).mono sub_tail
        obtain ⟨b1, w0, w1, e1, m1⟩ := hTz _ (getD_mem (d := Value.none) (show 0 < zs.length by lia))
        have hSm : Small gs zs (keyw kf') (keyw kf (.ref b0)).1 := small_swap (y0 := .ref b0) (B := .ref B) (yr := yr) (key := keyw kf) (by lia) (by rw [← hkeys]; exact hyp.map _) (fun v hv => by
          obtain ⟨j, hj, ej⟩ := List.getElem_of_mem hv
          have := plt_fst (hroot (j + 1) (Nat.succ_lt_succ hj))
          have e2 : (Value.ref b0 :: yr).getD (j + 1) .none = v := by rw [getD_eq (Nat.succ_lt_succ hj)]; exact ej
          rw [e2] at this
          exact this) hlt hkB (fun v hv => hkr v (.tail _ hv)) hzp
        walk_at "v"
        refine WPSub.list (k := 0) (.head _) (Int.le_refl _) (by lia) (by lia) ?_
        rw [show zs.getD (Int.toNat 0) Value.none = .ref b1 from e1]
        refine WPAsg.tup (.tail _ ((sub_cons sub_tail) _ m1)) (by walk_at "vr") (by walk_at "vr") ?_
        walk_at "v"
        refine WPM.iaddI ?_
        walk_at "v"
        exact ⟨(zs, kk, kf', (B, _) :: rest2, (keyw kf (.ref b0)).1, o', _), ⟨hoE, ne_cons (Nat.ne_of_gt hBI) hsI, ne_cons (Nat.ne_of_gt hBD) hsD, sub_tail, hTz, hzl, hSm⟩, Sub.ofS rfl (mem_bring [_, _]) rfl⟩
      · walk_at "v"
        exact ⟨(ys, kk, kf, rest2, gs.getD k 0, o', _), ⟨hoE, hsI, hsD, fun p hp => hp, hTy, hyl, small_keep (by lia) (by rw [← hkeys]; exact hyp.map _) fun v hv => by
          obtain ⟨j, hj, ej⟩ := List.getElem_of_mem hv
          have := plt_fst (hroot j hj)
          rw [getD_eq hj, ej] at this
          exact Int.le_trans this hge⟩, Sub.of rfl rfl rfl⟩
    case last =>
      clear hroot e0 m0 hTy hyl hyh hyp hkeys hoI
      rintro st' ⟨⟨zs, k2, kf', rest3, mx, oE, tk⟩, ⟨hoE, hI3, hs3, hsub, hT3, hzl, hS⟩, hSt⟩
      refine WPLast.weak hSt ?_
      dsimp only at *
      refine WPLast.lst hoE (.tail _ (hsub _ ham)) (by lia) (ne_cons (Nat.ne_of_gt hID) hI3) ?_
      walk_at "v"
      refine WPE.meth0 PySem.F.slot_list_sort PySem.F.type_list_sort ?_ (fun _ => by walk_at "vr") (by walk_at "vr")
      walk_at "v"
      refine ⟨.mk (.head _), WPCall.sort (keyw kf') hs3 (by lia) (by lia) hT3 hS.key_inj fun c2 out hop hos => ?_⟩
      obtain ⟨hv1, hv2, hv3⟩ := hS.sorted hop hos
      have hTo : ∀ v ∈ out, Tup2 rest3 v (keyw kf' v) := fun v hv => hT3 v (hop.mem_iff.mp hv)
      have hol : out.length = k := by rw [hop.length_eq, hzl]
      walk_at "v"
      refine WPE.comp (by show closureFor _ (envX c.cn _ c.L c.a c.ccd c.cl) = _; rw [hcl]; rfl) rfl (by decide) ?_ (fun _ _ => by walk_at "vr")
      walk_at "v"
      refine WPM.iterL (.head _) fun I2 o2 hI2 hl9 => ?_
      refine WPCv.map (st₀ := [(I2, o2)]) (fun i v => ∃ t, v = .int (keyw kf' (out.getD i .none)).1 t) (src_listT (base := rest3) (vs := out) (k := c2) (l := D) (keyw kf') rfl (by decide) hTo) (fun p hp => hp) (by lia) (by decide) rfl ⟨o2, rfl, hI2⟩ (List.forall_mem_singleton.mpr fun p hp => Nat.ne_of_lt (hl9 p hp)) ?el9 ?fin9
      case el9 =>
        intro ok m s htk C oC mC X i s' E' hi hle hC hB' F N hlt2
        obtain ⟨tb, hB⟩ := hB'
        exact ld_own N hC hB (eDone (s' := s') ⟨tb, rfl⟩ F N)
      case fin9 =>
        intro D2 ys2 k2 tk23 htk23 hy hR hlD
        refine EndX.sub ((D2, listOf ys2.toArray k2) :: (a, listOf xs.toArray n) :: rest) (List.forall_mem_cons.mpr ⟨.head _, List.forall_mem_cons.mpr ⟨.tail _ (.tail _ (hsub _ ham)), fun p hp => .tail _ (.tail _ (hsub _ (hrr p hp)))⟩⟩)
          ⟨D2, ys2, k2, (out.map fun v => (keyw kf' v).1), mx, rfl, rfl, ⟨by rw [List.length_map, hy], fun i hi => ?_⟩, hv1, hv2, hv3, hlD _ (.tail _ (hsub _ ham)), fun p hp => hlD p (.tail _ (hsub _ (hrr p hp)))⟩
        have hi2 : i < out.length := by rw [List.length_map] at hi; exact hi
        obtain ⟨t, e⟩ := hR i hi2
        exact ⟨t, by rw [e, getD_map (d := Value.none) hi2]⟩
end S_V_nsm

section S_LawP
set_option maxRecDepth 100000
open PySem PySem.W PyProof.Rows

theorem sum_gap1 (ss ring : List Int) : ∀ m, ((List.range m).map (gap1 ss ring)).sum = ss.getD (ring.getD m 0).toNat 0 - ss.getD (ring.getD 0 0).toNat 0
  | 0 => by simp
  | m + 1 => by
    rw [List.range_succ, List.map_append, List.sum_append, sum_gap1 ss ring m]
    simp only [List.map_cons, List.map_nil, List.sum_cons, List.sum_nil, gap1]
    lia
theorem gapsOf_length (ss ring : List Int) (h : 0 < ss.length) : (gapsOf ss ring).length = ss.length := by
  unfold gapsOf; simp; lia
theorem gapsOf_at (ss ring : List Int) {k : Nat} (h : k < ss.length - 1) : (gapsOf ss ring).getD k 0 = gap1 ss ring k := by
  unfold gapsOf
  rw [getD_app_l (by simpa using h), getD_map (d := 0) (by simpa using h), range_getD h]
theorem gapsOf_last (ss ring : List Int) : (gapsOf ss ring).getD (ss.length - 1) 0 = 64 - (ss.getD (ring.getD (ss.length - 1) 0).toNat 0 - ss.getD (ring.getD 0 0).toNat 0) := by
  unfold gapsOf
  rw [getD_app_r (by simp), List.length_map, List.length_range, Nat.sub_self, sum_gap1]
  rfl

theorem ring_gaps {ns ring : List Int} (h2 : 2 ≤ ns.length) (hp : ring.Perm ((List.range (ns.map spotOf).length).map Int.ofNat)) (hs : ring.Pairwise (fun a b => (ns.map spotOf).getD a.toNat 0 ≤ (ns.map spotOf).getD b.toNat 0)) :
    ring.length = ns.length ∧ Gaps ns ring (gapsOf (ns.map spotOf) ring) ∧ Circ (ns.map fun n => 64 * spotOf n) ring (gapsOf (ns.map spotOf) ring) ∧ ∀ v ∈ gapsOf (ns.map spotOf) ring, 0 ≤ v ∧ v ≤ 64 := by
  have hsl : (ns.map spotOf).length = ns.length := List.length_map _
  have hrl : ring.length = ns.length := by have := hp.length_eq; simpa using this
  have hb : ∀ k, k < ring.length → 0 ≤ ring.getD k 0 ∧ ring.getD k 0 < ns.length := fun k hk => by
    have := ring_bound hp hk
    rw [hsl] at this
    exact this
  have hS : ∀ k, k < ring.length → (ns.map spotOf).getD (ring.getD k 0).toNat 0 = sp ns (ring.getD k 0) := fun k hk => by
    have := hb k hk
    unfold sp
    rw [getD_map (d := 0) (by lia)]
  have hS0 : ∀ k, k < ring.length → 0 ≤ sp ns (ring.getD k 0) ∧ sp ns (ring.getD k 0) < 64 := fun k _ => spot_bound _
  have hmono : ∀ i j, i < j → j < ring.length → sp ns (ring.getD i 0) ≤ sp ns (ring.getD j 0) := fun i j hij hj => by
    have := List.pairwise_iff_getElem.mp hs i j (by lia) hj hij
    have e1 : ring[i] = ring.getD i 0 := by rw [List.getD_eq_getElem?_getD, List.getElem?_eq_getElem (by lia)]; rfl
    have e2 : ring[j] = ring.getD j 0 := by rw [List.getD_eq_getElem?_getD, List.getElem?_eq_getElem hj]; rfl
    rw [e1, e2, hS i (by lia), hS j hj] at this
    exact this
  have hgl : (gapsOf (ns.map spotOf) ring).length = ring.length := by rw [gapsOf_length _ _ (by lia), hsl, hrl]
  have hg1 : ∀ k, k + 1 < ring.length → (gapsOf (ns.map spotOf) ring).getD k 0 = sp ns (ring.getD (k + 1) 0) - sp ns (ring.getD k 0) := fun k hk => by
    rw [gapsOf_at _ _ (by lia)]
    unfold gap1
    rw [hS _ hk, hS _ (by lia)]
  have hg2 : (gapsOf (ns.map spotOf) ring).getD (ring.length - 1) 0 = 64 - (sp ns (ring.getD (ring.length - 1) 0) - sp ns (ring.getD 0 0)) := by
    have := gapsOf_last (ns.map spotOf) ring
    rw [hsl, ← hrl] at this
    rw [this, hS _ (by lia), hS _ (by lia)]
  generalize gapsOf (ns.map spotOf) ring = gs at hgl hg1 hg2 ⊢
  have hpos : ∀ k, k < gs.length → 0 ≤ gs.getD k 0 ∧ gs.getD k 0 ≤ 64 := fun k hk => by
    rcases Nat.lt_or_ge (k + 1) ring.length with h | h
    · rw [hg1 k h]
      have := hmono k (k + 1) (by lia) h
      have a := hS0 k (by lia)
      have b := hS0 (k + 1) h
      lia
    · have e : k = ring.length - 1 := by lia
      rw [e, hg2]
      have a := hS0 0 (by lia)
      have b := hS0 (ring.length - 1) (by lia)
      have := hmono 0 (ring.length - 1) (by lia) (by lia)
      lia
  have hH : ∀ k, k < ring.length → (ns.map fun n => 64 * spotOf n).getD (ring.getD k 0).toNat 0 = 64 * sp ns (ring.getD k 0) := fun k hk => by
    have := hb k hk
    rw [getD_map (d := 0) (by lia)]
    rfl
  refine ⟨hrl, ⟨by lia, hgl, hb, fun k hk => by rw [hg1 k hk]; lia, by rw [hg2]; lia⟩, ⟨by lia, by rw [List.length_map, hrl], hgl, by rw [hsl, ← hrl] at hp; exact hp, fun k hk => (hpos k hk).1, fun k hk => ?_, ?_⟩, fun v hv => ?_⟩
  · rw [hH _ hk, hH _ (by lia), hg1 k hk]; lia
  · rw [hH _ (by lia), hH _ (by lia), hg2]; lia
  · obtain ⟨i, hi, e⟩ := k_mem_getD (d := 0) hv
    rw [← e]; exact hpos i hi

theorem pk_dst (hs : List Int) (a b : Nat) : pk hs a b = (dst hs a b, (a : Int), (b : Int)) := rfl
theorem pairKeys_mem {hs : List Int} {i : Nat} {k : K3} : k ∈ pairKeys hs i ↔ ∃ a b : Nat, a < b ∧ b < i ∧ k = (dst hs a b, (a : Int), (b : Int)) := by
  unfold pairKeys
  simp only [List.mem_flatMap, List.mem_map, List.mem_range]
  constructor
  · rintro ⟨b, hb, a, ha, rfl⟩
    exact ⟨a, b, ha, hb, rfl⟩
  · rintro ⟨a, b, ha, hb, rfl⟩
    exact ⟨b, hb, a, ha, rfl⟩
theorem dst_bound {hs : List Int} {a b : Nat} (ha : 0 ≤ hs.getD a 0 ∧ hs.getD a 0 ≤ 4096) (hb : 0 ≤ hs.getD b 0 ∧ hs.getD b 0 ≤ 4096) : 0 ≤ dst hs a b ∧ dst hs a b ≤ 4096 := by
  have h : (hs.getD a 0 - hs.getD b 0).natAbs ≤ 4096 := by lia
  exact ⟨Int.le_min.mpr ⟨Int.natCast_nonneg _, by lia⟩, Int.le_trans (Int.min_le_left _ _) (by lia)⟩

theorem klt_false {x y : K3} : klt x y = false ↔ (y.1 < x.1 ∨ (y.1 = x.1 ∧ (y.2.1 < x.2.1 ∨ (y.2.1 = x.2.1 ∧ y.2.2 ≤ x.2.2)))) := by
  unfold klt
  split
  · split
    · simp only [decide_eq_false_iff_not]; lia
    · simp only [decide_eq_false_iff_not]; lia
  · simp only [decide_eq_false_iff_not]; lia
theorem klt_true {x y : K3} : klt x y = true ↔ (x.1 < y.1 ∨ (x.1 = y.1 ∧ (x.2.1 < y.2.1 ∨ (x.2.1 = y.2.1 ∧ x.2.2 < y.2.2)))) := by
  unfold klt
  split
  · split
    · simp only [decide_eq_true_eq]; lia
    · simp only [decide_eq_true_eq]; lia
  · simp only [decide_eq_true_eq]; lia
theorem klt_ord (key : Value → K3) : Ord (fun u v => klt (key u) (key v)) where
  asymm := by
    intro a b h
    rw [klt_true] at h
    rw [klt_false]
    lia
  trans := by
    intro a b c h1 h2
    rw [klt_false] at *
    rcases h1 with h1 | ⟨h1, h1'⟩
    · exact .inl (h2.elim (fun h => Int.lt_trans h1 h) fun h => h.1 ▸ h1)
    rcases h2 with h2 | ⟨h2, h2'⟩
    · exact .inl (h1 ▸ h2)
    refine .inr ⟨h1.trans h2, ?_⟩
    rcases h1' with h1 | ⟨h1, h1'⟩
    · exact .inl (h2'.elim (fun h => Int.lt_trans h1 h) fun h => h.1 ▸ h1)
    rcases h2' with h2 | ⟨h2, h2'⟩
    · exact .inl (h1 ▸ h2)
    exact .inr ⟨h1.trans h2, Int.le_trans h1' h2'⟩
theorem klt_fst {a b : K3} (h : klt a b = false) : b.1 ≤ a.1 := by
  unfold klt at h
  split at h
  · lia
  · simp only [decide_eq_false_iff_not] at h; lia

noncomputable abbrev ltv (kf : Addr → K3) (u v : Value) : Bool := klt (keyv kf u) (keyv kf v)
noncomputable def G0 (n : Nat) : List Int := (List.range n).map Int.ofNat
/- P: the popped keys, xs: what the heap holds -/
structure HPart (TT : List (Addr × Obj)) (hs : List Int) (n : Nat) (ct : Tok → Int) (kf : Addr → K3) (P : List K3) (xs : List Value) : Prop where
  tup : ∀ v ∈ xs, Tup3 ct TT v (keyv kf v)
  perm : (P ++ xs.map (keyv kf)).Perm (pairKeys hs n)
  sort : P.Pairwise (fun a b => a.1 ≤ b.1)
  le : ∀ k ∈ P, ∀ v ∈ xs, k.1 ≤ (keyv kf v).1

section
variable {TT : List (Addr × Obj)} {hs : List Int} {n : Nat} {ct : Tok → Int} {kf : Addr → K3} {P : List K3} {xs : List Value}
theorem HPart.isE (h : HPart TT hs n ct kf P xs) : ∀ k ∈ P, ∃ a b : Nat, a < b ∧ b < n ∧ k = (dst hs a b, (a : Int), (b : Int)) := fun k hk => pairKeys_mem.mp (h.perm.mem_iff.mp (List.mem_append.mpr (.inl hk)))
theorem HPart.heapify (h : HPart TT hs n ct kf P xs) : HPart TT hs n ct kf P (hf (ltv kf) .none xs) := by
  have hp := hf_perm (lt := ltv kf) (d := Value.none) (xs := xs)
  refine ⟨fun v hv => h.tup v (hp.mem_iff.mp hv), ?_, h.sort, fun k hk v hv => h.le k hk v (hp.mem_iff.mp hv)⟩
  exact ((hp.map (keyv kf)).append_left P).trans h.perm
theorem HPart.pop (h : HPart TT hs n ct kf P xs) (hh : HeapFrom (ltv kf) .none 0 xs) (h0 : 0 < xs.length) :
    HPart TT hs n ct kf (P ++ [keyv kf (xs.getD 0 .none)]) (hp (ltv kf) .none xs) ∧ HeapFrom (ltv kf) .none 0 (hp (ltv kf) .none xs) ∧ (hp (ltv kf) .none xs).length + 1 = xs.length ∧
    Tup3 ct TT (xs.getD 0 .none) (keyv kf (xs.getD 0 .none)) ∧ ∃ a b : Nat, a < b ∧ b < n ∧ keyv kf (xs.getD 0 .none) = (dst hs a b, (a : Int), (b : Int)) := by
  have O := klt_ord (keyv kf)
  have hpm := hp_perm (lt := ltv kf) (d := Value.none) h0
  have hroot := heap_root O hh
  have hlow : ∀ v ∈ xs, (keyv kf (xs.getD 0 .none)).1 ≤ (keyv kf v).1 := fun v hv => by
    obtain ⟨i, hi, e⟩ := k_mem_getD (d := Value.none) hv
    have := klt_fst (hroot i hi)
    rw [e] at this; exact this
  have hmem : xs.getD 0 .none ∈ xs := k_getD_mem h0
  have hsub : ∀ v ∈ hp (ltv kf) .none xs, v ∈ xs := fun v hv => hpm.mem_iff.mp (.tail _ hv)
  refine ⟨⟨fun v hv => h.tup v (hsub v hv), ?_, ?_, fun k hk v hv => ?_⟩, hp_heap O hh h0, by have := hpm.length_eq; simpa using this, h.tup _ hmem, ?_⟩
  · refine List.Perm.trans ?_ h.perm
    rw [List.append_assoc]
    refine List.Perm.append_left P ?_
    have := hpm.map (keyv kf)
    simpa using this
  · rw [List.pairwise_append]
    refine ⟨h.sort, List.pairwise_singleton _ _, fun a ha b hb => ?_⟩
    rw [List.mem_singleton.mp hb]
    exact h.le a ha _ hmem
  · rcases List.mem_append.mp hk with hk | hk
    · exact h.le k hk v (hsub v hv)
    · rw [List.mem_singleton.mp hk]; exact hlow v (hsub v hv)
  · exact pairKeys_mem.mp (h.perm.mem_iff.mp (List.mem_append.mpr (.inr (List.mem_map.mpr ⟨_, hmem, rfl⟩))))
theorem HPart.upto (h : HPart TT hs n ct kf P xs) {R : Int} (hle : ∀ k ∈ P, k.1 ≤ R) (hgt : ∀ v ∈ xs, R < (keyv kf v).1) : Upto hs n R P where
  isE := fun k hk => by
    obtain ⟨a, b, h1, h2, h3⟩ := h.isE k hk
    refine ⟨a, b, h1, h2, h3, ?_⟩
    have := hle k hk
    rw [h3] at this; exact this
  all := fun a b hab hbn hd => by
    have : (dst hs a b, (a : Int), (b : Int)) ∈ P ++ xs.map (keyv kf) := h.perm.mem_iff.mpr (pairKeys_mem.mpr ⟨a, b, hab, hbn, rfl⟩)
    rcases List.mem_append.mp this with hk | hk
    · exact hk
    · obtain ⟨v, hv, e⟩ := List.mem_map.mp hk
      have := hgt v hv
      rw [e] at this
      simp only at this
      lia
theorem HPart.KI (h : HPart TT hs n ct kf P xs) : KI n P (kr (G0 n) P).1 (kr (G0 n) P).2.length := by
  have := kr_KI P [] _ 0 (KI.start n) fun k hk => by
    obtain ⟨a, b, h1, h2, rfl⟩ := h.isE k hk
    simp only [Int.toNat_natCast]
    lia
  rw [List.nil_append, Nat.zero_add] at this
  exact this
theorem kr_snoc {G : List Int} {P : List K3} {k : K3} : kr G (P ++ [k]) = if (kr G P).1.getD k.2.1.toNat 0 = (kr G P).1.getD k.2.2.toNat 0 then kr G P else (tieL (kr G P).1 k.2.1.toNat k.2.2.toNat, (kr G P).2 ++ [k.1]) := by
  rw [kr_append]
  rw [kr]
  split
  · simp [kr]
  · simp [kr]
/- the whole run -/
theorem HPart.ties {ring gs out : List Int} {mx : Int} (C : Circ hs ring gs) (hn : ring.length = n) (h : HPart TT hs n ct kf P []) (hb : ∀ a, 0 ≤ hs.getD a 0 ∧ hs.getD a 0 ≤ 4096)
    (hso : out.Pairwise (· ≤ ·)) (hpm : (mx :: out).Perm gs) (hmx : ∀ x ∈ out, x ≤ mx) : (kr (G0 n) P).2 = out.map (64 * ·) := by
  subst hn
  refine ties_gaps C h.isE (fun a b hab hbn => ?_) h.sort (fun k hk => ?_) hso hpm hmx
  · have := h.perm.mem_iff.mpr (pairKeys_mem.mpr ⟨a, b, hab, hbn, rfl⟩)
    simpa using this
  · obtain ⟨a, b, h1, h2, rfl⟩ := h.isE k hk
    exact (dst_bound (hb a) (hb b)).1
end
theorem pairKeys_len2 (hs : List Int) : ∀ i, 2 * (pairKeys hs i).length + i = i * i
  | 0 => by simp [pairKeys]
  | i + 1 => by
    have := pairKeys_len2 hs i
    have e1 : (i + 1) * i = i * i + i := Nat.succ_mul i i
    have e2 : (i + 1) * (i + 1) = (i + 1) * i + (i + 1) := Nat.mul_succ (i + 1) i
    rw [pairKeys_succ, List.length_append, List.length_map, List.length_range, e2, e1]
    lia
theorem HPart.len {TT : List (Addr × Obj)} {hs : List Int} {n : Nat} {ct : Tok → Int} {kf : Addr → K3} {P : List K3} {xs : List Value} (h : HPart TT hs n ct kf P xs) (hn : n ≤ 12) : xs.length ≤ 72 := by
  have h1 := h.perm.length_eq
  have h2 := pairKeys_len2 hs n
  have h3 : n * n ≤ 12 * 12 := Nat.mul_le_mul hn hn
  rw [List.length_append, List.length_map] at h1
  lia
theorem HPart.tlen {TT : List (Addr × Obj)} {hs : List Int} {n : Nat} {ct : Tok → Int} {kf : Addr → K3} {P : List K3} {xs : List Value} (h : HPart TT hs n ct kf P xs) (hn : n ≤ 12) (G : List Int) : (kr G P).2.length ≤ 72 := by
  have h1 := h.perm.length_eq
  have h2 := pairKeys_len2 hs n
  have h3 : n * n ≤ 12 * 12 := Nat.mul_le_mul hn hn
  have h4 := (kr_sub P G).length_le
  rw [List.length_append, List.length_map] at h1
  rw [List.length_map] at h4
  lia
end S_LawP

section S_V_law
open PySem PySem.W PyProof.Rows PySem.Spec PySem.Calls PyProof.Rows.LCg
set_option maxRecDepth 100000
set_option maxHeartbeats 4000000
theorem Cols.mono {r r' : List (Addr × Obj)} {cs : List Value} {ns : List Int} (h : Cols r cs ns) (hs : ∀ p ∈ r, p ∈ r') : Cols r' cs ns :=
  ⟨h.1, fun i hi => (h.2 i hi).imp fun _ => Exists.imp fun _ => Exists.imp fun _ => Exists.imp fun _ => And.imp_right (And.imp_right (And.imp_right (And.imp_right (hs _))))⟩
theorem Cols.snoc {r : List (Addr × Obj)} {cs : List Value} {ns : List Int} {n : Int} {T : Addr} {t u v : Tok} (h : Cols r cs ns) (h1 : 0 < t) (h2 : 0 < u) (h3 : 0 < v)
    (hm : (T, tupO [.float (fl (chan n 0)) t, .float (fl (chan n 128)) u, .float (fl (chan n 256)) v]) ∈ r) : Cols r (cs ++ [.ref T]) (ns ++ [n]) := by
  refine ⟨by simp [h.1], fun i hi => ?_⟩
  simp only [List.length_append, List.length_singleton] at hi
  by_cases hlt : i < ns.length
  · rw [getD_app_l (by rw [h.1]; exact hlt), getD_app_l hlt]
    exact h.2 i hlt
  · have e : i = ns.length := by lia
    rw [getD_app_r (by rw [h.1]; lia), getD_app_r (by lia), h.1, e, Nat.sub_self]
    exact ⟨T, t, u, v, rfl, h1, h2, h3, hm⟩

/- behind the ring: its facts -/
structure RingOk (ns ring gs : List Int) : Prop where
  len : ring.length = ns.length
  gaps : Gaps ns ring gs
  circ : Circ (ns.map fun n => 64 * spotOf n) ring gs
  bd : ∀ v ∈ gs, 0 ≤ v ∧ v ≤ 64
/- the law's lists: colours, hues, spots, ring, gaps -/
structure Lists (T : List (Addr × Obj)) (ns ring gs : List Int) (cs sv hv rv gv : List Value) (ca sa ha ra ga : Addr) : Prop where
  o1 : @LT.lt Nat _ 106 ca
  o2 : @LT.lt Nat _ ca sa
  o3 : @LT.lt Nat _ sa ha
  o4 : @LT.lt Nat _ ha ra
  o5 : @LT.lt Nat _ ra ga
  oT : ∀ p ∈ T, @LT.lt Nat _ sa p.1 ∧ @LT.lt Nat _ p.1 ha
  cols : Cols T cs ns
  spots : Ints sv (ns.map spotOf)
  hues : Fls hv (ns.map fun n => 64 * spotOf n)
  rI : Ints rv ring
  gI : Ints gv gs
  n5 : 5 ≤ ns.length
  n12 : ns.length ≤ 12
  ok : RingOk ns ring gs
/- what stands still while the pairs are drawn -/
structure Stat (TT : List (Addr × Obj)) (ns ring gs : List Int) (hv rv gv : List Value) (ha ra ga he ti : Addr) : Prop where
  o0 : @LT.lt Nat _ 106 ha
  o4 : @LT.lt Nat _ ha ra
  o5 : @LT.lt Nat _ ra ga
  o6 : @LT.lt Nat _ ga he
  o7 : @LT.lt Nat _ he ti
  oT : ∀ p ∈ TT, @LT.lt Nat _ he p.1 ∧ @LT.lt Nat _ p.1 ti
  hues : Fls hv (ns.map fun n => 64 * spotOf n)
  rI : Ints rv ring
  gI : Ints gv gs
  n5 : 5 ≤ ns.length
  n12 : ns.length ≤ 12
  ok : RingOk ns ring gs
/- P is drawn, xs is left -/
structure HS (TT : List (Addr × Obj)) (ns : List Int) (ct : Tok → Int) (kf : Addr → K3) (P : List K3) (xs tv gl : List Value) : Prop where
  hpt : HPart TT (ns.map fun n => 64 * spotOf n) ns.length ct kf P xs
  gI : Ints gl (kr (G0 ns.length) P).1
  tF : Fls tv (kr (G0 ns.length) P).2
theorem Stat.sepH {TT : List (Addr × Obj)} {ns ring gs : List Int} {hv rv gv : List Value} {ha ra ga he ti gr : Addr} {x1 x2 x3 x4 x5 x6 : Obj} (S : Stat TT ns ring gs hv rv gv ha ra ga he ti) (hg : @LT.lt Nat _ ti gr) : ∀ p ∈ (ti, x1) :: (gr, x2) :: (106, x3) :: (ga, x4) :: (ra, x5) :: (ha, x6) :: TT, p.1 ≠ he := by
  have o0 := S.o0
  have o4 := S.o4
  have o5 := S.o5
  have o6 := S.o6
  have o7 := S.o7
  have q : ∀ n : Nat, @LT.lt Nat _ n he ∨ @LT.lt Nat _ he n → n ≠ he := fun n h => by lia
  intro p hp
  simp only [List.mem_cons] at hp
  rcases hp with rfl | rfl | rfl | rfl | rfl | rfl | hp
  · exact q _ (.inr o7)
  · exact q _ (.inr (Nat.lt_trans o7 hg))
  · exact q _ (.inl (by lia))
  · exact q _ (.inl (by lia))
  · exact q _ (.inl (by lia))
  · exact q _ (.inl (by lia))
  · exact q _ (.inr (S.oT p hp).1)
theorem Stat.sepG {TT : List (Addr × Obj)} {ns ring gs : List Int} {hv rv gv : List Value} {ha ra ga he ti gr : Addr} {x1 x2 x3 x4 x5 x6 : Obj} (S : Stat TT ns ring gs hv rv gv ha ra ga he ti) (hg : @LT.lt Nat _ ti gr) : ∀ p ∈ (he, x1) :: (ti, x2) :: (106, x3) :: (ga, x4) :: (ra, x5) :: (ha, x6) :: TT, p.1 ≠ gr := by
  have o0 := S.o0
  have o4 := S.o4
  have o5 := S.o5
  have o6 := S.o6
  have o7 := S.o7
  have q : ∀ n : Nat, @LT.lt Nat _ n gr ∨ @LT.lt Nat _ gr n → n ≠ gr := fun n h => by lia
  intro p hp
  simp only [List.mem_cons] at hp
  rcases hp with rfl | rfl | rfl | rfl | rfl | rfl | hp
  · exact q _ (.inl (by lia))
  · exact q _ (.inl hg)
  · exact q _ (.inl (by lia))
  · exact q _ (.inl (by lia))
  · exact q _ (.inl (by lia))
  · exact q _ (.inl (by lia))
  · exact q _ (.inl (Nat.lt_trans (S.oT p hp).2 hg))
theorem Stat.sepR {TT : List (Addr × Obj)} {ns ring gs : List Int} {hv rv gv : List Value} {ha ra ga he ti gr : Addr} {x1 x2 x3 x4 x5 : Obj} (S : Stat TT ns ring gs hv rv gv ha ra ga he ti) (hg : @LT.lt Nat _ ti gr) : ∀ p ∈ (he, x1) :: (ti, x2) :: (gr, x3) :: (106, x4) :: (ha, x5) :: TT, p.1 ≠ ga ∧ p.1 ≠ ra := by
  have o0 := S.o0
  have o4 := S.o4
  have o5 := S.o5
  have o6 := S.o6
  have o7 := S.o7
  have q : ∀ n : Nat, (@LT.lt Nat _ n ga ∨ @LT.lt Nat _ ga n) → (@LT.lt Nat _ n ra ∨ @LT.lt Nat _ ra n) → n ≠ ga ∧ n ≠ ra := fun n h h' => by lia
  intro p hp
  simp only [List.mem_cons] at hp
  rcases hp with rfl | rfl | rfl | rfl | rfl | hp
  · exact q _ (.inr (by lia)) (.inr (by lia))
  · exact q _ (.inr (by lia)) (.inr (by lia))
  · exact q _ (.inr (by lia)) (.inr (by lia))
  · exact q _ (.inl (by lia)) (.inl (by lia))
  · exact q _ (.inl (by lia)) (.inl (by lia))
  · have := (S.oT p hp).1
    exact q _ (.inr (Nat.lt_trans o6 this)) (.inr (Nat.lt_trans o5 (Nat.lt_trans o6 this)))
theorem hues_bd (ns : List Int) (j : Nat) : 0 ≤ (ns.map fun n => 64 * spotOf n).getD j 0 ∧ (ns.map fun n => 64 * spotOf n).getD j 0 ≤ 4096 := by
  by_cases h : j < ns.length
  · rw [getD_map (d := 0) h]
    have := spot_bound (ns.getD j 0)
    lia
  · rw [List.getD_eq_getElem?_getD, List.getElem?_eq_none (by rw [List.length_map]; lia)]
    decide

theorem mem_move2 {α : Type} {a b d e x y : α} {r : List α} : ∀ p ∈ a :: b :: d :: e :: x :: y :: r, p ∈ x :: y :: a :: b :: d :: e :: r := fun p hp => sub_cons (mem_move [a, b, d, e]) p (mem_move [a, b, d, e] p hp)
/- the end: True -/
noncomputable def MEnd (g : Heap) (L : Addr) (s : Shared) (f : Flow) (s' : Shared) : Prop :=
  f = Flow.ret (.bool true) ∧ ∃ (h : Heap) (tk : Nat) (m : Str → Option Value) (ps : Array Value), s' = { s with heap := h, toks := tk } ∧ Fr g L h m ∧ News g L h [(106, tabObj ps)]
noncomputable def LawX (f : Flow) (st : AS) : Prop := f = .ret (.bool true) ∧ ∃ ps, (106, tabObj ps) ∈ st.led

local macro_rules | `(tactic| walk_at "law ps") => `(tactic| repeat' (first | exact List.forall_mem_nil _ | refine List.forall_mem_cons.mpr ⟨by exact rfl, ?_⟩))
theorem amb_of {cs : Scope} {nd nu : Nat} {P : Amb cs nd nu → Prop} {G : Prop} (c : Amb cs nd nu) (h : ∀ c, P c) (k : P c → G) : G := k (h c)
theorem law_ok : PySem.Challenge.rw_mq0297_01.Holds := by
  refine Mine.hd ?_
  k_go0
  rename_i w s₀ s₁ mg mb G Y fa o pm cd doc kV ho hcd hg Xm V Tv Bt TE TW zs hs hlay0 hL1 hr1 hl2 w4 w3 la vs w0 hL ra0 w1 r0 hIA hr hc1 hc2 hD h₁ X T B F N l0
  have hcl : s₁.heap.objs.size = s₁.heap.objs.size := rfl
  refine wpAny_mono (Q := MEnd (ghostOf s₁.heap [(108, 106)]) s₁.heap.objs.size { heap := h₁, gens := s₁.gens, drawn := s₁.drawn, toks := s₁.toks + 1, os := s₁.os }) (E := fun _ _ => False) ?walk ?fin (fun _ _ e => e.elim)
  case fin =>
    rintro fl s' ⟨rfl, h, tk, m, ps, rfl, F, N⟩
    refine ⟨?_, GrownAt.of N (.head _), True.intro⟩
    refine goodW_bool F (by assumption) (raisesW_false ?_) ?_
    · wrow_none_raised
    · kc_post
  case walk =>
    dsimp only at F N codeHd
    have hz63 : vs.length ≤ 63 := by have := hIA.length; lia
    clear hcl hD hc1 hc2 hr r0 w1 ra0 hL w0 w3 w4 hl2 hr1 hL1 hlay0 hs TE TW Bt Tv V Xm hT8 hT9 hg hcd ho Y G
    change wpAny _ (ktrTop 302 7 (some []) (Str.ofString "law") _ _ fa cd [] []) (execs _ (envX (Str.ofString "law") _ _ fa cd [])) _ _ ({ heap := h₁, gens := s₁.gens, drawn := s₁.drawn, toks := s₁.toks + 1, os := s₁.os } : Shared)
    generalize ghostOf s₁.heap [(108, 106)] = g at *
    generalize hLd : s₁.heap.objs.size = L at *
    clear hLd pm doc kV o
    dsimp only
    have F' := fr_ps (ps := [(Str.ofString "script", .ref la)]) F (by walk_at "law ps")
    refine amb_of (P := fun (c : Amb _ 50 200) => CodeHd c.g 108 106 → c.g.IsList la vs.toArray → ∀ tk, 0 < tk → WPB c _ ⟨[(Str.ofString "script", .ref la)], [(106, tabObj #[])], tk⟩ (fun _ => False) LawX)
      ⟨w, 302, 7, some [], Str.ofString "law", L, fa, cd, [], [], g, { heap := h₁, gens := s₁.gens, drawn := s₁.drawn, toks := s₁.toks + 1, os := s₁.os }, _, _, _, _, _, mg, mb⟩ ?key fun kk => kk codeHd (by assumption) _ (Nat.succ_pos _) _ _ ⟨⟨B, X, T, rfl, by show (302 : Nat) + 50 < recursionLimit + 1; decide, by show (7 : Nat) + 200 < cLine + 3; decide⟩, Nat.succ_pos _, h₁, _, rfl, F', N⟩ (fun _ _ _ h => h.elim) ?ex
    case ex =>
      rintro f s' st' _ R ⟨rfl, ps, hm⟩
      obtain ⟨ok, hp, h', u, rfl, F', N'⟩ := R
      exact ⟨rfl, h', _, _, ps, rfl, F', fun p hp => by rw [List.mem_singleton.mp hp]; exact N' _ hm⟩
    clear F' F N T B X lifted l0 mb mg s₀ cd fa L
    clear codeHd h₁ g
    intro c codeHd hL tk0 htk0
    walk_at "v1"
    refine WPS.asgSwT [Str.ofString "colours", Str.ofString "spots"] ?_ (fun _ _ => by walk_at "vr") (by walk_at "vr")
    walk_at "v"
    refine WPM.lst (Nat.le_of_ble_eq_true rfl) fun ca hca => ?_
    walk_at "v"
    refine WPM.lst (Nat.le_of_ble_eq_true rfl) fun sa hsa => ?_
    walk_at "v"
    refine ⟨rfl, Nat.le_of_ble_eq_true rfl, ?_⟩
    walk_at "v1"
    walk_at "v1"
    walk_at "v1"
    walk_at "v1"
    walk_at "v1"
    walk_at "v1"
    have hcaP : @LT.lt Nat _ 106 ca := hca _ (.head _)
    have hcs : @LT.lt Nat _ ca sa := hsa _ (.head _)
    have hsP := Nat.lt_trans hcaP hcs
    refine WPS.join (P := List Int × List Value × List Value × Nat × Nat × List (Addr × Obj) × Nat) (fun p => (∀ q ∈ p.2.2.2.2.2.1, @LT.lt Nat _ sa q.1) ∧ Cols p.2.2.2.2.2.1 p.2.1 p.1 ∧ Ints p.2.2.1 (p.1.map spotOf) ∧ 5 ≤ p.1.length ∧ p.1.length ≤ 12)
      (fun p => ⟨[(Str.ofString "colours", .ref ca), (Str.ofString "spots", .ref sa)], (sa, listOf p.2.2.1.toArray p.2.2.2.2.1) :: (ca, listOf p.2.1.toArray p.2.2.2.1) :: (106, tabObj #[]) :: p.2.2.2.2.2.1, p.2.2.2.2.2.2⟩) ?st3 ?st2
    case st2 =>
      -- <<
      walk_at "v1"
      walk_at "v1"
      refine WPE.upto7 rfl rfl rfl hL hIA (by lia) (fun D ws hD hW => ?_) (fun _ _ => rfl) (fun _ _ => rfl)
      walk_at "v"
      refine WPM.lst (Nat.le_of_ble_eq_true rfl) fun E hE => ?_
      have hwl := hW.length
      rw [List.length_take] at hwl
      refine WPBin.catI (.tail _ (.head _)) (.head _) hW (.cons 5180 _ (.cons 3717 _ (.cons 2145 _ (.cons 2900 _ (.cons 4770 _ .nil))))) (by show ws.length + 5 ≤ 1000; lia) fun r vals hW2 hr => ?_
      refine WPM.iterL (.head _) fun I o hIt hI => ?_
      have hnl : (zs.take 7 ++ [5180, 3717, 2145, 2900, 4770]).length ≤ 12 ∧ 5 ≤ (zs.take 7 ++ [5180, 3717, 2145, 2900, 4770]).length := by
        rw [List.length_append, List.length_take]
        show min 7 zs.length + 5 ≤ 12 ∧ 5 ≤ min 7 zs.length + 5
        lia
      generalize zs.take 7 ++ [5180, 3717, 2145, 2900, 4770] = nums at hW2 hnl
      have hvl := hW2.1
      have hrs := hr _ (.tail _ (.tail _ (.head _)))
      have hrI := hI _ (.head _)
      have hsI := Nat.lt_trans hrs hrI
      have hcI := Nat.lt_trans hcs hsI
      have hPI := Nat.lt_trans hcaP hcI
      refine WPFor.mk (P := List Value × List Value × Nat × Nat × List (Addr × Obj) × Obj × Nat) nums.length
        (fun i p => ListIt p.2.2.2.2.2.1 r i ∧ (∀ q ∈ p.2.2.2.2.1, @LT.lt Nat _ I q.1) ∧ Cols p.2.2.2.2.1 p.1 (nums.take i) ∧ Ints p.2.1 ((nums.take i).map spotOf))
        (fun i p => ⟨[(Str.ofString "colours", .ref ca), (Str.ofString "spots", .ref sa)], (I, p.2.2.2.2.2.1) :: (r, listOf vals.toArray 0) :: (sa, listOf p.2.1.toArray p.2.2.2.1) :: (ca, listOf p.1.toArray p.2.2.1) :: (106, tabObj #[]) :: p.2.2.2.2.1, p.2.2.2.2.2.2⟩)
        ([], [], 0, 0, [], o, _) ⟨hIt, (fun _ hp => nomatch hp), ⟨rfl, fun _ h => absurd h (Nat.not_lt_zero _)⟩, Ints.nil⟩ (Sub.ofS rfl (sub_cons (sub_cons fun p hp => .tail _ (.tail _ hp))) rfl) ?turn ?last (fun _ => rfl)
      case turn =>
        rintro i ⟨cs, sv, kc, ks, T, oI, tk⟩ hi ⟨hIt, hT, hcols, hsp⟩
        dsimp only at *
        refine WPNext.lst hIt (.head _) (by rw [hvl]; exact hi) (ne_cons (Nat.ne_of_lt hrI) (ne_cons (Nat.ne_of_lt hsI) (ne_cons (Nat.ne_of_lt hcI) (ne_cons (Nat.ne_of_lt hPI) fun p hp => Nat.ne_of_gt (hT p hp))))) fun o' hIt' => ?_
        obtain ⟨tn, en⟩ := hW2.at hi
        rw [en]
        have hlen : (nums.take i).length ≤ 12 := Nat.le_trans (List.length_take_le' _ _) hnl.1
        have hcl := hcols.1
        have hsl := hsp.1
        rw [List.length_map] at hsl
        walk_at "v"
        refine WPCall.use (colour_ok c.w) (by decide) (by decide) ?_
        rintro _ _ tk7 htk7 ⟨D7, T7, u1, u2, u3, u4, rfl, rfl, hu1, hu2, hu3, hTD, hlT⟩
        have hTI : @LT.lt Nat _ I T7 := hlT _ (.head _)
        have hDI := Nat.lt_trans hTI hTD
        have nc : ∀ p ∈ (106, tabObj #[]) :: T, p.1 ≠ ca := ne_cons (Nat.ne_of_lt hcaP) fun p hp => Nat.ne_of_gt (Nat.lt_trans hcI (hT p hp))
        have ns' : ∀ p ∈ (106, tabObj #[]) :: T, p.1 ≠ sa := ne_cons (Nat.ne_of_lt hsP) fun p hp => Nat.ne_of_gt (Nat.lt_trans hsI (hT p hp))
        refine WPAsg.tup (.head _) (by walk_at "vr") (by walk_at "vr") ?_
        walk_at "v"
        refine ⟨.mk (.tail _ (.tail _ (.tail _ (.tail _ (.tail _ (.head _)))))), ?_⟩
        walk_at "v"
        refine WPCall.app (.tail (Nat.ne_of_gt (Nat.lt_trans hcI hDI)) (.tail (Nat.ne_of_gt (Nat.lt_trans hcI hTI)) (.tail (Nat.ne_of_gt hcI) (.tail (Nat.ne_of_gt (Nat.lt_trans hcs hrs)) (.tail (Nat.ne_of_gt hcs) (.head nc)))))) (by lia) ?_
        walk_at "v"
        refine ⟨.mk (.tail _ (.tail _ (.tail _ (.tail _ (.head _))))), ?_⟩
        walk_at "v"
        refine WPCall.app (.tail (Nat.ne_of_gt (Nat.lt_trans hsI hDI)) (.tail (Nat.ne_of_gt (Nat.lt_trans hsI hTI)) (.tail (Nat.ne_of_gt hsI) (.tail (Nat.ne_of_gt hrs) (.head (ne_cons (Nat.ne_of_lt hcs) ns')))))) (by lia) ?_
        walk_at "v"
        refine ⟨(cs ++ [Value.ref T7], sv ++ [Value.int (spotOf (nums.getD i 0)) u4], kc + 1, ks + 1, (T7, _) :: T, o', _), ⟨hIt', List.forall_mem_cons.mpr ⟨hTI, hT⟩, ?_, ?_⟩, Sub.ofS rfl (fun p hp => .tail _ (mem_move [_, _, _, _, _] p hp)) rfl⟩
        · rw [take_snoc (d := 0) hi]
          exact (hcols.mono fun p hp => .tail _ hp).snoc hu1 hu2 hu3 (.head _)
        · rw [take_snoc (d := 0) hi, List.map_append]
          exact hsp.snoc
      case last =>
        rintro ⟨cs, sv, kc, ks, T, oI, tk⟩ ⟨hIt, hT, hcols, hsp⟩
        dsimp only at *
        refine WPLast.lst hIt (.head _) (by rw [hvl]; exact Nat.le_refl _) (ne_cons (Nat.ne_of_lt hrI) (ne_cons (Nat.ne_of_lt hsI) (ne_cons (Nat.ne_of_lt hcI) (ne_cons (Nat.ne_of_lt hPI) fun p hp => Nat.ne_of_gt (hT p hp))))) ?_
        rw [List.take_length] at hcols hsp
        exact ⟨(nums, cs, sv, kc, ks, T, tk), ⟨fun p hp => Nat.lt_trans hsI (hT p hp), hcols, hsp, hnl.2, hnl.1⟩, Sub.ofS rfl sub_tail rfl⟩
      -- >>
    case st3 =>
      clear hL hIA hz63 hca hsa
      rintro ⟨ns, cs, sv, kc, ks, T, tk⟩ ⟨hT, hcols, hsp, hn5, hn12⟩
      dsimp only at *
      walk_at "v1"
      refine WPS.join (P := List Value × Nat × Addr × Nat) (fun p => @LT.lt Nat _ sa p.2.2.1 ∧ (∀ q ∈ T, @LT.lt Nat _ q.1 p.2.2.1) ∧ Fls p.1 (ns.map fun n => 64 * spotOf n))
        (fun p => ⟨[(Str.ofString "hues", .ref p.2.2.1), (Str.ofString "colours", .ref ca), (Str.ofString "spots", .ref sa)], (p.2.2.1, listOf p.1.toArray p.2.1) :: (sa, listOf sv.toArray ks) :: (ca, listOf cs.toArray kc) :: (106, tabObj #[]) :: T, p.2.2.2⟩) ?st4 ?hues
      case hues =>
        -- <<
        refine WPS.asgC (by walk_at "vr") (by walk_at "vr") rfl (by decide) ?_ (fun _ _ => by walk_at "vr")
        walk_at "v"
        refine WPM.iterL (.tail _ (.head _)) fun I o hIt hI => ?_
        have hcl := hcols.1
        refine WPCa.map (st₀ := [(I, o)]) (fun i v => ∃ t, 0 < t ∧ v = .float (fl (64 * spotOf (ns.getD i 0))) t) (src_list (k := kc) (vs := cs) (l := ca) rfl) (List.forall_mem_singleton.mpr (.tail _ (.head _))) (by lia) (by decide) rfl ⟨o, rfl, hIt⟩ (List.forall_mem_singleton.mpr fun p hp => Nat.ne_of_lt (hI p hp)) rfl ?el ?fin
        case el =>
          refine eltHue (tr := fun i => (chan (ns.getD i 0) 0, chan (ns.getD i 0) 128, chan (ns.getD i 0) 256)) (hue := fun i => 64 * spotOf (ns.getD i 0)) (fun i hi => ?_) (fun i => fun h1 h2 h3 => hls_col c.w h1 h2 h3) (fun _ => by k_dflt k_is) (fun _ => by k_dflt k_is) (fun _ => rfl) (fun _ => rfl) rfl rfl (fun _ => rfl) (by decide) (by decide) (fun _ => rfl) (fun _ _ => rfl)
          rw [hcl] at hi
          obtain ⟨T1, t1, t2, t3, e, p1, p2, p3, hm⟩ := hcols.2 i hi
          exact ⟨T1, t1, t2, t3, e, p1, p2, p3, .tail _ (.tail _ (.tail _ hm))⟩
        case fin =>
          intro D ys k tk' htk' hy hR hD
          exact ⟨(ys, k, D, tk'), ⟨hD _ (.head _), fun q hq => hD q (.tail _ (.tail _ (.tail _ hq))), by rw [List.length_map, hy, hcl], fun i hi => by
            rw [List.length_map] at hi
            obtain ⟨t, ht, e⟩ := hR i (by rw [hcl]; exact hi)
            exact ⟨t, ht, by rw [e, getD_map (d := 0) hi]⟩⟩, Sub.of rfl rfl rfl⟩
        -- >>
      case st4 =>
        rintro ⟨hv, kh, ha, tk⟩ ⟨hsh, hTh, hhu⟩
        dsimp only at *
        walk_at "v1"
        refine WPS.join (P := List Int × List Int × List Value × List Value × Addr × Addr × Nat × Nat × Array Value × Nat) (fun p => Lists T ns p.1 p.2.1 cs sv hv p.2.2.1 p.2.2.2.1 ca sa ha p.2.2.2.2.1 p.2.2.2.2.2.1)
          (fun p => ⟨[(Str.ofString "ring", .ref p.2.2.2.2.1), (Str.ofString "gaps", .ref p.2.2.2.2.2.1), (Str.ofString "hues", .ref ha), (Str.ofString "colours", .ref ca), (Str.ofString "spots", .ref sa)],
            (p.2.2.2.2.2.1, listOf p.2.2.2.1.toArray p.2.2.2.2.2.2.2.1) :: (p.2.2.2.2.1, listOf p.2.2.1.toArray p.2.2.2.2.2.2.1) :: (106, tabObj p.2.2.2.2.2.2.2.2.1) :: (sa, listOf sv.toArray ks) :: (ha, listOf hv.toArray kh) :: (ca, listOf cs.toArray kc) :: T, p.2.2.2.2.2.2.2.2.2⟩) ?st5 ?rin
        case rin =>
          -- <<
          walk_at "v"
          refine WPM.ledg (led' := (106, tabObj #[]) :: (sa, listOf sv.toArray ks) :: (ha, listOf hv.toArray kh) :: (ca, listOf cs.toArray kc) :: T) (List.forall_mem_cons.mpr ⟨.tail _ (.tail _ (.tail _ (.head _))), List.forall_mem_cons.mpr ⟨.tail _ (.head _), List.forall_mem_cons.mpr ⟨.head _, List.forall_mem_cons.mpr ⟨.tail _ (.tail _ (.head _)), fun p hp => .tail _ (.tail _ (.tail _ (.tail _ hp)))⟩⟩⟩⟩) ?_
          refine WPCall.useH (ring_ok c.w hsp (by rw [List.length_map]; lia) (by rw [List.length_map]; lia) hsP (List.forall_mem_cons.mpr ⟨Nat.lt_trans hsP hsh, List.forall_mem_cons.mpr ⟨hcaP, fun p hp => Nat.lt_trans hsP (hT p hp)⟩⟩)) codeHd (by decide) (by decide) ?_
          rintro _ _ tk5 htk5 ⟨T5, ra, ga, rv, kr, gv, kg, ring, ps, rfl, rfl, hrI, hgI, hrp, hrs, o1, o2, o3, o4, o5⟩
          refine WPAsg.tup (.head _) (by walk_at "vr") (by walk_at "vr") ?_
          walk_at "v"
          obtain ⟨e1, e2, e3, e4⟩ := ring_gaps (by lia) hrp hrs
          exact ⟨(ring, _, rv, gv, ra, ga, kr, kg, ps, _), ⟨hcaP, hcs, hsh, o5 _ (.head _), o2, fun p hp => ⟨hT p hp, hTh p hp⟩, hcols, hsp, hhu, hrI, hgI, hn5, hn12, ⟨e1, e2, e3, e4⟩⟩, Sub.ofS rfl sub_tail rfl⟩
          -- >>
        case st5 =>
          rintro ⟨ring, gs, rv, gv, ra, ga, kr, kg, ps, tk⟩ LL
          dsimp only at *
          walk_at "v1"
          refine WPS.join (P := Nat) (fun _ => True) (fun tk => ⟨[(Str.ofString "ring", .ref ra), (Str.ofString "gaps", .ref ga), (Str.ofString "hues", .ref ha)], (ga, listOf gv.toArray kg) :: (ra, listOf rv.toArray kr) :: (106, tabObj ps) :: (sa, listOf sv.toArray ks) :: (ha, listOf hv.toArray kh) :: (ca, listOf cs.toArray kc) :: T, tk⟩) ?st6 ?tst
          case tst =>
            -- <<
            refine WPS.ite ?_
            walk_at "v"
            refine WPE.comp (by walk_at "vr") rfl (by decide) ?_ (fun _ _ => by walk_at "vr")
            walk_at "v"
            refine WPM.iterL (.tail _ (.tail _ (.tail _ (.head _)))) fun I o hIt hI => ?_
            have hsl := LL.spots.1
            rw [List.length_map] at hsl
            have hSm : ∀ v ∈ ns.map spotOf, Sm 64 v := fun v hv => by
              obtain ⟨n, _, rfl⟩ := List.mem_map.mp hv
              have := spot_bound n
              exact .of this.1 (by lia)
            have hHm : ∀ v ∈ ns.map fun n => 64 * spotOf n, Sm 4096 v := fun v hv => by
              obtain ⟨n, _, rfl⟩ := List.mem_map.mp hv
              have := spot_bound n
              exact .of (by lia) (by lia)
            refine WPCv.map (st₀ := [(I, o)]) _ (src_list (k := ks) (vs := sv) (l := sa) rfl) (List.forall_mem_singleton.mpr (.tail _ (.tail _ (.tail _ (.head _))))) (by lia) (by decide) rfl ⟨o, rfl, hIt⟩ (List.forall_mem_singleton.mpr fun p hp => Nat.ne_of_lt (hI p hp)) (elt64 LL.spots hSm (by decide) (fun _ => rfl) rfl (fun _ => rfl)) ?_
            intro D ys k tk' htk' hy hR hD
            have hFl : Fls ys (ns.map fun n => 64 * spotOf n) := ⟨by rw [List.length_map, hy, hsl], fun i hi => by
              rw [List.length_map] at hi
              obtain ⟨t, ht, e⟩ := hR i (by rw [hsl]; exact hi)
              exact ⟨t, ht, by rw [e, getD_map (d := 0) hi, getD_map (d := 0) hi]⟩⟩
            refine WPCmp.neFls (.tail _ (.tail _ (.tail _ (.tail _ (.tail _ (.head _)))))) (.head _) LL.hues hFl hHm (by decide) (by decide) ?_
            have hrl := LL.rI.1
            have hr2 := LL.ok.len
            have hhl := LL.hues.1
            rw [List.length_map] at hhl
            have hb0 := LL.ok.gaps.idx 0 (by lia)
            obtain ⟨tr, er⟩ := LL.rI.at (i := 0) (by lia)
            obtain ⟨th, hth, eh⟩ := LL.hues.2 (ring.getD 0 0).toNat (by rw [List.length_map]; lia)
            rw [getD_map (d := 0) (by lia)] at eh
            walk_at "v"
            refine WPSub.list (k := 0) (.tail _ (.tail _ (.head _))) (Int.le_refl _) (by lia) (by lia) ?_
            rw [show rv.getD (Int.toNat 0) Value.none = .int (ring.getD 0 0) tr from er]
            refine WPSub.list (.tail _ (.tail _ (.tail _ (.tail _ (.tail _ (.head _)))))) hb0.1 (by lia) (by lia) ?_
            rw [eh]
            walk_at "v"
            refine WPM.ledg (led' := (ga, listOf gv.toArray kg) :: (ra, listOf rv.toArray kr) :: (ca, listOf cs.toArray kc) :: (106, tabObj ps) :: (sa, listOf sv.toArray ks) :: (ha, listOf hv.toArray kh) :: T) (fun p hp => .tail _ (mem_bring [_, _, _, _, _] p (mem_move [_, _] p hp))) ?_
            refine WPCall.use (round_ok c.w (Nat.lt_trans LL.o2 (Nat.lt_trans LL.o3 LL.o4)) LL.o5 (LL.cols.mono fun p hp => .tail _ (.tail _ (.tail _ hp))) LL.rI LL.gI LL.ok.gaps (by lia) (by lia) hth LL.ok.bd) (by decide) (by decide) ?_
            rintro _ _ tk7 htk7 ⟨rfl, rfl⟩
            refine WPTru.tt ?_
            walk_at "v"
            exact ⟨_, trivial, Sub.ofS rfl (fun p hp => mem_bring [_, _] p (mem_move [_, _, _, _, _] p hp)) rfl⟩
            -- >>
          case st6 =>
            clear hT hTh hcols hsp hhu hn5 hn12 hsh
            rintro tk -
            have hn5 := LL.n5
            have hn12 := LL.n12
            have hvl : hv.length = ns.length := by have := LL.hues.1; rw [List.length_map] at this; exact this
            have o3 := Nat.lt_trans LL.o1 (Nat.lt_trans LL.o2 LL.o3)
            walk_at "v1"
            refine WPS.join (P := List (Addr × Obj) × (Tok → Int) × (Addr → K3) × List Value × Addr × Addr × Addr × List Value × Nat × Nat × Nat)
              (fun p => Stat p.1 ns ring gs hv rv gv ha ra ga p.2.2.2.2.1 p.2.2.2.2.2.1 ∧ @LT.lt Nat _ p.2.2.2.2.2.1 p.2.2.2.2.2.2.1 ∧ HS p.1 ns p.2.1 p.2.2.1 [] p.2.2.2.1 [] p.2.2.2.2.2.2.2.1)
              (fun p => ⟨[(Str.ofString "heap", .ref p.2.2.2.2.1), (Str.ofString "ties", .ref p.2.2.2.2.2.1), (Str.ofString "groups", .ref p.2.2.2.2.2.2.1), (Str.ofString "ring", .ref ra), (Str.ofString "gaps", .ref ga), (Str.ofString "hues", .ref ha)],
                (p.2.2.2.2.1, listOf p.2.2.2.1.toArray p.2.2.2.2.2.2.2.2.1) :: (p.2.2.2.2.2.1, listOf ([] : List Value).toArray 0) :: (p.2.2.2.2.2.2.1, listOf p.2.2.2.2.2.2.2.1.toArray p.2.2.2.2.2.2.2.2.2.1) :: (106, tabObj ps) :: (ga, listOf gv.toArray kg) :: (ra, listOf rv.toArray kr) :: (ha, listOf hv.toArray kh) :: p.1, p.2.2.2.2.2.2.2.2.2.2⟩) ?st7 ?prs
            case prs =>
              -- <<
              refine WPS.asgSwT [Str.ofString "heap", Str.ofString "ties", Str.ofString "groups"] ?_ (fun _ _ => by walk_at "vr") (by walk_at "vr")
              walk_at "v"
              refine WPM.ledg (led' := (ha, listOf hv.toArray kh) :: (ga, listOf gv.toArray kg) :: (ra, listOf rv.toArray kr) :: (106, tabObj ps) :: (sa, listOf sv.toArray ks) :: (ca, listOf cs.toArray kc) :: T) (mem_bring [_, _, _, _]) ?_
              refine WPCall.use (pairs_ok c.w (ne_cons (Nat.ne_of_gt (Nat.lt_trans LL.o4 LL.o5)) (ne_cons (Nat.ne_of_gt LL.o4) (ne_cons (Nat.ne_of_lt o3) (ne_cons (Nat.ne_of_lt LL.o3) (ne_cons (Nat.ne_of_lt (Nat.lt_trans LL.o2 LL.o3)) fun p hp => Nat.ne_of_lt (LL.oT p hp).2))))) LL.hues (by rw [List.length_map]; lia) ?hbd) (by decide) (by decide) ?_
              case hbd =>
                intro v hv
                obtain ⟨n, _, rfl⟩ := List.mem_map.mp hv
                have := spot_bound n
                lia
              rintro _ _ tk7 htk7 ⟨he, ys, ke, TP, ct, kf, tkP, rfl, rfl, hP, q1, q2, q3⟩
              obtain ⟨hP1, hP2⟩ := hP.tup
              rw [List.length_map] at hP2
              walk_at "v"
              refine WPM.lst (Nat.le_of_ble_eq_true rfl) fun ti hti => ?_
              walk_at "v"
              refine WPCall.len (.tail _ (.tail _ (.head _))) (by lia) ?_
              walk_at "v"
              refine WPCall.rng fun r _ _ _ hr => ?_
              walk_at "v"
              refine WPCall.listR (.head _) (by lia) fun gr us c0 tk8 hgr hG => ?_
              walk_at "v1"
              refine ⟨rfl, Nat.le_of_ble_eq_true rfl, ?_⟩
              walk_at "v1"
              walk_at "v1"
              walk_at "v1"
              walk_at "v1"
              walk_at "v1"
              walk_at "v1"
              walk_at "v1"
              rw [hvl] at hG
              have hti1 := hti _ (.head _)
              exact ⟨(TP, ct, kf, ys, he, ti, gr, us, ke, c0, _), ⟨⟨o3, LL.o4, LL.o5, q2 _ (.head _), hti1, fun p hp => ⟨q3 p hp, hti p (.tail _ (.tail _ (List.mem_append.mpr (.inl hp))))⟩, LL.hues, LL.rI, LL.gI, hn5, hn12, LL.ok⟩, hgr _ (.tail _ (.head _)), ⟨⟨hP1, by rw [List.nil_append, hP2], List.Pairwise.nil, fun _ h => nomatch h⟩, hG, Fls.nil⟩⟩,
                Sub.ofS rfl (List.forall_mem_cons.mpr ⟨.tail _ (.tail _ (.tail _ (.head _))), List.forall_mem_cons.mpr ⟨.tail _ (.tail _ (.head _)), List.forall_mem_cons.mpr ⟨.head _, List.forall_mem_cons.mpr ⟨.tail _ (.tail _ (.tail _ (.tail _ (.tail _ (List.mem_append.mpr (.inr (.tail _ (.tail _ (.head _))))))))),
                  List.forall_mem_cons.mpr ⟨.tail _ (.tail _ (.tail _ (.tail _ (.tail _ (List.mem_append.mpr (.inr (.head _))))))), List.forall_mem_cons.mpr ⟨.tail _ (.tail _ (.tail _ (.tail _ (.tail _ (List.mem_append.mpr (.inr (.tail _ (.head _)))))))), List.forall_mem_cons.mpr ⟨.tail _ (.tail _ (.tail _ (.tail _ (.head _)))), fun p hp => .tail _ (.tail _ (.tail _ (.tail _ (.tail _ (List.mem_append.mpr (.inl hp))))))⟩⟩⟩⟩⟩⟩⟩) rfl⟩
              -- >>
            case st7 =>
              clear LL o3
              rintro ⟨TT, ct, kf, xs, he, ti, gr, gl, kx, kgr, tk⟩ ⟨SS, hgr, hS⟩
              dsimp only at *
              have hlen := hS.hpt.len SS.n12
              walk_at "v"
              refine WPCall.use (heapify_ok c.w ct (keyv kf) (SS.sepH hgr) (by lia) fun v hv => (hS.hpt.tup v hv).mono fun p hp => .tail _ (.tail _ (.tail _ (.tail _ (.tail _ (.tail _ hp)))))) (by decide) (by decide) ?_
              rintro _ _ tk8 htk8 ⟨rfl, rfl⟩
              walk_at "v1"
              refine WPS.whl (P := List K3 × List Value × Addr × List Value × List Value × Nat × Nat × Nat × Nat)
                (fun p => HeapFrom (ltv kf) .none 0 p.2.1 ∧ @LT.lt Nat _ ti p.2.2.1 ∧ HS TT ns ct kf p.1 p.2.1 p.2.2.2.1 p.2.2.2.2.1)
                (fun p => ⟨[(Str.ofString "heap", .ref he), (Str.ofString "ties", .ref ti), (Str.ofString "groups", .ref p.2.2.1), (Str.ofString "ring", .ref ra), (Str.ofString "gaps", .ref ga), (Str.ofString "hues", .ref ha)],
                  (he, listOf p.2.1.toArray p.2.2.2.2.2.1) :: (ti, listOf p.2.2.2.1.toArray p.2.2.2.2.2.2.1) :: (p.2.2.1, listOf p.2.2.2.2.1.toArray p.2.2.2.2.2.2.2.1) :: (106, tabObj ps) :: (ga, listOf gv.toArray kg) :: (ra, listOf rv.toArray kr) :: (ha, listOf hv.toArray kh) :: TT, p.2.2.2.2.2.2.2.2⟩)
                (fun p => p.2.1.length) ([], _, gr, [], gl, kx, 0, kgr, _) ⟨hf_heap (klt_ord (keyv kf)), hgr, ⟨hS.hpt.heapify, hS.gI, hS.tF⟩⟩ (Sub.of rfl rfl rfl) ?_
              clear hlen hS hgr xs gr gl kx kgr tk
              rintro ⟨P, xs, gr, tv, gl, kx, kt, kgr, tk⟩ ⟨hhp, hgr, hS⟩
              dsimp only at *
              walk_at "v"
              refine WPM.lst (Nat.le_of_ble_eq_true rfl) fun E hE => ?_
              clear hE
              refine WPCmp.neNil (.tail _ (.head _)) (.head _) (by decide) (fun hb => ?_) (fun hb => ?_)
              · -- <<
                have hx0 : 0 < xs.length := by
                  cases xs with
                  | nil => cases hb
                  | cons _ _ => exact Nat.succ_pos _
                obtain ⟨hp1, hp2, hp3, hp4, a, b, hab, hbn, hk0⟩ := hS.hpt.pop hhp hx0
                have hxl := hS.hpt.len SS.n12
                walk_at "v"
                refine WPM.ledg sub_tail (WPCall.use (heappop_ok c.w ct (keyv kf) (SS.sepH hgr) (by lia) (fun v hv => (hS.hpt.tup v hv).mono fun p hp => .tail _ (.tail _ (.tail _ (.tail _ (.tail _ (.tail _ hp)))))) hx0) (by decide) (by decide) ?_)
                rintro _ _ tk2 htk2 ⟨rfl, rfl⟩
                generalize hys : hp (fun u v => klt (keyv kf u) (keyv kf v)) .none xs = ys
                rw [show hp (ltv kf) .none xs = ys from hys] at hp1 hp2 hp3
                obtain ⟨b0, t, t2, t3, e0, ht0, hct, hsm, hm⟩ := hp4
                rw [hk0] at hm hsm hp1
                rw [e0]
                dsimp only at hm hsm
                obtain ⟨R, hR⟩ : ∃ R, R = dst (ns.map fun n => 64 * spotOf n) a b := ⟨_, rfl⟩
                rw [← hR] at hm hsm hp1
                refine WPAsg.tup (.tail _ (.tail _ (.tail _ (.tail _ (.tail _ (.tail _ (.tail _ hm))))))) (by walk_at "vr") (by walk_at "vr") ?_
                walk_at "v"
                have hTti : ∀ p ∈ TT, p.1 ≠ ti := fun p hp => Nat.ne_of_lt (SS.oT p hp).2
                refine WPS.join (P := Addr × List Value × List Value × Nat × Nat × Nat) (fun p => @LT.lt Nat _ ti p.1 ∧ HS TT ns ct kf (P ++ [(R, (a : Int), (b : Int))]) ys p.2.1 p.2.2.1)
                  (fun p => ⟨[(Str.ofString "far", .float (fl R) t), (Str.ofString "heap", .ref he), (Str.ofString "ties", .ref ti), (Str.ofString "groups", .ref p.1), (Str.ofString "ring", .ref ra), (Str.ofString "gaps", .ref ga), (Str.ofString "hues", .ref ha)],
                    (he, listOf ys.toArray (kx + 1)) :: (ti, listOf p.2.1.toArray p.2.2.2.1) :: (p.1, listOf p.2.2.1.toArray p.2.2.2.2.1) :: (106, tabObj ps) :: (ga, listOf gv.toArray kg) :: (ra, listOf rv.toArray kr) :: (ha, listOf hv.toArray kh) :: TT, p.2.2.2.2.2⟩) ?if2 ?if1
                case if1 =>
                  have hGl : (Mine.kr (G0 ns.length) P).1.length = ns.length := hS.hpt.KI.len
                  have hgl : gl.length = ns.length := by rw [hS.gI.1, hGl]
                  obtain ⟨ta, ea⟩ := hS.gI.at (i := a) (by lia)
                  obtain ⟨tb, eb⟩ := hS.gI.at (i := b) (by lia)
                  have hn12 := SS.n12
                  have htl : tv.length ≤ 72 := by rw [hS.tF.1]; exact hS.hpt.tlen hn12 _
                  refine WPS.ite ?_
                  walk_at "v"
                  refine WPSub.listN (.tail _ (.tail _ (.head _))) (by lia) (by lia) ?_
                  walk_at "v"
                  refine WPSub.listN (.tail _ (.tail _ (.head _))) (by lia) (by lia) ?_
                  rw [ea, eb]
                  refine WPCmp.neI (fun hne => ?_) (fun heq => ?_)
                  · have hk : Mine.kr (G0 ns.length) (P ++ [(R, (a : Int), (b : Int))]) = (tieL (Mine.kr (G0 ns.length) P).1 a b, (Mine.kr (G0 ns.length) P).2 ++ [R]) := by
                      rw [kr_snoc]
                      exact if_neg hne
                    walk_at "v"
                    refine ⟨.mk (.tail _ (.head _)), ?_⟩
                    walk_at "v"
                    refine WPCall.app (.tail (Nat.ne_of_lt SS.o7) (.head (ne_cons (Nat.ne_of_gt hgr) (ne_cons (Nat.ne_of_lt (Nat.lt_trans SS.o0 (Nat.lt_trans SS.o4 (Nat.lt_trans SS.o5 (Nat.lt_trans SS.o6 SS.o7))))) (ne_cons (Nat.ne_of_lt (Nat.lt_trans SS.o6 SS.o7)) (ne_cons (Nat.ne_of_lt (Nat.lt_trans SS.o5 (Nat.lt_trans SS.o6 SS.o7))) (ne_cons (Nat.ne_of_lt (Nat.lt_trans SS.o4 (Nat.lt_trans SS.o5 (Nat.lt_trans SS.o6 SS.o7)))) hTti))))))) (by lia) ?_
                    walk_at "v"
                    refine WPM.ledg (led' := (gr, listOf gl.toArray kgr) :: (he, listOf ys.toArray (kx + 1)) :: (ti, listOf (tv ++ [Value.float (fl R) t]).toArray (kt + 1)) :: (106, tabObj ps) :: (ga, listOf gv.toArray kg) :: (ra, listOf rv.toArray kr) :: (ha, listOf hv.toArray kh) :: TT) (mem_bring [_, _]) ?_
                    refine WPCall.use (tied_ok c.w (SS.sepG hgr) hS.gI (by rw [← hS.gI.1]; lia) (by rw [← hS.gI.1]; lia) (by rw [← hS.gI.1]; lia)) (by decide) (by decide) ?_
                    rintro _ _ tk3 htk3 ⟨D2, yl, ky, rfl, rfl, hI2, hDg, hDr⟩
                    walk_at "v"
                    exact ⟨(D2, tv ++ [Value.float (fl R) t], yl, kt + 1, ky, _), ⟨hDr _ (.tail _ (.head _)), ⟨hp1, by rw [hk]; exact hI2, by rw [hk]; exact hS.tF.snoc ht0⟩⟩, Sub.ofS rfl (fun p hp => List.forall_mem_cons.mpr ⟨.tail _ (.tail _ (.head _)), List.forall_mem_cons.mpr ⟨.tail _ (.tail _ (.tail _ (.head _))), List.forall_mem_cons.mpr ⟨.head _, fun p hp => .tail _ (.tail _ (.tail _ (.tail _ hp)))⟩⟩⟩ p hp) rfl⟩
                  · have hk : Mine.kr (G0 ns.length) (P ++ [(R, (a : Int), (b : Int))]) = Mine.kr (G0 ns.length) P := by
                      rw [kr_snoc]
                      exact if_pos heq
                    walk_at "v"
                    exact ⟨(gr, tv, gl, kt, kgr, _), ⟨hgr, ⟨hp1, by rw [hk]; exact hS.gI, by rw [hk]; exact hS.tF⟩⟩, Sub.of rfl rfl rfl⟩
                case if2 =>
                  have hR0 : 0 ≤ R ∧ R ≤ 4096 := by rw [hR]; exact dst_bound (hues_bd ns a) (hues_bd ns b)
                  clear hS hp1 hk0 hR e0 hm hct hsm hgr tv gl gr kt kgr
                  rintro ⟨gr, tv, gl, kt, kgr, tk⟩ ⟨hgr, hS⟩
                  dsimp only at *
                  have hrl := SS.ok.len
                  have hn12 := SS.n12
                  have hcut : (ys = [] ∨ R < (keyv kf (ys.getD 0 .none)).1) → strOut ring.length (rowsOf (cutR R ring gs ring.length)) = (Mine.kr (G0 ns.length) (P ++ [(R, (a : Int), (b : Int))])).1 := fun h => by
                    refine strOut_G SS.ok.circ (P := P ++ [(R, (a : Int), (b : Int))]) (t := (Mine.kr (G0 ns.length) (P ++ [(R, (a : Int), (b : Int))])).2.length) ?_ (by rw [hrl]; exact hS.hpt.KI)
                    rw [hrl]
                    refine hS.hpt.upto (fun k hk => ?_) fun v hv => ?_
                    · rcases List.mem_append.mp hk with hk | hk
                      · exact (List.pairwise_append.mp hS.hpt.sort).2.2 k hk _ (.head _)
                      · rw [List.mem_singleton.mp hk]; exact Int.le_refl _
                    · rcases h with h | h
                      · rw [h] at hv; exact nomatch hv
                      · obtain ⟨i, hi, e⟩ := k_mem_getD (d := Value.none) hv
                        have := klt_fst (heap_root (klt_ord (keyv kf)) hp2 i hi)
                        rw [e] at this
                        exact Int.lt_of_lt_of_le h this
                  have hxl' : ys.length < xs.length := by lia
                  have hyl : ys.length ≤ 72 := hS.hpt.len hn12
                  have hga := Nat.ne_of_gt SS.o5
                  have hsr := SS.sepR (x1 := listOf ys.toArray (kx + 1)) (x2 := listOf tv.toArray kt) (x3 := listOf gl.toArray kgr) (x4 := tabObj ps) (x5 := listOf hv.toArray kh) hgr
                  walk_at "v1"
                  refine WPS.ite ?_
                  walk_at "v"
                  refine WPM.lst (Nat.le_of_ble_eq_true rfl) fun E _ => ?_
                  refine WPCmp.eqNil (.tail _ (.head _)) (.head _) (by decide) (fun hb2 => ?_) (fun hb2 => ?_)
                  · walk_at "v"
                    refine WPM.ledg (led' := (ga, listOf gv.toArray kg) :: (ra, listOf rv.toArray kr) :: (he, listOf ys.toArray (kx + 1)) :: (ti, listOf tv.toArray kt) :: (gr, listOf gl.toArray kgr) :: (106, tabObj ps) :: (ha, listOf hv.toArray kh) :: TT) (fun p hp => .tail _ (mem_bring [_, _, _, _] p (sub_cons (mem_bring [_, _, _, _]) p hp))) ?_
                    refine WPCall.use (str_ok c.w SS.rI SS.gI (by lia) (by lia) (by rw [SS.ok.gaps.len]) hga ht0 SS.ok.bd hR0 hsr) (by decide) (by decide) ?_
                    rintro _ _ tk8 htk8 ⟨D8, yl, ky, rfl, rfl, hI8⟩
                    rw [hcut (.inl (List.isEmpty_iff.mp hb2))] at hI8
                    refine WPCmp.neInts (.tail _ (.tail _ (.tail _ (.tail _ (.tail _ (.head _)))))) (.head _) hS.gI hI8 (by decide) ?_
                    walk_at "v"
                    exact ⟨(P ++ [(R, (a : Int), (b : Int))], ys, gr, tv, gl, kx + 1, kt, kgr, _), hxl', ⟨hp2, hgr, hS⟩, Sub.ofS rfl (fun p hp => .tail _ (mem_move2 p hp)) rfl⟩
                  · have hy0 : 0 < ys.length := by
                      cases ys with
                      | nil => cases hb2
                      | cons _ _ => exact Nat.succ_pos _
                    obtain ⟨b1, t1, u2', u3', e1, ht1, hct1, hsm1, hm1⟩ := hS.hpt.tup (ys.getD 0 .none) (k_getD_mem hy0)
                    generalize (keyv kf (ys.getD 0 .none)).2.1 = y1 at hm1
                    generalize (keyv kf (ys.getD 0 .none)).2.2 = y2 at hm1
                    generalize (keyv kf (ys.getD 0 .none)).1 = R1 at hm1 hsm1 hcut
                    walk_at "v"
                    refine WPSub.list (k := 0) (.tail _ (.head _)) (Int.le_refl _) (by lia) (by lia) ?_
                    rw [show ys.getD (Int.toNat 0) Value.none = .ref b1 from e1]
                    walk_at "v"
                    refine WPSub.tup0 (.tail _ (.tail _ (.tail _ (.tail _ (.tail _ (.tail _ (.tail _ (.tail _ hm1)))))))) ?_
                    walk_at "v"
                    refine WPCmp.gtFw hsm1 (by lia) (fun hgt => ?_) (fun _ => ?_)
                    · walk_at "v"
                      refine WPM.ledg (led' := (ga, listOf gv.toArray kg) :: (ra, listOf rv.toArray kr) :: (he, listOf ys.toArray (kx + 1)) :: (ti, listOf tv.toArray kt) :: (gr, listOf gl.toArray kgr) :: (106, tabObj ps) :: (ha, listOf hv.toArray kh) :: TT) (fun p hp => .tail _ (mem_bring [_, _, _, _] p (sub_cons (mem_bring [_, _, _, _]) p hp))) ?_
                      refine WPCall.use (str_ok c.w SS.rI SS.gI (by lia) (by lia) (by rw [SS.ok.gaps.len]) hga ht0 SS.ok.bd hR0 hsr) (by decide) (by decide) ?_
                      rintro _ _ tk8 htk8 ⟨D8, yl, ky, rfl, rfl, hI8⟩
                      rw [hcut (.inr hgt)] at hI8
                      refine WPCmp.neInts (.tail _ (.tail _ (.tail _ (.tail _ (.tail _ (.head _)))))) (.head _) hS.gI hI8 (by decide) ?_
                      walk_at "v"
                      exact ⟨(P ++ [(R, (a : Int), (b : Int))], ys, gr, tv, gl, kx + 1, kt, kgr, _), hxl', ⟨hp2, hgr, hS⟩, Sub.ofS rfl (fun p hp => .tail _ (mem_move2 p hp)) rfl⟩
                    · walk_at "v"
                      exact ⟨(P ++ [(R, (a : Int), (b : Int))], ys, gr, tv, gl, kx + 1, kt, kgr, _), hxl', ⟨hp2, hgr, hS⟩, Sub.ofS rfl sub_tail rfl⟩
                -- >>
              · -- <<
                have hxe : xs = [] := List.isEmpty_iff.mp hb
                subst hxe
                walk_at "v"
                obtain ⟨kn, hkn⟩ : ∃ kn : Nat, kn + 1 = ns.length := ⟨ns.length - 1, by lia⟩
                have hgl := SS.ok.gaps.len
                have hrl := SS.ok.len
                refine WPE.comp (by walk_at "vr") rfl (by decide) ?_ (fun _ _ => by walk_at "vr")
                walk_at "v"
                refine WPCall.len (.tail _ (.tail _ (.tail _ (.tail _ (.tail _ (.tail _ (.tail _ (.head _)))))))) (by lia) ?_
                walk_at "v1"
                refine WPBin.subE kn (by lia) ?_
                walk_at "v"
                refine WPM.ledg (led' := (ga, listOf gv.toArray kg) :: (106, tabObj ps) :: (ti, listOf tv.toArray kt) :: []) (List.forall_mem_cons.mpr ⟨.tail _ (.tail _ (.tail _ (.tail _ (.tail _ (.head _))))), List.forall_mem_cons.mpr ⟨.tail _ (.tail _ (.tail _ (.tail _ (.head _)))), List.forall_mem_singleton.mpr (.tail _ (.tail _ (.head _)))⟩⟩) ?_
                refine WPCall.use (nsm_ok c.w SS.gI (by lia) (by lia) (k := kn) (by lia)) (by decide) (by decide) ?_
                rintro _ _ tk9 htk9 ⟨D9, yo, co, out, mx, rfl, rfl, hIo, hso, hpm, hmx, o1, o2⟩
                have hti := hS.hpt.ties SS.ok.circ hrl (hues_bd ns) hso hpm hmx
                have hob : ∀ v ∈ out, Sm 64 v := fun v hv => .of (SS.ok.bd v (hpm.mem_iff.mp (.tail _ hv))).1 (SS.ok.bd v (hpm.mem_iff.mp (.tail _ hv))).2
                have hol : out.length + 1 = ns.length := by have := hpm.length_eq; rw [List.length_cons] at this; lia
                have hyo : yo.length = out.length := hIo.1
                refine WPM.iterL (.head _) fun I o hIt hI => ?_
                refine WPCv.map (st₀ := [(I, o)]) _ (src_list (k := co) (vs := yo) (l := D9) rfl) (List.forall_mem_singleton.mpr (.head _)) (by lia) (by decide) rfl ⟨o, rfl, hIt⟩ (List.forall_mem_singleton.mpr fun p hp => Nat.ne_of_lt (hI p hp)) (elt64 hIo hob (by decide) (fun _ => rfl) rfl (fun _ => rfl)) ?_
                intro D ys k tk' htk' hy hR hD
                have hFl : Fls ys (out.map (64 * ·)) := ⟨by rw [List.length_map, hy, hyo], fun i hi => by
                  rw [List.length_map] at hi
                  obtain ⟨t, ht, e⟩ := hR i (by rw [hyo]; exact hi)
                  exact ⟨t, ht, by rw [e, getD_map (d := 0) hi]⟩⟩
                have htF := hS.tF
                rw [hti] at htF
                refine WPCmp.eqFls (i := 4096) (.tail _ (.tail _ (.tail _ (.tail _ (.head _))))) (.head _) htF hFl (fun v hv => ?_) (by decide) (by decide) ?_
                · obtain ⟨n, hn, rfl⟩ := List.mem_map.mp hv
                  have := SS.ok.bd n (hpm.mem_iff.mp (.tail _ hn))
                  exact .of (by lia) (by lia)
                · exact ⟨rfl, ps, .tail _ (.tail _ (.tail _ (.head _)))⟩
                -- >>
end S_V_law

end Mine
theorem PySem.Challenge.cw_mq0297_01_holds : PySem.Challenge.rw_mq0297_01.Holds := by
  exact Mine.law_ok
