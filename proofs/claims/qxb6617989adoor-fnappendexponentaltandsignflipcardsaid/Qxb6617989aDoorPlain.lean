import Derived.Test.Qxb6617989aDoorInt
namespace Go.Proofs.Qxb6617989aDoor
open Go.RowKit

theorem getD_left (A B : List Int) (i : Nat) (h : i < A.length) : (A ++ B).getD i 0 = A.getD i 0 := by
  simp [List.getD, List.getElem?_append_left h]
theorem getD_right (A B : List Int) (i : Nat) : (A ++ B).getD (A.length + i) 0 = B.getD i 0 := by
  simp [List.getD, List.getElem?_append_right]

theorem digit_toNat (k : Nat) (h : k < 10) : (UInt8.ofNat (48 + k)).toNat = 48 + k := by
  rw [UInt8.toNat_ofNat']
  omega

theorem dec_small {u : Nat} (h : u < 10) : dec u = [48 + (u : Int)] := by
  unfold dec
  rw [Lib.decDigits, dif_pos h]
  simp only [List.map_cons, List.map_nil, digit_toNat u h]
  simp

theorem dec_big {u : Nat} (h : ¬ u < 10) : dec u = dec (u / 10) ++ [48 + ((u % 10 : Nat) : Int)] := by
  unfold dec
  rw [Lib.decDigits, dif_neg h]
  simp only [List.map_append, List.map_cons, List.map_nil, digit_toNat (u % 10) (Nat.mod_lt _ (by decide))]
  simp

/-- The number that decimal digits spell. -/
def val (l : List Int) : Int := l.foldl (fun a c => a * 10 + (c - 48)) 0
theorem val_snoc (l : List Int) (c : Int) : val (l ++ [c]) = val l * 10 + (c - 48) := by simp [val]
theorem val_nil : val [] = 0 := rfl

theorem dec_val (u : Nat) : val (dec u) = (u : Int) := by
  induction u using Nat.strongRecOn with
  | _ u ih =>
    by_cases h : u < 10
    · rw [dec_small h]; simp [val]; omega
    · rw [dec_big h, val_snoc, ih (u / 10) (by omega)]
      omega

theorem dec_digit (u : Nat) : ∀ c ∈ dec u, 48 ≤ c ∧ c ≤ 57 := by
  induction u using Nat.strongRecOn with
  | _ u ih =>
    by_cases h : u < 10
    · rw [dec_small h]; intro c hc; simp at hc; omega
    · rw [dec_big h]; intro c hc
      rcases List.mem_append.1 hc with hc | hc
      · exact ih (u / 10) (by omega) c hc
      · simp at hc; omega

theorem dec_pos (u : Nat) : 1 ≤ (dec u).length := by
  by_cases h : u < 10
  · rw [dec_small h]; simp
  · rw [dec_big h]; simp

theorem dec_two {u : Nat} (h : ¬ u < 10) : 2 ≤ (dec u).length := by
  rw [dec_big h]; have := dec_pos (u / 10); simp; omega

theorem dec_le : ∀ (k u : Nat), u < 10 ^ (k + 1) → (dec u).length ≤ k + 1
  | 0, u, h => by rw [dec_small (by simpa using h)]; simp
  | k + 1, u, h => by
    by_cases h1 : u < 10
    · rw [dec_small h1]; simp
    · rw [dec_big h1]
      have := dec_le k (u / 10) (by rw [Nat.pow_succ] at h; omega)
      simp; omega

theorem dec_first (u : Nat) (h1 : 1 ≤ u) : (dec u).getD 0 0 ≠ 48 := by
  induction u using Nat.strongRecOn with
  | _ u ih =>
    by_cases h : u < 10
    · rw [dec_small h]; simp; omega
    · rw [dec_big h, getD_left _ _ _ (by have := dec_pos (u / 10); omega)]
      exact ih (u / 10) (by omega) (by omega)

/-- The exponent's digits: two at least. -/
def ED (u : Nat) : List Int := pad u ++ dec u

theorem ED_len (u : Nat) (h : u ≤ 1073741824) : 2 ≤ (ED u).length ∧ (ED u).length ≤ 10 := by
  have h10 := dec_le 9 u (by omega)
  unfold ED pad
  by_cases hu : u < 10
  · rw [if_pos hu, dec_small hu]; simp
  · have := dec_two hu
    rw [if_neg hu]; simp; omega

theorem ED_first (u : Nat) (h : 2 < (ED u).length) : (ED u).getD 0 0 ≠ 48 := by
  unfold ED pad at *
  by_cases hu : u < 10
  · rw [if_pos hu, dec_small hu] at h; simp at h
  · rw [if_neg hu, List.nil_append]; exact dec_first u (by omega)

theorem ED_digit (u : Nat) : ∀ c ∈ ED u, 48 ≤ c ∧ c ≤ 57 := by
  intro c hc
  unfold ED pad at hc
  rcases List.mem_append.1 hc with hc | hc
  · split at hc
    · simp at hc; omega
    · simp at hc
  · exact dec_digit u c hc

theorem ED_val (u : Nat) : val (ED u) = (u : Int) := by
  unfold ED pad
  by_cases hu : u < 10
  · rw [if_pos hu]
    have : val ([48] ++ dec u) = val (dec u) := by simp [val]
    rw [this, dec_val]
  · rw [if_neg hu, List.nil_append, dec_val]

theorem getD_mem {l : List Int} {i : Nat} (h : i < l.length) : l.getD i 0 ∈ l := by
  simp [List.getD, h]

/-- The n digits: those held, then zeros. -/
def padded (G : List Int) (n : Nat) : List Int := G ++ zeros (n - G.length)
theorem padded_len (G : List Int) (n : Nat) (h : G.length ≤ n) : (padded G n).length = n := by simp [padded, zeros]; omega

/-- The mantissa: the digits with the point behind the first. -/
def mant (G : List Int) (n : Nat) (alt : Bool) : List Int := [G.getD 0 0] ++ dot n alt ++ (padded G n).tail

theorem expText_eq (D : List Int) (d0 : Int) (ds : List Int) (n : Nat) (ex : Int) (alt : Bool) :
    expText D d0 ds n ex alt = D ++ (mant (d0 :: ds) n alt ++ (101 :: (sgn ex :: ED ex.natAbs))) := by
  simp [expText, mant, padded, ED]

theorem expText_padded (D : List Int) (d0 : Int) (ds : List Int) (n : Nat) (ex : Int) (alt : Bool) (h : ds.length + 1 ≤ n) :
    expText D d0 (ds ++ zeros (n - (ds.length + 1))) n ex alt = expText D d0 ds n ex alt := by
  have e : n - ((ds ++ zeros (n - (ds.length + 1))).length + 1) = 0 := by simp [zeros]; omega
  unfold expText
  rw [e]
  simp [zeros]

theorem Row.sub {w : World} {g o : Nat} (A B C : List Int) (h : Row w (some ⟨g, o, none⟩) (A ++ (B ++ C))) : Row w (some ⟨g, o + A.length, none⟩) B := by
  rcases h with h | ⟨b, off, hx, h⟩
  · have : B = [] := by have := congrArg List.length h; simp at this; exact this.2.1
    exact .inl this
  · cases hx
    refine .inr ⟨g, o + A.length, rfl, fun i hi => ?_⟩
    rw [Nat.add_assoc, h (A.length + i) (by simp; omega), getD_right, getD_left _ _ _ hi]

/-- The first k of P laid over zeros. -/
def fillTo (P : List Int) (k : Nat) : List Int := P.take k ++ List.replicate (P.length - k) 0
theorem fillTo_len (P : List Int) (k : Nat) (h : k ≤ P.length) : (fillTo P k).length = P.length := by simp [fillTo]; omega
theorem fillTo_zero (P : List Int) : fillTo P 0 = List.replicate P.length 0 := by simp [fillTo]
theorem fillTo_all (P : List Int) : fillTo P P.length = P := by simp [fillTo]
theorem fillTo_set (P : List Int) (k : Nat) (h : k < P.length) : (fillTo P k).set k (P.getD k 0) = fillTo P (k + 1) := by
  refine List.ext_getElem (by simp [fillTo]; omega) ?_
  intro i h1 h2
  simp only [fillTo, List.getElem_set, List.getElem_append, List.length_take]
  by_cases e : k = i
  · subst e
    simp [List.getD, h, Nat.min_eq_left (show k + 1 ≤ P.length by omega)]
  · simp only [e, if_false]
    by_cases hlt : i < k
    · rw [dif_pos (by omega), dif_pos (by omega)]; simp
    · rw [dif_neg (by omega), dif_neg (by omega)]; simp

theorem padded_get_held (G : List Int) (n k : Nat) (h : k < G.length) : (padded G n).getD k 0 = G.getD k 0 := getD_left _ _ _ h
theorem padded_get_zero (G : List Int) (n k : Nat) (h : ¬ k < G.length) (hk : k < n) : (padded G n).getD k 0 = 48 := by
  obtain ⟨j, rfl⟩ : ∃ j, k = G.length + j := ⟨k - G.length, by omega⟩
  rw [padded, getD_right]
  simp [zeros, List.getD, show j < n - G.length by omega]

/-- The text, its parts apart. -/
def txt (D G : List Int) (n : Nat) (ex : Int) (alt : Bool) : List Int := D ++ (mant G n alt ++ (101 :: (sgn ex :: ED ex.natAbs)))

theorem mant_padded (G : List Int) (n : Nat) (alt : Bool) (h1 : 1 ≤ G.length) (h : G.length ≤ n) : mant (padded G n) n alt = mant G n alt := by
  have e : padded (padded G n) n = padded G n := by
    have := padded_len G n h
    rw [padded, this]; simp [zeros]
  unfold mant
  rw [e, padded_get_held _ _ _ (by omega)]

theorem mant_len (G : List Int) (n : Nat) (alt : Bool) (h1 : 1 ≤ G.length) (h : G.length ≤ n) : (mant G n alt).length = n + (dot n alt).length := by
  have := padded_len G n h
  simp [mant, this]; omega

theorem mant_ne (G : List Int) (n : Nat) (alt : Bool) (hd : ∀ j, j < G.length → 48 ≤ G.getD j 0 ∧ G.getD j 0 ≤ 57) (h1 : 1 ≤ G.length) (j : Nat) (hj : j < (mant G n alt).length) : (mant G n alt).getD j 0 ≠ 101 := by
  have hm := getD_mem hj
  have hall : ∀ c ∈ mant G n alt, c ≤ 57 := by
    intro c hc
    unfold mant at hc
    rcases List.mem_append.1 hc with hc | hc
    · rcases List.mem_append.1 hc with hc | hc
      · simp at hc; have := hd 0 (by omega); simp only [List.getD_eq_getElem?_getD] at this; omega
      · unfold dot at hc; split at hc
        · simp at hc; omega
        · simp at hc
    · have hc := List.mem_of_mem_tail hc
      unfold padded at hc
      rcases List.mem_append.1 hc with hc | hc
      · obtain ⟨i, hi, rfl⟩ := List.mem_iff_getElem.1 hc
        have := hd i hi
        simp [List.getD, hi] at this
        exact this.2
      · simp [zeros] at hc; omega
  have := hall _ hm
  omega

theorem mant_get0 (G : List Int) (n : Nat) (alt : Bool) (h1 : 1 ≤ G.length) : (mant G n alt).getD 0 0 = (padded G n).getD 0 0 := by
  rw [padded_get_held _ _ _ (by omega)]
  simp [mant]

theorem mant_dot (G : List Int) (n : Nat) (alt : Bool) (h : (dot n alt).length = 1) : (mant G n alt).getD 1 0 = 46 := by
  have hd : dot n alt = [46] := by
    unfold dot at *
    split at h
    · simp [*]
    · simp at h
  simp [mant, hd]

theorem mant_get (G : List Int) (n : Nat) (alt : Bool) (j : Nat) (h1 : 1 ≤ j) : (mant G n alt).getD (j + (dot n alt).length) 0 = (padded G n).getD j 0 := by
  obtain ⟨i, rfl⟩ : ∃ i, j = i + 1 := ⟨j - 1, by omega⟩
  unfold mant
  have e : i + 1 + (dot n alt).length = ([G.getD 0 0] ++ dot n alt).length + i := by simp; omega
  rw [e, getD_right]
  simp [List.getD]

theorem val_bound (l : List Int) (h : ∀ c ∈ l, 48 ≤ c ∧ c ≤ 57) (k : Nat) (hk : l.length ≤ k) : 0 ≤ val l ∧ val l < 10 ^ k := by
  induction k generalizing l with
  | zero =>
    obtain rfl : l = [] := List.eq_nil_of_length_eq_zero (by omega)
    simp [val]
  | succ k ih =>
    rcases List.eq_nil_or_concat l with rfl | ⟨l', c, rfl⟩
    · rw [val_nil]; exact ⟨Int.le_refl _, Int.pow_pos (by omega)⟩
    · simp only [List.concat_eq_append] at h hk ⊢
      rw [val_snoc, Int.pow_succ]
      have hc := h c (by simp)
      have := ih l' (fun x hx => h x (by simp [hx])) (by simp at hk; omega)
      omega

theorem val_take_succ (E : List Int) (j : Nat) (h : j < E.length) : val (E.take (j + 1)) = val (E.take j) * 10 + (E.getD j 0 - 48) := by
  rw [List.take_succ_eq_append_getElem h, val_snoc]
  simp [List.getD, h]

theorem zzG (a : Option Addr) (len : Nat) (G : List Int) (n : Nat) (ex : Int) (da : Option Addr) (dn : Nat) (D : List Int) (alt : Bool) (w : World) (hlen : len = G.length) (h1 : 1 ≤ G.length) (hG : Row w a G)
    (hdn : dn = D.length) (hnone : da = none → dn = 0) (hD : Row w da D) (hDl : D.length ≤ 65536) (hn : n ≤ 65536) (hGn : G.length ≤ n) (he0 : -1073741824 ≤ ex) (he1 : ex ≤ 1073741824) (htab : Tab w) :
    Calls Tryd.prog 7 #[.slice a len len, .int .i64 n, .int .i64 ex, .slice da dn dn, .bool alt] w
      fun e w' => ∃ g cap L, e = .returned (.slice (some ⟨g, 0, none⟩) L cap) ∧ L = (txt D G n ex alt).length ∧ L ≤ cap ∧ cap ≤ maxLen ∧ Row w' (some ⟨g, 0, none⟩) (txt D G n ex alt) ∧ Below w.heap.size w w' := by
  cases G with
  | nil => simp at h1
  | cons d0 ds =>
    rcases hG with h | ⟨b, off, rfl, hc⟩
    · cases h
    refine (zz b off d0 ds n ex da dn D alt w len hlen (hc 0 (by simp)) (fun i hi => ?_) hdn hnone hD hDl hn (by simpa using hGn) he0 he1 htab).mono ?_
    · have := hc (i + 1) (by simp; omega)
      rw [show off + 1 + i = off + (i + 1) by omega, this]
      simp [List.getD]
    · rintro e w' ⟨g, cap, rfl, h1, h2, h3, h4⟩
      rw [expText_eq] at h1 h3 ⊢
      exact ⟨g, cap, _, rfl, rfl, h1, h2, h3, h4⟩
end Go.Proofs.Qxb6617989aDoor
