import Derived.Test.Qxb6618085aNote
namespace Go.Proofs.Qxb6618085a
open Go.RowKit

/-- A slice of references, as a walk knows it. -/
def Refs (w : World) (a : Option Addr) (rs : List RR) : Prop :=
  rs = [] ∨ ∃ b off, a = some ⟨b, off, none⟩ ∧ ∀ i, i < rs.length →
    w.cell? ⟨b, off + i * 4, none⟩ = some (.int .i64 (rs.getD i zeroRef).pos) ∧ w.cell? ⟨b, off + i * 4 + 1, none⟩ = some (.int .i64 (rs.getD i zeroRef).num) ∧
    w.cell? ⟨b, off + i * 4 + 2, none⟩ = some (.string (rs.getD i zeroRef).name) ∧ w.cell? ⟨b, off + i * 4 + 3, none⟩ = some (.string (rs.getD i zeroRef).text)

theorem beq_list (a b : ByteArray) : (a.toList == b.toList) = true ↔ a = b := by
  rw [← beq_toListBytes]; exact MapKept.bytes_beq a b

/-- The first index with a name, or none. -/
def fwn (rs : List RR) (s : ByteArray) : Option Nat := rs.findIdx? (fun r => decide (r.name = s))

theorem fwn_found (rs : List RR) (s : ByteArray) : ∀ k, k < rs.length → (rs.getD k zeroRef).name = s → (∀ j, j < k → (rs.getD j zeroRef).name ≠ s) → fwn rs s = some k := by
  induction rs with
  | nil => intro k h; simp at h
  | cons x rs ih =>
    intro k hk he hno
    simp only [fwn, List.findIdx?_cons]
    cases k with
    | zero =>
      simp at he
      simp [he]
    | succ k =>
      have h0 := hno 0 (by omega)
      simp at h0
      simp only [h0, decide_false, Bool.false_eq_true, if_false]
      have := ih k (by simpa using hk) (by simpa using he) (fun j hj => by simpa using hno (j + 1) (by omega))
      unfold fwn at this
      rw [this]
      rfl
theorem fwn_none (rs : List RR) (s : ByteArray) (h : ∀ j, j < rs.length → (rs.getD j zeroRef).name ≠ s) : fwn rs s = none := by
  unfold fwn
  rw [List.findIdx?_eq_none_iff]
  intro x hx
  obtain ⟨j, hj, rfl⟩ := List.getElem_of_mem hx
  have := h j hj
  simpa [List.getD, hj] using this

set_option maxHeartbeats 400000 in
theorem firstWithName_any (a : Option Addr) (cap : Nat) (rs : List RR) (s : ByteArray) (w : World) (hr : Refs w a rs) (hl : rs.length ≤ maxLen) :
    Calls Try.prog 16 #[.slice a rs.length cap, .string s] w fun e w' => e = .returned (.int .i64 (match fwn rs s with | some j => (j : Int) | none => -1)) ∧ w' = w := by
  unfold maxLen at hl
  obtain ⟨E, hE⟩ : ∃ E : Int, E = (match fwn rs s with | some j => (j : Int) | none => -1) := ⟨_, rfl⟩
  rw [← hE]
  have HE := hidr hE
  have HR := hidr hr
  clear hE hr
  go_enter Try.func16, Try.ntmps16
  go_wp2
  go_loop [5] (fun x => ∃ k : Nat, k ≤ rs.length ∧ x = .int .i64 k ∧ Hid (∀ j, j < k → (rs.getD j zeroRef).name ≠ s)) (fun x => rs.length - (intOf x).toNat)
  case atStart => exact ⟨0, by omega, by go_num, fun j hj => by omega⟩
  case round =>
    obtain ⟨k, hk, rfl, hno⟩ := hrel
    by_cases hlt : k < rs.length
    · rcases HR.out with h | ⟨b, off, rfl, hc⟩
      · rw [h] at hlt; simp at hlt
      obtain ⟨c0, c1, c2, c3⟩ := hc k hlt
      have i1 : (k : Int) < (rs.length : Int) := by omega
      obtain ⟨nm, hnm⟩ : ∃ nm, nm = (rs.getD k zeroRef).name := ⟨_, rfl⟩
      rw [← hnm] at c2
      have HN := hidr hnm
      clear hnm c0 c1 c3 hc
      by_cases hs : nm = s
      · subst hs
        have HF := hidr (show E = (k : Int) by rw [HE.out, fwn_found rs nm k hlt HN.out.symm hno.out])
        go_wp2
        go_ret
        exact ⟨by rw [HF.out]; rfl, rfl⟩
      · have b1 : (nm.toList == s.toList) = false := by
          cases h : (nm.toList == s.toList)
          · rfl
          · exact absurd ((beq_list _ _).1 h) hs
        have b2 : ¬ nm.toList = s.toList := fun e => hs ((beq_list _ _).1 (by rw [e]; simp))
        have HS := hidr hs
        clear hs
        go_wp2
        go_round
        case rel =>
          refine ⟨k + 1, by omega, by go_num, fun j hj => ?_⟩
          by_cases e : j = k
          · subst e; rw [← HN.out]; exact HS.out
          · exact hno.out j (by omega)
        case measure => simp [intOf]; omega
    · obtain rfl : k = rs.length := by omega
      have HF := hidr (show E = -1 by rw [HE.out, fwn_none rs s hno.out])
      go_wp2
      go_ret
      exact ⟨by rw [HF.out]; rfl, rfl⟩

/-- What a view of a reference is. -/
def vv : Option RR → Array Value
  | none => #[.int .i64 0, .int .i64 0, .string ⟨#[]⟩, .string ⟨#[]⟩, .bool false]
  | some r => #[.int .i64 r.pos, .int .i64 r.num, .string r.name, .string r.text, .bool true]

theorem results_tmp5 {fn : Func} {t u v x y : Tmp} (h : fn.results = #[.tmp t, .tmp u, .tmp v, .tmp x, .tmp y]) (tmps : Array Value) (P : Program) (w : World) :
    (results fn tmps).run P w = .ok (.tuple #[tmps.getD t undef, tmps.getD u undef, tmps.getD v undef, tmps.getD x undef, tmps.getD y undef]) w := by
  simp [results, h]

theorem Parser.alloc {B bp : Nat} {s : PS} {w : World} (h : Parser B w bp s) (o : Obj) : Parser B (w.alloc o) bp s := by
  obtain ⟨bm, o8, o9, h1, h2, hP, hf, hh⟩ := h
  exact ⟨bm, o8, o9, h1, h2, hP.alloc o, hf.keep (Keep.alloc _ _), hh.keep (Keep.alloc _ _)⟩

set_option maxHeartbeats 400000 in
theorem firstRef_any (B bp : Nat) (s : PS) (w : World) (hs : Parser B w bp s) :
    Calls Try.prog 29 #[.pointer (some ⟨bp, 0, none⟩)] w fun e w' => e = .returned (.tuple (vv s.first)) ∧ Below w.heap.size w w' := by
  obtain ⟨bm, o8, o9, h1, h2, hP, hf, hh⟩ := hs
  have c := hP.c8
  have hx := hf
  clear hP hh hf
  cases h : s.first with
  | none =>
    rw [h] at hx
    obtain rfl : o8 = none := hx
    clear h
    go_enter Try.func29, Try.ntmps29
    go_wp2
    refine bodyPost_ret (results_tmp5 rfl _ _ _) rfl ?_
    exact ⟨rfl, Below.refl _ _⟩
  | some r =>
    rw [h] at hx
    obtain ⟨b, rfl, hb⟩ := hx
    obtain ⟨p, n, nm, tx⟩ := r
    obtain ⟨n0, n1, n2, n3⟩ := hb.cell
    clear hb h
    go_enter Try.func29, Try.ntmps29
    go_wp2
    go_quiet (fail)
    go_wp2
    refine bodyPost_ret (results_tmp5 rfl _ _ _) rfl ?_
    exact ⟨rfl, below_drewN (Below.refl _ _) _⟩

set_option maxHeartbeats 400000 in
theorem highestRef_any (B bp : Nat) (s : PS) (w : World) (hs : Parser B w bp s) :
    Calls Try.prog 30 #[.pointer (some ⟨bp, 0, none⟩)] w fun e w' => e = .returned (.tuple (vv s.high)) ∧ Below w.heap.size w w' := by
  obtain ⟨bm, o8, o9, h1, h2, hP, hf, hh⟩ := hs
  have c := hP.c9
  have hx := hh
  clear hP hh hf
  cases h : s.high with
  | none =>
    rw [h] at hx
    obtain rfl : o9 = none := hx
    clear h
    go_enter Try.func30, Try.ntmps30
    go_wp2
    refine bodyPost_ret (results_tmp5 rfl _ _ _) rfl ?_
    exact ⟨rfl, Below.refl _ _⟩
  | some r =>
    rw [h] at hx
    obtain ⟨b, rfl, hb⟩ := hx
    obtain ⟨p, n, nm, tx⟩ := r
    obtain ⟨n0, n1, n2, n3⟩ := hb.cell
    clear hb h
    go_enter Try.func30, Try.ntmps30
    go_wp2
    go_quiet (fail)
    go_wp2
    refine bodyPost_ret (results_tmp5 rfl _ _ _) rfl ?_
    exact ⟨rfl, below_drewN (Below.refl _ _) _⟩

theorem blk_new (w : World) (o : Obj) : (w.alloc o).heap[w.heap.size]? = some o := by
  unfold World.alloc; exact Array.getElem?_push_size
theorem size_new (w : World) (o : Obj) : (w.alloc o).heap.size = w.heap.size + 1 := by simp

theorem run_len (L : List RR) (w : World) (bm : Nat) (hm : w.heap[bm]? = some (mapObj L)) (ty : TypeId) : (Builtin.len_ #[51] ty #[.map (some bm)]).run Try.prog w = .ok (.int .i64 L.length) w := by
  simp [Builtin.len_, run_underlying Try.underlying51, MapKept.run_getObj_map hm, goInt, Result.andThen, ents_length]

theorem cells5 {w : World} {N : Nat} {x0 x1 x2 x3 x4 : Value} {t : TypeId} (h : w.heap[N]? = some (.cells #[x0, x1, x2, x3, x4] t (0, 0))) :
    w.cell? ⟨N, 0, none⟩ = some x0 ∧ w.cell? ⟨N, 1, none⟩ = some x1 ∧ w.cell? ⟨N, 2, none⟩ = some x2 ∧ w.cell? ⟨N, 3, none⟩ = some x3 ∧ w.cell? ⟨N, 4, none⟩ = some x4 := by
  simp [World.cell?, h]

theorem set5 {w W : World} {N : Nat} {x0 x1 x2 x3 x4 v0 v1 v2 v3 v4 : Value} {t : TypeId} (h : W.heap[N]? = some (.cells #[x0, x1, x2, x3, x4] t (0, 0))) (hb : Below N w W) :
    (((((W.setCell ⟨N, 0, none⟩ v0).setCell ⟨N, 1, none⟩ v1).setCell ⟨N, 2, none⟩ v2).setCell ⟨N, 3, none⟩ v3).setCell ⟨N, 4, none⟩ v4).heap[N]? = some (.cells #[v0, v1, v2, v3, v4] t (0, 0)) ∧
    Below N w (((((W.setCell ⟨N, 0, none⟩ v0).setCell ⟨N, 1, none⟩ v1).setCell ⟨N, 2, none⟩ v2).setCell ⟨N, 3, none⟩ v3).setCell ⟨N, 4, none⟩ v4) := by
  have e0 := heap_setCell_same W N 0 _ t v0 h
  have e1 := heap_setCell_same _ N 1 _ t v1 e0
  have e2 := heap_setCell_same _ N 2 _ t v2 e1
  have e3 := heap_setCell_same _ N 3 _ t v3 e2
  have e4 := heap_setCell_same _ N 4 _ t v4 e3
  exact ⟨e4, ((((hb.setCell (Nat.le_refl _) _).setCell (Nat.le_refl _) _).setCell (Nat.le_refl _) _).setCell (Nat.le_refl _) _).setCell (Nat.le_refl _) _⟩

set_option maxHeartbeats 400000 in
theorem refOf_any (r : RR) (w : World) :
    Calls Try.prog 13 #[.agg #[.int .i64 r.pos, .int .i64 r.num, .string r.name, .string r.text]] w fun e w' => e = .returned (.agg (vv (some r))) ∧ Below w.heap.size w w' := by
  go_enter Try.func13, Try.ntmps13
  go_wp2
  refine bodyPost_ret (results_cell_row rfl _ _ (w.heap.size + 1) 29 (vv (some r)) (0, 0) _ rfl ?_ Try.underlying29 rfl (by kernel_rfl)) rfl ?_
  · rw [← size_new]; exact blk_new _ _
  · exact ⟨rfl, ((Below.refl _ _).alloc (Nat.le_refl _) _).alloc (by simp) _⟩

set_option maxHeartbeats 400000 in
theorem namedRef_any (B bp : Nat) (s : PS) (k : ByteArray) (w : World) (hs : Parser B w bp s) :
    Calls Try.prog 31 #[.pointer (some ⟨bp, 0, none⟩), .string k] w fun e w' => e = .returned (.tuple (vv (look s.named k))) ∧ Below w.heap.size w w' := by
  obtain ⟨bm, o8, o9, h1, h2, hP, hf, hh⟩ := hs
  have c10 := hP.c10
  have hl := run_look s.named k w bm hP.map
  clear hf hh hP
  cases h : look s.named k with
  | none =>
    rw [h] at hl
    replace hl : (Instr.lookup 51 (.map (some bm)) (.string k) true).run Try.prog w = .ok (.tuple #[.agg #[.int .i64 0, .int .i64 0, .string ⟨#[]⟩, .string ⟨#[]⟩], .bool false]) w := hl
    clear h
    go_enter Try.func31, Try.ntmps31
    go_wp2
    go_quiet (fail)
    go_wp2
    refine bodyPost_ret (results_tmp5 rfl _ _ _) rfl ?_
    exact ⟨rfl, below_drewN ((Below.refl _ _).alloc (Nat.le_refl _) _) _⟩
  | some r =>
    rw [h] at hl
    obtain ⟨p, n, nm, tx⟩ := r
    replace hl : (Instr.lookup 51 (.map (some bm)) (.string k) true).run Try.prog w = .ok (.tuple #[.agg #[.int .i64 p, .int .i64 n, .string nm, .string tx], .bool true]) w := hl
    clear h
    go_enter Try.func31, Try.ntmps31
    go_wp2
    go_quiet (fail)
    go_wp2
    refine bodyPost_ret (results_tmp5 rfl _ _ _) rfl ?_
    exact ⟨rfl, below_drewN ((Below.refl _ _).alloc (Nat.le_refl _) _) _⟩

set_option maxHeartbeats 1000000 in
theorem viewFirst_any (B bp : Nat) (s : PS) (w : World) (hs : Parser B w bp s) :
    Calls Try.prog 12 #[.pointer (some ⟨bp, 0, none⟩)] w fun e w' => e = .returned (.agg (vv (s.first))) ∧ Below w.heap.size w w' := by
  have HS1 : ∀ o, Hid (Parser B (w.alloc o) bp s) := fun o => hs.alloc o
  clear hs
  go_enter Try.func12, Try.ntmps12
  go_wp2_with (go_at_call 29; go_must (refine (firstRef_any B bp s _ (HS1 _).out).mono ?_))
  rintro e w1 ⟨rfl, hb⟩
  have hN := (hb.block w.heap.size (by simp)).trans (blk_new w _)
  have hB : Below w.heap.size w w1 := ((Below.refl _ _).alloc (Nat.le_refl _) _).trans (hb.mono (by simp))
  have HN := hidr hN
  have HB := hidr hB
  obtain ⟨c0, c1, c2, c3, c4⟩ := cells5 hN
  have f : ∀ i, w1.frozen? ⟨w.heap.size, i, none⟩ = false := fun i => by simp [World.frozen?, hN]
  have f0 := f 0
  have f1 := f 1
  have f2 := f 2
  have f3 := f 3
  have f4 := f 4
  clear hN hB hb f
  cases h : s.first with
  | none =>
    simp only [vv]
    go_wp2
    refine bodyPost_ret (results_cell_row rfl _ _ w.heap.size 29 (vv none) (0, 0) _ rfl (set5 HN.out HB.out).1 Try.underlying29 rfl (by kernel_rfl)) rfl ?_
    exact ⟨by rw [h], (set5 HN.out HB.out).2⟩
  | some r =>
    simp only [vv]
    go_wp2
    refine bodyPost_ret (results_cell_row rfl _ _ w.heap.size 29 (vv (some r)) (0, 0) _ rfl (set5 HN.out HB.out).1 Try.underlying29 rfl (by kernel_rfl)) rfl ?_
    exact ⟨by rw [h], (set5 HN.out HB.out).2⟩

set_option maxHeartbeats 1000000 in
theorem viewHighest_any (B bp : Nat) (s : PS) (w : World) (hs : Parser B w bp s) :
    Calls Try.prog 15 #[.pointer (some ⟨bp, 0, none⟩)] w fun e w' => e = .returned (.agg (vv (s.high))) ∧ Below w.heap.size w w' := by
  have HS1 : ∀ o, Hid (Parser B (w.alloc o) bp s) := fun o => hs.alloc o
  clear hs
  go_enter Try.func15, Try.ntmps15
  go_wp2_with (go_at_call 30; go_must (refine (highestRef_any B bp s _ (HS1 _).out).mono ?_))
  rintro e w1 ⟨rfl, hb⟩
  have hN := (hb.block w.heap.size (by simp)).trans (blk_new w _)
  have hB : Below w.heap.size w w1 := ((Below.refl _ _).alloc (Nat.le_refl _) _).trans (hb.mono (by simp))
  have HN := hidr hN
  have HB := hidr hB
  obtain ⟨c0, c1, c2, c3, c4⟩ := cells5 hN
  have f : ∀ i, w1.frozen? ⟨w.heap.size, i, none⟩ = false := fun i => by simp [World.frozen?, hN]
  have f0 := f 0
  have f1 := f 1
  have f2 := f 2
  have f3 := f 3
  have f4 := f 4
  clear hN hB hb f
  cases h : s.high with
  | none =>
    simp only [vv]
    go_wp2
    refine bodyPost_ret (results_cell_row rfl _ _ w.heap.size 29 (vv none) (0, 0) _ rfl (set5 HN.out HB.out).1 Try.underlying29 rfl (by kernel_rfl)) rfl ?_
    exact ⟨by rw [h], (set5 HN.out HB.out).2⟩
  | some r =>
    simp only [vv]
    go_wp2
    refine bodyPost_ret (results_cell_row rfl _ _ w.heap.size 29 (vv (some r)) (0, 0) _ rfl (set5 HN.out HB.out).1 Try.underlying29 rfl (by kernel_rfl)) rfl ?_
    exact ⟨by rw [h], (set5 HN.out HB.out).2⟩

set_option maxHeartbeats 1000000 in
theorem viewNamed_any (B bp : Nat) (s : PS) (k : ByteArray) (w : World) (hs : Parser B w bp s) :
    Calls Try.prog 17 #[.pointer (some ⟨bp, 0, none⟩), .string k] w fun e w' => e = .returned (.agg (vv (look s.named k))) ∧ Below w.heap.size w w' := by
  have HS1 : ∀ o, Hid (Parser B (w.alloc o) bp s) := fun o => hs.alloc o
  clear hs
  go_enter Try.func17, Try.ntmps17
  go_wp2_with (go_at_call 31; go_must (refine (namedRef_any B bp s k _ (HS1 _).out).mono ?_))
  rintro e w1 ⟨rfl, hb⟩
  have hN := (hb.block w.heap.size (by simp)).trans (blk_new w _)
  have hB : Below w.heap.size w w1 := ((Below.refl _ _).alloc (Nat.le_refl _) _).trans (hb.mono (by simp))
  have HN := hidr hN
  have HB := hidr hB
  obtain ⟨c0, c1, c2, c3, c4⟩ := cells5 hN
  have f : ∀ i, w1.frozen? ⟨w.heap.size, i, none⟩ = false := fun i => by simp [World.frozen?, hN]
  have f0 := f 0
  have f1 := f 1
  have f2 := f 2
  have f3 := f 3
  have f4 := f 4
  clear hN hB hb f
  cases h : look s.named k with
  | none =>
    simp only [vv]
    go_wp2
    refine bodyPost_ret (results_cell_row rfl _ _ w.heap.size 29 (vv none) (0, 0) _ rfl (set5 HN.out HB.out).1 Try.underlying29 rfl (by kernel_rfl)) rfl ?_
    exact ⟨by rw [h], (set5 HN.out HB.out).2⟩
  | some r =>
    simp only [vv]
    go_wp2
    refine bodyPost_ret (results_cell_row rfl _ _ w.heap.size 29 (vv (some r)) (0, 0) _ rfl (set5 HN.out HB.out).1 Try.underlying29 rfl (by kernel_rfl)) rfl ?_
    exact ⟨by rw [h], (set5 HN.out HB.out).2⟩

set_option maxHeartbeats 400000 in
theorem namedCount_any (B bp : Nat) (s : PS) (w : World) (hs : Parser B w bp s) :
    Calls Try.prog 18 #[.pointer (some ⟨bp, 0, none⟩)] w fun e w' => e = .returned (.int .i64 s.named.length) ∧ w' = w := by
  obtain ⟨bm, o8, o9, h1, h2, hP, hf, hh⟩ := hs
  have c10 := hP.c10
  have hl := run_len s.named w bm hP.map
  clear hf hh hP
  go_enter Try.func18, Try.ntmps18
  go_wp2
  go_ret
  exact ⟨rfl, rfl⟩

theorem newParser_any (w : World) :
    Calls Try.prog 10 #[] w fun e w' => ∃ bp, e = .returned (.pointer (some ⟨bp, 0, none⟩)) ∧ Parser w.heap.size w' bp ⟨none, none, []⟩ ∧ Below w.heap.size w w' := by
  have hmm := @run_makeMap Try.prog
  go_enter Try.func10, Try.ntmps10
  go_wp2
  go_ret
  refine ⟨w.heap.size + 1, rfl, ⟨w.heap.size, none, none, by omega, Nat.le_refl _, ⟨⟨_, by rw [← size_new]; exact blk_new _ _, rfl, rfl, rfl⟩, ?_⟩, rfl, rfl⟩, ((Below.refl _ _).alloc (Nat.le_refl _) _).alloc (by simp) _⟩
  rw [Below.heap_alloc _ _ _ (by simp)]
  exact blk_new _ _
end Go.Proofs.Qxb6618085a
