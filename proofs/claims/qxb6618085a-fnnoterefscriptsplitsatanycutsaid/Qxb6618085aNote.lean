import Derived.Test.Qxb6618085aRef
namespace Go.Proofs.Qxb6618085a
open Go.RowKit

/-- What a parser holds. -/
structure PS where
  first : Option RR
  high : Option RR
  named : List RR

/-- What noting a reference makes of it. -/
def note (s : PS) (r : RR) : PS where
  first := some (s.first.getD r)
  high := if r.name = ⟨#[]⟩ then (match s.high with | none => some r | some h => if h.num < r.num then some r else some h) else s.high
  named := if r.name ≠ ⟨#[]⟩ ∧ look s.named r.name = none then s.named ++ [r] else s.named

def Parser (B : Nat) (w : World) (bp : Nat) (s : PS) : Prop :=
  ∃ bm o8 o9, B ≤ bp ∧ B ≤ bm ∧ PB w bp bm o8 o9 s.named ∧ PtrTo w o8 s.first ∧ PtrTo w o9 s.high

theorem RefAt.cell {w : World} {b : Nat} {p n : Int} {nm tx : ByteArray} (h : RefAt w b ⟨p, n, nm, tx⟩) : w.cell? ⟨b, 0, none⟩ = some (.int .i64 p) ∧ w.cell? ⟨b, 1, none⟩ = some (.int .i64 n) ∧ w.cell? ⟨b, 2, none⟩ = some (.string nm) ∧ w.cell? ⟨b, 3, none⟩ = some (.string tx) := by
  unfold RefAt at h; simp [World.cell?, h, RR.cells]

theorem toList_ne (s : ByteArray) (h : s ≠ ⟨#[]⟩) : s.toList.isEmpty = false := by
  cases hh : s.toList with
  | nil =>
    rw [ByteArray.toList_eq] at hh
    obtain ⟨⟨x⟩⟩ := s
    simp at hh
    subst hh
    exact absurd rfl h
  | cons a l => rfl

theorem new_ref (w : World) (r : RR) (N : Nat) (h : N = w.heap.size) : RefAt (w.alloc (.cells r.cells 69)) N r := by
  subst h; unfold RefAt World.alloc; exact Array.getElem?_push_size

theorem PB.drewN {w : World} {bp bm : Nat} {o8 o9 : Option Addr} {L : List RR} (h : PB w bp bm o8 o9 L) (q : Nat) : PB (w.drewN q) bp bm o8 o9 L := ⟨h.row, h.map⟩
theorem below_drewN {B : Nat} {a w : World} (h : Below B a w) (q : Nat) : Below B a (w.drewN q) := ⟨h.os, h.tape, h.output, h.size, h.block⟩

theorem end9 {B bp bm N q : Nat} {w wc : World} {o8 o9 : Option Addr} {L : List RR} {f r : RR} {s : PS} (h1 : B ≤ bp) (h2 : B ≤ bm) (hP : PB wc bp bm o8 o9 L) (hR : RefAt wc N r) (hB : Below B w wc) (hK : Keep w wc) (hF : PtrTo wc o8 (some f)) (hs : s = ⟨some f, some r, L⟩) :
    Parser B ((wc.drewN q).setCell ⟨bp, 9, none⟩ (.pointer (some ⟨N, 0, none⟩))) bp s ∧ Below B w ((wc.drewN q).setCell ⟨bp, 9, none⟩ (.pointer (some ⟨N, 0, none⟩))) ∧ Keep w ((wc.drewN q).setCell ⟨bp, 9, none⟩ (.pointer (some ⟨N, 0, none⟩))) := by
  subst hs
  have k : Keep wc ((wc.drewN q).setCell ⟨bp, 9, none⟩ (.pointer (some ⟨N, 0, none⟩))) := (hP.drewN q).keepSet _ _
  exact ⟨⟨bm, o8, _, h1, h2, (hP.drewN q).set9 _, hF.keep k, N, rfl, k _ _ hR⟩, (below_drewN hB q).setCell h1 _, hK.trans k⟩

theorem end0 {B bp bm q : Nat} {w wc : World} {o8 o9 : Option Addr} {L : List RR} {f : RR} {hg : Option RR} {s : PS} (h1 : B ≤ bp) (h2 : B ≤ bm) (hP : PB wc bp bm o8 o9 L) (hB : Below B w wc) (hK : Keep w wc) (hF : PtrTo wc o8 (some f)) (hH : PtrTo w o9 hg) (hs : s = ⟨some f, hg, L⟩) :
    Parser B (wc.drewN q) bp s ∧ Below B w (wc.drewN q) ∧ Keep w (wc.drewN q) := by
  subst hs
  have k : Keep wc (wc.drewN q) := fun _ _ h => h
  exact ⟨⟨bm, o8, o9, h1, h2, hP.drewN q, hF.keep k, (hH.keep hK).keep k⟩, below_drewN hB q, hK.trans k⟩

theorem endM {B bp bm : Nat} {w wc : World} {o8 o9 : Option Addr} {L M : List RR} {f : RR} {hg : Option RR} {s : PS} (h1 : B ≤ bp) (h2 : B ≤ bm) (hP : PB wc bp bm o8 o9 L) (hB : Below B w wc) (hK : Keep w wc) (hF : PtrTo wc o8 (some f)) (hH : PtrTo w o9 hg) (hs : s = ⟨some f, hg, M⟩) :
    Parser B (Go.ChangeMaps.setBlock wc.drew bm (mapObj M)) bp s ∧ Below B w (Go.ChangeMaps.setBlock wc.drew bm (mapObj M)) ∧ Keep w (Go.ChangeMaps.setBlock wc.drew bm (mapObj M)) := by
  subst hs
  have hP1 : PB wc.drew bp bm o8 o9 L := ⟨hP.row, hP.map⟩
  have k : Keep wc (Go.ChangeMaps.setBlock wc.drew bm (mapObj M)) := hP1.keepPut _
  exact ⟨⟨bm, o8, o9, h1, h2, hP1.put _, hF.keep k, (hH.keep hK).keep k⟩, Below.block' hB.drew h2 _, hK.trans k⟩

set_option maxHeartbeats 1000000 in
theorem noteRef_any (B bp : Nat) (s : PS) (r : RR) (w : World) (hs : Parser B w bp s) :
    Calls Try.prog 35 #[.pointer (some ⟨bp, 0, none⟩), .agg #[.int .i64 r.pos, .int .i64 r.num, .string r.name, .string r.text]] w fun e w' => e = .returned (.tuple #[]) ∧ Parser B w' bp (note s r) ∧ Below B w w' ∧ Keep w w' := by
  obtain ⟨bm, o8, o9, h1, h2, hP, hf, hh⟩ := hs
  obtain ⟨p, n, nm, tx⟩ := r
  obtain ⟨first, high, L⟩ := s
  have c8 := hP.c8
  have lp := hP.lp
  have f8 := hP.fz 8
  have HP := hidr hP
  have HF := hidr hf
  have HH := hidr hh
  clear hP hf hh
  go_enter Try.func35, Try.ntmps35
  go_upto_if 10 with (fail)
  go_cut [] from 10 to 13 (fun wx => ∃ o8', PB wx bp bm o8' o9 L ∧ RefAt wx w.heap.size ⟨p, n, nm, tx⟩ ∧ Below B w wx ∧ Keep w wx ∧ PtrTo wx o8' (some (first.getD ⟨p, n, nm, tx⟩)))
  case first =>
    cases first with
    | none =>
      obtain rfl : o8 = none := HF.out
      go_wp2
      go_meet
      case rel =>
        have hP1 := (HP.out.set8 (some ⟨w.heap.size, 0, none⟩)).alloc (Obj.cells #[Value.int IntKind.i64 p, Value.int IntKind.i64 n, Value.string nm, Value.string tx] 69)
        have hR := new_ref (w.setCell ⟨bp, 8, none⟩ (.pointer (some ⟨w.heap.size, 0, none⟩))) ⟨p, n, nm, tx⟩ w.heap.size (by simp)
        exact ⟨_, hP1, hR, ((Below.refl _ _).setCell h1 _).alloc (by simp; omega) _, (HP.out.keepSet _ _).trans (Keep.alloc _ _), w.heap.size, rfl, hR⟩
    | some x =>
      obtain ⟨b, rfl, hx⟩ := HF.out
      go_wp2
      go_meet
      case rel =>
        exact ⟨_, HP.out.alloc _, new_ref w ⟨p, n, nm, tx⟩ _ rfl, (Below.refl _ _).alloc (by omega) _, Keep.alloc _ _, b, rfl, Keep.alloc _ _ _ _ hx⟩
  case rest =>
  obtain ⟨o8', hP1, hR1, hB1, hK1, hF1⟩ := hcut
  have c10 := hP1.c10
  obtain ⟨n0, n1, n2, n3⟩ := hR1.cell
  have ln := lt_of_heap hR1
  have lm := hP1.lm
  have lp1 := hP1.lp
  obtain ⟨p', n', nm', tx', hl⟩ : ∃ p' n' nm' tx', ∀ w' : World, w'.heap[bm]? = some (mapObj L) → (Instr.lookup 51 (.map (some bm)) (.string nm) true).run Try.prog w' = .ok (.tuple #[.agg #[.int .i64 p', .int .i64 n', .string nm', .string tx'], .bool (look L nm).isSome]) w' :=
    ⟨_, _, _, _, fun w' hw => run_look L nm w' bm hw⟩
  obtain ⟨ok, hok⟩ : ∃ ok, ok = (look L nm).isSome := ⟨_, rfl⟩
  rw [← hok] at hl
  have HOK := hidr hok
  have hl1 := hl wc.drew hP1.map
  have hl2 := hl (wc.alloc (.cells #[.int .i64 0, .int .i64 0, .string ⟨#[]⟩, .string ⟨#[]⟩] 69)).drew (by show (wc.alloc _).heap[bm]? = _; rw [Below.heap_alloc _ _ _ lm]; exact hP1.map)
  have HP1 := hidr hP1
  have HR1 := hidr hR1
  have HB1 := hidr hB1
  have HK1 := hidr hK1
  have HF1 := hidr hF1
  clear hP1 hR1 hB1 hK1 hF1 hok hl
  go_upto_region 3 with (fail)
  go_cut [4, 5] from 14 to 23 (fun _ k wx => k = .bool ok ∧ PB wx bp bm o8' o9 L ∧ RefAt wx w.heap.size ⟨p, n, nm, tx⟩ ∧ Below B w wx ∧ Keep w wx ∧ PtrTo wx o8' (some (first.getD ⟨p, n, nm, tx⟩)))
  case first =>
    have X : ∀ cs : Array Value, PB (wc.alloc (.cells cs 69)).drew bp bm o8' o9 L ∧ RefAt (wc.alloc (.cells cs 69)).drew w.heap.size ⟨p, n, nm, tx⟩ ∧ Below B w (wc.alloc (.cells cs 69)).drew ∧ Keep w (wc.alloc (.cells cs 69)).drew ∧ PtrTo (wc.alloc (.cells cs 69)).drew o8' (some (first.getD ⟨p, n, nm, tx⟩)) :=
      fun cs => ⟨(HP1.out.alloc _).stay rfl rfl, Keep.alloc _ _ _ _ HR1.out, (HB1.out.alloc (by omega) _).drew, HK1.out.trans (Keep.alloc _ _), HF1.out.keep (Keep.alloc _ _)⟩
    have HX := hidr X
    clear X
    go_region
    all_goals
      go_wp2
      go_meet
      case rel => exact ⟨rfl, HX.out _⟩
  case rest =>
  obtain ⟨rfl, hP2, hR2, hB2, hK2, hF2⟩ := hcut
  clear n0 n1 n2 n3 ln lm lp1 hl1 hl2 HP1 HR1 HB1 HK1 HF1 c10
  have c10 := hP2.c10
  have c9 := hP2.c9
  have f9 := hP2.fz 9
  have lm := hP2.lm
  have lp1 := hP2.lp
  have ln := lt_of_heap hR2
  have hH2 := HH.out.keep hK2
  obtain ⟨n0, n1, n2, n3⟩ := hR2.cell
  have HP2 := hidr hP2
  have HR2 := hidr hR2
  have HB2 := hidr hB2
  have HK2 := hidr hK2
  have HF2 := hidr hF2
  clear hP2 hR2 hB2 hK2 hF2
  by_cases hn : nm = ⟨#[]⟩
  · subst hn
    cases high with
    | none =>
      obtain rfl : o9 = none := hH2
      go_wp2
      go_quiet (fail)
      go_wp2
      refine bodyPost_end (results_none rfl _ _ _) rfl ?_
      refine ⟨rfl, ?_⟩
      exact end9 h1 h2 HP2.out HR2.out HB2.out HK2.out HF2.out (by simp [note])
    | some h =>
      obtain ⟨b, rfl, hb⟩ := hH2
      obtain ⟨hp, hn, hnm, htx⟩ := h
      have b1 := hb.cell.2.1
      have HB := hidr hb
      clear hb
      by_cases hlt : hn < n
      · go_wp2
        go_quiet (fail)
        go_wp2
        refine bodyPost_end (results_none rfl _ _ _) rfl ?_
        refine ⟨rfl, ?_⟩
        exact end9 h1 h2 HP2.out HR2.out HB2.out HK2.out HF2.out (by simp [note, hlt])
      · have hd : decide (hn < n) = false := decide_eq_false hlt
        clear hlt
        go_wp2
        go_quiet (fail)
        go_wp2
        refine bodyPost_end (results_none rfl _ _ _) rfl ?_
        refine ⟨rfl, ?_⟩
        exact end0 h1 h2 HP2.out HB2.out HK2.out HF2.out HH.out (by simp [note, of_decide_eq_false hd])
  · have bn : nm.toList.isEmpty = false := toList_ne nm hn
    have bn2 : ¬ nm.toList = [] := fun e => by rw [e] at bn; cases bn
    have HN := hidr hn
    clear hn
    cases hlk : look L nm with
    | none =>
      rw [hlk] at HOK
      obtain rfl : ok = false := HOK
      have hu : (Instr.mapUpdate 51 (.map (some bm)) (.string nm) (.agg #[.int .i64 p, .int .i64 n, .string nm, .string tx])).run Try.prog wc.drew = .ok () (Go.ChangeMaps.setBlock wc.drew bm (mapObj (L ++ [⟨p, n, nm, tx⟩]))) := run_put L ⟨p, n, nm, tx⟩ wc.drew bm HP2.out.map hlk
      have HLK := hidr hlk
      clear hlk
      go_wp2
      go_region
      go_wp2
      refine bodyPost_end (results_none rfl _ _ _) rfl ?_
      refine ⟨rfl, ?_⟩
      exact endM h1 h2 HP2.out HB2.out HK2.out HF2.out HH.out (by simp [note, HN.out, HLK.out])
    | some x =>
      rw [hlk] at HOK
      obtain rfl : ok = true := HOK
      have HLK := hidr hlk
      clear hlk
      go_wp2
      go_quiet (fail)
      go_wp2
      refine bodyPost_end (results_none rfl _ _ _) rfl ?_
      refine ⟨rfl, ?_⟩
      exact end0 h1 h2 HP2.out HB2.out HK2.out HF2.out HH.out (by simp [note, HN.out, HLK.out])
end Go.Proofs.Qxb6618085a
