/-
  cycle: its contract.
-/
import Derived.Test.Qxb6600485aBfs
import Derived.Test.Qxb6600485aDfsPlain
import Derived.WalkSmall
namespace Go.Proofs.Qxb6600485a
open Go.RowKit
set_option linter.unusedVariables false

theorem Try.info5 : (Try.prog.info? 5).map (fun i => (i.zero, i.size, i.bytes)) = some (some (.int .u8 0), 1, 1) := by kernel_rfl
theorem Try.info47 : (Try.prog.info? 47).map (fun i => (i.zero, i.size, i.bytes)) = some (some (.agg #[.int .i64 0, .int .i64 0]), 2, 16) := by kernel_rfl

theorem two_new (W : World) (N : Nat) (x y : Value) (t : TypeId) (hN : N = W.heap.size) : ∀ j u, [x, y][j]? = some u → (W.alloc (.cells #[x, y] t)).cell? ((⟨N, 0, none⟩ : Addr).add j) = some u := by
  intro j u hj
  match j, hj with
  | 0, hj => simp at hj; subst hj; rw [Addr.add_lit, World.cell?_alloc_at _ _ _ _ hN]; rfl
  | 1, hj => simp at hj; subst hj; rw [Addr.add_lit, World.cell?_alloc_at _ _ _ _ hN]; rfl

/-- the marks of the nodes -/
def SRow (w : World) (g n : Nat) (st : Nat → Nat) : Prop := ARow w g n (fun x => .int .u8 ((st x : Nat) : Int))
theorem SRow.setNat {w : World} {g n : Nat} {d : Nat → Nat} (h : SRow w g n d) (k x : Nat) (hk : k < n) : SRow (w.setCell ⟨g, k, none⟩ (.int .u8 ((x : Nat) : Int))) g n (upd d k x) :=
  (ARow.set h k _ hk).congr fun j _ => by
    by_cases e : j = k
    · subst e; rw [upd_same, upd_same]
    · rw [upd_other _ _ _ _ e, upd_other _ _ _ _ e]

/-- the stack in memory -/
def PRow (w : World) (base g cap : Nat) (s : List (Nat × Nat)) : Prop := w.ownsRow base 47 2 (.slice (some ⟨g, 0, none⟩) s.length cap) s.length (pcells s)
theorem PRow.top {w : World} {base g cap u f : Nat} {t : List (Nat × Nat)} (h : PRow w base g cap ((u, f) :: t)) : w.cell? ⟨g, t.length * 2, none⟩ = some (.int .i64 ((u : Nat) : Int)) ∧ w.cell? ⟨g, t.length * 2 + 1, none⟩ = some (.int .i64 ((f : Nat) : Int)) := by
  have hl := pcells_len t
  constructor
  · rw [h.cellAt (t.length * 2) (by simp only [List.length_cons]; omega)]
    simp only [pcells]
    rw [List.getElem?_append_right (by omega)]
    simp [hl]
  · rw [h.cellAt (t.length * 2 + 1) (by simp only [List.length_cons]; omega)]
    simp only [pcells]
    rw [List.getElem?_append_right (by omega)]
    simp [hl]
theorem PRow.pop {w : World} {base g cap u f : Nat} {t : List (Nat × Nat)} (h : PRow w base g cap ((u, f) :: t)) : PRow w base g cap t := ownsRow_pop (pcells_len t) h
theorem PRow.step {w : World} {base g cap u f : Nat} {t : List (Nat × Nat)} (h : PRow w base g cap ((u, f) :: t)) (f' : Nat) : PRow (w.setCell ⟨g, t.length * 2 + 1, none⟩ (.int .i64 ((f' : Nat) : Int))) base g cap ((u, f') :: t) := by
  have h1 := (h.stored (t.length * 2 + 1) (.int .i64 ((f' : Nat) : Int))).1
  have hl := pcells_len t
  have he : (pcells ((u, f) :: t)).set (t.length * 2 + 1) (.int .i64 ((f' : Nat) : Int)) = pcells ((u, f') :: t) := by
    simp only [pcells]
    rw [List.set_append_right _ _ (by omega)]
    simp [hl]
  rw [he] at h1
  exact h1
theorem PRow.drewN {w : World} {base g cap : Nat} {s : List (Nat × Nat)} (h : PRow w base g cap s) (q : Nat) : PRow (w.drewN q) base g cap s := h
theorem SRow.drewN {w : World} {g n : Nat} {d : Nat → Nat} (h : SRow w g n d) (q : Nat) : SRow (w.drewN q) g n d := h
theorem PRow.setBelow {w : World} {base g cap : Nat} {s : List (Nat × Nat)} (h : PRow w base g cap s) (p : Addr) (hp : p.block < base) (x : Value) : PRow (w.setCell p x) base g cap s := ownsRow_setCell_below h hp x

/-- what the search answers -/
def CycAns (n : Nat) (L : Nat → Nat) (E : Nat → Nat → Nat) (w w' : World) (e : Ending) : Prop :=
  ((e = .returned (.slice none 0 0) ∧ ∃ l, Topo (Ed n L E) l ∧ ∀ x, x < n → x ∈ l) ∨
   ∃ cg cc M C, e = .returned (.slice (some ⟨cg, 0, none⟩) (M + 1) cc) ∧ (∀ i, i < M + 1 → w'.cell? ⟨cg, i, none⟩ = some (.int .i64 ((C i : Nat) : Int))) ∧ Simple n L E M C ∧ IsMin (Ed n L E) (C 0) M) ∧ Below w.heap.size w w'

/-- the stack where no node is open: nil at first, then the emptied row -/
def PNil (w : World) (base : Nat) (v : Value) : Prop := v = .slice none 0 0 ∨ ∃ g cap, v = .slice (some ⟨g, 0, none⟩) 0 cap ∧ 0 < cap ∧ PRow w base g cap []

set_option maxRecDepth 100000 in
set_option maxHeartbeats 4000000 in
theorem dfs27 (w : World) (pb po ib : Nat) (a : Option Addr) (n c : Nat) (L : Nat → Nat) (E : Nat → Nat → Nat) (hp : GPtr w pb po ib a n c) (hr : Gr w a n c L E) (hn : n ≤ 4096) (hL : ∀ i, i < n → L i ≤ 131072) (hE : ∀ i, i < n → ∀ j, j < L i → E i j < n) :
    Calls Try.prog 27 #[.pointer (some ⟨pb, po, none⟩)] w fun e w' => CycAns n L E w w' e := by
  have HP : Hid (GPtr w pb po ib a n c) := hp
  obtain ⟨p0, p1, pI⟩ := hp
  have HL : Hid (∀ i, i < n → L i ≤ 131072) := hL
  have HE : Hid (∀ i, i < n → ∀ j, j < L i → E i j < n) := hE
  clear hL hE pI
  obtain ⟨ti, hi, hz0, hz1, hz2⟩ := info_parts Try.info5
  obtain ⟨tj, hj, hy0, hy1, hy2⟩ := info_parts Try.info47
  go_enter Try.func27, Try.ntmps27
  go_wp2_with (at_make; refine wpList_make_full _ rfl _ _ 44 rfl w.heap.size 5 ti _ 1 Try.underlying44 hi hz0 hz1 _ _ _ _ n rfl rfl rfl rfl ?b1 ?b2 ?b3 ?_)
  case b1 => rw [hz2]; omega
  case b2 => unfold maxLen; omega
  case b3 => exact Nat.le_refl _
  intro w1 hown hgrow
  have hfill : SRow w1 w.heap.size n (fun _ => 0) := ARow.made (.int .u8 0) hown (toList_madeCells_one _ n)
  have hbel : Below w.heap.size w w1 := (Below.refl _ _).grown hgrow (Nat.le_refl _) (by simp)
  have hsz : w.heap.size < w1.heap.size := (hown.lt _ rfl).2
  clear hown hgrow
  have p0' := cell_later hbel p0
  go_wp2
  go_loopw [4, 5, 6, 7, 19] (fun pv _ _ _ i wr => ∃ (k : Nat) (fin : List Nat) (st : Nat → Nat), k ≤ n ∧ i = .int .i64 k ∧ Hid (PNil wr (w.heap.size + 1) pv) ∧ Below w.heap.size w wr ∧ w.heap.size < wr.heap.size ∧ Hid (SRow wr w.heap.size n st) ∧ Hid (DI n L E [] fin st) ∧ Hid (∀ x, x < k → x ∈ fin)) (fun _ _ _ _ i _ => n - (intOf i).toNat)
  case atStart => exact ⟨0, [], fun _ => 0, Nat.zero_le _, rfl, .inl rfl, hbel, hsz, hfill, DI.init (fun _ _ => rfl), fun x hx => absurd hx (by omega)⟩
  case round =>
    clear hfill hbel hsz p0'
    obtain ⟨k, fin, st, hk, rfl, hpn, hbr, hsz, hst, hDI, hall⟩ := hrel
    by_cases hlt : k < n
    · have g0 : wr.cell? ⟨w.heap.size, k, none⟩ = some (.int .u8 ((st k : Nat) : Int)) := (hst.out k hlt).1
      have f0 := (hst.out k hlt).2
      have hki : (k : Int) < n := by omega
      by_cases hs0 : st k = 0
      · have HDI1 : Hid (DI n L E [(k, 0)] fin (upd st k 1)) := hDI.out.start hlt hs0
        have hset := hst.out.setNat k 1 hlt
        have HSET : Hid (SRow (wr.setCell ⟨w.heap.size, k, none⟩ (.int .u8 ((1 : Nat) : Int))) w.heap.size n (upd st k 1)) := hset
        have hbS : Below w.heap.size w (wr.setCell ⟨w.heap.size, k, none⟩ (.int .u8 ((1 : Nat) : Int))) := hbr.setCell (by simp) _
        have hb0 : (((st k : Nat) : Int) == 0) = true := by simp; omega
        have HSK : Hid (upd st k 1 k ≠ 0) := by intro h; rw [upd_same] at h; omega
        clear hset hs0
        generalize st k = z at g0 hb0
        rcases hpn.out with rfl | ⟨g1, cap1, rfl, hc1, hp1⟩
        · clear hpn
          go_wp2_with (at_builtin; refine wpList_append_lies _ rfl _ _ 45 rfl (w.heap.size + 1) 47 tj _ 2 16 Try.underlying45 hj hy0 hy1 hy2 rfl (by omega) _ 0 _ rfl (World.ownsRow_nil _ _ _ _) ⟨wr.heap.size, 0, none⟩ 1 1 [.int .i64 ((k : Nat) : Int), .int .i64 0] rfl rfl ?c1 ?c2 (by omega) ?c3 ?c4 ?c5 _ rfl ?_)
          case c1 => exact two_new _ _ _ _ _ (by simp)
          case c2 => intro u hu; simp at hu; rcases hu with rfl | rfl <;> rfl
          case c3 => unfold maxLen; omega
          case c4 => omega
          case c5 => simp; omega
          intro g cap w2 hown2 hgrow2 hg2 hg2'
          have hbA : Below (w.heap.size + 1) (wr.setCell ⟨w.heap.size, k, none⟩ (.int .u8 ((1 : Nat) : Int))) w2 := ((Below.refl _ _).alloc (by simp; omega) _).grown hgrow2 (by simp; omega) (by simp [Value.ownBlock]; try omega)
          have hb2 := hbS.trans (hbA.mono (by omega))
          have hs2 := HSET.out.below hbA (by omega)
          have hz2' : w.heap.size < w2.heap.size := Nat.lt_of_lt_of_le (by simpa using hsz) hbA.size
          have hp2 : PRow w2 (w.heap.size + 1) g cap [(k, 0)] := hown2
          have hcap2 := (ownsRow_cap hp2).1
          clear hown2 hgrow2 hg2 hbA hbS HSET
          go_wp2
          go_loopg [4, 6, 7] (phi n L [(k, 0)] fin) (fun gk pv _ _ wr => ∃ (s : List (Nat × Nat)) (fin : List Nat) (st : Nat → Nat) (g cap : Nat), Hid (gk = phi n L s fin) ∧ pv = .slice (some ⟨g, 0, none⟩) s.length cap ∧ 0 < cap ∧ Hid (PRow wr (w.heap.size + 1) g cap s) ∧ Below w.heap.size w wr ∧ w.heap.size < wr.heap.size ∧ Hid (SRow wr w.heap.size n st) ∧ Hid (DI n L E s fin st) ∧ Hid (∀ x, x < k → x ∈ fin) ∧ Hid (st k ≠ 0))
          case atStart => exact ⟨[(k, 0)], fin, _, g, cap, rfl, rfl, by simp at hcap2; omega, hp2, hb2, hz2', hs2, HDI1, hall, HSK⟩
          case round =>
            clear hp2 hb2 hz2' hs2 HDI1 hall hbr hsz hst hDI g0 f0 hg2' hcap2
            obtain ⟨s, fin, st, g, cap, hgk, rfl, hcp, hp, hbr, hsz, hst, hDI, hall, hsk⟩ := hrel
            cases s with
            | nil =>
              have hall2 : Hid (∀ x, x < k + 1 → x ∈ fin) := by
                intro x hx
                by_cases e : x = k
                · subst e
                  have h1 := hDI.out.2.2.2.2.2.2.2.1 x hlt
                  have h0 := hsk.out
                  have h2 : st x ≠ 1 := fun h => by have := (hDI.out.2.2.2.2.2.1 x hlt).1 h; simp at this
                  exact (hDI.out.2.2.2.2.2.2.1 x hlt).1 (by omega)
                · exact hall.out x (by omega)
              clear hgk hsk
              go_wp2
              go_roundw
              case rel => exact ⟨k + 1, fin, st, by omega, by go_num, .inr ⟨g, cap, rfl, hcp, hp.out⟩, hbr, hsz, hst, hDI, hall2⟩
              case measure => simp [intOf]; omega
            | cons uf t =>
              obtain ⟨u, f⟩ := uf
              obtain ⟨hfu, hun⟩ := hDI.out.le
              have hlen := hDI.out.len
              obtain ⟨t0, t1⟩ := hp.out.top
              obtain ⟨rb, ro, x, dd, rfl, r0, hx1, hx2⟩ := hr.node hun
              have HX1 : Hid (0 < L u → ∃ xb xo, x = some ⟨xb, xo, none⟩) := hx1
              have HX2 : Hid (∀ xb xo, x = some ⟨xb, xo, none⟩ → ∀ j, j < L u → w.cell? ⟨xb, xo + j, none⟩ = some (.int .i64 ((E u j : Nat) : Int))) := hx2
              have r0' := cell_later hbr r0
              have p1' := cell_later hbr p1
              have hLu := HL.out u hun
              have hui : (u : Int) < n := by omega
              have hgb := hp.out.lt g rfl
              rw [List.length_cons] at hlen ⊢
              have hT : t.length ≤ 4096 := by omega
              clear hx1 hx2 r0 hlen
              generalize hTl : t.length = T at *
              have HT : Hid (t.length = T) := hTl
              clear hTl
              have hw1 : IntKind.i64.wrap ((T : Int) + 1 - 1) = T := by rw [IntKind.wrap_i64]; omega
              have hw2 : IntKind.i64.wrap (T : Int) = T := by rw [IntKind.wrap_i64]; omega
              have hTT : (T : Int) < (T : Int) + 1 := by omega
              have g1 : wr.cell? ⟨w.heap.size, u, none⟩ = some (.int .u8 ((st u : Nat) : Int)) := (hst.out u hun).1
              have f1 := (hst.out u hun).2
              have ft := hp.out.frozenAt (T * 2 + 1)
              by_cases hfl : f = L u
              · subst hfl
                have HPOP : Hid (PRow wr (w.heap.size + 1) g cap t) := hp.out.pop
                have HDI2 : Hid (DI n L E t (u :: fin) (upd st u 2)) := hDI.out.pop
                have HGK : Hid (phi n L t (u :: fin) < gk) := by rw [hgk.out]; exact phi_pop
                have HSK2 : Hid (upd st u 2 k ≠ 0) := by
                  intro h
                  by_cases e : k = u
                  · rw [e, upd_same] at h; omega
                  · rw [upd_other _ _ _ _ e] at h; exact hsk.out h
                have HALL2 : Hid (∀ x, x < k → x ∈ u :: fin) := fun x hx => List.mem_cons_of_mem _ (hall.out x hx)
                have hset : ∀ q, SRow ((wr.drewN q).setCell ⟨w.heap.size, u, none⟩ (.int .u8 ((2 : Nat) : Int))) w.heap.size n (upd st u 2) := fun q => (hst.out.drewN q).setNat u 2 hun
                have HSET2 : Hid (∀ q, SRow ((wr.drewN q).setCell ⟨w.heap.size, u, none⟩ (.int .u8 ((2 : Nat) : Int))) w.heap.size n (upd st u 2)) := hset
                have HPOP2 : Hid (∀ q, PRow ((wr.drewN q).setCell ⟨w.heap.size, u, none⟩ (.int .u8 ((2 : Nat) : Int))) (w.heap.size + 1) g cap t) := fun q => (HPOP.out.drewN q).setBelow ⟨w.heap.size, u, none⟩ (by simp) _
                clear hset hgk hsk hDI hst hp
                generalize st u = zu at g1
                have hTcap : (T : Int) ≤ cap := by have := (ownsRow_cap HPOP.out).1; rw [HT.out] at this; omega
                go_wp2
                go_quiet (fail)
                go_wp2
                go_roundg (phi n L t (u :: fin))
                case measure => exact HGK.out
                case rel => exact ⟨t, u :: fin, _, g, cap, rfl, by rw [HT.out], hcp, HPOP2.out _, (below_drewN hbr _).setCell (by simp) _, by simpa using hsz, HSET2.out _, HDI2, HALL2, HSK2⟩
              · have hfL : f < L u := by omega
                have hfi : (f : Int) < L u := by omega
                have hne : ((f : Int) == ((L u : Nat) : Int)) = false := by simp; omega
                obtain ⟨xb, xo, rfl⟩ := HX1.out (by omega)
                have r1 := cell_later hbr (HX2.out xb xo rfl f hfL)
                have htn := HE.out u hun f hfL
                have gto : wr.cell? ⟨w.heap.size, E u f, none⟩ = some (.int .u8 ((st (E u f) : Nat) : Int)) := (hst.out _ htn).1
                have fto := (hst.out _ htn).2
                have hti : ((E u f : Nat) : Int) < n := by omega
                have hwf : IntKind.i64.wrap ((f : Int) + 1) = (f : Int) + 1 := by rw [IntKind.wrap_i64]; omega
                have hgw : g ≠ w.heap.size := by omega
                have hgw' : w.heap.size ≠ g := by omega
                have HP1 : Hid (∀ q, PRow ((wr.drewN q).setCell ⟨g, T * 2 + 1, none⟩ (.int .i64 ((f : Int) + 1))) (w.heap.size + 1) g cap ((u, f + 1) :: t)) := fun q => by
                  have := (hp.out.drewN q).step (f + 1)
                  rw [HT.out, show ((f + 1 : Nat) : Int) = (f : Int) + 1 by omega] at this
                  exact this
                have HS1 : Hid (∀ q, SRow ((wr.drewN q).setCell ⟨g, T * 2 + 1, none⟩ (.int .i64 ((f : Int) + 1))) w.heap.size n st) := fun q => (hst.out.drewN q).setOther _ _ hgw
                have HB1 : Hid (∀ q, Below w.heap.size w ((wr.drewN q).setCell ⟨g, T * 2 + 1, none⟩ (.int .i64 ((f : Int) + 1)))) := fun q => (below_drewN hbr q).setCell (by simp; omega) _
                have HST2 : st (E u f) ≤ 2 := hDI.out.2.2.2.2.2.2.2.1 _ htn
                by_cases hs2 : st (E u f) = 2
                · have HD : Hid (DI n L E ((u, f + 1) :: t) fin st) := hDI.out.done hfL htn hs2
                  have HGK : Hid (phi n L ((u, f + 1) :: t) fin < gk) := by rw [hgk.out]; exact phi_done hfL
                  have hb1 : (((st (E u f) : Nat) : Int) == 1) = false := by simp; omega
                  have hb2 : (((st (E u f) : Nat) : Int) == 0) = false := by simp; omega
                  clear hgk hDI hst hp hfl hfu HX1 HX2 hs2 HST2
                  generalize st (E u f) = zt at *
                  generalize E u f = to at *
                  go_wp2
                  go_quiet (fail)
                  go_wp2
                  go_quiet (fail)
                  go_wp2
                  go_roundg (phi n L ((u, f + 1) :: t) fin)
                  case measure => exact HGK.out
                  case rel => exact ⟨(u, f + 1) :: t, fin, st, g, cap, rfl, by rw [List.length_cons, HT.out], hcp, HP1.out _, HB1.out _, by simpa using hsz, HS1.out _, HD, hall, hsk⟩
                · by_cases hs1 : st (E u f) = 1
                  · obtain ⟨m, hwk⟩ := hDI.out.open hfL htn hs1
                    have HCALL : Hid (∀ q, Calls Try.prog 29 #[.pointer (some ⟨pb, po, none⟩), .int .i64 ((E u f : Nat) : Int)] ((wr.drewN q).setCell ⟨g, T * 2 + 1, none⟩ (.int .i64 ((f : Int) + 1))) fun e w' => ∃ cg cc M C, e = .returned (.slice (some ⟨cg, 0, none⟩) (M + 1) cc) ∧ (∀ i, i < M + 1 → w'.cell? ⟨cg, i, none⟩ = some (.int .i64 ((C i : Nat) : Int))) ∧ Simple n L E M C ∧ C 0 = E u f ∧ IsMin (Ed n L E) (E u f) M ∧ Below (((wr.drewN q).setCell ⟨g, T * 2 + 1, none⟩ (.int .i64 ((f : Int) + 1)))).heap.size ((wr.drewN q).setCell ⟨g, T * 2 + 1, none⟩ (.int .i64 ((f : Int) + 1))) w') := fun q => bfs29 ((wr.drewN q).setCell ⟨g, T * 2 + 1, none⟩ (.int .i64 ((f : Int) + 1))) pb po ib _ n c L E (HP.out.later (HB1.out q) (by omega)) (hr.later (HB1.out q)) hn HL.out HE.out (E u f) m htn hwk
                    have hb1 : (((st (E u f) : Nat) : Int) == 1) = true := by simp; omega
                    clear hgk hDI hst hp hfl hfu HX1 HX2 hs2 HST2 hs1 hwk HP1 HS1
                    generalize st (E u f) = zt at *
                    generalize E u f = to at *
                    go_wp2
                    go_quiet (fail)
                    go_wp2
                    go_quiet (fail)
                    go_wp2_with fail
                    refine (HCALL.out _).mono ?_
                    rintro e w2 ⟨cg, cc, M, C, rfl, hcc, hsim, hC0, hmin, hb2⟩
                    have hb3 := (HB1.out _).trans (hb2.mono (by simp; omega))
                    have HC0 : Hid (C 0 = to) := hC0
                    clear hC0
                    go_wp2
                    go_ret
                    exact ⟨.inr ⟨cg, cc, M, C, rfl, hcc, hsim, by rw [HC0.out]; exact hmin⟩, hb3⟩
                  · have hs0 : st (E u f) = 0 := by omega
                    have HD : Hid (DI n L E ((E u f, 0) :: (u, f + 1) :: t) fin (upd st (E u f) 1)) := hDI.out.push hfL htn hs0
                    have HGK : Hid (phi n L ((E u f, 0) :: (u, f + 1) :: t) fin < gk) := by rw [hgk.out]; exact phi_push hfL (HL.out _ htn) HD.out.len
                    have hb1 : (((st (E u f) : Nat) : Int) == 1) = false := by simp; omega
                    have hb2 : (((st (E u f) : Nat) : Int) == 0) = true := by simp; omega
                    have HSK2 : Hid (upd st (E u f) 1 k ≠ 0) := by
                      intro h
                      by_cases e : k = E u f
                      · rw [e, upd_same] at h; omega
                      · rw [upd_other _ _ _ _ e] at h; exact hsk.out h
                    have HS2 : Hid (∀ q, SRow (((wr.drewN q).setCell ⟨g, T * 2 + 1, none⟩ (.int .i64 ((f : Int) + 1))).setCell ⟨w.heap.size, E u f, none⟩ (.int .u8 ((1 : Nat) : Int))) w.heap.size n (upd st (E u f) 1)) := fun q => (HS1.out q).setNat (E u f) 1 htn
                    have HP2 : Hid (∀ q, (((wr.drewN q).setCell ⟨g, T * 2 + 1, none⟩ (.int .i64 ((f : Int) + 1))).setCell ⟨w.heap.size, E u f, none⟩ (.int .u8 ((1 : Nat) : Int))).ownsRow (w.heap.size + 1) 47 2 (.slice (some ⟨g, 0, none⟩) (T + 1) cap) (T + 1) (pcells ((u, f + 1) :: t))) := fun q => by
                      have := (HP1.out q).setBelow ⟨w.heap.size, E u f, none⟩ (by simp) (.int .u8 ((1 : Nat) : Int))
                      unfold PRow at this
                      rw [List.length_cons, HT.out] at this
                      exact this
                    have HB2 : Hid (∀ q, Below w.heap.size w (((wr.drewN q).setCell ⟨g, T * 2 + 1, none⟩ (.int .i64 ((f : Int) + 1))).setCell ⟨w.heap.size, E u f, none⟩ (.int .u8 ((1 : Nat) : Int)))) := fun q => (HB1.out q).setCell (by simp) _
                    clear hgk hDI hst hp hfl hfu HX1 HX2 hs2 HST2 hs1 hs0 HP1 HS1 HB1 hsk
                    generalize hzt : st (E u f) = zt at *
                    clear hzt
                    generalize E u f = to at *
                    go_wp2
                    go_quiet (fail)
                    go_wp2
                    go_quiet (fail)
                    go_wp2_with (at_builtin; refine wpList_append_lies _ rfl _ _ 45 rfl (w.heap.size + 1) 47 tj _ 2 16 Try.underlying45 hj hy0 hy1 hy2 rfl (by omega) _ (T + 1) _ rfl (World.ownsRow.alloc (HP2.out _) _) ⟨wr.heap.size, 0, none⟩ 1 1 [.int .i64 ((to : Nat) : Int), .int .i64 0] rfl rfl ?c1 ?c2 (by omega) ?c3 ?c4 ?c5 _ rfl ?_)
                    case c1 => exact two_new _ _ _ _ _ (by simp)
                    case c2 => intro u hu; simp at hu; rcases hu with rfl | rfl <;> rfl
                    case c3 => unfold maxLen; omega
                    case c4 => omega
                    case c5 => simp; omega
                    intro g2 cap2 w2 hown2 hgrow2 hg2 hg2'
                    have hbA := ((Below.refl (w.heap.size + 1) _).alloc (by simp; omega) _).grown hgrow2 (by simp; omega) (by simp [Value.ownBlock]; omega)
                    have hb3 := (HB2.out _).trans (hbA.mono (by omega))
                    have hs3 := (HS2.out _).below hbA (by omega)
                    have hz3 : w.heap.size < w2.heap.size := Nat.lt_of_lt_of_le (by simpa using hsz) hbA.size
                    have hp3 : PRow w2 (w.heap.size + 1) g2 cap2 ((to, 0) :: (u, f + 1) :: t) := by
                      unfold PRow
                      rw [List.length_cons, List.length_cons, HT.out]
                      exact hown2
                    have hcap2 : 0 < cap2 := by have := (ownsRow_cap hp3).1; simp at this; omega
                    clear hown2 hgrow2 hg2 hbA HB2 HS2 HP2
                    go_wp2
                    go_roundg (phi n L ((to, 0) :: (u, f + 1) :: t) fin)
                    case measure => exact HGK.out
                    case rel => exact ⟨(to, 0) :: (u, f + 1) :: t, fin, _, g2, cap2, rfl, by rw [List.length_cons, List.length_cons, HT.out], hcap2, hp3, hb3, hz3, hs3, HD, hall, HSK2⟩
        · clear hpn
          have hpS := hp1.setBelow ⟨w.heap.size, k, none⟩ (by simp) (.int .u8 ((1 : Nat) : Int))
          have hgb1 := hp1.lt g1 rfl
          clear hp1
          go_wp2_with (at_builtin; refine wpList_append_lies _ rfl _ _ 45 rfl (w.heap.size + 1) 47 tj _ 2 16 Try.underlying45 hj hy0 hy1 hy2 rfl (by omega) _ 0 _ rfl (World.ownsRow.alloc hpS _) ⟨wr.heap.size, 0, none⟩ 1 1 [.int .i64 ((k : Nat) : Int), .int .i64 0] rfl rfl ?c1 ?c2 (by omega) ?c3 ?c4 ?c5 _ rfl ?_)
          case c1 => exact two_new _ _ _ _ _ (by simp)
          case c2 => intro u hu; simp at hu; rcases hu with rfl | rfl <;> rfl
          case c3 => unfold maxLen; omega
          case c4 => omega
          case c5 => simp; omega
          intro g cap w2 hown2 hgrow2 hg2 hg2'
          have hbA : Below (w.heap.size + 1) (wr.setCell ⟨w.heap.size, k, none⟩ (.int .u8 ((1 : Nat) : Int))) w2 := ((Below.refl _ _).alloc (by simp; omega) _).grown hgrow2 (by simp; omega) (by simp [Value.ownBlock]; try omega)
          have hb2 := hbS.trans (hbA.mono (by omega))
          have hs2 := HSET.out.below hbA (by omega)
          have hz2' : w.heap.size < w2.heap.size := Nat.lt_of_lt_of_le (by simpa using hsz) hbA.size
          have hp2 : PRow w2 (w.heap.size + 1) g cap [(k, 0)] := hown2
          have hcap2 := (ownsRow_cap hp2).1
          clear hown2 hgrow2 hg2 hbA hbS HSET
          go_wp2
          go_loopg [4, 6, 7] (phi n L [(k, 0)] fin) (fun gk pv _ _ wr => ∃ (s : List (Nat × Nat)) (fin : List Nat) (st : Nat → Nat) (g cap : Nat), Hid (gk = phi n L s fin) ∧ pv = .slice (some ⟨g, 0, none⟩) s.length cap ∧ 0 < cap ∧ Hid (PRow wr (w.heap.size + 1) g cap s) ∧ Below w.heap.size w wr ∧ w.heap.size < wr.heap.size ∧ Hid (SRow wr w.heap.size n st) ∧ Hid (DI n L E s fin st) ∧ Hid (∀ x, x < k → x ∈ fin) ∧ Hid (st k ≠ 0))
          case atStart => exact ⟨[(k, 0)], fin, _, g, cap, rfl, rfl, by simp at hcap2; omega, hp2, hb2, hz2', hs2, HDI1, hall, HSK⟩
          case round =>
            clear hp2 hb2 hz2' hs2 HDI1 hall hbr hsz hst hDI g0 f0 hg2' hcap2
            obtain ⟨s, fin, st, g, cap, hgk, rfl, hcp, hp, hbr, hsz, hst, hDI, hall, hsk⟩ := hrel
            cases s with
            | nil =>
              have hall2 : Hid (∀ x, x < k + 1 → x ∈ fin) := by
                intro x hx
                by_cases e : x = k
                · subst e
                  have h1 := hDI.out.2.2.2.2.2.2.2.1 x hlt
                  have h0 := hsk.out
                  have h2 : st x ≠ 1 := fun h => by have := (hDI.out.2.2.2.2.2.1 x hlt).1 h; simp at this
                  exact (hDI.out.2.2.2.2.2.2.1 x hlt).1 (by omega)
                · exact hall.out x (by omega)
              clear hgk hsk
              go_wp2
              go_roundw
              case rel => exact ⟨k + 1, fin, st, by omega, by go_num, .inr ⟨g, cap, rfl, hcp, hp.out⟩, hbr, hsz, hst, hDI, hall2⟩
              case measure => simp [intOf]; omega
            | cons uf t =>
              obtain ⟨u, f⟩ := uf
              obtain ⟨hfu, hun⟩ := hDI.out.le
              have hlen := hDI.out.len
              obtain ⟨t0, t1⟩ := hp.out.top
              obtain ⟨rb, ro, x, dd, rfl, r0, hx1, hx2⟩ := hr.node hun
              have HX1 : Hid (0 < L u → ∃ xb xo, x = some ⟨xb, xo, none⟩) := hx1
              have HX2 : Hid (∀ xb xo, x = some ⟨xb, xo, none⟩ → ∀ j, j < L u → w.cell? ⟨xb, xo + j, none⟩ = some (.int .i64 ((E u j : Nat) : Int))) := hx2
              have r0' := cell_later hbr r0
              have p1' := cell_later hbr p1
              have hLu := HL.out u hun
              have hui : (u : Int) < n := by omega
              have hgb := hp.out.lt g rfl
              rw [List.length_cons] at hlen ⊢
              have hT : t.length ≤ 4096 := by omega
              clear hx1 hx2 r0 hlen
              generalize hTl : t.length = T at *
              have HT : Hid (t.length = T) := hTl
              clear hTl
              have hw1 : IntKind.i64.wrap ((T : Int) + 1 - 1) = T := by rw [IntKind.wrap_i64]; omega
              have hw2 : IntKind.i64.wrap (T : Int) = T := by rw [IntKind.wrap_i64]; omega
              have hTT : (T : Int) < (T : Int) + 1 := by omega
              have g1 : wr.cell? ⟨w.heap.size, u, none⟩ = some (.int .u8 ((st u : Nat) : Int)) := (hst.out u hun).1
              have f1 := (hst.out u hun).2
              have ft := hp.out.frozenAt (T * 2 + 1)
              by_cases hfl : f = L u
              · subst hfl
                have HPOP : Hid (PRow wr (w.heap.size + 1) g cap t) := hp.out.pop
                have HDI2 : Hid (DI n L E t (u :: fin) (upd st u 2)) := hDI.out.pop
                have HGK : Hid (phi n L t (u :: fin) < gk) := by rw [hgk.out]; exact phi_pop
                have HSK2 : Hid (upd st u 2 k ≠ 0) := by
                  intro h
                  by_cases e : k = u
                  · rw [e, upd_same] at h; omega
                  · rw [upd_other _ _ _ _ e] at h; exact hsk.out h
                have HALL2 : Hid (∀ x, x < k → x ∈ u :: fin) := fun x hx => List.mem_cons_of_mem _ (hall.out x hx)
                have hset : ∀ q, SRow ((wr.drewN q).setCell ⟨w.heap.size, u, none⟩ (.int .u8 ((2 : Nat) : Int))) w.heap.size n (upd st u 2) := fun q => (hst.out.drewN q).setNat u 2 hun
                have HSET2 : Hid (∀ q, SRow ((wr.drewN q).setCell ⟨w.heap.size, u, none⟩ (.int .u8 ((2 : Nat) : Int))) w.heap.size n (upd st u 2)) := hset
                have HPOP2 : Hid (∀ q, PRow ((wr.drewN q).setCell ⟨w.heap.size, u, none⟩ (.int .u8 ((2 : Nat) : Int))) (w.heap.size + 1) g cap t) := fun q => (HPOP.out.drewN q).setBelow ⟨w.heap.size, u, none⟩ (by simp) _
                clear hset hgk hsk hDI hst hp
                generalize st u = zu at g1
                have hTcap : (T : Int) ≤ cap := by have := (ownsRow_cap HPOP.out).1; rw [HT.out] at this; omega
                go_wp2
                go_quiet (fail)
                go_wp2
                go_roundg (phi n L t (u :: fin))
                case measure => exact HGK.out
                case rel => exact ⟨t, u :: fin, _, g, cap, rfl, by rw [HT.out], hcp, HPOP2.out _, (below_drewN hbr _).setCell (by simp) _, by simpa using hsz, HSET2.out _, HDI2, HALL2, HSK2⟩
              · have hfL : f < L u := by omega
                have hfi : (f : Int) < L u := by omega
                have hne : ((f : Int) == ((L u : Nat) : Int)) = false := by simp; omega
                obtain ⟨xb, xo, rfl⟩ := HX1.out (by omega)
                have r1 := cell_later hbr (HX2.out xb xo rfl f hfL)
                have htn := HE.out u hun f hfL
                have gto : wr.cell? ⟨w.heap.size, E u f, none⟩ = some (.int .u8 ((st (E u f) : Nat) : Int)) := (hst.out _ htn).1
                have fto := (hst.out _ htn).2
                have hti : ((E u f : Nat) : Int) < n := by omega
                have hwf : IntKind.i64.wrap ((f : Int) + 1) = (f : Int) + 1 := by rw [IntKind.wrap_i64]; omega
                have hgw : g ≠ w.heap.size := by omega
                have hgw' : w.heap.size ≠ g := by omega
                have HP1 : Hid (∀ q, PRow ((wr.drewN q).setCell ⟨g, T * 2 + 1, none⟩ (.int .i64 ((f : Int) + 1))) (w.heap.size + 1) g cap ((u, f + 1) :: t)) := fun q => by
                  have := (hp.out.drewN q).step (f + 1)
                  rw [HT.out, show ((f + 1 : Nat) : Int) = (f : Int) + 1 by omega] at this
                  exact this
                have HS1 : Hid (∀ q, SRow ((wr.drewN q).setCell ⟨g, T * 2 + 1, none⟩ (.int .i64 ((f : Int) + 1))) w.heap.size n st) := fun q => (hst.out.drewN q).setOther _ _ hgw
                have HB1 : Hid (∀ q, Below w.heap.size w ((wr.drewN q).setCell ⟨g, T * 2 + 1, none⟩ (.int .i64 ((f : Int) + 1)))) := fun q => (below_drewN hbr q).setCell (by simp; omega) _
                have HST2 : st (E u f) ≤ 2 := hDI.out.2.2.2.2.2.2.2.1 _ htn
                by_cases hs2 : st (E u f) = 2
                · have HD : Hid (DI n L E ((u, f + 1) :: t) fin st) := hDI.out.done hfL htn hs2
                  have HGK : Hid (phi n L ((u, f + 1) :: t) fin < gk) := by rw [hgk.out]; exact phi_done hfL
                  have hb1 : (((st (E u f) : Nat) : Int) == 1) = false := by simp; omega
                  have hb2 : (((st (E u f) : Nat) : Int) == 0) = false := by simp; omega
                  clear hgk hDI hst hp hfl hfu HX1 HX2 hs2 HST2
                  generalize st (E u f) = zt at *
                  generalize E u f = to at *
                  go_wp2
                  go_quiet (fail)
                  go_wp2
                  go_quiet (fail)
                  go_wp2
                  go_roundg (phi n L ((u, f + 1) :: t) fin)
                  case measure => exact HGK.out
                  case rel => exact ⟨(u, f + 1) :: t, fin, st, g, cap, rfl, by rw [List.length_cons, HT.out], hcp, HP1.out _, HB1.out _, by simpa using hsz, HS1.out _, HD, hall, hsk⟩
                · by_cases hs1 : st (E u f) = 1
                  · obtain ⟨m, hwk⟩ := hDI.out.open hfL htn hs1
                    have HCALL : Hid (∀ q, Calls Try.prog 29 #[.pointer (some ⟨pb, po, none⟩), .int .i64 ((E u f : Nat) : Int)] ((wr.drewN q).setCell ⟨g, T * 2 + 1, none⟩ (.int .i64 ((f : Int) + 1))) fun e w' => ∃ cg cc M C, e = .returned (.slice (some ⟨cg, 0, none⟩) (M + 1) cc) ∧ (∀ i, i < M + 1 → w'.cell? ⟨cg, i, none⟩ = some (.int .i64 ((C i : Nat) : Int))) ∧ Simple n L E M C ∧ C 0 = E u f ∧ IsMin (Ed n L E) (E u f) M ∧ Below (((wr.drewN q).setCell ⟨g, T * 2 + 1, none⟩ (.int .i64 ((f : Int) + 1)))).heap.size ((wr.drewN q).setCell ⟨g, T * 2 + 1, none⟩ (.int .i64 ((f : Int) + 1))) w') := fun q => bfs29 ((wr.drewN q).setCell ⟨g, T * 2 + 1, none⟩ (.int .i64 ((f : Int) + 1))) pb po ib _ n c L E (HP.out.later (HB1.out q) (by omega)) (hr.later (HB1.out q)) hn HL.out HE.out (E u f) m htn hwk
                    have hb1 : (((st (E u f) : Nat) : Int) == 1) = true := by simp; omega
                    clear hgk hDI hst hp hfl hfu HX1 HX2 hs2 HST2 hs1 hwk HP1 HS1
                    generalize st (E u f) = zt at *
                    generalize E u f = to at *
                    go_wp2
                    go_quiet (fail)
                    go_wp2
                    go_quiet (fail)
                    go_wp2_with fail
                    refine (HCALL.out _).mono ?_
                    rintro e w2 ⟨cg, cc, M, C, rfl, hcc, hsim, hC0, hmin, hb2⟩
                    have hb3 := (HB1.out _).trans (hb2.mono (by simp; omega))
                    have HC0 : Hid (C 0 = to) := hC0
                    clear hC0
                    go_wp2
                    go_ret
                    exact ⟨.inr ⟨cg, cc, M, C, rfl, hcc, hsim, by rw [HC0.out]; exact hmin⟩, hb3⟩
                  · have hs0 : st (E u f) = 0 := by omega
                    have HD : Hid (DI n L E ((E u f, 0) :: (u, f + 1) :: t) fin (upd st (E u f) 1)) := hDI.out.push hfL htn hs0
                    have HGK : Hid (phi n L ((E u f, 0) :: (u, f + 1) :: t) fin < gk) := by rw [hgk.out]; exact phi_push hfL (HL.out _ htn) HD.out.len
                    have hb1 : (((st (E u f) : Nat) : Int) == 1) = false := by simp; omega
                    have hb2 : (((st (E u f) : Nat) : Int) == 0) = true := by simp; omega
                    have HSK2 : Hid (upd st (E u f) 1 k ≠ 0) := by
                      intro h
                      by_cases e : k = E u f
                      · rw [e, upd_same] at h; omega
                      · rw [upd_other _ _ _ _ e] at h; exact hsk.out h
                    have HS2 : Hid (∀ q, SRow (((wr.drewN q).setCell ⟨g, T * 2 + 1, none⟩ (.int .i64 ((f : Int) + 1))).setCell ⟨w.heap.size, E u f, none⟩ (.int .u8 ((1 : Nat) : Int))) w.heap.size n (upd st (E u f) 1)) := fun q => (HS1.out q).setNat (E u f) 1 htn
                    have HP2 : Hid (∀ q, (((wr.drewN q).setCell ⟨g, T * 2 + 1, none⟩ (.int .i64 ((f : Int) + 1))).setCell ⟨w.heap.size, E u f, none⟩ (.int .u8 ((1 : Nat) : Int))).ownsRow (w.heap.size + 1) 47 2 (.slice (some ⟨g, 0, none⟩) (T + 1) cap) (T + 1) (pcells ((u, f + 1) :: t))) := fun q => by
                      have := (HP1.out q).setBelow ⟨w.heap.size, E u f, none⟩ (by simp) (.int .u8 ((1 : Nat) : Int))
                      unfold PRow at this
                      rw [List.length_cons, HT.out] at this
                      exact this
                    have HB2 : Hid (∀ q, Below w.heap.size w (((wr.drewN q).setCell ⟨g, T * 2 + 1, none⟩ (.int .i64 ((f : Int) + 1))).setCell ⟨w.heap.size, E u f, none⟩ (.int .u8 ((1 : Nat) : Int)))) := fun q => (HB1.out q).setCell (by simp) _
                    clear hgk hDI hst hp hfl hfu HX1 HX2 hs2 HST2 hs1 hs0 HP1 HS1 HB1 hsk
                    generalize hzt : st (E u f) = zt at *
                    clear hzt
                    generalize E u f = to at *
                    go_wp2
                    go_quiet (fail)
                    go_wp2
                    go_quiet (fail)
                    go_wp2_with (at_builtin; refine wpList_append_lies _ rfl _ _ 45 rfl (w.heap.size + 1) 47 tj _ 2 16 Try.underlying45 hj hy0 hy1 hy2 rfl (by omega) _ (T + 1) _ rfl (World.ownsRow.alloc (HP2.out _) _) ⟨wr.heap.size, 0, none⟩ 1 1 [.int .i64 ((to : Nat) : Int), .int .i64 0] rfl rfl ?c1 ?c2 (by omega) ?c3 ?c4 ?c5 _ rfl ?_)
                    case c1 => exact two_new _ _ _ _ _ (by simp)
                    case c2 => intro u hu; simp at hu; rcases hu with rfl | rfl <;> rfl
                    case c3 => unfold maxLen; omega
                    case c4 => omega
                    case c5 => simp; omega
                    intro g2 cap2 w2 hown2 hgrow2 hg2 hg2'
                    have hbA := ((Below.refl (w.heap.size + 1) _).alloc (by simp; omega) _).grown hgrow2 (by simp; omega) (by simp [Value.ownBlock]; omega)
                    have hb3 := (HB2.out _).trans (hbA.mono (by omega))
                    have hs3 := (HS2.out _).below hbA (by omega)
                    have hz3 : w.heap.size < w2.heap.size := Nat.lt_of_lt_of_le (by simpa using hsz) hbA.size
                    have hp3 : PRow w2 (w.heap.size + 1) g2 cap2 ((to, 0) :: (u, f + 1) :: t) := by
                      unfold PRow
                      rw [List.length_cons, List.length_cons, HT.out]
                      exact hown2
                    have hcap2 : 0 < cap2 := by have := (ownsRow_cap hp3).1; simp at this; omega
                    clear hown2 hgrow2 hg2 hbA HB2 HS2 HP2
                    go_wp2
                    go_roundg (phi n L ((to, 0) :: (u, f + 1) :: t) fin)
                    case measure => exact HGK.out
                    case rel => exact ⟨(to, 0) :: (u, f + 1) :: t, fin, _, g2, cap2, rfl, by rw [List.length_cons, List.length_cons, HT.out], hcap2, hp3, hb3, hz3, hs3, HD, hall, HSK2⟩
      · have hb0 : (((st k : Nat) : Int) == 0) = false := by simp; omega
        have hall2 : Hid (∀ x, x < k + 1 → x ∈ fin) := by
          intro x hx
          by_cases e : x = k
          · subst e
            have h1 := hDI.out.2.2.2.2.2.2.2.1 x hlt
            have h2 : st x ≠ 1 := fun h => by have := (hDI.out.2.2.2.2.2.1 x hlt).1 h; simp at this
            exact (hDI.out.2.2.2.2.2.2.1 x hlt).1 (by omega)
          · exact hall.out x (by omega)
        clear hs0
        generalize st k = z at g0 hb0
        go_wp2
        go_roundw
        case rel => exact ⟨k + 1, fin, st, by omega, by go_num, hpn, hbr, hsz, hst, hDI, hall2⟩
        case measure => simp [intOf]; omega
    · obtain rfl : k = n := by omega
      go_wp2
      go_ret
      exact ⟨.inl ⟨rfl, fin, hDI.out.2.2.2.1, hall.out⟩, hbr⟩
end Go.Proofs.Qxb6600485a
