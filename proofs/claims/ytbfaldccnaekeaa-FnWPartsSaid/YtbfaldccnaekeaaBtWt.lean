/- Maps from strings: Scan whole; WScan. -/
import Derived.Test.YtbfaldccnaekeaaBtWs
import Derived.Deep.QuietTactic
import Derived.BigQuiet
namespace Go.Proofs.Ytbfaldccnaekeaa.Bt.SI
set_option linter.unusedVariables false
set_option linter.unusedSimpArgs false
open Go Go.RowKit Go.Proofs.Ytbfaldccnaekeaa.Bt
open Go.Proofs.Ytbfaldccnaekeaa.Bt.W (Tk Wf Tw FrT TkPost word_is insW Wds EW grow_is insW_length)

variable {S : Nat → Prop} {w : World} {s : Sto It}

/-- What Scan leaves. -/
def ScPost (B bo : Nat) (w : World) (xs : List It) (e : Ending) (w' : World) : Prop := e = .returned (.tuple #[]) ∧ Tk B bo w' xs ∧ FrT B bo w w'

set_option maxHeartbeats 1000000 in
set_option maxRecDepth 100000 in
theorem scan_is {D B bo bt : Nat} {l : List It} (m : MapIs D S w s l) (hS : ∀ i, S i → i < B ∧ i ≠ bo) (hT : Tk B bo w []) (hW : Wf B bo bt w) (hb : l.length ≤ 1000000000000) :
    Calls Try.prog 108 #[.pointer (some ⟨s.m, 0, none⟩), .func (.func 110) #[] #[.pointer (some ⟨bt, 0, none⟩)], .bool false] w (ScPost B bo w l) := by
  have m2 := (mcell m.rep).2.2.2.1
  have HT := hidp hT
  rcases m.tree with ⟨hr, rfl⟩ | ⟨h, n, t, ids, hr, T, hd, hok, rfl⟩
  · have c2 : w.cell? ⟨s.m, 2, none⟩ = some (.pointer none) := by rw [m2, hr]; rfl
    clear hr m hW hT m2
    go_enter Try.func108, Try.ntmps108
    go_wp2
    go_end0
    exact ⟨rfl, HT.out, FrT.refl⟩
  · have c2 : w.cell? ⟨s.m, 2, none⟩ = some (.pointer (some ⟨n, 0, none⟩)) := by rw [m2, hr]; rfl
    have HK := hidp (sc_tr h m.rep hS (A := ⟨s.m, 2, none⟩) c2 T hok hT hW (by simpa using hb))
    clear hr m hW hT m2 T hd hok HT
    go_enter Try.func108, Try.ntmps108
    go_wp2_with fail
    refine HK.out.mono ?_
    rintro e w1 ⟨rfl, hT1, hF1⟩
    have HF := hidp (And.intro hT1 hF1)
    clear hT1 hF1
    go_wp2
    go_end0
    exact ⟨rfl, by simpa using HF.out.1, HF.out.2⟩

/-- 'Scan' -/
theorem Scan_is {D B bo bt : Nat} {l : List It} (m : MapIs D S w s l) (hS : ∀ i, S i → i < B ∧ i ≠ bo) (hT : Tk B bo w []) (hW : Wf B bo bt w) (hb : l.length ≤ 1000000000000) :
    Calls Try.prog 64 #[.pointer (some ⟨s.m, 0, none⟩), .func (.func 110) #[] #[.pointer (some ⟨bt, 0, none⟩)]] w (ScPost B bo w l) := by
  have HC := hidp (scan_is m hS hT hW hb)
  clear m hS hT hW
  go_enter Try.func64, Try.ntmps64
  go_wp2_with fail
  refine HC.out.mono ?_
  rintro e w1 ⟨rfl, hT1, hF1⟩
  have HF := hidp (And.intro hT1 hF1)
  clear hT1 hF1
  go_wp2
  go_end0
  exact ⟨rfl, HF.out.1, HF.out.2⟩

/-- 'taker' -/
theorem taker_is {bo : Nat} :
    Calls Try.prog 109 #[.pointer (some ⟨bo, 0, none⟩), .int .i64 0] w (fun e w' => e = .returned (.func (.func 154) #[] #[.pointer (some ⟨w.heap.size, 0, none⟩), .pointer (some ⟨w.heap.size + 1, 0, none⟩)]) ∧
      Bx w' w.heap.size [.pointer (some ⟨bo, 0, none⟩)] ∧ Bx w' (w.heap.size + 1) [.int .i64 0] ∧ Fr (fun _ => False) w w') := by
  go_enter Try.func109, Try.ntmps109
  go_wp2
  go_ret
  refine ⟨rfl, (Bx.new w [.pointer (some ⟨bo, 0, none⟩)] _).alloc _, ?_, ((Fr.refl (fun _ => False) w).alloc _).alloc _⟩
  have h := Bx.new (w.alloc (.cells #[.pointer (some ⟨bo, 0, none⟩)] 106)) [.int .i64 0] 3
  rw [World.size_alloc] at h; exact h

set_option maxHeartbeats 1000000 in
/-- 'words' -/
theorem wordsfn_is {bo : Nat} (hb : bo < w.heap.size) :
    Calls Try.prog 65 #[.pointer (some ⟨bo, 0, none⟩), .int .i64 0] w (fun e w' => ∃ bt, e = .returned (.func (.func 110) #[] #[.pointer (some ⟨bt, 0, none⟩)]) ∧ Wf w'.heap.size bo bt w' ∧ Fr (fun _ => False) w w') := by
  have HT := hidp (taker_is (w := w) (bo := bo))
  have hsf : ∀ (a : Addr) (f : Fn) (x y : Array Value) (m : Mode) (w : World), (store a (.func f x y) m).run Try.prog w = stored Try.prog w a (.func f x y) m := fun a f x y m w => run_store Try.prog w a (.func f x y) m rfl
  go_enter Try.func65, Try.ntmps65
  go_wp2_with fail
  refine HT.out.mono ?_
  rintro e w1 ⟨rfl, hx, hn, hF⟩
  have HX := hidp (And.intro hx (And.intro hn hF))
  clear hx hn hF HT
  go_wp2
  go_ret
  obtain ⟨hx, hn, hF⟩ := HX.out
  refine ⟨_, rfl, ⟨?_, ?_, w.heap.size, w.heap.size + 1, ⟨?_, ?_, ?_, ?_, (hx.alloc _).cell 0 rfl, (hn.alloc _).cell 0 rfl⟩, ?_⟩, hF.alloc _⟩
  · simp
  · have := hF.size; omega
  · have := hx.1; simp; omega
  · have := hn.1; simp; omega
  · omega
  · omega
  · exact (Bx.new w1 [.func (.func 154) #[] #[.pointer (some ⟨w.heap.size, 0, none⟩), .pointer (some ⟨w.heap.size + 1, 0, none⟩)]] _).cell 0 rfl

set_option maxHeartbeats 1000000 in
set_option maxRecDepth 100000 in
/-- 'WScan' -/
theorem wscanr_is {D : Nat} (hD : 2 ≤ D) (hD2 : D ≤ 400) {v : Value} {l : List It} (hv : Wds w v l) (hl : l.length ≤ 4294967296) :
    Calls Try.prog 22 #[.int .i64 D, v, .int .i64 0] w (fun e w' => ∃ u, e = .returned u ∧ (∃ g, Row 2 w' u (insW l).length (itemCells EW (insW l)) g) ∧ Below w.heap.size w w') := by
  have hz : Below w.heap.size w (w.alloc (.cells #[.slice none 0 0] 22)) := (Below.refl _ _).alloc (Nat.le_refl _) _
  have HZ := hidp hz
  have HB := hidp (Bx.new w [.slice none 0 0] 22)
  have HG := hidp (grow_is (w := w.alloc (.cells #[.slice none 0 0] 22)) hD hD2 (hv.below hz) hl)
  clear hv hz
  go_enter Try.func22, Try.ntmps22
  go_wp2_with fail
  refine HG.out.mono ?_
  rintro e w1 ⟨S, s, rfl, hM, hb, hS⟩
  rw [World.size_alloc] at hb hS
  have hs1 : w.heap.size + 1 ≤ w1.heap.size := by have := hb.size; rwa [World.size_alloc] at this
  have HM := hidp (And.intro hM (And.intro hb hS))
  have HWF := hidp (wordsfn_is (w := w1) (bo := w.heap.size) (by omega))
  clear hM hb hS HG
  go_wp2_with fail
  refine HWF.out.mono ?_
  rintro e w2 ⟨bt, rfl, hW, hF⟩
  have hlen : (insW l).length ≤ 1000000000000 := by have := insW_length l; omega
  have hs2 : w1.heap.size ≤ w2.heap.size := hF.size
  have hM2 := HM.out.1.keep hF (fun _ _ h => h)
  have hbx : Bx w1 w.heap.size [.slice none 0 0] := ⟨by omega, fun j v hj => by rw [M_block (HM.out.2.1.block _ (Nat.lt_succ_self _))]; exact HB.out.2 j v hj⟩
  have hT : Tk w2.heap.size w.heap.size w2 [] := ⟨by omega, Nat.le_refl _, _, none, hbx.keep hF (fun h => h), Row.nil _ _, fun b h => by cases h⟩
  have hSS : ∀ i, S i → i < w2.heap.size ∧ i ≠ w.heap.size := fun i hi => ⟨hM2.rep.rep.lt i hi, fun e => by have := HM.out.2.2 i hi; omega⟩
  have HSC := hidp (Scan_is hM2 hSS hT hW hlen)
  have HF2 := hidp ((HZ.out.trans (HM.out.2.1.mono (by omega))).trans (hF.below (by omega) (fun _ h => h.elim)))
  clear hW hF hlen hM2 hbx hT hSS HWF HM
  go_wp2_with fail
  refine HSC.out.mono ?_
  rintro e w3 ⟨rfl, ⟨_, _, u, g, hu, hr, _⟩, hF3⟩
  have cu := hu.cell 0 rfl
  have HX := hidp (And.intro (Exists.intro g hr) (HF2.out.trans (Fr.below hF3 (by omega) (fun i hi => hi.elim (fun e => by omega) (fun e => by omega)))))
  obtain ⟨a, cap, rfl⟩ := hr.len
  clear hu hr hF3 HSC HF2
  go_wp2
  go_ret
  exact ⟨_, rfl, HX.out.1, HX.out.2⟩
theorem wscan_is {D : Nat} (hD : 2 ≤ D) (hD2 : D ≤ 400) {v : Value} {l : List It} (hv : Wds w v l) (hl : l.length ≤ 4294967296) :
    Calls Try.prog 22 #[.int .i64 D, v, .int .i64 0] w (fun e w' => ∃ u, e = .returned u ∧ Wds w' u (insW l) ∧ Below w.heap.size w w') :=
  (wscanr_is hD hD2 hv hl).mono fun _ _ ⟨u, h, ⟨_, r⟩, hb⟩ => ⟨u, h, Wds.of_row r, hb⟩
end Go.Proofs.Ytbfaldccnaekeaa.Bt.SI
