import Derived.Test.YbulkebhuParts
namespace Go.Proofs.Ybulkebhu
open Go.RowKit

/-! ### Behind the call of members -/
/-- What is known behind the call of members: the stand-in's notes, the result, and that nothing else has turned. -/
def After (w1 wc : World) (L G g m cp : Nat) (commit : Int) (self : ByteArray) (dv : Value) (le : Bool) (ds : List ByteArray) (I : Int) (ss : List ByteArray) (res : Value) : Prop :=
  ∃ cv q, Live wc L dv le cv (wlOf ds q) ∧ Few wc cv q.toList ∧ Asks I commit ss self q ∧
    ((aloneOf ds le q = true ∧ ∃ g2 b off c, res = .slice (some ⟨g2, 0, none⟩) 1 1 ∧ wc.cell? ⟨g2, 0, none⟩ = some (.string self) ∧ wc.cell? ⟨g, m * 2 + 1, none⟩ = some (.slice (some ⟨b, off, none⟩) 2 c) ∧ g2 ≠ b ∧ Mine wc g2 ∧ Mine wc b) ∨
      (aloneOf ds le q = false ∧ ∃ a n c, res = .slice a n c ∧ wc.cell? ⟨g, m * 2 + 1, none⟩ = some (.slice a n c) ∧ n ≤ maxLen ∧ (n = 0 ∨ ∃ b off, a = some ⟨b, off, none⟩))) ∧
    Below w1.heap.size w1 wc ∧ wc.cell? ⟨G, 1, none⟩ = some (.string self) ∧ wc.cell? ⟨G, 21, none⟩ = some (.int .u64 commit) ∧ wc.cell? ⟨G, 23, none⟩ = some (.slice (some ⟨g, 0, none⟩) (m + 1) cp)

theorem lies_head {w : World} {a : Option Addr} {ss : List ByteArray} (h : Lies w a ss) : ss.length = 0 ∨ ∃ b off, a = some ⟨b, off, none⟩ := by
  rcases h with rfl | ⟨b, off, h, _⟩
  · exact Or.inl rfl
  · exact Or.inr ⟨b, off, h⟩

theorem after_quiet {w1 w W : World} {L G g m cp : Nat} {commit : Int} {self : ByteArray} {dv : Value} {le : Bool} {ds : List ByteArray} {I : Int} {a : Option Addr} {ss : List ByteArray} {c : Nat}
    (hb1 : Below w1.heap.size w1 w) (hb : Below w.heap.size w W) (hL : Live w L dv le (.slice none 0 0) 0) (hask : Asks I commit ss self none) (h2 : w.cell? ⟨g, m * 2 + 1, none⟩ = some (.slice a ss.length c)) (hs : ss.length ≤ maxLen) (hl : Lies w a ss)
    (k1 : w.cell? ⟨G, 1, none⟩ = some (.string self)) (k21 : w.cell? ⟨G, 21, none⟩ = some (.int .u64 commit)) (k23 : w.cell? ⟨G, 23, none⟩ = some (.slice (some ⟨g, 0, none⟩) (m + 1) cp)) :
    After w1 W L G g m cp commit self dv le ds I ss (.slice a ss.length c) :=
  ⟨.slice none 0 0, none, live_later hL hb, ⟨none, 0, rfl, Or.inl rfl, rfl⟩, hask, Or.inr ⟨rfl, a, _, c, rfl, cell_later hb h2, hs, lies_head hl⟩, hb1.trans (hb.mono hb1.size), cell_later hb k1, cell_later hb k21, cell_later hb k23⟩

theorem after_asks {w1 w W : World} {L G g m cp : Nat} {commit : Int} {self : ByteArray} {dv : Value} {le : Bool} {ds : List ByteArray} {I : Int} {b off : Nat} {s0 s1 o : ByteArray} {c : Nat} {e : Ending}
    (hb1 : Below w1.heap.size w1 w) (hLw : w1.heap.size ≤ L) (hp : AskPost w L dv le ds o self (.slice (some ⟨b, off, none⟩) 2 c) e W) (hask : Asks I commit [s0, s1] self (some o)) (h2 : w.cell? ⟨g, m * 2 + 1, none⟩ = some (.slice (some ⟨b, off, none⟩) 2 c))
    (hgL : g ≠ L) (hbL : b ≠ L) (hGL : G ≠ L) (hmb : Mine w b)
    (k1 : w.cell? ⟨G, 1, none⟩ = some (.string self)) (k21 : w.cell? ⟨G, 21, none⟩ = some (.int .u64 commit)) (k23 : w.cell? ⟨G, 23, none⟩ = some (.slice (some ⟨g, 0, none⟩) (m + 1) cp)) :
    ∃ res, e = .returned res ∧ After w1 W L G g m cp commit self dv le ds I [s0, s1] res := by
  obtain ⟨hgr, ⟨g1, cp1, hL, hg1, hc1⟩, hif⟩ := hp
  have hbw : Below w1.heap.size w1 W := hb1.grown hgr hb1.size (fun k hk => by cases hk; exact hLw)
  have hL' : Live W L dv le (.slice (some ⟨g1, 0, none⟩) 1 cp1) (wlOf ds (some o)) := hL
  have hmb' : Mine W b := hmb.same (hgr.block _ hmb.lt (by simpa using hbL))
  have h2' := hgr.cell h2 (by simpa using hgL)
  have j1 := hgr.cell k1 (by simpa using hGL)
  have j21 := hgr.cell k21 (by simpa using hGL)
  have j23 := hgr.cell k23 (by simpa using hGL)
  by_cases hal : (has ds o && le) = true
  · rw [if_pos hal] at hif
    obtain ⟨g2, he, hg2, hc2, hm2⟩ := hif
    exact ⟨_, he, _, some o, hL', few_one hc1, hask, Or.inl ⟨hal, g2, b, off, c, rfl, hc2, h2', by have := hmb.lt; omega, hm2, hmb'⟩, hbw, j1, j21, j23⟩
  · rw [if_neg hal] at hif
    exact ⟨_, hif, _, some o, hL', few_one hc1, hask, Or.inr ⟨by simpa [aloneOf] using hal, _, _, c, rfl, h2', by simp [maxLen], Or.inr ⟨b, off, rfl⟩⟩, hbw, j1, j21, j23⟩
end Go.Proofs.Ybulkebhu
