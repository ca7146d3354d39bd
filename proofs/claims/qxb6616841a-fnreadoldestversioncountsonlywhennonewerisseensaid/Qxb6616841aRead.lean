/- readView.read (12): the chain of versions. -/
import Derived.Test.Qxb6616841aSizes
import Derived.Deep.LoopGhost
import Derived.Deep.RegionWith
import Derived.RegionTactic
import Derived.Deep.QuietTactic
import Derived.BigQuiet
namespace Go.Proofs.Qxb6616841a
open Go.RowKit

theorem Ints.keep {w w' : World} {ao : Option Addr} {n : Nat} {act : Nat → Int} (h : Ints w ao n act) (hb : ∀ a, ao = some a → 0 < n → a.block < w.heap.size) (hB : Below w.heap.size w w') : Ints w' ao n act := by
  rcases h with h | ⟨b, off, rfl, hc⟩
  · exact .inl h
  · exact .inr ⟨b, off, rfl, fun j hj => (hB.cell (p := ⟨b, off + j, none⟩) (by exact hb ⟨b, off, none⟩ rfl (by omega))).trans (hc j hj)⟩

theorem Vers.keep {w w' : World} {ao : Option Addr} {m : Nat} {vs : Nat → V} (h : Vers w ao m vs) (hb : ∀ a, ao = some a → 0 < m → a.block < w.heap.size) (hB : Below w.heap.size w w') : Vers w' ao m vs := by
  rcases h with h | ⟨b, off, rfl, hc⟩
  · exact .inl h
  · refine .inr ⟨b, off, rfl, fun j hj => ?_⟩
    have hlt : b < w.heap.size := hb ⟨b, off, none⟩ rfl (by omega)
    have k : ∀ o, w'.cell? ⟨b, o, none⟩ = w.cell? ⟨b, o, none⟩ := fun o => hB.cell (p := ⟨b, o, none⟩) hlt
    rw [k, k, k]
    exact hc j hj

/-- A view that lies whole in memory. -/
def Ready (w : World) (bv : Nat) (ao : Option Addr) (n cap : Nat) (act : Nat → Int) (minA next creator : Int) : Prop :=
  View w bv ao n cap minA next creator ∧ Ints w ao n act ∧ bv < w.heap.size ∧ ∀ a, ao = some a → 0 < n → a.block < w.heap.size

theorem Ready.keep {w w' : World} {bv : Nat} {ao : Option Addr} {n cap : Nat} {act : Nat → Int} {minA next creator : Int} (h : Ready w bv ao n cap act minA next creator) (hB : Below w.heap.size w w') : Ready w' bv ao n cap act minA next creator := by
  obtain ⟨⟨v0, v1, v2, v3⟩, hi, hbv, hb⟩ := h
  have k : ∀ o, w'.cell? ⟨bv, o, none⟩ = w.cell? ⟨bv, o, none⟩ := fun o => hB.cell (p := ⟨bv, o, none⟩) hbv
  exact ⟨⟨(k 0).trans v0, (k 1).trans v1, (k 2).trans v2, (k 3).trans v3⟩, hi.keep hb hB, Nat.lt_of_lt_of_le hbv hB.size, fun a e hp => Nat.lt_of_lt_of_le (hb a e hp) hB.size⟩

/-- The chain of versions that hangs at p. -/
def Chain (w : World) : Value → List V → Prop
  | p, [] => p = .pointer none
  | p, v :: l => ∃ b q, p = .pointer (some ⟨b, 0, none⟩) ∧ b < w.heap.size ∧ w.cell? ⟨b, 0, none⟩ = some (.string v.row) ∧ w.cell? ⟨b, 1, none⟩ = some (.bool v.del) ∧
      w.cell? ⟨b, 2, none⟩ = some (.int .u64 v.trx) ∧ w.cell? ⟨b, 3, none⟩ = some q ∧ Chain w q l

theorem Chain.keep {w w' : World} (hB : Below w.heap.size w w') : ∀ (l : List V) (p : Value), Chain w p l → Chain w' p l := by
  intro l
  induction l with
  | nil => intro p h; exact h
  | cons v l ih =>
    rintro p ⟨b, q, rfl, hb, h0, h1, h2, h3, hc⟩
    have k : ∀ o, w'.cell? ⟨b, o, none⟩ = w.cell? ⟨b, o, none⟩ := fun o => hB.cell (p := ⟨b, o, none⟩) hb
    exact ⟨b, q, rfl, Nat.lt_of_lt_of_le hb hB.size, (k 0).trans h0, (k 1).trans h1, (k 2).trans h2, (k 3).trans h3, ih q hc⟩

/-- What a read hands back. -/
def ReadOut (r : ByteArray × Bool) (e : Ending) : Prop := e = .returned (.tuple #[.string r.1, .bool r.2])

set_option maxHeartbeats 1000000 in
theorem read_any (bv : Nat) (ao : Option Addr) (n cap : Nat) (act : Nat → Int) (minA next creator : Int) (packed : ByteArray) (head : Int) (kl : Nat) (deleted : Bool) (trx : Int) (older : Value) (l : List V) (w : World)
    (hn : n ≤ 65536) (hr : Ready w bv ao n cap act minA next creator) (hwf : WF act n minA next) (hk : kl ≤ packed.size) (hch : Chain w older l) :
    Calls Try.prog 12 #[.pointer (some ⟨bv, 0, none⟩), .agg #[.string packed, .int .u64 head, .int .u32 kl, .bool deleted, .int .u64 trx, older]] w
      fun e w' => ReadOut (readP (seesB act n next creator) (⟨packed.extract kl packed.size, deleted, trx⟩ :: l)) e ∧ Below w.heap.size w w' := by
  have HR : Hid (Ready w bv ao n cap act minA next creator) := hr
  have HW : Hid (WF act n minA next) := hwf
  have HC : Hid (Chain w older l) := hch
  clear hr hwf hch
  cases hS : seesB act n next creator trx
  · have HE : readP (seesB act n next creator) (⟨packed.extract kl packed.size, deleted, trx⟩ :: l) = readP (seesB act n next creator) l := by
      simp only [readP, hS, Bool.false_eq_true, if_false]
    rw [HE]
    clear HE
    go_enter Try.func12, Try.ntmps12
    go_wp2_with fail
    have hB0 : Below w.heap.size w (w.alloc (.cells #[.string packed, .int .u64 head, .int .u32 kl, .bool deleted, .int .u64 trx, older] 49)) := (Below.refl _ _).alloc (Nat.le_refl _) _
    have hR0 := HR.out.keep hB0
    have HB0 : Hid (Below w.heap.size w (w.alloc (.cells #[.string packed, .int .u64 head, .int .u32 kl, .bool deleted, .int .u64 trx, older] 49))) := hB0
    have HC0 : Hid (Chain (w.alloc (.cells #[.string packed, .int .u64 head, .int .u32 kl, .bool deleted, .int .u64 trx, older] 49)) older l) := Chain.keep hB0 l older HC.out
    refine (sees_any bv ao n cap act minA next creator trx _ hn hR0.1 hR0.2.1 HW.out).mono ?_
    rintro e w1 ⟨rfl, hw⟩
    obtain rfl := hw.symm
    have HR0 : Hid _ := hR0
    clear hB0 hR0 hw
    rw [hS]
    clear hS
    go_wp2
    go_loopg [6] l.length (fun k p wr => Below w.heap.size w wr ∧ Ready wr bv ao n cap act minA next creator ∧ ∃ l', l'.length = k ∧ Chain wr p l' ∧ readP (seesB act n next creator) l' = readP (seesB act n next creator) l)
    case atStart => exact ⟨HB0.out, HR0.out, l, rfl, HC0.out, rfl⟩
    case round =>
      obtain ⟨hbel, hrdy, l', hlen, hch', heq⟩ := hrel
      have HLB : Hid (Below w.heap.size w wr) := hbel
      have HRD : Hid (Ready wr bv ao n cap act minA next creator) := hrdy
      have HL : Hid (l'.length = gk) := hlen
      have HQ : Hid (readP (seesB act n next creator) l' = readP (seesB act n next creator) l) := heq
      clear hlen heq hbel hrdy HB0 HR0 HC0
      rcases l' with _ | ⟨v, l'⟩
      · have hp : u6 = .pointer none := hch'
        subst hp
        clear hch'
        go_wp2
        go_ret2
        exact ⟨by rw [← HQ.out]; rfl, HLB.out⟩
      · obtain ⟨b, q, rfl, hb, h0, h1, h2, h3, hc⟩ := hch'
        have HCC : Hid (Chain wr q l') := hc
        clear hc
        go_wp2_with fail
        refine (sees_any bv ao n cap act minA next creator v.trx _ hn HRD.out.1 HRD.out.2.1 HW.out).mono ?_
        rintro e w1 ⟨rfl, hw⟩
        obtain rfl := hw.symm
        cases hS : seesB act n next creator v.trx
        · have HS : Hid (seesB act n next creator v.trx = false) := hS
          clear hS
          go_wp2
          go_roundg l'.length
          case measure => have := HL.out; simp at this; omega
          case rel => exact ⟨HLB.out, HRD.out, l', rfl, HCC.out, by rw [← HQ.out]; simp only [readP, HS.out, Bool.false_eq_true, if_false]⟩
        · have HE : Hid ((v.row, !v.del) = readP (seesB act n next creator) l) := by
            show _ = _
            rw [← HQ.out]; simp only [readP, hS, if_true]
          clear hS
          go_wp2
          go_quiet (fail)
          go_wp2
          go_ret2
          exact ⟨by rw [← HE.out]; rfl, below_drewN HLB.out _⟩
  · have HE : readP (seesB act n next creator) (⟨packed.extract kl packed.size, deleted, trx⟩ :: l) = (packed.extract kl packed.size, !deleted) := by
      simp only [readP, hS, if_true]
    rw [HE]
    clear HE
    go_enter Try.func12, Try.ntmps12
    go_wp2_with fail
    have hB0 : Below w.heap.size w (w.alloc (.cells #[.string packed, .int .u64 head, .int .u32 kl, .bool deleted, .int .u64 trx, older] 49)) := (Below.refl _ _).alloc (Nat.le_refl _) _
    have hR0 := HR.out.keep hB0
    have HB0 : Hid (Below w.heap.size w (w.alloc (.cells #[.string packed, .int .u64 head, .int .u32 kl, .bool deleted, .int .u64 trx, older] 49))) := hB0
    refine (sees_any bv ao n cap act minA next creator trx _ hn hR0.1 hR0.2.1 HW.out).mono ?_
    rintro e w1 ⟨rfl, hw⟩
    obtain rfl := hw.symm
    clear hB0 hR0 hw
    rw [hS]
    clear hS
    go_wp2
    go_region_with (go_at_call 14; refine (row_any _ _ _ _ _ _ _ hk).mono ?_; rintro e w2 ⟨rfl, rfl⟩)
    all_goals
      go_wp2
      go_ret2
      exact ⟨rfl, (((Below.refl _ _).alloc (Nat.le_refl _) _).alloc (by simp) _).drew⟩
end Go.Proofs.Qxb6616841a
