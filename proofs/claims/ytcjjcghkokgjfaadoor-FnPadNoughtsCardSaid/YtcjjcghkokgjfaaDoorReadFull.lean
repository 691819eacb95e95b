/-
  io.ReadAtLeast and io.ReadFull over a bytes.Reader.
-/
import Derived.Test.YtcjjcghkokgjfaaDoorReader
import Derived.LaidEqlPtr
import Derived.LaidEql
import Derived.LoopN
import Derived.Deep.RegionWith
namespace Go.Proofs.YtcjjcghkokgjfaaDoor
open Go.RowKit

theorem rdr_nilAhead (n : Nat) (a : Addr) (w : World) : (nilAhead (n + 1) 44 (.pointer (some a)) "Read").run Tryd.prog w = .ok (some false) w := by kernel_rfl
theorem rdr_method (n : Nat) (a : Addr) (w : World) : (method (n + 1) 44 (.pointer (some a)) "Read").run Tryd.prog w = .ok (43, .pointer (some a)) w := by kernel_rfl

theorem errEq (a : Addr) (w : World) : (binOp .eql 41 (.iface 63 (.pointer (some a))) (.iface 63 (.pointer (some a)))).run Tryd.prog w = .ok (.bool true) w := by
  have h1 : (Tryd.prog.info? 63).map (·.comparable) = some true := by kernel_rfl
  obtain ⟨i, hi, hc⟩ := Option.map_eq_some_iff.1 h1
  have h2 : (Tryd.prog.info? 81).isSome = true := by kernel_rfl
  obtain ⟨j, hj⟩ := Option.isSome_iff_exists.1 h2
  exact run_eql_iface_ptr_same w a Tryd.underlying41 Tryd.underlying63 hi hc hj

/-- What the errors' variables hold. -/
def Globs (w : World) (ea ua : Addr) : Prop := EofIs w ea ∧ w.cell? ⟨2, 0, none⟩ = some (.iface 63 (.pointer (some ua)))
theorem Globs.kept {w w' : World} {ea ua : Addr} {S : Nat → Prop} (h : Globs w ea ua) (k : Kept S w w') (h1 : ¬ S 1) (h2 : ¬ S 2) : Globs w' ea ua :=
  ⟨(k.cell (p := ⟨1, 0, none⟩) (World.block_lt_of_cell? _ _ h.1) h1).trans h.1, (k.cell (p := ⟨2, 0, none⟩) (World.block_lt_of_cell? _ _ h.2) h2).trans h.2⟩

def rg (r g : Nat) : Nat → Prop := fun b => b = r ∨ b = g

/-- What a full read of m bytes leaves; or an error. -/
def FullPost (r g off m : Nat) (L : List Value) (A : Option Addr) (c : Nat) (xs : List UInt8) (i : Nat) (w : World) (e : Ending) (w' : World) : Prop :=
  (i + m ≤ xs.length ∧ e = .returned (.tuple #[.int .i64 m, .nilIface]) ∧ Blk w' g 5 (splice L off (((xs.drop i).take m).map B)).toArray ∧ Rdr w' r A c xs (i + m) ∧ Kept (rg r g) w w') ∨
  (xs.length < i + m ∧ ∃ (j : Nat) (ve : Addr), e = .returned (.tuple #[.int .i64 j, .iface 63 (.pointer (some ve))]) ∧ Kept (rg r g) w w')

def errV (d : Bool) (ea : Addr) : Value := bif d then .iface 63 (.pointer (some ea)) else .nilIface
def errBit : Value → Nat | .nilIface => 1 | _ => 0

/-- The loop's state: j bytes are read; d: the end was met. -/
def LoopSt (r g off m : Nat) (L : List Value) (A : Option Addr) (c : Nat) (xs : List UInt8) (i : Nat) (ea ua : Addr) (w : World) (j : Nat) (d : Bool) (wr : World) : Prop :=
  j ≤ m ∧ i + j ≤ xs.length ∧ (d = true → xs.length = i + j ∧ j < m) ∧ Rdr wr r A c xs (i + j) ∧ Blk wr g 5 (splice L off (((xs.drop i).take j).map B)).toArray ∧ Kept (rg r g) w wr ∧ Globs wr ea ua

theorem LoopSt.start {r g off m : Nat} {L : List Value} {A : Option Addr} {c : Nat} {xs : List UInt8} {i : Nat} {ea ua : Addr} {w : World} (hi : i ≤ xs.length) (hr : Rdr w r A c xs i) (hg : Blk w g 5 L.toArray) (hG : Globs w ea ua) :
    LoopSt r g off m L A c xs i ea ua w 0 false w :=
  ⟨Nat.zero_le _, hi, (fun h => absurd h (by decide)), hr, by simpa [splice_nil] using hg, Kept.refl _ _, hG⟩

theorem LoopSt.ended {r g off m : Nat} {L : List Value} {A : Option Addr} {c : Nat} {xs : List UInt8} {i : Nat} {ea ua : Addr} {w wr : World} {j : Nat} (h : LoopSt r g off m L A c xs i ea ua w j false wr) (hj : j < m) (he : xs.length = i + j) (n : Nat) :
    LoopSt r g off m L A c xs i ea ua w j true (wr.drewN n) :=
  ⟨h.1, h.2.1, fun _ => ⟨he, hj⟩, h.2.2.2.1, h.2.2.2.2.1, h.2.2.2.2.2.1.drewN n, h.2.2.2.2.2.2⟩

theorem LoopSt.drewN' {r g off m : Nat} {L : List Value} {A : Option Addr} {c : Nat} {xs : List UInt8} {i : Nat} {ea ua : Addr} {w wr : World} {j : Nat} {d : Bool} (h : LoopSt r g off m L A c xs i ea ua w j d wr) (n : Nat) :
    LoopSt r g off m L A c xs i ea ua w j d (wr.drewN n) :=
  ⟨h.1, h.2.1, h.2.2.1, h.2.2.2.1, h.2.2.2.2.1, h.2.2.2.2.2.1.drewN n, h.2.2.2.2.2.2⟩

theorem LoopSt.more {r g off m : Nat} {L : List Value} {A : Option Addr} {c : Nat} {xs : List UInt8} {i : Nat} {ea ua : Addr} {w wr w1 : World} {j k : Nat} {e : Ending} (h : LoopSt r g off m L A c xs i ea ua w j false wr) (hk : k = min (xs.length - (i + j)) (m - j)) (hL : off + m ≤ L.length)
    (hr : 1 < r ∧ 2 < r) (hg : 1 < g ∧ 2 < g)
    (hp : ReadPost r g (off + j) k (splice L off (((xs.drop i).take j).map B)) A c xs (i + j) wr.drew e w1) : LoopSt r g off m L A c xs i ea ua w (j + k) false w1 := by
  obtain ⟨h1, h2, _, h4, h5, h6, h7⟩ := h
  obtain ⟨_, p2, p3, p4⟩ := hp
  have hlen : (((xs.drop i).take j).map B).length = j := by simp; omega
  have hk1 : Kept (rg r g) wr w1 := (Kept.refl _ wr).drew.trans p4
  refine ⟨by omega, by omega, (fun h => absurd h (by decide)), ?_, ?_, h6.trans hk1, h7.kept hk1 (fun e => by unfold rg at e; omega) (fun e => by unfold rg at e; omega)⟩
  · rw [← Nat.add_assoc]; exact p3
  · have hsp := splice_app L (((xs.drop i).take j).map B) off ((((xs.drop (i + j)).take k)).map B) (by rw [hlen]; simp; omega)
    rw [hlen] at hsp
    rw [hsp, ← List.map_append] at p2
    have ht : (xs.drop i).take j ++ (xs.drop (i + j)).take k = (xs.drop i).take (j + k) := by
      rw [List.take_add, List.drop_drop]
    rw [ht] at p2
    exact p2

set_option maxHeartbeats 1600000 in
theorem atLeast_any (r g off m cp : Nat) (L : List Value) (A : Option Addr) (c : Nat) (xs : List UInt8) (i : Nat) (ea ua : Addr) (w : World) (hcp : m ≤ cp) (hm2 : m ≤ 2147483647) (hr : Rdr w r A c xs i) (hi : i ≤ xs.length)
    (hg : Blk w g 5 L.toArray) (hL : off + m ≤ L.length) (hA : ∀ a, A = some a → a.block ≠ g) (hG : Globs w ea ua)
    (hrb : 1 < r ∧ 2 < r) (hgb : 1 < g ∧ 2 < g) :
    Calls Tryd.prog 26 #[.iface 44 (.pointer (some ⟨r, 0, none⟩)), .slice (some ⟨g, off, none⟩) m cp, .int .i64 m] w (FullPost r g off m L A c xs i w) := by
  have hxl := hr.2.2.2
  have hst := LoopSt.start (m := m) (off := off) hi hr hg hG
  have HST := Lib.hid hst
  have HRB := Lib.hid hrb
  have HGB := Lib.hid hgb
  have HA := Lib.hid hA
  clear hr hg hG hst hrb hgb hA
  have hna := rdr_nilAhead
  have hme := rdr_method
  go_enter Tryd.func26, Tryd.ntmps26
  go_wp2_with fail
  go_loopw [6, 7] (fun n er wr => ∃ (j : Nat) (d : Bool), n = .int .i64 j ∧ er = errV d ea ∧ LoopSt r g off m L A c xs i ea ua w j d wr) (fun n er _ => 2 * (m - (intOf n).toNat) + errBit er)
  case atStart => exact ⟨0, false, rfl, rfl, HST.out⟩
  case round =>
    obtain ⟨j, d, rfl, rfl, hst⟩ := hrel
    have hjm := hst.1
    have hjl := hst.2.1
    have HST := Lib.hid hst
    clear hst
    rcases Bool.eq_false_or_eq_true d with rfl | rfl
    · have hend := HST.out.2.2.1 rfl
      have hj2 := hend.2
      have hlt : xs.length < i + m := by omega
      have hK := Lib.hid HST.out.2.2.2.2.2.1
      obtain ⟨heof, huex⟩ := HST.out.2.2.2.2.2.2
      unfold EofIs at heof
      have heq := errEq ea
      simp only [errV, cond_true]
      clear hend
      rcases Nat.eq_zero_or_pos j with rfl | hj0
      · go_wp2_with fail
        go_ret2
        exact .inr ⟨hlt, 0, ea, rfl, hK.out⟩
      · go_wp2_with fail
        go_ret2
        exact .inr ⟨hlt, j, ua, rfl, hK.out⟩
    · simp only [errV, cond_false]
      by_cases hlt : j < m
      · have hcj : ¬ cp = j := by omega
        by_cases hend : i + j < xs.length
        · obtain ⟨k, hk⟩ : ∃ k, k = min (xs.length - (i + j)) (m - j) := ⟨_, rfl⟩
          have HK := Lib.hid hk
          have hk1 : j + k ≤ m := by omega
          have hk0 : 0 < k := by omega
          clear hk
          have hcon : ∀ w', w' = wr.drew → Calls Tryd.prog 43 #[.pointer (some ⟨r, 0, none⟩), .slice (some ⟨g, off + j, none⟩) (m - j) (cp - j)] w' fun e w1 => e = .returned (.tuple #[.int .i64 k, .nilIface]) ∧ LoopSt r g off m L A c xs i ea ua w (j + k) false w1 := by
            rintro w' rfl
            refine (read_some r g (off + j) (m - j) (cp - j) (splice L off (((xs.drop i).take j).map B)) A c xs (i + j) wr.drew HST.out.2.2.2.1 hend HST.out.2.2.2.2.1 (by rw [length_splice _ _ _ (by simp; omega)]; omega) (by omega) HA.out k HK.out).mono ?_
            intro e w1 hp
            exact ⟨hp.1, HST.out.more HK.out hL HRB.out HGB.out hp⟩
          have HCON := Lib.hid hcon
          clear hcon
          go_wp2_with fail
          go_region_with (go_at_call 43; refine (HCON.out _ rfl).mono ?_; rintro e w1 ⟨rfl, hst2⟩)
          have HS2 := Lib.hid hst2
          clear hst2
          go_wp2_with fail
          go_roundw
          case rel => exact ⟨j + k, false, by go_num, rfl, HS2.out⟩
          case measure => simp [intOf, errBit]; omega
        · have hxe : xs.length = i + j := by omega
          have hcon : ∀ w', w' = wr.drew → Calls Tryd.prog 43 #[.pointer (some ⟨r, 0, none⟩), .slice (some ⟨g, off + j, none⟩) (m - j) (cp - j)] w' fun e w1 => e = .returned (.tuple #[.int .i64 0, .iface 63 (.pointer (some ea))]) ∧ LoopSt r g off m L A c xs i ea ua w j true w1 := by
            rintro w' rfl
            refine (read_end r g (off + j) (m - j) (cp - j) A c xs (i + j) ea wr.drew HST.out.2.2.2.1 (by omega) (by omega) HST.out.2.2.2.2.2.2.1).mono ?_
            rintro e w1 ⟨rfl, n, rfl⟩
            exact ⟨rfl, (HST.out.ended hlt hxe 1).drewN' n⟩
          have HCON := Lib.hid hcon
          clear hcon hxe
          go_wp2_with fail
          go_region_with (go_at_call 43; refine (HCON.out _ rfl).mono ?_; rintro e w1 ⟨rfl, hst2⟩)
          have HS2 := Lib.hid hst2
          clear hst2
          go_wp2_with fail
          go_roundw
          case rel => exact ⟨j, true, by go_num, rfl, HS2.out⟩
          case measure => simp [intOf, errBit]
      · have hjm2 : j = m := by omega
        subst hjm2
        go_wp2_with fail
        go_ret2
        obtain ⟨_, h2, _, h4, h5, h6, _⟩ := HST.out
        exact .inl ⟨h2, rfl, h5, h4, h6⟩

end Go.Proofs.YtcjjcghkokgjfaaDoor
