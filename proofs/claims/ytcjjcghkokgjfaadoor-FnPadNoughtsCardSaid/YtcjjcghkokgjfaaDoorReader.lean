/-
  bytes.Reader: NewReader, Read.
-/
import Derived.Test.YtcjjcghkokgjfaaDoorCopy
import Derived.BigQuiet
import Derived.Deep.QuietTactic
import Derived.StillTailTactics
namespace Go.Proofs.YtcjjcghkokgjfaaDoor
open Go.RowKit

/-- A reader: block r, over the bytes xs behind A, i bytes read. -/
def Rdr (w : World) (r : Nat) (A : Option Addr) (c : Nat) (xs : List UInt8) (i : Nat) : Prop :=
  (∃ p : Int, Blk w r 55 #[.slice A xs.length c, .int .i64 i, .int .i64 p]) ∧ BytesAt w A xs ∧ xs.length ≤ c ∧ xs.length ≤ 2147483647

theorem newReader_any (A : Option Addr) (n c : Nat) (w : World) :
    Calls Tryd.prog 17 #[.slice A n c] w fun e w' => e = .returned (.pointer (some ⟨w.heap.size, 0, none⟩)) ∧ w.alloc (.cells #[.slice A n c, .int .i64 0, .int .i64 (-1)] 55) = w' := by
  go_enter Tryd.func17, Tryd.ntmps17
  go_wp2_with fail
  go_ret
  exact ⟨rfl, rfl⟩

/-- io.EOF holds an error. -/
def EofIs (w : World) (ea : Addr) : Prop := w.cell? ⟨1, 0, none⟩ = some (.iface 63 (.pointer (some ea)))

theorem read_end (r g off m cp : Nat) (A : Option Addr) (c : Nat) (xs : List UInt8) (i : Nat) (ea : Addr) (w : World) (hr : Rdr w r A c xs i) (hi : xs.length ≤ i) (_hi2 : i ≤ 2147483647) (he : EofIs w ea) :
    Calls Tryd.prog 43 #[.pointer (some ⟨r, 0, none⟩), .slice (some ⟨g, off, none⟩) m cp] w fun e w' => e = .returned (.tuple #[.int .i64 0, .iface 63 (.pointer (some ea))]) ∧ ∃ n, w' = w.drewN n := by
  obtain ⟨⟨p, hb⟩, _, hc, hl⟩ := hr
  have c0 : w.cell? ⟨r, 0, none⟩ = some (.slice A xs.length c) := hb.cellIs rfl
  have c1 : w.cell? ⟨r, 1, none⟩ = some (.int .i64 i) := hb.cellIs rfl
  unfold EofIs at he
  clear hb
  go_enter Tryd.func43, Tryd.ntmps43
  go_wp2_with fail
  go_quiet (fail)
  go_wp2_with fail
  go_quiet (fail)
  go_wp2_with fail
  go_ret2
  exact ⟨rfl, _, World.drewN_drewN _ _ _⟩

/-- What a Read of k bytes leaves. -/
def ReadPost (r g off k : Nat) (L : List Value) (A : Option Addr) (c : Nat) (xs : List UInt8) (i : Nat) (w : World) (e : Ending) (w' : World) : Prop :=
  e = .returned (.tuple #[.int .i64 k, .nilIface]) ∧ Blk w' g 5 (splice L off (((xs.drop i).take k).map B)).toArray ∧ Rdr w' r A c xs (i + k) ∧ Kept (fun b => b = r ∨ b = g) w w'

theorem read_some (r g off m cp : Nat) (L : List Value) (A : Option Addr) (c : Nat) (xs : List UInt8) (i : Nat) (w : World) (hr : Rdr w r A c xs i) (hi : i < xs.length)
    (hg : Blk w g 5 L.toArray) (hL : off + m ≤ L.length) (hm : m ≤ 2147483647) (hA : ∀ a, A = some a → a.block ≠ g) (k : Nat) (hk : k = min (xs.length - i) m) :
    Calls Tryd.prog 43 #[.pointer (some ⟨r, 0, none⟩), .slice (some ⟨g, off, none⟩) m cp] w
      (ReadPost r g off k L A c xs i w) := by
  obtain ⟨⟨p, hb⟩, hat, hc, hl⟩ := hr
  have c0 : w.cell? ⟨r, 0, none⟩ = some (.slice A xs.length c) := hb.cellIs rfl
  have c1 : w.cell? ⟨r, 1, none⟩ = some (.int .i64 i) := hb.cellIs rfl
  have c2 : w.cell? ⟨r, 2, none⟩ = some (.int .i64 p) := hb.cellIs rfl
  have f1 := hb.frozen 1
  have f2 := hb.frozen 2
  obtain ⟨b, o, rfl, hbl, hcell⟩ := hat.at_ hi
  have HB := Lib.hid hb
  have HG := Lib.hid hg
  have HC := Lib.hid hcell
  have HA := Lib.hid hA
  have HK := Lib.hid hk
  have hdec : decide ((xs.length : Int) ≤ (i : Int)) = false := decide_eq_false (by omega)
  clear hb hg hcell hA hk
  go_enter Tryd.func43, Tryd.ntmps43
  go_wp2_with fail
  go_quiet (fail)
  go_wp2_with fail
  generalize hw1 : (w.drewN _).setCell ⟨r, 2, none⟩ (.int .i64 (-1)) = w1
  have hb1 : Blk w1 r 55 #[.slice (some ⟨b, o, none⟩) xs.length c, .int .i64 i, .int .i64 (-1)] := by rw [← hw1]; exact (HB.out.drewN _).set_ 2 _
  have hk1 : Kept (OneBlk r) w w1 := by rw [← hw1]; exact ((Kept.refl _ w).drewN _).setOne _ _
  have hgr : g ≠ r := HG.out.ne_ HB.out (by decide)
  have hg1 : Blk w1 g 5 L.toArray := HG.out.kept hk1 hgr
  have hbr : b ≠ g := HA.out _ rfl
  have hbr2 : b ≠ r := by
    rintro rfl
    have h1 := HC.out i xs[i] (List.getElem?_eq_getElem hi)
    rw [HB.out.cell] at h1
    rcases o_i : o + i with _ | _ | _ | n <;> rw [o_i] at h1 <;> simp [B] at h1
  have HGR := Lib.hid hgr
  have HBR := Lib.hid hbr
  have HBR2 := Lib.hid hbr2
  clear hw1 c0 c1 c2 f1 f2 hgr hbr hbr2 HB HG
  have c0 : w1.cell? ⟨r, 0, none⟩ = some (.slice (some ⟨b, o, none⟩) xs.length c) := hb1.cellIs rfl
  have c1 : w1.cell? ⟨r, 1, none⟩ = some (.int .i64 i) := hb1.cellIs rfl
  have HB := Lib.hid hb1
  have HG := Lib.hid hg1
  have HK1 := Lib.hid hk1
  have lcap : (i : Int) ≤ (xs.length : Int) := by omega
  have hci : (c == i) = false := by rw [beq_eq_false_iff_ne]; omega
  clear hb1 hg1 hk1
  go_still_tail 10, (by kernel_rfl)
  change wpList _ _ _ _ _ w1.drew
  have hsrc : BytesAt w1.drew (some ⟨b, o + i, none⟩) (xs.drop i) := BytesAt.mk (Nat.lt_of_lt_of_le hbl HK1.out.size) (fun j u hu => by
    rw [List.getElem?_drop] at hu
    have hcell := HC.out (i + j) u hu
    rw [Nat.add_assoc]
    exact (HK1.out.drew.cell (p := ⟨b, o + (i + j), none⟩) hbl (show ¬ (b = r) from fun e => HBR2.out (e ▸ rfl))).trans hcell)
  have hdl : (xs.drop i).length = xs.length - i := List.length_drop
  have hsrc2 : BytesAt w1.drew (if c = i then some ⟨b, o, none⟩ else some ⟨b, o + i, none⟩) (xs.drop i) := by rw [if_neg (by omega)]; exact hsrc
  have HS := Lib.hid hsrc2
  have HDL := Lib.hid hdl
  clear hsrc hsrc2 hdl
  refine wpList_copy_bytes (by rfl) (.tmp 20) (.tmp 29) (by rfl) _ _ _ _ _ _ (by rfl) (by rfl) g off L HG.out.drew (xs.drop i) HS.out ?hsl k ?hk (fun _ => rfl) ?hfit ?_
  case hsl => rw [HDL.out]
  case hk => rw [HDL.out]; exact HK.out
  case hfit => have := HK.out; omega
  intro w2 hg2 hk2
  have hb2 : Blk w2 r 55 #[.slice (some ⟨b, o, none⟩) xs.length c, .int .i64 i, .int .i64 (-1)] := (HB.out.drew).kept hk2 (fun e => HGR.out (by unfold OneBlk at e; exact e.symm))
  have c1 : w2.cell? ⟨r, 1, none⟩ = some (.int .i64 i) := hb2.cellIs rfl
  have f1 := hb2.frozen 1
  have HB2 := Lib.hid hb2
  have HG2 := Lib.hid hg2
  have HK2 := Lib.hid hk2
  have hkb : (k : Int) ≤ 2147483647 := by have := HK.out; omega
  clear hb2 hg2 hk2
  go_wp2_with fail
  go_ret2
  have hkk : Kept (fun x => x = r ∨ x = g) w (w2.setCell ⟨r, 1, none⟩ (.int .i64 ((i : Int) + k))) :=
    (((HK1.out.drew.mono (S' := fun x => x = r ∨ x = g) (fun _ _ e => .inl e)).step (HK2.out) (fun _ _ e => .inr e)).setCell _ _ (fun _ => .inl rfl))
  refine ⟨rfl, HG2.out.far HGR.out _, ⟨⟨-1, ?_⟩, ?_, hc, hl⟩, hkk⟩
  · have := HB2.out.set_ 1 (.int .i64 ((i : Int) + k))
    simpa using this
  · exact hat.kept hkk (fun a ha => by cases ha; intro e; rcases e with e | e; exact HBR2.out e; exact HBR.out e)

end Go.Proofs.YtcjjcghkokgjfaaDoor
