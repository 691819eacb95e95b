/-
  bytes.Equal; rsa.SignPKCS1v15, VerifyPKCS1v15.
  impl.Sign15, Verify15.
  The signatures of a key: Sign15, Public, Verify15 in the law's form.
-/
import Derived.Test.YtdmpiecdpdknaaaGreatDoorGn
import Derived.Test.YtdmpiecdpdknaaaGreatDoorDecW
import Derived.Test.YtdmpiecdpdknaaaGreatDoorPubl
import Derived.Test.YtdmpiecdpdknaaaGreatDoorPublZ
import Derived.Test.YtdmpiecdpdknaaaGreatDoorKeyOf
namespace Go.Proofs.YtdmpiecdpdknaaaGreatDoor
open Go.RowKit

theorem bytesEq_any (w : World) (A A' : Option Addr) (c c' n n' : Nat) (xs ys : List UInt8) (hx : BytesAt w A xs) (hy : BytesAt w A' ys) (hn : xs.length = n) (hn' : ys.length = n') :
    Calls Tryz.prog 50 #[.slice A n c, .slice A' n' c'] w fun e w' => e = .returned (.bool (xs == ys)) ∧ w = w' := by
  subst hn hn'
  have h1 := conv_bytes w A c xs hx
  have h2 := conv_bytes w A' c' ys hy
  go_enter Tryz.func50, Tryz.ntmps50
  go_wp2
  go_ret
  exact ⟨rfl, rfl⟩

/-- A name by its number; 8 is none. -/
def NameOf (i : Nat) (s : ByteArray) : Prop := (i < 8 ∧ s = hName i) ∨ (i = 8 ∧ s = ⟨#[]⟩)
def pfxOf (i : Nat) : List UInt8 := if i < 8 then hPfx i else []
/-- The other listed error's variable. -/
def VerErr (w : World) (ev : Addr) : Prop := w.cell? ⟨0, 0, none⟩ = some (.iface 115 (.pointer (some ev)))
theorem VerErr.still {w w' : World} {ev : Addr} (h : VerErr w ev) (k : Kept NoBlk w w') : VerErr w' ev := (k.cell (World.block_lt_of_cell? _ _ h) (fun e => e)).trans h

theorem conEM_md (w : World) (pp q pn pr n m i : Nat) (s : ByteArray) (hs : NameOf i s) (er : Value) (D : Option Addr) (cd : Nat) (dig : List UInt8) (hp : w.cell? ⟨pp, 0, none⟩ = some (.pointer (some ⟨q, 0, none⟩))) (hm : Md w q pn pr n m) (hg : w.cell? ⟨1, 0, none⟩ = some er) (hd : BytesAt w D dig) (hdl : dig.length ≤ 1000000) (hsz : i < 8 → dig.length = hSize i) (mb : bitLen m < 2048) :
    Calls Tryz.prog 44 #[.pointer (some ⟨pp, 0, none⟩), .string s, .slice D dig.length cd] w (ConEM ((bitLen m + 7) / 8) (pfxOf i) dig er w) := by
  obtain ⟨ms, mr, mi, rv, h, h1, h2, h3, _⟩ := hm.modAt
  have h32 := hm.n32
  unfold pfxOf
  rcases hs with ⟨hi, rfl⟩ | ⟨hi, rfl⟩
  · rw [if_pos hi]
    exact conEM_name i hi pp q pn (pn - 1) _ ms mr _ mi rv er D cd dig w hp h (by omega) (by rw [h3]) hg hd hdl (by omega) (hsz hi)
  · rw [if_neg (by omega)]
    exact conEM_bare pp q pn (pn - 1) _ ms mr _ mi rv er D cd dig w hp h (by omega) (by rw [h3]) hg hd hdl (by omega)

/-- The encoding for L bytes. -/
def emL (L : Nat) (pre dig : List UInt8) : List UInt8 := emOf (L - pre.length - dig.length - 3) pre dig
theorem emL_length {L : Nat} {pre dig : List UInt8} (h : pre.length + dig.length + 11 ≤ L) : (emL L pre dig).length = L := by
  unfold emL
  rw [emOf_length]; omega
theorem emL_lt {L m : Nat} {pre dig : List UInt8} (h : pre.length + dig.length + 11 ≤ L) (hL : (bitLen m + 7) / 8 = L) : num (emL L pre dig) < m := by
  have h1 : num (emL L pre dig) < 2 * Pb (L - 2) := by
    have hl := emL_length h
    unfold emL emOf at hl ⊢
    obtain ⟨t, ht⟩ : ∃ t, List.replicate (L - pre.length - dig.length - 3) (255 : UInt8) ++ 0 :: (pre ++ dig) = t := ⟨_, rfl⟩
    rw [ht] at hl ⊢
    simp only [List.length_cons] at hl
    rw [num_cons, num_cons]
    have := num_lt t
    rw [show L - 2 = t.length by omega]
    show (0 : UInt8).toNat * _ + ((1 : UInt8).toNat * _ + _) < _
    rw [show (0 : UInt8).toNat = 0 from rfl, show (1 : UInt8).toNat = 1 from rfl]
    omega
  have h2 : 2 ^ (bitLen m - 1) ≤ m := by
    apply Classical.byContradiction
    intro hc
    have := (bitLen_le m (bitLen m - 1)).2 (by omega)
    omega
  have h3 : 2 * Pb (L - 2) ≤ 2 ^ (bitLen m - 1) := by
    rw [Pb_two, ← Nat.pow_succ']
    exact Nat.pow_le_pow_right (by decide) (by omega)
  omega

/-- What a signature leaves. -/
def SigOut (L : Nat) (pre dig : List UInt8) (X : Nat) (er : Value) (w : World) (x : Ending) (w' : World) : Prop :=
  (L < pre.length + dig.length + 11 ∧ x = .returned (.tuple #[.slice none 0 0, er]) ∧ Kept NoBlk w w') ∨
  (pre.length + dig.length + 11 ≤ L ∧ ∃ g, x = .returned (.tuple #[.slice (some ⟨g, 0, none⟩) L L, .nilIface]) ∧ w.heap.size ≤ g ∧ Blk w' g 5 ((enc L X).map B).toArray ∧ Kept NoBlk w w')

set_option maxHeartbeats 1600000 in
theorem sign_nm (w : World) (pk m e d p q dp dq qi i X L : Nat) (s : ByteArray) (hs : NameOf i s) (ea : Addr) (D : Option Addr) (cd : Nat) (dig : List UInt8) (hpk : PrivAt w pk m e d p q dp dq qi) (hg : TooLong w ea) (hd : BytesAt w D dig) (hdl : dig.length ≤ 1000000) (hsz : i < 8 → dig.length = hSize i) (mb : bitLen m < 2048) (hL : (bitLen m + 7) / 8 = L)
    (DC : (pfxOf i).length + dig.length + 11 ≤ L → ∀ (w : World), PrivAt w pk m e d p q dp dq qi → ∀ (A : Option Addr) (cap : Nat), BytesAt w A (emL L (pfxOf i) dig) → L ≤ cap → Calls Tryz.prog 45 #[.pointer (some ⟨pk, 0, none⟩), .slice A L cap, .bool true] w (DecOut m X w)) :
    Calls Tryz.prog 34 #[.pointer (some ⟨pk, 0, none⟩), .string s, .slice D dig.length cd] w (SigOut L (pfxOf i) dig X (.iface 115 (.pointer (some ea))) w) := by
  have HPK := Lib.hid hpk
  have hcon : Calls Tryz.prog 44 #[.pointer (some ⟨pk, 0, none⟩), .string s, .slice D dig.length cd] w (ConEM ((bitLen m + 7) / 8) (pfxOf i) dig (.iface 115 (.pointer (some ea))) w) := by
    obtain ⟨qN, pN, rN, nN, qP, pP, rP, nP, qQ, pQ, rQ, nQ, bd, bi, gP, gQ, kP, kQ, hB, hN, _⟩ := hpk
    exact conEM_md w pk qN pN rN nN m i s hs _ D cd dig (hB.cellIs rfl) hN hg hd hdl hsz mb
  rw [hL] at hcon
  have CON := Lib.hid hcon
  have DEC := Lib.hid DC
  have HLL := Lib.hid hL
  obtain ⟨pre, hpre⟩ : ∃ pre, pfxOf i = pre := ⟨_, rfl⟩
  rw [hpre] at CON DEC ⊢
  clear hpk hcon hd hg hs hsz DC hL hpre
  go_enter Tryz.func34, Tryz.ntmps34
  go_wp2_with fail
  refine CON.out.mono ?_
  intro x w1 h
  rcases h with ⟨a, rfl, k⟩ | ⟨a, g, rfl, hg, hb, k⟩
  · have FIN : Hid (SigOut L pre dig X (.iface 115 (.pointer (some ea))) w (.returned (.tuple #[.slice none 0 0, .iface 115 (.pointer (some ea))])) w1) := Lib.hid (.inl ⟨a, rfl, k⟩)
    clear a k CON DEC
    go_wp2_with fail
    go_ret2
    exact FIN.out
  · have C2 := Lib.hid (DEC.out a w1 (HPK.out.still k) (some ⟨g, 0, none⟩) L hb.bytes (Nat.le_refl _))
    have K1 := Lib.hid k
    have RM := Lib.hid a
    clear a k hb hg CON DEC
    go_wp2_with fail
    refine C2.out.mono ?_
    unfold DecOut
    rw [HLL.out]
    rintro x w2 ⟨g2, rfl, hg2, hb2, k2⟩
    have FIN : Hid (SigOut L pre dig X (.iface 115 (.pointer (some ea))) w (.returned (.tuple #[.slice (some ⟨g2, 0, none⟩) L L, .nilIface])) w2) := Lib.hid (.inr ⟨RM.out, g2, rfl, Nat.le_trans K1.out.size hg2, hb2, K1.out.none k2⟩)
    clear hg2 hb2 k2 C2
    go_wp2_with fail
    go_ret2
    exact FIN.out

theorem signUp_any (w : World) (v u x : Value) (L : Nat) (pre dig : List UInt8) (X : Nat) (ea : Addr) (hc : Calls Tryz.prog 34 #[v, u, x] w (SigOut L pre dig X (.iface 115 (.pointer (some ea))) w)) :
    Calls Tryz.prog 20 #[v, u, x] w (SigOut L pre dig X (.iface 115 (.pointer (some ea))) w) := by
  have HC := Lib.hid hc
  clear hc
  go_enter Tryz.func20, Tryz.ntmps20
  go_wp2_with fail
  refine HC.out.mono ?_
  intro e w1 h
  have H := Lib.hid h
  rcases h with ⟨a, rfl, k⟩ | ⟨a, g, rfl, hg, hb, k⟩
  all_goals
    clear a k HC
    go_wp2_with fail
    go_ret2
    exact H.out

/-- What a verification answers. -/
def VerOut (m e : Nat) (sg em : List UInt8) (ev : Addr) (w : World) (x : Ending) (w' : World) : Prop :=
  ((num sg < m ∧ num sg ^ e % m = num em) ∧ x = .returned .nilIface ∨ ¬ (num sg < m ∧ num sg ^ e % m = num em) ∧ x = .returned (.iface 115 (.pointer (some ev)))) ∧ Kept NoBlk w w'

set_option maxHeartbeats 1600000 in
theorem verify_nm (w : World) (pp q pn pr n m e i L : Nat) (s : ByteArray) (hs : NameOf i s) (ea ev : Addr) (D A : Option Addr) (cd cap : Nat) (dig sg : List UInt8) (hp : Pub w pp q pn pr n m e) (ho : m % 2 = 1) (he0 : 2 ≤ e) (heo : e % 2 = 1) (he : e ≤ 2147483647) (mb : bitLen m < 2048)
    (hg : TooLong w ea) (hv : VerErr w ev) (hd : BytesAt w D dig) (hdl : dig.length ≤ 1000000) (hsz : i < 8 → dig.length = hSize i) (hA : BytesAt w A sg) (hc : L ≤ cap) (hl : sg.length = L) (hL : (bitLen m + 7) / 8 = L) (room : (pfxOf i).length + dig.length + 11 ≤ L) :
    Calls Tryz.prog 37 #[.pointer (some ⟨pp, 0, none⟩), .string s, .slice D dig.length cd, .slice A L cap] w (VerOut m e sg (emL L (pfxOf i) dig) ev w) := by
  have C1 := Lib.hid (checkPub_nm pp q pn pr n m e w hp ho he0 heo he mb)
  have C2 : Hid (∀ w', Kept NoBlk w w' → Calls Tryz.prog 49 #[.pointer (some ⟨pp, 0, none⟩)] w' (fun e w'' => e = .returned (.int .i64 (L : Int)) ∧ w' = w'')) := Lib.hid (fun w' k => by
    obtain ⟨ms, mr, mi, rv, h, h1, h2, h3, _⟩ := (hp.still k).md.modAt
    have h32 := (hp.still k).md.n32
    have h := pubSize_any pp q pn (pn - 1) ms mr _ mi rv w' (hp.still k).cells.1 h (by omega)
    rw [h3, hL] at h
    exact h)
  have hn8 := hp.md.bytes_le
  have C3 : Hid (∀ w', Kept NoBlk w w' → Calls Tryz.prog 36 #[.pointer (some ⟨pp, 0, none⟩), .slice A L cap] w' (Encr n m e sg w')) := Lib.hid (fun w' k => by
    have h := encrypt_nm pp q pn pr n m e A cap sg w' (hp.still k) ho (by omega) (by omega) (hA.still k) (by omega) (by omega)
    rw [hl] at h
    exact h)
  have C4 : Hid (∀ w', Kept NoBlk w w' → Calls Tryz.prog 44 #[.pointer (some ⟨pp, 0, none⟩), .string s, .slice D dig.length cd] w' (ConEM L (pfxOf i) dig (.iface 115 (.pointer (some ea))) w')) := Lib.hid (fun w' k => by
    have h := conEM_md w' pp q pn pr n m i s hs _ D cd dig (hp.still k).cells.1 (hp.still k).md (hg.still k) (hd.still k) hdl hsz mb
    rw [hL] at h
    exact h)
  have hemlt := emL_lt room hL
  have hemlen := emL_length room
  unfold Encr at C3
  simp only [hL] at C3
  have SL : Hid (sg.length ≤ 8 * n) := Lib.hid (by omega)
  obtain ⟨pre, hpre⟩ : ∃ pre, pfxOf i = pre := ⟨_, rfl⟩
  rw [hpre] at C4 room hemlt hemlen ⊢
  have HV := Lib.hid hv
  have RM := Lib.hid room
  obtain ⟨em, hem⟩ : ∃ em, emL L pre dig = em := ⟨_, rfl⟩
  rw [hem] at hemlt hemlen ⊢
  have HEM : Hid (emOf (L - pre.length - dig.length - 3) pre dig = em) := Lib.hid hem
  have HEL := Lib.hid hemlen
  have HLT := Lib.hid hemlt
  have HM : Hid (0 < m) := Lib.hid (by omega)
  have LTL : Hid (∀ v, v < m → v < Pb L) := Lib.hid (fun v h => by rw [← hL]; exact lt_Pb_size h)
  have hll : ((L : Int) != (L : Int)) = false := by rw [bne_eq_false_iff_eq]
  clear hp ho he0 heo he mb hg hd hsz hA hl hL room hs hem hemlt hemlen hn8 hpre
  go_enter Tryz.func37, Tryz.ntmps37
  go_wp2_with fail
  refine C1.out.mono ?_
  rintro x w1 ⟨rfl, k1⟩
  have D2 := Lib.hid (C2.out w1 k1)
  have D3 := Lib.hid (C3.out w1 k1)
  have K1 := Lib.hid k1
  clear k1 C1 C2 C3
  go_wp2_with fail
  refine D2.out.mono ?_
  rintro x w' ⟨rfl, rfl⟩
  clear D2
  go_wp2_with fail
  refine D3.out.mono ?_
  intro x w2 h
  rcases h with ⟨a1, a2, g, rfl, a3, a4, a5⟩ | ⟨a1, a, rfl, a2⟩
  · have D4 := Lib.hid (C4.out w2 (K1.out.none a5))
    have HB := Lib.hid a4
    have LT := Lib.hid a1
    have K2 := Lib.hid (K1.out.none a5)
    clear a1 a2 a3 a4 a5 D3 C4
    go_wp2_with fail
    refine D4.out.mono ?_
    intro x w3 h
    rcases h with ⟨b, _, _⟩ | ⟨_, g3, rfl, _, hb3, k3⟩
    · exact absurd b (by have := RM.out; omega)
    · rw [HEM.out] at hb3
      have heq := bytesEq_any w3 (some ⟨g, 0, none⟩) (some ⟨g3, 0, none⟩) L L L L (enc L (num sg ^ e % m)) em ((HB.out.kept k3 (fun e => e)).bytes) hb3.bytes (enc_length _ _) HEL.out
      have K3 := Lib.hid (K2.out.none k3)
      have cv : w3.cell? ⟨0, 0, none⟩ = some (.iface 115 (.pointer (some ev))) := HV.out.still K3.out
      have hmm := Nat.mod_lt (num sg ^ e) HM.out
      by_cases hc : num sg ^ e % m = num em
      · have hE : enc L (num sg ^ e % m) = em := by rw [hc]; exact enc_num HEL.out
        rw [hE, beq_self_eq_true] at heq
        have HE := Lib.hid heq
        have FIN : Hid (VerOut m e sg em ev w (.returned .nilIface) w3) := Lib.hid ⟨.inl ⟨⟨LT.out, hc⟩, rfl⟩, K3.out⟩
        clear heq hE hc hb3 k3 D4 hmm HB
        go_wp2_with fail
        refine HE.out.mono ?_
        rintro x w' ⟨rfl, rfl⟩
        go_wp2_with fail
        go_ret
        exact FIN.out
      · have hE : (enc L (num sg ^ e % m) == em) = false := by
          rw [beq_eq_false_iff_ne]
          intro h
          apply hc
          rw [← h, num_enc_of_lt (LTL.out _ hmm)]
        rw [hE] at heq
        have HE := Lib.hid heq
        have FIN : Hid (VerOut m e sg em ev w (.returned (.iface 115 (.pointer (some ev)))) w3) := Lib.hid ⟨.inr ⟨fun h => hc h.2, rfl⟩, K3.out⟩
        clear heq hE hc hb3 k3 D4 hmm HB
        go_wp2_with fail
        refine HE.out.mono ?_
        rintro x w' ⟨rfl, rfl⟩
        go_wp2_with fail
        go_ret
        exact FIN.out
  · have cv : w2.cell? ⟨0, 0, none⟩ = some (.iface 115 (.pointer (some ev))) := HV.out.still (K1.out.none a2)
    have FIN : Hid (VerOut m e sg em ev w (.returned (.iface 115 (.pointer (some ev)))) w2) := Lib.hid ⟨.inr ⟨fun h => by have := SL.out; omega, rfl⟩, K1.out.none a2⟩
    clear a1 a2 D3 C4
    go_wp2_with fail
    go_ret
    exact FIN.out

theorem verifyUp_any (w : World) (v u x y : Value) (m e : Nat) (sg em : List UInt8) (ev : Addr) (hc : Calls Tryz.prog 37 #[v, u, x, y] w (VerOut m e sg em ev w)) :
    Calls Tryz.prog 24 #[v, u, x, y] w (VerOut m e sg em ev w) := by
  have HC := Lib.hid hc
  clear hc
  go_enter Tryz.func24, Tryz.ntmps24
  go_wp2_with fail
  refine HC.out.mono ?_
  intro e w1 h
  have H := Lib.hid h
  rcases h with ⟨⟨a, rfl⟩ | ⟨a, rfl⟩, k⟩
  all_goals
    clear a k HC
    go_wp2_with fail
    go_ret
    exact H.out

end Go.Proofs.YtdmpiecdpdknaaaGreatDoor
namespace Go.Proofs.YtdmpiecdpdknaaaGreatDoor
open Go.RowKit

/-- A row that a call owns and that is not empty, as a block. -/
theorem own_blk {w : World} {N : Nat} {e : TypeId} {v : Value} {n : Nat} {vs : List Value} (h : w.ownsRow N e 1 v n vs) (h0 : 0 < n) : ∃ g c cur, v = .slice (some ⟨g, 0, none⟩) n c ∧ N ≤ g ∧ Blk w g e cur ∧ n ≤ c ∧ cur.toList.take n = vs := by
  obtain ⟨hl, hn | ⟨g, cap, cur, rfl, hb, hg, hnc, hcm, hcs, ht⟩⟩ := h
  · omega
  · exact ⟨g, cap, cur, rfl, hb, hg, hnc, by simpa using ht⟩

/-- What impl.Sign15 leaves. -/
def SigL (L : Nat) (pre dig : List UInt8) (X : Nat) (w : World) (x : Ending) (w' : World) : Prop :=
  (L < pre.length + dig.length + 11 ∧ x = .returned (.tuple #[.slice none 0 0, .bool false]) ∧ Kept NoBlk w w') ∨
  (pre.length + dig.length + 11 ≤ L ∧ ∃ g c cur, x = .returned (.tuple #[.slice (some ⟨g, 0, none⟩) L c, .bool true]) ∧ w.heap.size ≤ g ∧ Blk w' g 5 cur ∧ L ≤ c ∧ cur.toList.take L = (enc L X).map B ∧ Kept NoBlk w w')

set_option maxHeartbeats 1600000 in
set_option maxRecDepth 20000 in
theorem implSign_nm (w : World) (m e d p q dp dq i X L : Nat) (bP bQ : List UInt8) (v : Value) (hv : KeyV w m e d bP bQ v) (vP : num bP = p) (vQ : num bQ = q) (lN : (encT m).length ≤ 256) (lD : (encT d).length ≤ 256) (lP : bP.length ≤ 256) (lQ : bQ.length ≤ 256) (K : KeyN m e d p q dp dq (qiOf p q))
    (s : ByteArray) (hs : NameOf i s) (ea : Addr) (D : Option Addr) (cd : Nat) (dig : List UInt8) (hg : TooLong w ea) (hd : BytesAt w D dig) (hdl : dig.length ≤ 1000000) (hsz : i < 8 → dig.length = hSize i) (hL : (bitLen m + 7) / 8 = L)
    (DC : (pfxOf i).length + dig.length + 11 ≤ L → ∀ (w : World) (pk : Nat), PrivAt w pk m e d p q dp dq (qiOf p q) → ∀ (A : Option Addr) (cap : Nat), BytesAt w A (emL L (pfxOf i) dig) → L ≤ cap → Calls Tryz.prog 45 #[.pointer (some ⟨pk, 0, none⟩), .slice A L cap, .bool true] w (DecOut m X w)) :
    Calls Tryz.prog 10 #[v, .string s, .slice D dig.length cd] w (SigL L (pfxOf i) dig X w) := by
  have PR := Lib.hid (fun w (v : Value) hv => private_any w m e d p q dp dq bP bQ v hv vP vQ lN lD lP lQ K)
  have mb := K.mb
  have SG := Lib.hid (fun (w : World) (pk : Nat) (D : Option Addr) (cd : Nat) (hpk : PrivAt w pk m e d p q dp dq (qiOf p q)) (hg : TooLong w ea) (hd : BytesAt w D dig) => signUp_any w _ _ _ _ _ _ _ _ (sign_nm w pk m e d p q dp dq (qiOf p q) i X L s hs ea D cd dig hpk hg hd hdl hsz mb hL (fun r w hp A cap => DC r w pk hp A cap)))
  have LM : Hid (L ≤ 256 ∧ 0 < L) := Lib.hid (by
    have := bitLen_low (v := m) (k := 0) (by have := K.p3; have := K.pm; omega)
    omega)
  generalize qiOf p q = qi at *
  obtain ⟨pre, hpre⟩ : ∃ pre, pfxOf i = pre := ⟨_, rfl⟩
  rw [hpre] at SG ⊢
  have HV := Lib.hid hv
  have HG := Lib.hid hg
  have HDD := Lib.hid hd
  clear K mb hs hg hd hsz hL DC hpre vP vQ lN lD lP lQ
  obtain ⟨aN, aD, aP, aQ, cN, cD, cP, cQ, rfl, hN, hD, hP, hQ, kN, kD, kP, kQ⟩ := hv
  clear hN hD hP hQ kN kD kP kQ
  obtain ⟨w0, hw0⟩ : ∃ w0, w.alloc (.cells #[.slice aN (encT m).length cN, .int .i64 (e : Int), .slice aD (encT d).length cD, .slice aP bP.length cP, .slice aQ bQ.length cQ] 26) = w0 := ⟨_, rfl⟩
  have hb := Blk.new w 26 #[.slice aN (encT m).length cN, .int .i64 (e : Int), .slice aD (encT d).length cD, .slice aP bP.length cP, .slice aQ bQ.length cQ]
  rw [hw0] at hb
  have k0 : Kept NoBlk w w0 := by rw [← hw0]; exact (Kept.refl _ w).alloc _
  have y0 : w0.cell? ⟨w.heap.size, 0, none⟩ = some (.slice aN (encT m).length cN) := hb.cellIs rfl
  have y1 : w0.cell? ⟨w.heap.size, 1, none⟩ = some (.int .i64 (e : Int)) := hb.cellIs rfl
  have y2 : w0.cell? ⟨w.heap.size, 2, none⟩ = some (.slice aD (encT d).length cD) := hb.cellIs rfl
  have y3 : w0.cell? ⟨w.heap.size, 3, none⟩ = some (.slice aP bP.length cP) := hb.cellIs rfl
  have y4 : w0.cell? ⟨w.heap.size, 4, none⟩ = some (.slice aQ bQ.length cQ) := hb.cellIs rfl
  have C1 := Lib.hid (PR.out w0 _ (KeyV.still HV.out k0))
  have K0 := Lib.hid k0
  clear hb k0 HV PR
  go_enter Tryz.func10, Tryz.ntmps10
  go_wp2_with fail
  refine C1.out.mono ?_
  rintro x w1 ⟨pk, rfl, hpk, k1⟩
  have HPK := Lib.hid hpk
  have K1 := Lib.hid (K0.out.none k1)
  have C2 := Lib.hid (copied_any w1 D cd dig (HDD.out.still K1.out) (by omega))
  clear hpk k1 C1 K0 y0 y1 y2 y3 y4
  go_wp2_with fail
  refine C2.out.mono ?_
  rintro x w2 ⟨v2, rfl, o2, k2⟩
  obtain ⟨A2, d2, rfl, e2, _, t2, _⟩ := own_form o2
  have K2 := Lib.hid (K1.out.none k2)
  have C3 := Lib.hid (SG.out w2 pk A2 d2 (HPK.out.still k2) (HG.out.still K2.out) t2)
  clear o2 k2 t2 C2 SG HPK HG HDD K1
  go_wp2_with fail
  refine C3.out.mono ?_
  intro x w3 h
  rcases h with ⟨a, rfl, k3⟩ | ⟨a, g, rfl, hg, hb, k3⟩
  · have C4 := Lib.hid (either_err (.slice none 0 0) ea w3)
    have FIN : Hid (SigL L pre dig X w (.returned (.tuple #[.slice none 0 0, .bool false])) w3) := Lib.hid (.inl ⟨a, rfl, K2.out.none k3⟩)
    clear a k3 C3
    go_wp2_with fail
    refine C4.out.mono ?_
    rintro x w4 ⟨rfl, rfl⟩
    go_wp2_with fail
    go_ret2
    exact FIN.out
  · have hei := either_ok (some ⟨g, 0, none⟩) L (enc L X) w3 hb.bytes (by rw [enc_length]; have := LM.out; omega)
    rw [enc_length] at hei
    have C4 := Lib.hid hei
    have K3 := Lib.hid (K2.out.none k3)
    have RM := Lib.hid a
    clear a k3 hei hb hg C3
    go_wp2_with fail
    refine C4.out.mono ?_
    rintro x w4 ⟨v4, rfl, o4, k4⟩
    obtain ⟨g4, c4, cur, rfl, hg4, hb4, hc4, ht4⟩ := own_blk o4 LM.out.2
    have FIN : Hid (SigL L pre dig X w (.returned (.tuple #[.slice (some ⟨g4, 0, none⟩) L c4, .bool true])) w4) := Lib.hid (.inr ⟨RM.out, g4, c4, cur, rfl, Nat.le_trans K3.out.size hg4, hb4, hc4, ht4, K3.out.none k4⟩)
    clear o4 k4 hb4 hc4 ht4 C4
    go_wp2_with fail
    go_ret2
    exact FIN.out

set_option maxHeartbeats 1600000 in
theorem implVerify_nm (w : World) (m e i L : Nat) (s : ByteArray) (hs : NameOf i s) (ea ev : Addr) (aN D A : Option Addr) (cN cd cap : Nat) (dig sg : List UInt8) (hN : BytesAt w aN (encT m)) (lN : (encT m).length ≤ 256) (m1 : 1 < m) (ho : m % 2 = 1) (he0 : 2 ≤ e) (heo : e % 2 = 1) (he : e ≤ 2147483647) (mb : bitLen m < 2048)
    (hg : TooLong w ea) (hv : VerErr w ev) (hd : BytesAt w D dig) (hdl : dig.length ≤ 1000000) (hsz : i < 8 → dig.length = hSize i) (hA : BytesAt w A sg) (hl : sg.length = L) (hL : (bitLen m + 7) / 8 = L) (room : (pfxOf i).length + dig.length + 11 ≤ L) :
    Calls Tryz.prog 13 #[.slice aN (encT m).length cN, .int .i64 (e : Int), .string s, .slice D dig.length cd, .slice A L cap] w fun x w' => x = .returned (.bool (decide (num sg < m ∧ num sg ^ e % m = num (emL L (pfxOf i) dig)))) ∧ Kept NoBlk w w' := by
  have hpub := public_any aN cN e (encT m) w hN lN (by rw [num_encT]; exact m1)
  rw [num_encT] at hpub
  have C1 := Lib.hid hpub
  have VE := Lib.hid (fun (w : World) (pp q pn pr n : Nat) (D A : Option Addr) (cd cap : Nat) (hp : Pub w pp q pn pr n m e) (hg : TooLong w ea) (hv : VerErr w ev) (hd : BytesAt w D dig) (hA : BytesAt w A sg) (hc : L ≤ cap) => verifyUp_any w _ _ _ _ _ _ _ _ _ (verify_nm w pp q pn pr n m e i L s hs ea ev D A cd cap dig sg hp ho he0 heo he mb hg hv hd hdl hsz hA hc hl hL room))
  have HG := Lib.hid hg
  have HV := Lib.hid hv
  have HDD := Lib.hid hd
  have HA := Lib.hid hA
  have HL := Lib.hid hl
  have LM : Hid (L ≤ 256) := Lib.hid (by omega)
  obtain ⟨em, hem⟩ : ∃ em, emL L (pfxOf i) dig = em := ⟨_, rfl⟩
  rw [hem] at VE ⊢
  clear hN hpub hs ho he0 heo he mb hg hv hd hsz hA hl hL room m1 hem lN
  go_enter Tryz.func13, Tryz.ntmps13
  go_wp2_with fail
  refine C1.out.mono ?_
  rintro x w1 ⟨pp, q, pn, pr, n, rfl, hP, k1⟩
  have HP := Lib.hid hP
  have K1 := Lib.hid k1
  have C2 := Lib.hid (copied_any w1 D cd dig (HDD.out.still k1) (by omega))
  clear hP k1 C1
  go_wp2_with fail
  refine C2.out.mono ?_
  rintro x w2 ⟨v2, rfl, o2, k2⟩
  obtain ⟨A2, d2, rfl, e2, _, t2, _⟩ := own_form o2
  have K2 := Lib.hid (K1.out.none k2)
  have hcp := copied_any w2 A cap sg (HA.out.still K2.out) (by have := LM.out; have := HL.out; omega)
  rw [HL.out] at hcp
  have C3 := Lib.hid hcp
  have T2 := Lib.hid t2
  have HP2 := Lib.hid (HP.out.still k2)
  clear o2 k2 t2 C2 hcp HP K1
  go_wp2_with fail
  refine C3.out.mono ?_
  rintro x w3 ⟨v3, rfl, o3, k3⟩
  rw [HL.out] at o3
  obtain ⟨A3, d3, rfl, e3, _, t3, _⟩ := own_form o3
  have K3 := Lib.hid (K2.out.none k3)
  have C4 := Lib.hid (VE.out w3 pp q pn pr n A2 A3 d2 d3 (HP2.out.still k3) (HG.out.still K3.out) (HV.out.still K3.out) (BytesAt.still T2.out k3) t3 e3)
  clear o3 k3 t3 C3 VE HP2 T2 HG HV HDD HA K2
  go_wp2_with fail
  refine C4.out.mono ?_
  intro x w4 h
  rcases h with ⟨⟨a, rfl⟩ | ⟨a, rfl⟩, k4⟩
  · have AA := Lib.hid a
    have K4 := Lib.hid (K3.out.none k4)
    clear a k4 C4
    go_wp2_with fail
    go_ret
    exact ⟨by rw [decide_eq_true AA.out]; rfl, K4.out⟩
  · have AA := Lib.hid a
    have K4 := Lib.hid (K3.out.none k4)
    clear a k4 C4
    go_wp2_with fail
    go_ret
    exact ⟨by rw [decide_eq_false AA.out]; rfl, K4.out⟩

end Go.Proofs.YtdmpiecdpdknaaaGreatDoor
namespace Go.Proofs.YtdmpiecdpdknaaaGreatDoor
open Go.RowKit

/-- There is room. -/
def Room (L i : Nat) (dig : List UInt8) : Prop := (pfxOf i).length + dig.length + 11 ≤ L
/-- What Sign15 leaves, where sg is the signature. -/
def SigB (L i : Nat) (dig sg : List UInt8) (w : World) (x : Ending) (w' : World) : Prop :=
  (¬ Room L i dig ∧ x = .returned (.tuple #[.slice none 0 0, .bool false]) ∧ Kept NoBlk w w') ∨
  (Room L i dig ∧ ∃ g c cur, x = .returned (.tuple #[.slice (some ⟨g, 0, none⟩) L c, .bool true]) ∧ w.heap.size ≤ g ∧ Blk w' g 5 cur ∧ L ≤ c ∧ cur.toList.take L = sg.map B ∧ Kept NoBlk w w')

set_option maxHeartbeats 1600000 in
theorem Duo.sigs {a b m L : Nat} (hd : Duo a b) (hm : Mp a * Mp b = m) (hL : (bitLen m + 7) / 8 = L) :
    ∃ sgn : Nat → List UInt8 → List UInt8, (∀ i dig, (sgn i dig).length = L) ∧
      (∀ (w : World) (v : Value), KeyAt a b w v → ∀ (i : Nat) (s : ByteArray), NameOf i s → ∀ (ea : Addr) (D : Option Addr) (cd : Nat) (dig : List UInt8), TooLong w ea → BytesAt w D dig → dig.length ≤ 1000000 → (i < 8 → dig.length = hSize i) →
        Calls Tryz.prog 10 #[v, .string s, .slice D dig.length cd] w (SigB L i dig (sgn i dig) w)) ∧
      (∀ (w : World) (aN A : Option Addr) (cN cap i : Nat) (dig : List UInt8), BytesAt w aN (encT m) → Room L i dig → BytesAt w A (sgn i dig) →
        Calls Tryz.prog 11 #[.slice aN L cN, .int .i64 65537, .slice A L cap] w fun e w' => ∃ (A : Option Addr) (c : Nat), e = .returned (.tuple #[.slice A L c, .bool true]) ∧ BytesAt w' A (emL L (pfxOf i) dig) ∧ Kept NoBlk w w') ∧
      (∀ (w : World) (i : Nat) (s : ByteArray), NameOf i s → ∀ (ea ev : Addr) (aN D A : Option Addr) (cN cd cap : Nat) (dig sg : List UInt8), BytesAt w aN (encT m) → TooLong w ea → VerErr w ev → BytesAt w D dig → dig.length ≤ 1000000 → (i < 8 → dig.length = hSize i) → BytesAt w A sg → sg.length = L → Room L i dig →
        Calls Tryz.prog 13 #[.slice aN L cN, .int .i64 65537, .string s, .slice D dig.length cd, .slice A L cap] w fun e w' => e = .returned (.bool (sg == sgn i dig)) ∧ Kept NoBlk w w') := by
  obtain ⟨E, hE⟩ : ∃ E : Nat, E = 65537 := ⟨_, rfl⟩
  have hEi : (65537 : Int) = (E : Int) := by omega
  have K := hd.keyN
  have mb := K.mb
  have forth := fun c hc => hd.forth E hE c hc
  have backth := fun c hc => hd.backth E hE c hc
  have lN : (encT (Mp a * Mp b)).length ≤ 256 := by rw [encT_length_bits]; omega
  have lD : (encT (secOf a b)).length ≤ 256 := by
    rw [encT_length_bits]
    have := bitLen_mono (Nat.le_of_lt K.dm)
    omega
  have lP : (mers a).length ≤ 256 := by have := hd.la; have := hd.sum; omega
  have lQ : (mers b).length ≤ 256 := by have := hd.lb; have := hd.sum; omega
  have hmo := hd.oddN
  have hm1 : 1 < Mp a * Mp b := by have := K.p3; have := K.pm; omega
  rw [hm] at mb lN forth backth hmo hm1
  have hLe : (encT m).length = L := by rw [encT_length_bits]; exact hL
  have enV : ∀ v, v < m → num (enc L v) = v := fun v hv => by rw [← hL]; exact encNum (Nat.le_of_lt hv)
  obtain ⟨d, hdd⟩ : ∃ d, secOf a b = d := ⟨_, rfl⟩
  refine ⟨fun i dig => enc L (num (emL L (pfxOf i) dig) ^ secOf a b % m), fun i dig => enc_length _ _, ?_, ?_, ?_⟩
  · intro w v hv i s hs ea D cd dig hg hD hdl hsz
    have h := implSign_nm w (Mp a * Mp b) 65537 (secOf a b) (Mp a) (Mp b) (secOf a b % (Mp a - 1)) (secOf a b % (Mp b - 1)) i (num (emL L (pfxOf i) dig) ^ secOf a b % m) L (mers a) (mers b) v hv hd.na hd.nb (by rw [hm]; exact lN) lD lP lQ K s hs ea D cd dig hg hD hdl hsz (by rw [hm]; exact hL)
      (fun room w pk hpk A cap hA hc => by
        have hlt := emL_lt (m := m) room hL
        have h := hd.decC 65537 rfl w pk hpk A cap (emL L (pfxOf i) dig) true hA (by rw [emL_length room]; exact hc) (by rw [emL_length room, hm, hL]; exact Nat.le_refl _) (by rw [hm]; exact hlt)
        rw [emL_length room] at h
        rw [hm] at h ⊢
        exact h)
    refine h.mono ?_
    rintro e w' (⟨r, rfl, k⟩ | ⟨r, g, c, cur, rfl, hg', hb, hc, ht, k⟩)
    · exact .inl ⟨fun h => by unfold Room at h; omega, rfl, k⟩
    · exact .inr ⟨r, g, c, cur, rfl, hg', hb, hc, ht, k⟩
  · intro w aN A cN cap i dig hN room hA
    have hlt := emL_lt (m := m) room hL
    rw [hdd] at hA forth
    have hX : num (emL L (pfxOf i) dig) ^ d % m < m := Nat.mod_lt _ (by omega)
    have h := implPublic_any aN A cN cap E (encT m) (enc L (num (emL L (pfxOf i) dig) ^ d % m)) w hN lN (by rw [num_encT]; exact hm1) (by rw [num_encT]; exact hmo) (by omega) (by omega) hA (by rw [num_encT, hL, enc_length]; exact Nat.le_refl _)
    rw [hLe, enc_length, num_encT] at h
    rw [hEi]
    refine h.mono ?_
    unfold PubOut
    rw [hL, enV _ hX, forth _ hlt, enc_length, enc_num (emL_length room)]
    rintro e w' (⟨_, A1, c1, rfl, hat, hc, _, k⟩ | ⟨hbad, _⟩)
    · exact ⟨A1, c1, rfl, hat, k⟩
    · omega
  · intro w i s hs ea ev aN D A cN cd cap dig sg hN hg hv hD hdl hsz hA hl room
    have hlt := emL_lt (m := m) room hL
    have h := implVerify_nm w m E i L s hs ea ev aN D A cN cd cap dig sg hN lN hm1 hmo (by omega) (by omega) (by omega) mb hg hv hD hdl hsz hA hl hL room
    rw [hLe] at h
    rw [hEi]
    have hval : decide (num sg < m ∧ num sg ^ E % m = num (emL L (pfxOf i) dig)) = (sg == enc L (num (emL L (pfxOf i) dig) ^ secOf a b % m)) := by
      rw [hdd] at forth backth ⊢
      by_cases hq : sg = enc L (num (emL L (pfxOf i) dig) ^ d % m)
      · have hX : num (emL L (pfxOf i) dig) ^ d % m < m := Nat.mod_lt _ (by omega)
        rw [← hq, beq_self_eq_true]
        apply decide_eq_true
        rw [hq, enV _ hX]
        exact ⟨hX, forth _ hlt⟩
      · rw [show (sg == enc L (num (emL L (pfxOf i) dig) ^ d % m)) = false by rw [beq_eq_false_iff_ne]; exact hq]
        apply decide_eq_false
        rintro ⟨h1, h2⟩
        apply hq
        have h3 := backth _ h1
        rw [h2] at h3
        rw [h3, enc_num hl]
    rw [hval] at h
    exact h

end Go.Proofs.YtdmpiecdpdknaaaGreatDoor
