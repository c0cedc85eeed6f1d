/- argument. -/
import Derived.Test.YbulkdhrwFmtA3
namespace Go.Proofs.YbulkdhrwFmt
open Go.RowKit
set_option linter.unusedSimpArgs false
set_option linter.unusedVariables false

/-- What 'byte' hands back where the reader has no byte left. -/
def EndErr (w : World) (bR : Nat) (aE : Addr) (fv vf : Value) : Prop :=
  (fv = .nilIface ∧ w.cell? ⟨1, 0, none⟩ = some vf) ∨ (∃ aF, fv = err aF ∧ vf = err aF ∧ ∀ w', Below bR w w' → (binOp .eql 25 (err aF) (err aE)).run Ybaf.prog w' = .ok (.bool false) w')

theorem EndErr.below {w w' : World} {bR : Nat} {aE : Addr} {fv vf : Value} (h : EndErr w bR aE fv vf) (hb : Below bR w w') (h3 : 3 < bR) : EndErr w' bR aE fv vf := by
  rcases h with ⟨h1, h2⟩ | ⟨aF, h1, h2, h4⟩
  · exact .inl ⟨h1, (hb.cell (p := ⟨1, 0, none⟩) (by show 1 < bR; omega)).trans h2⟩
  · exact .inr ⟨aF, h1, h2, fun w'' hb' => h4 w'' (hb.trans hb')⟩

theorem byte_end (bR bI : Nat) (ao : Option Addr) (n c : Nat) (pos : Nat) (left : Int) (aE : Addr) (fv vf : Value) (w : World)
    (hr : Rd w bR bI (.slice ao n c) fv pos left) (hne : bR < bI) (hl : 1 ≤ left)
    (hge : n ≤ pos) (he : w.cell? ⟨3, 0, none⟩ = some (err aE)) (h3 : 3 < bR) (hx : EndErr w bR aE fv vf) :
    Calls Ybaf.prog 12 #[.pointer (some ⟨bI, 0, none⟩)] w fun e w' => e = .returned (.tuple #[.int .u8 0, vf]) ∧ Rd w' bR bI (.slice ao n c) fv pos left ∧ Below bR w w' := by
  rcases hx with ⟨rfl, h2⟩ | ⟨aF, rfl, rfl, h4⟩
  · exact byte_eof bR bI ao n c pos left aE vf w hr hne hl hge he h2 h3
  · exact byte_fail bR bI ao n c pos left aF aE w hr hne hl hge he h3 h4

theorem EndErr.iface {w : World} {bR : Nat} {aE : Addr} {fv vf : Value} (h : EndErr w bR aE fv vf) (hu : ∃ a, w.cell? ⟨1, 0, none⟩ = some (err a)) : ∃ a, vf = err a := by
  rcases h with ⟨h1, h2⟩ | ⟨aF, h1, h2, h4⟩
  · obtain ⟨a, ha⟩ := hu
    rw [h2] at ha
    exact ⟨a, by simpa using ha⟩
  · exact ⟨aF, h2⟩

set_option maxHeartbeats 400000 in
theorem arg_small (v0 : Value) (info : Int) (w : World) (h0 : 0 ≤ info) (h : info < 24) :
    Calls Ybaf.prog 7 #[v0, .int .u8 info] w fun e w' => e = .returned (.tuple #[.int .u64 info, .nilIface]) ∧ w' = w := by
  go_enter Ybaf.func7, Ybaf.ntmps7
  go_wp2
  go_ret2
  exact ⟨rfl, rfl⟩

set_option maxHeartbeats 400000 in
theorem arg_31 (v0 : Value) (w : World) :
    Calls Ybaf.prog 7 #[v0, .int .u8 31] w fun e w' => ∃ s, e = .returned (.tuple #[.int .u64 0, err ⟨w.heap.size, 0, none⟩]) ∧ w' = w.alloc (.cells #[.string s] 51) := by
  go_enter Ybaf.func7, Ybaf.ntmps7
  go_wp2_with (go_at_call 6; refine (new_any _ _).mono ?_; rintro e w' ⟨rfl, rfl⟩)
  go_ret2
  exact ⟨_, rfl, rfl⟩

theorem be_snoc (l : List Int) (z : Int) : be (l ++ [z]) = be l * 256 + z := by simp [be, List.foldl_append]

theorem foldl_bd (l : List Int) (hz : ∀ z ∈ l, 0 ≤ z ∧ z < 256) : ∀ (a : Int) (j : Nat), 0 ≤ a → a < 256 ^ j → 0 ≤ l.foldl (fun a b => a * 256 + b) a ∧ l.foldl (fun a b => a * 256 + b) a < 256 ^ (j + l.length) := by
  induction l with
  | nil => intro a j h0 h1; exact ⟨h0, by simpa using h1⟩
  | cons x l ih =>
    intro a j h0 h1
    have hx := hz x (by simp)
    have h := ih (fun z hm => hz z (by simp [hm])) (a * 256 + x) (j + 1) (by omega) (by rw [Int.pow_succ]; omega)
    simp only [List.foldl_cons, List.length_cons]
    rw [show j + (l.length + 1) = j + 1 + l.length by omega]
    exact h

theorem be_bd (l : List Int) (hz : ∀ z ∈ l, 0 ≤ z ∧ z < 256) : 0 ≤ be l ∧ be l < 256 ^ l.length := by
  simpa [be] using foldl_bd l hz 0 0 (by omega) (by omega)

theorem be_bd7 (l : List Int) (k : Nat) (hz : ∀ z ∈ l, 0 ≤ z ∧ z < 256) (hk : k ≤ 7) : 0 ≤ be (l.take k) ∧ be (l.take k) < 72057594037927936 := by
  have h := be_bd (l.take k) (fun z hm => hz z (List.mem_of_mem_take hm))
  have hl : (l.take k).length ≤ 7 := by simp; omega
  have hp : (256 : Int) ^ (l.take k).length ≤ 72057594037927936 := by
    have h1 : (256 : Nat) ^ (l.take k).length ≤ 256 ^ 7 := Nat.pow_le_pow_right (by omega) hl
    have h2 : ((256 ^ (l.take k).length : Nat) : Int) ≤ ((256 ^ 7 : Nat) : Int) := Int.ofNat_le.2 h1
    rw [Int.natCast_pow] at h2
    exact h2
  exact ⟨h.1, Int.lt_of_lt_of_le h.2 hp⟩

theorem take_succ_getD (l : List Int) (k : Nat) (h : k < l.length) : l.take (k + 1) = l.take k ++ [l.getD k 0] := by
  rw [List.take_succ_eq_append_getElem h]; simp [h]

theorem getD_mem (l : List Int) (k : Nat) (h : k < l.length) : l.getD k 0 ∈ l := by simp [List.getD, h]

theorem or_join (x z : Int) (hx : 0 ≤ x) (hx1 : x < 72057594037927936) (hz : 0 ≤ z) (hz1 : z < 256) : bits .or .u64 (x * 256) z = x * 256 + z := by
  have hc : bits .or .u64 (x * 256) z = bits .or .u64 z (x * 256) := by simp only [bits, BitVec.or_comm]
  rw [hc, u64_or8 _ _ hz hz1 (by omega) (by omega) (by omega)]; omega

/-- How 'argument' ends where it reads 's' bytes. -/
def ArgEnd (bR bI : Nat) (dat fv vt vf : Value) (n s : Nat) (left : Int) (zs : List Int) (e : Ending) (w' : World) : Prop :=
  ((s : Int) ≤ left ∧ s ≤ n ∧ e = .returned (.tuple #[.int .u64 (be (zs.take s)), .nilIface]) ∧ Rd w' bR bI dat fv s (left - s)) ∨
  (∃ k : Nat, k < s ∧ k ≤ n ∧ (left = k ∨ (left < 0 ∧ k = 0)) ∧ e = .returned (.tuple #[.int .u64 0, vt]) ∧ Rd w' bR bI dat fv k (left - k)) ∨
  (n < s ∧ (n : Int) < left ∧ e = .returned (.tuple #[.int .u64 0, vf]) ∧ Rd w' bR bI dat fv n (left - n))

set_option maxHeartbeats 2000000 in
theorem arg_loop (bR bI : Nat) (ao : Option Addr) (n c s : Nat) (left info : Int) (zs : List Int) (aE aT aU : Addr) (fv vf : Value) (w : World)
    (hs : (info = 24 ∧ s = 1) ∨ (info = 25 ∧ s = 2) ∨ (info = 26 ∧ s = 4) ∨ (info = 27 ∧ s = 8))
    (hr : Rd w bR bI (.slice ao n c) fv 0 left) (hne : bR < bI) (hl : -9223372036854775808 ≤ left) (hl2 : left ≤ 9223372036854775807) (hn : n ≤ 1048576)
    (hz : n ≤ zs.length) (hzb : ∀ z ∈ zs, 0 ≤ z ∧ z < 256)
    (hao : n = 0 ∨ ∃ bD off, ao = some ⟨bD, off, none⟩ ∧ bD < bR ∧ ∀ k, k < n → w.cell? ⟨bD, off + k, none⟩ = some (.int .u8 (zs.getD k 0)))
    (ht : w.cell? ⟨0, 0, none⟩ = some (err aT)) (hu : w.cell? ⟨1, 0, none⟩ = some (err aU)) (he : w.cell? ⟨3, 0, none⟩ = some (err aE)) (h3 : 3 < bR) (hx : EndErr w bR aE fv vf) :
    Calls Ybaf.prog 7 #[.pointer (some ⟨bI, 0, none⟩), .int .u8 info] w fun e w' => ArgEnd bR bI (.slice ao n c) fv (err aT) vf n s left zs e w' ∧ Below bR w w' := by
  have HR : Hid (Rd w bR bI (.slice ao n c) fv 0 left) := hr
  have HX : Hid (EndErr w bR aE fv vf) := hx
  have HZ : Hid (∀ z ∈ zs, 0 ≤ z ∧ z < 256) := hzb
  have HA : Hid (n = 0 ∨ ∃ bD off, ao = some ⟨bD, off, none⟩ ∧ bD < bR ∧ ∀ k, k < n → w.cell? ⟨bD, off + k, none⟩ = some (.int .u8 (zs.getD k 0))) := hao
  clear hr hx hzb hao
  have hs8 : s ≤ 8 := by omega
  go_enter Ybaf.func7, Ybaf.ntmps7
  rcases hs with ⟨rfl, hs⟩ | ⟨rfl, hs⟩ | ⟨rfl, hs⟩ | ⟨rfl, hs⟩
  · subst hs
    go_wp2
    go_loopw [7, 31] (fun ar i wr => ∃ k : Nat, k ≤ 1 ∧ k ≤ n ∧ (k = 0 ∨ (k : Int) ≤ left) ∧ ar = .int .u64 (be (zs.take k)) ∧ i = .int .i64 k ∧ Hid (Rd wr bR bI (.slice ao n c) fv k (left - k)) ∧ Hid (Below bR w wr)) (fun _ i _ => 1 - (intOf i).toNat)
    case atStart => exact ⟨0, by omega, by omega, .inl rfl, rfl, rfl, by simpa [Hid] using HR, Below.refl _ _⟩
    case round =>
      obtain ⟨k, hk, hkn, hkl, rfl, rfl, hrk, hbk⟩ := hrel
      by_cases hks : k < 1
      · have hv := be_bd7 zs k HZ.out (by omega)
        by_cases hlk : left - k < 1
        · have htk := (hbk.out.cell (p := ⟨0, 0, none⟩) (by show 0 < bR; omega)).trans ht
          go_wp2_with (go_at_call 12; refine (byte_large bR bI _ _ _ _ _ _ hlk hrk.out htk).mono ?_; rintro e w1 ⟨rfl, hr1, hb1⟩)
          go_ret2
          exact ⟨.inr (.inl ⟨k, hks, hkn, by omega, rfl, hr1⟩), hbk.out.trans hb1⟩
        · have hek := (hbk.out.cell (p := ⟨3, 0, none⟩) (by show 3 < bR; omega)).trans he
          by_cases hkn2 : k < n
          · obtain ⟨bD, off, rfl, hbD, hc⟩ := HA.out.resolve_left (by omega)
            have cz := (hbk.out.cell (p := ⟨bD, off + k, none⟩) hbD).trans (hc k hkn2)
            have hzk := HZ.out (zs.getD k 0) (getD_mem zs k (by omega))
            have hbe : Hid (be (zs.take (k + 1)) = be (zs.take k) * 256 + zs.getD k 0) := by rw [Hid, take_succ_getD zs k (by omega), be_snoc]
            clear hc
            generalize zs.getD k 0 = z at *
            generalize hvv : be (zs.take k) = v at *
            have HV : Hid (be (zs.take k) = v) := hvv
            clear hvv
            go_wp2_with (go_at_call 12; refine (byte_more bR bI bD off n c k (left - k) z fv aE _ hrk.out hne (by omega) (by omega) hkn2 hn cz hek h3).mono ?_; rintro e w1 ⟨rfl, hr1, hb1⟩; clear cz hek)
            go_roundw
            case rel =>
              refine ⟨k + 1, by omega, by omega, by omega, ?_, by go_num, ?_, hbk.out.trans hb1⟩
              · rw [hbe.out, ← or_join v z hv.1 hv.2 hzk.1 hzk.2]
              · rw [Hid, show left - ((k + 1 : Nat) : Int) = left - k - 1 by omega]; exact hr1
            case measure => simp [intOf]; omega
          · obtain ⟨a, rfl⟩ := HX.out.iface ⟨aU, hu⟩
            go_wp2_with (go_at_call 12; refine (byte_end bR bI ao n c k (left - k) aE fv _ _ hrk.out hne (by omega) (by omega) hek h3 (HX.out.below hbk.out h3)).mono ?_; rintro e w1 ⟨rfl, hr1, hb1⟩)
            go_ret2
            obtain rfl : k = n := by omega
            exact ⟨.inr (.inr ⟨hks, by omega, rfl, hr1⟩), hbk.out.trans hb1⟩
      · go_wp2
        go_ret2
        obtain rfl : k = 1 := by omega
        exact ⟨.inl ⟨by omega, by omega, rfl, hrk.out⟩, hbk.out⟩
  · subst hs
    go_wp2
    go_loopw [7, 31] (fun ar i wr => ∃ k : Nat, k ≤ 2 ∧ k ≤ n ∧ (k = 0 ∨ (k : Int) ≤ left) ∧ ar = .int .u64 (be (zs.take k)) ∧ i = .int .i64 k ∧ Hid (Rd wr bR bI (.slice ao n c) fv k (left - k)) ∧ Hid (Below bR w wr)) (fun _ i _ => 2 - (intOf i).toNat)
    case atStart => exact ⟨0, by omega, by omega, .inl rfl, rfl, rfl, by simpa [Hid] using HR, Below.refl _ _⟩
    case round =>
      obtain ⟨k, hk, hkn, hkl, rfl, rfl, hrk, hbk⟩ := hrel
      by_cases hks : k < 2
      · have hv := be_bd7 zs k HZ.out (by omega)
        by_cases hlk : left - k < 1
        · have htk := (hbk.out.cell (p := ⟨0, 0, none⟩) (by show 0 < bR; omega)).trans ht
          go_wp2_with (go_at_call 12; refine (byte_large bR bI _ _ _ _ _ _ hlk hrk.out htk).mono ?_; rintro e w1 ⟨rfl, hr1, hb1⟩)
          go_ret2
          exact ⟨.inr (.inl ⟨k, hks, hkn, by omega, rfl, hr1⟩), hbk.out.trans hb1⟩
        · have hek := (hbk.out.cell (p := ⟨3, 0, none⟩) (by show 3 < bR; omega)).trans he
          by_cases hkn2 : k < n
          · obtain ⟨bD, off, rfl, hbD, hc⟩ := HA.out.resolve_left (by omega)
            have cz := (hbk.out.cell (p := ⟨bD, off + k, none⟩) hbD).trans (hc k hkn2)
            have hzk := HZ.out (zs.getD k 0) (getD_mem zs k (by omega))
            have hbe : Hid (be (zs.take (k + 1)) = be (zs.take k) * 256 + zs.getD k 0) := by rw [Hid, take_succ_getD zs k (by omega), be_snoc]
            clear hc
            generalize zs.getD k 0 = z at *
            generalize hvv : be (zs.take k) = v at *
            have HV : Hid (be (zs.take k) = v) := hvv
            clear hvv
            go_wp2_with (go_at_call 12; refine (byte_more bR bI bD off n c k (left - k) z fv aE _ hrk.out hne (by omega) (by omega) hkn2 hn cz hek h3).mono ?_; rintro e w1 ⟨rfl, hr1, hb1⟩; clear cz hek)
            go_roundw
            case rel =>
              refine ⟨k + 1, by omega, by omega, by omega, ?_, by go_num, ?_, hbk.out.trans hb1⟩
              · rw [hbe.out, ← or_join v z hv.1 hv.2 hzk.1 hzk.2]
              · rw [Hid, show left - ((k + 1 : Nat) : Int) = left - k - 1 by omega]; exact hr1
            case measure => simp [intOf]; omega
          · obtain ⟨a, rfl⟩ := HX.out.iface ⟨aU, hu⟩
            go_wp2_with (go_at_call 12; refine (byte_end bR bI ao n c k (left - k) aE fv _ _ hrk.out hne (by omega) (by omega) hek h3 (HX.out.below hbk.out h3)).mono ?_; rintro e w1 ⟨rfl, hr1, hb1⟩)
            go_ret2
            obtain rfl : k = n := by omega
            exact ⟨.inr (.inr ⟨hks, by omega, rfl, hr1⟩), hbk.out.trans hb1⟩
      · go_wp2
        go_ret2
        obtain rfl : k = 2 := by omega
        exact ⟨.inl ⟨by omega, by omega, rfl, hrk.out⟩, hbk.out⟩
  · subst hs
    go_wp2
    go_loopw [7, 31] (fun ar i wr => ∃ k : Nat, k ≤ 4 ∧ k ≤ n ∧ (k = 0 ∨ (k : Int) ≤ left) ∧ ar = .int .u64 (be (zs.take k)) ∧ i = .int .i64 k ∧ Hid (Rd wr bR bI (.slice ao n c) fv k (left - k)) ∧ Hid (Below bR w wr)) (fun _ i _ => 4 - (intOf i).toNat)
    case atStart => exact ⟨0, by omega, by omega, .inl rfl, rfl, rfl, by simpa [Hid] using HR, Below.refl _ _⟩
    case round =>
      obtain ⟨k, hk, hkn, hkl, rfl, rfl, hrk, hbk⟩ := hrel
      by_cases hks : k < 4
      · have hv := be_bd7 zs k HZ.out (by omega)
        by_cases hlk : left - k < 1
        · have htk := (hbk.out.cell (p := ⟨0, 0, none⟩) (by show 0 < bR; omega)).trans ht
          go_wp2_with (go_at_call 12; refine (byte_large bR bI _ _ _ _ _ _ hlk hrk.out htk).mono ?_; rintro e w1 ⟨rfl, hr1, hb1⟩)
          go_ret2
          exact ⟨.inr (.inl ⟨k, hks, hkn, by omega, rfl, hr1⟩), hbk.out.trans hb1⟩
        · have hek := (hbk.out.cell (p := ⟨3, 0, none⟩) (by show 3 < bR; omega)).trans he
          by_cases hkn2 : k < n
          · obtain ⟨bD, off, rfl, hbD, hc⟩ := HA.out.resolve_left (by omega)
            have cz := (hbk.out.cell (p := ⟨bD, off + k, none⟩) hbD).trans (hc k hkn2)
            have hzk := HZ.out (zs.getD k 0) (getD_mem zs k (by omega))
            have hbe : Hid (be (zs.take (k + 1)) = be (zs.take k) * 256 + zs.getD k 0) := by rw [Hid, take_succ_getD zs k (by omega), be_snoc]
            clear hc
            generalize zs.getD k 0 = z at *
            generalize hvv : be (zs.take k) = v at *
            have HV : Hid (be (zs.take k) = v) := hvv
            clear hvv
            go_wp2_with (go_at_call 12; refine (byte_more bR bI bD off n c k (left - k) z fv aE _ hrk.out hne (by omega) (by omega) hkn2 hn cz hek h3).mono ?_; rintro e w1 ⟨rfl, hr1, hb1⟩; clear cz hek)
            go_roundw
            case rel =>
              refine ⟨k + 1, by omega, by omega, by omega, ?_, by go_num, ?_, hbk.out.trans hb1⟩
              · rw [hbe.out, ← or_join v z hv.1 hv.2 hzk.1 hzk.2]
              · rw [Hid, show left - ((k + 1 : Nat) : Int) = left - k - 1 by omega]; exact hr1
            case measure => simp [intOf]; omega
          · obtain ⟨a, rfl⟩ := HX.out.iface ⟨aU, hu⟩
            go_wp2_with (go_at_call 12; refine (byte_end bR bI ao n c k (left - k) aE fv _ _ hrk.out hne (by omega) (by omega) hek h3 (HX.out.below hbk.out h3)).mono ?_; rintro e w1 ⟨rfl, hr1, hb1⟩)
            go_ret2
            obtain rfl : k = n := by omega
            exact ⟨.inr (.inr ⟨hks, by omega, rfl, hr1⟩), hbk.out.trans hb1⟩
      · go_wp2
        go_ret2
        obtain rfl : k = 4 := by omega
        exact ⟨.inl ⟨by omega, by omega, rfl, hrk.out⟩, hbk.out⟩
  · subst hs
    go_wp2
    go_loopw [7, 31] (fun ar i wr => ∃ k : Nat, k ≤ 8 ∧ k ≤ n ∧ (k = 0 ∨ (k : Int) ≤ left) ∧ ar = .int .u64 (be (zs.take k)) ∧ i = .int .i64 k ∧ Hid (Rd wr bR bI (.slice ao n c) fv k (left - k)) ∧ Hid (Below bR w wr)) (fun _ i _ => 8 - (intOf i).toNat)
    case atStart => exact ⟨0, by omega, by omega, .inl rfl, rfl, rfl, by simpa [Hid] using HR, Below.refl _ _⟩
    case round =>
      obtain ⟨k, hk, hkn, hkl, rfl, rfl, hrk, hbk⟩ := hrel
      by_cases hks : k < 8
      · have hv := be_bd7 zs k HZ.out (by omega)
        by_cases hlk : left - k < 1
        · have htk := (hbk.out.cell (p := ⟨0, 0, none⟩) (by show 0 < bR; omega)).trans ht
          go_wp2_with (go_at_call 12; refine (byte_large bR bI _ _ _ _ _ _ hlk hrk.out htk).mono ?_; rintro e w1 ⟨rfl, hr1, hb1⟩)
          go_ret2
          exact ⟨.inr (.inl ⟨k, hks, hkn, by omega, rfl, hr1⟩), hbk.out.trans hb1⟩
        · have hek := (hbk.out.cell (p := ⟨3, 0, none⟩) (by show 3 < bR; omega)).trans he
          by_cases hkn2 : k < n
          · obtain ⟨bD, off, rfl, hbD, hc⟩ := HA.out.resolve_left (by omega)
            have cz := (hbk.out.cell (p := ⟨bD, off + k, none⟩) hbD).trans (hc k hkn2)
            have hzk := HZ.out (zs.getD k 0) (getD_mem zs k (by omega))
            have hbe : Hid (be (zs.take (k + 1)) = be (zs.take k) * 256 + zs.getD k 0) := by rw [Hid, take_succ_getD zs k (by omega), be_snoc]
            clear hc
            generalize zs.getD k 0 = z at *
            generalize hvv : be (zs.take k) = v at *
            have HV : Hid (be (zs.take k) = v) := hvv
            clear hvv
            go_wp2_with (go_at_call 12; refine (byte_more bR bI bD off n c k (left - k) z fv aE _ hrk.out hne (by omega) (by omega) hkn2 hn cz hek h3).mono ?_; rintro e w1 ⟨rfl, hr1, hb1⟩; clear cz hek)
            go_roundw
            case rel =>
              refine ⟨k + 1, by omega, by omega, by omega, ?_, by go_num, ?_, hbk.out.trans hb1⟩
              · rw [hbe.out, ← or_join v z hv.1 hv.2 hzk.1 hzk.2]
              · rw [Hid, show left - ((k + 1 : Nat) : Int) = left - k - 1 by omega]; exact hr1
            case measure => simp [intOf]; omega
          · obtain ⟨a, rfl⟩ := HX.out.iface ⟨aU, hu⟩
            go_wp2_with (go_at_call 12; refine (byte_end bR bI ao n c k (left - k) aE fv _ _ hrk.out hne (by omega) (by omega) hek h3 (HX.out.below hbk.out h3)).mono ?_; rintro e w1 ⟨rfl, hr1, hb1⟩)
            go_ret2
            obtain rfl : k = n := by omega
            exact ⟨.inr (.inr ⟨hks, by omega, rfl, hr1⟩), hbk.out.trans hb1⟩
      · go_wp2
        go_ret2
        obtain rfl : k = 8 := by omega
        exact ⟨.inl ⟨by omega, by omega, rfl, hrk.out⟩, hbk.out⟩

end Go.Proofs.YbulkdhrwFmt
