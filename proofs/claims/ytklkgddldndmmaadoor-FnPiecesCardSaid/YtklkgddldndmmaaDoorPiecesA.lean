/- Lists of bytes in pieces: the walks of zzFits9, Blocks and Join. -/
import Derived.Test.YtklkgddldndmmaaDoorTextW
import Derived.Test.YtklkgddldndmmaaDoorWrite
namespace Go.Proofs.YtklkgddldndmmaaDoor
open Go.RowKit
set_option linter.unusedVariables false
set_option linter.unusedSimpArgs false

/-- A [][]byte that reads as pieces. -/
def RdL (w : World) (B : Nat) (A : Option Addr) (n : Nat) (bs : List (List UInt8)) : Prop :=
  bs.length = n ∧ (0 < n → ∃ b o, A = some ⟨b, o, none⟩ ∧ b < B ∧ ∀ (i : Nat) l, bs[i]? = some l → ∃ Ab nb cb, w.cell? ⟨b, o + i, none⟩ = some (.slice Ab nb cb) ∧ RdB w B Ab nb l)
theorem RdL.below {w w' : World} {B : Nat} {A : Option Addr} {n : Nat} {bs : List (List UInt8)} (h : RdL w B A n bs) (hb : Below B w w') : RdL w' B A n bs :=
  ⟨h.1, fun hn => by
    obtain ⟨b, o, e, hB, hc⟩ := h.2 hn
    refine ⟨b, o, e, hB, fun i x hx => ?_⟩
    obtain ⟨Ab, nb, cb, c1, h1⟩ := hc i x hx
    exact ⟨Ab, nb, cb, (hb.cell (p := ⟨b, o + i, none⟩) hB).trans c1, h1.below hb⟩⟩
theorem RdL.more {w : World} {B B' : Nat} {A : Option Addr} {n : Nat} {bs : List (List UInt8)} (h : RdL w B A n bs) (hB : B ≤ B') : RdL w B' A n bs :=
  ⟨h.1, fun hn => by
    obtain ⟨b, o, e, hb, hc⟩ := h.2 hn
    refine ⟨b, o, e, by omega, fun i x hx => ?_⟩
    obtain ⟨Ab, nb, cb, c1, h1⟩ := hc i x hx
    exact ⟨Ab, nb, cb, c1, h1.more hB⟩⟩

set_option maxHeartbeats 1000000 in
theorem fits9_any (A : Option Addr) (n c B : Nat) (bs : List (List UInt8)) (w : World) (hn : n ≤ 9223372036854775807) (hr : RdL w B A n bs) :
    Calls Tryd.prog 21 #[.slice A n c] w fun e w' => SayB True e ∧ w = w' := by
  by_cases h1 : n ≤ 2147483647
  · have HR := Lib.hid hr
    clear hr
    go_enter Tryd.func21, Tryd.ntmps21
    go_wp2
    go_loop [10] (fun i => ∃ k : Nat, k ≤ n ∧ i = .int .i64 k) (fun i => n - (intOf i).toNat)
    case atStart => exact ⟨0, Nat.zero_le _, rfl⟩
    case round =>
      obtain ⟨k, hk, rfl⟩ := hrel
      by_cases hlt : k < n
      · obtain ⟨b, o, rfl, hb, hc⟩ := HR.out.2 (by omega)
        obtain ⟨l, hs⟩ : ∃ s, bs[k]? = some s := ⟨_, List.getElem?_eq_getElem (by rw [HR.out.1]; exact hlt)⟩
        obtain ⟨Ab, nb, cb, ck, _⟩ := hc k l hs
        clear hc hs
        by_cases h2 : nb ≤ 2147483647
        · go_wp2
          go_round
          case rel => exact ⟨k + 1, by omega, by go_num⟩
          case measure => simp [intOf]; omega
        · go_wp2
          go_ret
          exact ⟨SayB.no, rfl⟩
      · go_wp2
        go_ret
        exact ⟨SayB.yes trivial, rfl⟩
  · clear hr
    go_enter Tryd.func21, Tryd.ntmps21
    go_wp2
    go_ret
    exact ⟨SayB.no, rfl⟩

set_option maxHeartbeats 1000000 in
theorem blocks_any (A : Option Addr) (n c B : Nat) (bs : List (List UInt8)) (w : World) (hn : n ≤ 9223372036854775807) (hr : RdL w B A n bs) :
    Calls Tryd.prog 22 #[.slice A n c] w fun e w' => SayB (bs.length ≤ 65536 ∧ ∀ l ∈ bs, l.length ≤ 16777216) e ∧ w = w' := by
  have HR := Lib.hid hr
  clear hr
  go_enter Tryd.func22, Tryd.ntmps22
  go_wp2
  go_loop [7] (fun i => ∃ k : Nat, k ≤ n ∧ i = .int .i64 k ∧ Hid (∀ (i : Nat) l, i < k → bs[i]? = some l → l.length ≤ 16777216)) (fun i => n - (intOf i).toNat)
  case atStart => exact ⟨0, Nat.zero_le _, rfl, Lib.hid fun i s h => absurd h (by omega)⟩
  case round =>
    obtain ⟨k, hk, rfl, HP⟩ := hrel
    by_cases hlt : k < n
    · obtain ⟨b, o, rfl, hb, hc⟩ := HR.out.2 (by omega)
      obtain ⟨l, hs⟩ : ∃ s, bs[k]? = some s := ⟨_, List.getElem?_eq_getElem (by rw [HR.out.1]; exact hlt)⟩
      obtain ⟨Ab, nb, cb, ck, hl⟩ := hc k l hs
      have hll := hl.len
      clear hc hl
      by_cases h2 : nb ≤ 16777216
      · have HN := Lib.hid (idx_succ HP.out hs (by rw [hll]; exact h2))
        clear hs hll
        go_wp2
        go_round
        case rel => exact ⟨k + 1, by omega, by go_num, HN⟩
        case measure => simp [intOf]; omega
      · clear hs hll
        go_wp2
        go_ret
        exact ⟨SayB.no, rfl⟩
    · have HN := Lib.hid (all_of_idx (n := k) (by rw [HR.out.1]; omega) HP.out)
      by_cases h3 : n ≤ 65536
      · go_wp2
        go_ret
        exact ⟨⟨_, rfl, fun _ => ⟨by rw [HR.out.1]; exact h3, HN.out⟩⟩, rfl⟩
      · go_wp2
        go_ret
        exact ⟨⟨_, rfl, fun h => absurd h (by simp; omega)⟩, rfl⟩

theorem flat_take (bs : List (List UInt8)) (k : Nat) : (bs.take k).flatten.length ≤ bs.flatten.length := by
  have h := congrArg (fun l : List (List UInt8) => l.flatten.length) (List.take_append_drop k bs)
  simp only [List.flatten_append, List.length_append] at h
  omega
theorem flat_at {bs : List (List UInt8)} {k : Nat} {l : List UInt8} (h : bs[k]? = some l) : (bs.take (k + 1)).flatten = (bs.take k).flatten ++ l := by
  rw [take_at h, List.flatten_append]
  simp
theorem flat_len (m : Nat) : ∀ (bs : List (List UInt8)), (∀ l ∈ bs, l.length ≤ m) → bs.flatten.length ≤ bs.length * m
  | [], _ => by simp
  | l :: r, h => by
    have h1 := flat_len m r (fun x hx => h x (List.mem_cons_of_mem _ hx))
    have h2 := h l (List.mem_cons_self ..)
    rw [List.flatten_cons, List.length_append, List.length_cons, Nat.add_mul, Nat.one_mul]
    omega

set_option maxHeartbeats 2000000 in
theorem join_any (A : Option Addr) (n c : Nat) (bs : List (List UInt8)) (w : World) (hn : n ≤ 9223372036854775807) (hl : bs.flatten.length ≤ 140737487000000) (hr : RdL w w.heap.size A n bs) :
    Calls Tryd.prog 23 #[.slice A n c] w fun e w' => ∃ v, e = .returned v ∧ OutRow w w' v bs.flatten := by
  have HR := Lib.hid hr
  have HL := Lib.hid hl
  clear hr hl
  go_enter Tryd.func23, Tryd.ntmps23
  go_wp2_with fail
  go_loopw [3, 8] (fun v i wr => ∃ k : Nat, k ≤ n ∧ i = .int .i64 k ∧ Hid (OutRow w wr v (bs.take k).flatten)) (fun _ i _ => n - (intOf i).toNat)
  case atStart => exact ⟨0, Nat.zero_le _, rfl, OutRow.nil w⟩
  case round =>
    obtain ⟨k, hk, rfl, HO⟩ := hrel
    by_cases hlt : k < n
    · obtain ⟨b, o, rfl, hb, hc⟩ := HR.out.2 (by omega)
      obtain ⟨l, hs⟩ : ∃ s, bs[k]? = some s := ⟨_, List.getElem?_eq_getElem (by rw [HR.out.1]; exact hlt)⟩
      obtain ⟨Ab, nb, cb, ck, hlr⟩ := hc k l hs
      have d1 := (HO.out.below.cell (p := ⟨b, o + k, none⟩) hb).trans ck
      have HRl := Lib.hid (hlr.below HO.out.below)
      have HN := Lib.hid (flat_at hs)
      have HZ : Hid ((bs.take k).flatten.length + nb ≤ 140737488000000) := by
        show _ ≤ _
        have h1 := flat_take bs (k + 1)
        rw [flat_at hs, List.length_append, hlr.len] at h1
        have h2 := HL.out
        omega
      clear hc ck hlr hs
      go_wp2_with (at_builtin; refine wpList_out_bytes rfl (.tmp 12) (.tmp 13) rfl rfl HO.out w.heap.size Ab nb cb l rfl HRl.out HZ.out ?_; intro v3 w3 hO3 hK3)
      rw [← HN.out] at hO3
      have HO3 := Lib.hid hO3
      clear hO3 hK3 d1
      go_wp2_with fail
      go_roundw
      case rel => exact ⟨k + 1, by omega, by go_num, HO3⟩
      case measure => simp [intOf]; omega
    · have hO := HO.out
      have ht : bs.take k = bs := List.take_of_length_le (by rw [HR.out.1]; omega)
      rw [ht] at hO
      have HO2 := Lib.hid hO
      clear hO ht
      go_wp2
      go_ret
      exact ⟨_, rfl, HO2.out⟩

end Go.Proofs.YtklkgddldndmmaaDoor
