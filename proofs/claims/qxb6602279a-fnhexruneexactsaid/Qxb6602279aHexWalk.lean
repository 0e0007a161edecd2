import Derived.Test.Qxb6602279aBase
import Derived.Test.Qxb6602279aHexPlain
import Derived.Laws.DeepBits32
namespace Go.Proofs.Qxb6602279a
open Go.RowKit Plain

theorem fold_any (c : Int) (w : World) (h0 : 0 ≤ c) (h1 : c ≤ 255) :
    Calls Try.prog 19 #[.int .u8 c] w fun e w' => e = .returned (.int .u8 (fold c)) ∧ w' = w := by
  by_cases h : 65 ≤ c ∧ c ≤ 90
  · have hf : Hid (fold c = c + 32) := by show _ = _; unfold fold; rw [if_pos h]
    obtain ⟨h2, h3⟩ := h
    go_enter Try.func19, Try.ntmps19
    go_wp2
    go_ret
    exact ⟨ret_int (by rw [hf.out]), rfl⟩
  · have hf : Hid (fold c = c) := by show _ = _; unfold fold; rw [if_neg h]
    by_cases h2 : 65 ≤ c
    · have h3 : ¬ c ≤ 90 := by omega
      clear h
      go_enter Try.func19, Try.ntmps19
      go_wp2
      go_ret
      exact ⟨ret_int (by rw [hf.out]), rfl⟩
    · clear h
      go_enter Try.func19, Try.ntmps19
      go_wp2
      go_ret
      exact ⟨ret_int (by rw [hf.out]), rfl⟩


theorem hex_at (k : Nat) (h : k < 16) (hp : k < (ByteArray.mk #[48, 49, 50, 51, 52, 53, 54, 55, 56, 57, 97, 98, 99, 100, 101, 102]).size) :
    ((((ByteArray.mk #[48, 49, 50, 51, 52, 53, 54, 55, 56, 57, 97, 98, 99, 100, 101, 102])[k]'hp).toNat : Nat) : Int) = hexd (k : Int) := by
  match k, h with
  | 0, _ => rfl
  | 1, _ => rfl
  | 2, _ => rfl
  | 3, _ => rfl
  | 4, _ => rfl
  | 5, _ => rfl
  | 6, _ => rfl
  | 7, _ => rfl
  | 8, _ => rfl
  | 9, _ => rfl
  | 10, _ => rfl
  | 11, _ => rfl
  | 12, _ => rfl
  | 13, _ => rfl
  | 14, _ => rfl
  | 15, _ => rfl
  | k + 16, h => omega

theorem ret_bool {a b : Bool} (h : a = b) : Ending.returned (.bool a) = .returned (.bool b) := by rw [h]

theorem hex_found {c : Int} {k : Nat} (h : k < 16) (hp : k < (ByteArray.mk #[48, 49, 50, 51, 52, 53, 54, 55, 56, 57, 97, 98, 99, 100, 101, 102]).size)
    (e : (((((ByteArray.mk #[48, 49, 50, 51, 52, 53, 54, 55, 56, 57, 97, 98, 99, 100, 101, 102])[k]'hp).toNat : Nat) : Int) == fold c) = true) : true = isHex c := by
  rw [hex_at k h hp] at e
  simp at e
  cases hb : isHex c with
  | true => rfl
  | false => exact absurd e (fold_no hb k (by omega) (by omega))
theorem hex_next {c : Int} {k : Nat} (h : k < 16) (hp : k < (ByteArray.mk #[48, 49, 50, 51, 52, 53, 54, 55, 56, 57, 97, 98, 99, 100, 101, 102]).size)
    (hn : ∀ j : Nat, j < k → hexd j ≠ fold c)
    (e : (((((ByteArray.mk #[48, 49, 50, 51, 52, 53, 54, 55, 56, 57, 97, 98, 99, 100, 101, 102])[k]'hp).toNat : Nat) : Int) == fold c) = false) : ∀ j : Nat, j < k + 1 → hexd j ≠ fold c := by
  rw [hex_at k h hp] at e
  simp at e
  intro j hj
  by_cases q : j = k
  · rw [q]; exact e
  · exact hn j (by omega)
theorem hex_none {c : Int} {k : Nat} (h : ¬ k < 16) (hn : ∀ j : Nat, j < k → hexd j ≠ fold c) : false = isHex c := by
  cases hb : isHex c with
  | false => rfl
  | true =>
    have h1 := (isHex_iff c).1 hb
    have h2 := hv_bd c
    have h3 := hn (hv c).toNat (by omega)
    rw [show (((hv c).toNat : Nat) : Int) = hv c by omega] at h3
    exact absurd (fold_hexd hb).symm h3

set_option maxHeartbeats 400000 in
theorem isHex_any (c : Int) (w : World) (h0 : 0 ≤ c) (h1 : c ≤ 255) :
    Calls Try.prog 18 #[.int .u8 c] w fun e w' => e = .returned (.bool (isHex c)) ∧ w' = w := by
  go_enter Try.func18, Try.ntmps18
  go_wp2_with (go_at_call 19; refine (fold_any _ _ h0 h1).mono ?_; rintro _ _ ⟨rfl, hw⟩; obtain rfl := hw.symm)
  go_loop [4] (fun v => ∃ k : Nat, k ≤ 16 ∧ v = .int .i64 k ∧ Hid (∀ j : Nat, j < k → hexd j ≠ fold c)) (fun v => 16 - (intOf v).toNat)
  case atStart => exact ⟨0, by omega, rfl, fun j hj => by omega⟩
  case round =>
    obtain ⟨k, hk, rfl, HN⟩ := hrel
    by_cases hlt : k < 16
    · go_wp2
      · go_ret
        exact ⟨ret_bool (hex_found hlt _ ‹_›), rfl⟩
      · go_round
        case rel => exact ⟨k + 1, by omega, by go_num, hex_next hlt _ HN.out ‹_›⟩
        case measure => simp [intOf]; omega
    · go_wp2
      go_ret
      exact ⟨ret_bool (hex_none hlt HN.out), rfl⟩

theorem or16 (r d : Int) (h0 : 0 ≤ r) (h1 : r < 4096) (d0 : 0 ≤ d) (d1 : d < 16) : bits .or .i32 (r * 16) d = r * 16 + d := by
  obtain ⟨a, rfl⟩ : ∃ a : Nat, r = a := ⟨r.toNat, by omega⟩
  obtain ⟨b, rfl⟩ : ∃ b : Nat, d = b := ⟨d.toNat, by omega⟩
  rw [show (a : Int) * 16 = ((a * 16 : Nat) : Int) by omega]
  show IntKind.i32.wrap ((BitVec.ofInt 32 ((a * 16 : Nat) : Int) ||| BitVec.ofInt 32 (b : Int)).toNat : Int) = _
  rw [BitVec.toNat_or, ofInt_u32 (a * 16) (by omega), ofInt_u32 b (by omega), nat_join 4 (a * 16) b (by omega) (by omega)]
  rw [wrap_i32_small _ (by omega) (by omega)]
  omega

theorem hexAcc_next {g : Nat → Int} {k : Nat} {d x : Int} (h0 : 0 ≤ hexAcc g k) (h1 : hexAcc g k < 4096) (d0 : 0 ≤ d) (d1 : d < 16) (hx : x = d) (hd : hv (g k) = d) :
    Value.int .i32 (bits .or .i32 (hexAcc g k * 16) x) = .int .i32 (hexAcc g (k + 1)) := by
  rw [hx, or16 _ _ h0 h1 d0 d1, hexAcc, hd]
theorem allHex_next {g : Nat → Int} {k : Nat} (h : allHex g k = true) (h2 : 0 ≤ hv (g k)) : allHex g (k + 1) = true := by
  rw [allHex, h, (isHex_iff _).2 h2]; rfl
theorem allHex_not {g : Nat → Int} {k : Nat} (hk : k < 4) (h2 : hv (g k) < 0) : allHex g 4 = false := by
  rw [Bool.eq_false_iff]
  intro h
  have := (isHex_iff _).1 (allHex_4 h k hk)
  omega
theorem hv_digit {c : Int} (h : 48 ≤ c) (h2 : c ≤ 57) : hv c = c - 48 := by unfold hv; rw [if_pos ⟨h, h2⟩]
theorem hv_lower {c : Int} (h : 97 ≤ c) (h2 : c ≤ 102) : hv c = c - 87 := by unfold hv; rw [if_neg (by omega), if_pos ⟨h, h2⟩]
theorem hv_upper {c : Int} (h : 65 ≤ c) (h2 : c ≤ 70) : hv c = c - 55 := by unfold hv; rw [if_neg (by omega), if_neg (by omega), if_pos ⟨h, h2⟩]
theorem hv_none {c : Int} (h : ¬ (48 ≤ c ∧ c ≤ 57)) (h2 : ¬ (97 ≤ c ∧ c ≤ 102)) (h3 : ¬ (65 ≤ c ∧ c ≤ 70)) : hv c = -1 := by unfold hv; rw [if_neg h, if_neg h2, if_neg h3]
def hexRes (g : Nat → Int) : Int := if allHex g 4 then hexAcc g 4 else 0
theorem ret_hex_no {g : Nat → Int} (h : allHex g 4 = false) : Ending.returned (.tuple #[.int .i32 0, .bool false]) = .returned (.tuple #[.int .i32 (hexRes g), .bool (allHex g 4)]) := by
  rw [hexRes, h]; rfl
theorem ret_hex_yes {g : Nat → Int} {k : Nat} (hk : k = 4) (h : allHex g k = true) : Ending.returned (.tuple #[.int .i32 (hexAcc g k), .bool true]) = .returned (.tuple #[.int .i32 (hexRes g), .bool (allHex g 4)]) := by
  subst hk; rw [hexRes, h]; rfl

set_option maxRecDepth 20000 in
set_option maxHeartbeats 1000000 in
theorem hexRune_long (b off n c : Nat) (g : Nat → Int) (w : World) (hn : n ≤ 1048576) (h4 : 4 ≤ n) (hcap : n ≤ c) (hg : ∀ j, 0 ≤ g j ∧ g j ≤ 255) (hc : ∀ j, j < n → w.cell? ⟨b, off + j, none⟩ = some (.int .u8 (g j))) :
    Calls Try.prog 32 #[.slice (some ⟨b, off, none⟩) n c] w fun e w' => e = .returned (.tuple #[.int .i32 (hexRes g), .bool (allHex g 4)]) ∧ w' = w := by
  go_enter Try.func32, Try.ntmps32
  go_wp2
  go_loop [4, 14] (fun r i => ∃ k : Nat, k ≤ 4 ∧ i = .int .i64 k ∧ r = .int .i32 (hexAcc g k) ∧ Hid (allHex g k = true)) (fun _ i => 4 - (intOf i).toNat)
  case atStart => exact ⟨0, by omega, rfl, rfl, rfl⟩
  case round =>
    obtain ⟨k, hk, rfl, rfl, HA⟩ := hrel
    obtain ⟨g0, g1⟩ := hg k
    by_cases hlt : k < 4
    · have hcell := hc k (by omega)
      have hbd := hexAcc_bd g k hk HA.out
      have hp : (16 : Int) ^ k ≤ 4096 := by
        match k, hlt with
        | 0, _ => decide
        | 1, _ => decide
        | 2, _ => decide
        | 3, _ => decide
        | k + 4, h => omega
      obtain ⟨r0, r1⟩ : 0 ≤ hexAcc g k ∧ hexAcc g k < 4096 := by omega
      clear hbd hp
      by_cases d1 : 48 ≤ g k ∧ g k ≤ 57
      · obtain ⟨d2, d3⟩ := d1
        have HV : Hid (hv (g k) = g k - 48) := hv_digit d2 d3
        go_wp2
        go_round
        case rel => exact ⟨k + 1, by omega, by go_num, hexAcc_next r0 r1 (d := g k - 48) (by omega) (by omega) rfl HV.out, allHex_next HA.out (by rw [HV.out]; omega)⟩
        case measure => simp [intOf]; omega
      · by_cases d4 : 97 ≤ g k ∧ g k ≤ 102
        · obtain ⟨d5, d6⟩ := d4
          have HV : Hid (hv (g k) = g k - 87) := hv_lower d5 d6
          have d7 : 57 < g k := by omega
          have d8 : 48 ≤ g k := by omega
          clear d1
          go_wp2
          go_round
          case rel => exact ⟨k + 1, by omega, by go_num, hexAcc_next r0 r1 (d := g k - 87) (by omega) (by omega) (by omega) HV.out, allHex_next HA.out (by rw [HV.out]; omega)⟩
          case measure => simp [intOf]; omega
        · by_cases e4 : 65 ≤ g k ∧ g k ≤ 70
          · obtain ⟨e5, e6⟩ := e4
            have HV : Hid (hv (g k) = g k - 55) := hv_upper e5 e6
            have d7 : 57 < g k := by omega
            have d8 : 48 ≤ g k := by omega
            have d9 : g k < 97 := by omega
            clear d1 d4
            go_wp2
            go_round
            case rel => exact ⟨k + 1, by omega, by go_num, hexAcc_next r0 r1 (d := g k - 55) (by omega) (by omega) (by omega) HV.out, allHex_next HA.out (by rw [HV.out]; omega)⟩
            case measure => simp [intOf]; omega
          · have HV : Hid (allHex g 4 = false) := allHex_not hlt (by rw [hv_none d1 d4 e4]; omega)
            have HD : Hid (¬(48 ≤ g k ∧ g k ≤ 57) ∧ ¬(97 ≤ g k ∧ g k ≤ 102) ∧ ¬(65 ≤ g k ∧ g k ≤ 70)) := ⟨d1, d4, e4⟩
            clear d1 d4 e4
            by_cases q1 : g k < 48
            · have q2 : g k < 97 := by omega
              have q3 : g k < 65 := by omega
              go_wp2
              go_ret2
              exact ⟨ret_hex_no HV.out, rfl⟩
            · have q2 : 57 < g k := by have := HD.out; omega
              by_cases q3 : g k < 65
              · have q4 : g k < 97 := by omega
                go_wp2
                go_ret2
                exact ⟨ret_hex_no HV.out, rfl⟩
              · have q4 : 70 < g k := by have := HD.out; omega
                by_cases q5 : g k < 97
                · go_wp2
                  go_ret2
                  exact ⟨ret_hex_no HV.out, rfl⟩
                · have q6 : 102 < g k := by have := HD.out; omega
                  go_wp2
                  go_ret2
                  exact ⟨ret_hex_no HV.out, rfl⟩
    · go_wp2
      go_ret2
      exact ⟨ret_hex_yes (by omega) HA.out, rfl⟩

theorem hexRune_short (a : Option Addr) (n c : Nat) (w : World) (h4 : n < 4) :
    Calls Try.prog 32 #[.slice a n c] w fun e w' => e = .returned (.tuple #[.int .i32 0, .bool false]) ∧ w' = w := by
  go_enter Try.func32, Try.ntmps32
  go_wp2
  go_ret2
  exact ⟨rfl, rfl⟩

theorem zzhex_long (b off n c : Nat) (g : Nat → Int) (w : World) (hn : n ≤ 1048576) (h4 : 4 ≤ n) (hcap : n ≤ c) (hg : ∀ j, 0 ≤ g j ∧ g j ≤ 255) (hc : ∀ j, j < n → w.cell? ⟨b, off + j, none⟩ = some (.int .u8 (g j))) :
    Calls Try.prog 17 #[.slice (some ⟨b, off, none⟩) n c] w fun e w' => e = .returned (.tuple #[.int .i32 (hexRes g), .bool (allHex g 4)]) ∧ w' = w := by
  go_enter Try.func17, Try.ntmps17
  go_wp2_with (go_at_call 32; refine (hexRune_long b off n c g _ hn h4 hcap hg hc).mono ?_; rintro _ _ ⟨rfl, hw⟩; obtain rfl := hw.symm)
  go_ret2
  exact ⟨rfl, rfl⟩

theorem zzhex_short (a : Option Addr) (n c : Nat) (w : World) (h4 : n < 4) :
    Calls Try.prog 17 #[.slice a n c] w fun e w' => e = .returned (.tuple #[.int .i32 0, .bool false]) ∧ w' = w := by
  go_enter Try.func17, Try.ntmps17
  go_wp2_with (go_at_call 32; refine (hexRune_short a n c _ h4).mono ?_; rintro _ _ ⟨rfl, hw⟩; obtain rfl := hw.symm)
  go_ret2
  exact ⟨rfl, rfl⟩

end Go.Proofs.Qxb6602279a
