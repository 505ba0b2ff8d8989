/- The walks of the reference's readers of MessagePack: numbers, texts, values without parts. No condition. -/
import Derived.Test.YtkbjnkhkjgomcaaDoorPut
import Derived.Test.YtkbjnkhkjgomcaaDoorNum
import Derived.Test.YtkbjnkhkjgomcaaDoorMapLit
import Derived.RegionTactic
import Derived.ChangeAlike
namespace Go.Proofs.YtkbjnkhkjgomcaaDoor
set_option linter.unusedVariables false
set_option linter.unusedSimpArgs false
open Go.RowKit

def TBig (w : World) (A : Option Addr) (c : Nat) (l : List Int) (size : Nat) (e : Ending) (w' : World) : Prop :=
  Ch No w w' ∧ ((l.length < size ∧ e = .returned (.tuple #[.int .u64 0, .slice none 0 0, .bool false])) ∨
    (size ≤ l.length ∧ ∃ A', e = .returned (.tuple #[.int .u64 (beN (l.take size)), .slice A' (l.length - size) (c - size), .bool true]) ∧ Cut A l.length c size l.length A'))
set_option maxHeartbeats 1000000 in
theorem takeBig_calls (A : Option Addr) (c : Nat) (l : List Int) (size : Nat) (w : World) (hr : Rd u8 w A l) (hb : Byt l) (hc : l.length ≤ c) (hs : size ≤ 8) :
    Calls Tryd.prog 18 #[.slice A l.length c, .int .i64 size] w (TBig w A c l size) := by
  by_cases hlt : l.length < size
  · have hd : decide (l.length < size) = true := decide_eq_true hlt
    go_enter Tryd.func18, Tryd.ntmps18
    go_wp2
    go_ret3
    exact ⟨Ch.refl _ _, .inl ⟨hlt, rfl⟩⟩
  · have hd : decide (l.length < size) = false := decide_eq_false hlt
    have hle : size ≤ l.length := by omega
    obtain ⟨hk1, hk1'⟩ := Cut.ahead_h 22 5 Tryd.underlying22 size_u8 A l.length c size size rfl .i64 (by omega)
    obtain ⟨A', hk2, hk3, hcut⟩ := Cut.ahead_l 22 5 Tryd.underlying22 size_u8 A l.length c size size rfl .i64 hle
    go_enter Tryd.func18, Tryd.ntmps18
    go_wp2
    go_loop [7, 18] (fun u i => ∃ k : Nat, k ≤ size ∧ i = .int .i64 k ∧ u = .int .u64 (beN (l.take k))) (fun _ i => size - (intOf i).toNat)
    case atStart => exact ⟨0, Nat.zero_le _, rfl, rfl⟩
    case round =>
      obtain ⟨k, hk, rfl, rfl⟩ := hrel
      by_cases hks : k < size
      · obtain ⟨b, o, rfl, hcell⟩ := hr.at_ k (by omega)
        obtain ⟨hb0, hb1⟩ := hb.at_ k (by omega)
        obtain ⟨hu0, hu1⟩ := beN_lt7 (l := l.take k) (by rw [List.length_take]; omega) (hb.take k)
        have hor := or_u64 _ _ hu0 hu1 hb0 hb1
        have hs : Hid (beN (l.take (k + 1)) = _) := beN_take l k (by omega)
        go_wp2
        go_round
        case rel => exact ⟨k + 1, by omega, by go_num, by rw [hs.out]⟩
        case measure => simp [intOf]; omega
      · obtain rfl : k = size := by omega
        go_wp2
        go_region
        all_goals
          go_wp2
          go_ret3
          exact ⟨by repeat (first | exact Ch.refl _ _ | apply Ch.drew | apply Ch.drewN), .inr ⟨hle, A', rfl, hcut⟩⟩


theorem zero_int (w : World) : (zeroValue 3).run Tryd.prog w = .ok (.int .i64 0) w := by kernel_rfl
/-- The block of a Pack of zeros. -/
abbrev ZL : List Value := [.int .i64 0, .int .u64 0, .string ⟨#[]⟩, .int .i64 0, .slice none 0 0]
theorem size_pk : (Tryd.prog.info? 28).map (·.size) = some 5 := by kernel_rfl
abbrev ZP : Obj := .cells #[.int .i64 0, .int .u64 0, .string ⟨#[]⟩, .int .i64 0, .slice none 0 0] 28
theorem conv_rd {w : World} {A : Option Addr} {c : Nat} {l : List Int} (h : Rd u8 w A l) : ∀ W : World, Ch No w W → (convert 22 9 (.slice A l.length c)).run Tryd.prog W = .ok (.string (strOfNums l)) W := by
  intro W hW
  have h := h.keep0 hW
  rcases Nat.eq_zero_or_pos l.length with h0 | h0
  · obtain rfl : l = [] := List.eq_nil_of_length_eq_zero h0
    cases A with
    | none => exact run_convert_bytes_nil W 22 5 Tryd.underlying22 Tryd.underlying5 0 c 9 Tryd.underlying9
    | some ad =>
      have hl : (loadCells ad 0).run Tryd.prog W = .ok (([] : List Int).map (Value.int .u8)).toArray W := by simpa using run_loadCells_list (P := Tryd.prog) W ad [] (by simp)
      have h1 := run_convert_bytes_string (P := Tryd.prog) W 22 9 5 (some ad) 0 c Tryd.underlying22 Tryd.underlying5 Tryd.underlying9
      rw [run_bytesToString W ad 0 c [] hl, foldl_push_bytes] at h1
      exact h1
  · obtain ⟨b, o, rfl, hc⟩ := h h0
    exact run_convert_bytes_arg W 22 5 Tryd.underlying22 Tryd.underlying5 b o l.length c l rfl (fun i hi => by
      rw [List.getD_eq_getElem?_getD, List.getElem?_eq_getElem hi]
      exact hc i _ (List.getElem?_eq_getElem hi)) 9 Tryd.underlying9
def pk (kind num : Int) (text : ByteArray) (ext : Int) : Value := .agg #[.int .i64 kind, .int .u64 num, .string text, .int .i64 ext, .slice none 0 0]
def TOk (w : World) (A : Option Addr) (l : List Int) (k c : Nat) (kind num : Int) (text : ByteArray) (ext : Int) (e : Ending) (w' : World) : Prop :=
  Ch No w w' ∧ ∃ A', e = .returned (.tuple #[pk kind num text ext, .slice A' (l.length - k) (c - k), .bool true]) ∧ Cut A l.length c k l.length A'
set_option maxHeartbeats 1000000 in
theorem takeText_calls (A : Option Addr) (c : Nat) (l : List Int) (kind : Int) (n : Nat) (w : World) (hr : Rd u8 w A l) (hc : l.length ≤ c) (hl : l.length ≤ 35184372088832) (hn : n ≤ l.length) :
    Calls Tryd.prog 12 #[.int .i64 kind, .int .u64 n, .slice A l.length c] w (TOk w A l n c kind 0 (strOfNums (l.take n)) 0) := by
  have hd : decide (l.length < n) = false := decide_eq_false (by omega)
  obtain ⟨hk1, hk1'⟩ := Cut.ahead_h 22 5 Tryd.underlying22 size_u8 A l.length c n n rfl .u64 (by omega)
  obtain ⟨A', hk2, hk3, hcut⟩ := Cut.ahead_l 22 5 Tryd.underlying22 size_u8 A l.length c n n rfl .u64 hn
  have hlt : (l.take n).length = n := by rw [List.length_take]; omega
  have hconv0 := conv_rd (c := c) (hr.take n)
  rw [hlt] at hconv0
  have hconv := hconv0 (w.alloc ZP).drew ((Ch.refl _ _).alloc _).drew
  clear hconv0 hlt
  go_enter Tryd.func12, Tryd.ntmps12
  go_wp2
  go_region
  all_goals
    go_wp2
    refine bodyPost_ret (v := .tuple #[pk kind 0 (strOfNums (l.take n)) 0, .slice A' (l.length - n) (c - n), .bool true]) (by simp [results, Tryd.results12, go_sem, pk]) rfl ?_
    exact ⟨((Ch.refl _ _).alloc _).drew, A', rfl, hcut⟩
theorem takeBig_yes (A : Option Addr) (c : Nat) (l : List Int) (size : Int) (w : World) (hr : Rd u8 w A l) (hb : Byt l) (hc : l.length ≤ c) (h0 : 0 ≤ size) (hs : size ≤ 8) (hle : size ≤ l.length) :
    Calls Tryd.prog 18 #[.slice A l.length c, .int .i64 size] w fun e w' => ∃ A', e = .returned (.tuple #[.int .u64 (beN (l.take size.toNat)), .slice A' (l.length - size.toNat) (c - size.toNat), .bool true]) ∧ Cut A l.length c size.toNat l.length A' ∧ Ch No w w' := by
  obtain ⟨s, rfl⟩ := Int.eq_ofNat_of_zero_le h0
  refine (takeBig_calls A c l s w hr hb hc (by omega)).mono ?_
  rintro e w' ⟨hch, ⟨hlt, _⟩ | ⟨_, A', he, hcut⟩⟩
  · omega
  · exact ⟨A', he, hcut, hch⟩
/-- The map of the codes' sizes. -/
def szOf (b : Int) : Int := if b = 196 ∨ b = 199 ∨ b = 204 ∨ b = 208 ∨ b = 217 then 1 else if b = 197 ∨ b = 200 ∨ b = 205 ∨ b = 209 ∨ b = 218 ∨ b = 220 ∨ b = 222 then 2 else if b = 198 ∨ b = 201 ∨ b = 202 ∨ b = 206 ∨ b = 210 ∨ b = 219 ∨ b = 221 ∨ b = 223 then 4 else if b = 203 ∨ b = 207 ∨ b = 211 then 8 else 0
end Go.Proofs.YtkbjnkhkjgomcaaDoor
