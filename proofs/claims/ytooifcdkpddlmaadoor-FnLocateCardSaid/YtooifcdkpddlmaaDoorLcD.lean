/- The plain law of the search in a map: what is found is the first value. No program in sight. -/
import Derived.Test.YtooifcdkpddlmaaDoorLcX
namespace Go.Proofs.YtooifcdkpddlmaaDoor
set_option linter.unusedVariables false
set_option linter.unusedSimpArgs false
open Go.RowKit

theorem first_key (L : List Ent) (key : ByteArray) : ∀ n, (∀ j (hj : j < L.length), j < n → L[j].s ≠ key) ∨ ∃ (i : Nat) (hi : i < L.length), L[i].s = key ∧ ∀ j (hj : j < L.length), j < i → L[j].s ≠ key
  | 0 => .inl fun j _ h => by omega
  | n + 1 => by
    rcases first_key L key n with h | h
    · by_cases hn : ∃ hn : n < L.length, L[n].s = key
      · obtain ⟨hn, e⟩ := hn
        exact .inr ⟨n, hn, e, h⟩
      · refine .inl fun j hj hjn e => ?_
        by_cases hjn' : j = n
        · subst hjn'; exact hn ⟨hj, e⟩
        · exact h j hj (by omega) e
    · exact .inr h
theorem find_any (L : List Ent) (key : ByteArray) (h : Nat) : ∃ s n, FindP L key h s n := by
  rcases first_key L key L.length with h1 | ⟨i, hi, e, h1⟩
  · exact ⟨0, 0, .inr ⟨fun j hj => h1 j hj hj, rfl, rfl⟩⟩
  · exact ⟨_, _, .inl ⟨i, hi, e, h1, rfl, rfl⟩⟩
theorem find_one {L : List Ent} {key : ByteArray} {h s n s' n' : Nat} (a : FindP L key h s n) (b : FindP L key h s' n') : s' = s ∧ n' = n := by
  rcases a with ⟨i, hi, e, h1, rfl, rfl⟩ | ⟨h1, rfl, rfl⟩
  · rcases b with ⟨i', hi', e', h1', rfl, rfl⟩ | ⟨h1', rfl, rfl⟩
    · have : i' = i := by
        rcases Nat.lt_trichotomy i i' with hl | hl | hl
        · exact absurd e (h1' i hi hl)
        · exact hl.symm
        · exact absurd e' (h1 i' hi' hl)
      subst this; exact ⟨rfl, rfl⟩
    · exact absurd e (h1' i hi)
  · rcases b with ⟨i', hi', e', _⟩ | ⟨_, rfl, rfl⟩
    · exact absurd e' (h1 i' hi')
    · exact ⟨rfl, rfl⟩
/-- What is cut out. -/
theorem find_cut (L : List Ent) (hd : List Int) (key : ByteArray) (s n : Nat) (h : FindP L key hd.length s n) : s ≤ n ∧ n ≤ (hd ++ flatE L).length ∧
    ((∃ (i : Nat) (hi : i < L.length), L[i].s = key ∧ (∀ j (hj : j < L.length), j < i → L[j].s ≠ key) ∧ (((hd ++ flatE L).take n).drop s) = L[i].vd) ∨ ((∀ j (hj : j < L.length), L[j].s ≠ key) ∧ (((hd ++ flatE L).take n).drop s) = [])) := by
  rcases h with ⟨i, hi, e, h1, rfl, rfl⟩ | ⟨h1, rfl, rfl⟩
  · have hc : hd ++ flatE L = ((hd ++ flatE (L.take i) ++ L[i].kd) ++ L[i].vd) ++ flatE (L.drop (i + 1)) := by
      rw [flatE_cut L i, flatE_drop L i hi]; simp only [List.append_assoc]
    have hl : (hd ++ flatE (L.take i) ++ L[i].kd).length = hd.length + (flatE (L.take i)).length + L[i].kd.length := by rw [List.length_append, List.length_append]
    refine ⟨by omega, by rw [hc, List.length_append, List.length_append, hl]; omega, .inl ⟨i, hi, e, h1, ?_⟩⟩
    rw [hc, ← hl]
    generalize hd ++ flatE (L.take i) ++ L[i].kd = X
    generalize L[i].vd = Y
    rw [List.take_append_of_le_length (by simp), List.take_of_length_le (by simp), List.drop_append_of_le_length (Nat.le_refl _), List.drop_of_length_le (Nat.le_refl _), List.nil_append]
  · exact ⟨Nat.le_refl _, Nat.zero_le _, .inr ⟨h1, by simp⟩⟩
/-- The law's own sample. -/
def ent0 : Ent := ⟨⟨#[97]⟩, none, 0, [161, 97], .nilIface, .nilIface, .nilIface, .nilIface, .nilIface, none, 0, [5]⟩
theorem ent0_ok : EnP ent0 := by
  refine ⟨⟨0, 0, 0, fun i => i.elim0, ?_, ?_⟩, ⟨.mk 3 5 ⟨#[]⟩ 0 0 (fun i => i.elim0), 5, by omega, ?_, ?_, ?_⟩, by simp [ent0], by simp [ent0]⟩
  · unfold PutD
    refine .inr (.inr (.inr (.inr (.inr (.inr (.inr (.inl ⟨rfl, [161], .inl ⟨by omega, by decide, rfl⟩, rfl⟩)))))))
  · unfold NumP
    exact ⟨by omega, by omega, by simp, fun i => i.elim0⟩
  · unfold NumP
    exact ⟨by omega, by omega, by simp, fun i => i.elim0⟩
  · unfold FitP
    exact ⟨by omega, by omega, by omega, fun _ _ => rfl, fun _ _ _ => by rw [ByteArray.toList_eq], by simp, fun _ => rfl, by omega, by omega, by simp, by simp, by simp, by omega, by decide, fun i => i.elim0⟩
  · unfold PutD
    refine .inr (.inr (.inr (.inr (.inl ⟨rfl, ?_⟩))))
    exact .inl ⟨by omega, rfl⟩
/-- impl.Locate over a map that is written well. -/
theorem search_calls (L : List Ent) (hd : List Int) (A : Option Addr) (c : Nat) (key : ByteArray) (w : World) (s n : Nat) (hl : L.length ≤ 1000) (hh : HdB 128 16 [(222, 2), (223, 4)] (L.length : Int) hd) (hE : ∀ e ∈ L, EnP e) (hr : Rd u8 w A (hd ++ flatE L)) (hc : (hd ++ flatE L).length ≤ c) (hf : FindP L key hd.length s n) :
    Calls Tryd.prog 10 #[.string key, .slice A (hd ++ flatE L).length c] w fun e w' => ∃ v, e = .returned v ∧ Ow 5 u8 w' v (((hd ++ flatE L).take n).drop s) ∧ Ch No w w' := by
  obtain ⟨h1, h2, _⟩ := find_cut L hd key s n hf
  have hb : (hd ++ flatE L).length ≤ 524400000009 := by
    have := hh.len (by simp); have := flatE_len L hE
    rw [List.length_append]; omega
  have hx : (((hd ++ flatE L).take n).drop s).length ≤ 35184372088832 := by
    rw [List.length_drop, List.length_take]; omega
  refine locI_calls A c _ _ key w hx (locM_calls A c _ key s n w hr hc h1 h2 ?_)
  refine (locate_calls L hd A c key w hl hh hE hr hc).mono ?_
  rintro e w' ⟨s', n', hf', hlc⟩
  obtain ⟨rfl, rfl⟩ := find_one hf hf'
  exact hlc
end Go.Proofs.YtooifcdkpddlmaaDoor
