/- The plain law of MessagePack's extensions, joined. No condition. -/
import Derived.Test.YtfelmhfdklakpaaDoorExtS
import Derived.Test.YtfelmhfdklakpaaDoorData
import Derived.OpenShut
namespace Go.Proofs.YtfelmhfdklakpaaDoor
set_option linter.unusedVariables false
set_option linter.unusedSimpArgs false
open Go.RowKit

theorem beN_bgr1 (u : Int) (h0 : 0 ≤ u) (h1 : u < 256) : beN (bg u 1) = u := by
  simp [bg, beN, List.range, List.range.loop]
  all_goals omega
theorem beN_bgr2 (u : Int) (h0 : 0 ≤ u) (h1 : u < 65536) : beN (bg u 2) = u := by
  simp [bg, beN, List.range, List.range.loop]
  all_goals omega
theorem beN_bgr4 (u : Int) (h0 : 0 ≤ u) (h1 : u < 4294967296) : beN (bg u 4) = u := by
  simp [bg, beN, List.range, List.range.loop]
  all_goals omega

theorem putD_ten {n x : Int} {s : ByteArray} {m : Nat} {K : Fin m → Pk} {d : List Int} (h : PutD (.mk 10 n s x m K) d) : ∃ hd, ExtD s.size x hd ∧ d = hd ++ bys s := by
  unfold PutD at h
  rcases h with ⟨e, _⟩ | ⟨e, _⟩ | ⟨e, _⟩ | ⟨e, _⟩ | ⟨e, _⟩ | ⟨e, _⟩ | ⟨e, _⟩ | ⟨e, _⟩ | ⟨e, _⟩ | ⟨_, h⟩ | ⟨e, _⟩ | ⟨e, _⟩
  all_goals first
  | exact h
  | (exfalso; omega)
theorem i8_of (x : Int) (h0 : -128 ≤ x) (h1 : x ≤ 127) : IntKind.i8.wrap (x % 256) = x := by
  simp [IntKind.wrap, IntKind.bits, IntKind.signed]
  omega
/-- What readExt tells of a whole one. -/
theorem rx_good {n x : Int} {s : ByteArray} {m : Nat} {K : Fin m → Pk} {d : List Int} (hd : PutD (.mk 10 n s x m K) d) (h0 : -128 ≤ x) (h1 : x ≤ 127) (A : Option Addr) (c : Nat) (l : List Int) (w : World) (hb : Byt l) (hr : Rd u8 w A (d ++ l)) (hc : (d ++ l).length ≤ c) :
    Calls Tryd.prog 36 #[.slice A (d ++ l).length c] w (RxOk x (bys s) l w) := by
  obtain ⟨hd', he, rfl⟩ := putD_ten hd
  have hL := bys_len s
  have hi := i8_of x h0 h1
  have e1 : (bys s ++ l).take s.size = bys s := by rw [← hL, List.take_left']; rfl
  have e2 : (bys s ++ l).drop s.size = l := by rw [← hL, List.drop_left']; rfl
  have h8 : s.size ≤ (bys s ++ l).length := by rw [List.length_append]; omega
  have hby : Byt (bys s ++ l) := (byt_bys s).append hb
  rcases he with ⟨p, hp, hn, rfl⟩ | ⟨f, hf, ho, rfl⟩
  · have hn' : s.size = p.2.toNat := by omega
    rw [hn'] at e1 e2 h8
    simp only [List.mem_cons, List.not_mem_nil, or_false] at hp
    rcases hp with rfl | rfl | rfl | rfl | rfl
    · have h := rx_ok_212 A c (x % 256) x (bys s ++ l) w hr hc hi h8
      have e1' : (bys s ++ l).take 1 = bys s := e1
      have e2' : (bys s ++ l).drop 1 = l := e2
      rw [e1', e2'] at h
      exact h
    · have h := rx_ok_213 A c (x % 256) x (bys s ++ l) w hr hc hi h8
      have e1' : (bys s ++ l).take 2 = bys s := e1
      have e2' : (bys s ++ l).drop 2 = l := e2
      rw [e1', e2'] at h
      exact h
    · have h := rx_ok_214 A c (x % 256) x (bys s ++ l) w hr hc hi h8
      have e1' : (bys s ++ l).take 4 = bys s := e1
      have e2' : (bys s ++ l).drop 4 = l := e2
      rw [e1', e2'] at h
      exact h
    · have h := rx_ok_215 A c (x % 256) x (bys s ++ l) w hr hc hi h8
      have e1' : (bys s ++ l).take 8 = bys s := e1
      have e2' : (bys s ++ l).drop 8 = l := e2
      rw [e1', e2'] at h
      exact h
    · have h := rx_ok_216 A c (x % 256) x (bys s ++ l) w hr hc hi h8
      have e1' : (bys s ++ l).take 16 = bys s := e1
      have e2' : (bys s ++ l).drop 16 = l := e2
      rw [e1', e2'] at h
      exact h

  · simp only [List.mem_cons, List.not_mem_nil, or_false] at hf
    rcases hf with rfl | rfl | rfl
    · have hz : (s.size : Int) < 256 := by simp only [okf_1, decide_eq_true_eq] at ho; omega
      have hq := beN_bgr1 s.size (by omega) hz
      obtain ⟨n0, hn0⟩ : ∃ n0, bg s.size 1 = [n0] := ⟨_, rfl⟩
      rw [hn0] at hq
      simp only [hn0] at hr hc ⊢
      by_cases hz0 : s.size = 0
      · have hnil : bys s = [] := List.eq_nil_of_length_eq_zero (by omega)
        have hn00 : n0 = 0 := by simp [beN] at hq; omega
        rw [hn00, hnil] at hr hc ⊢
        exact rx_zero A c (x % 256) x l w hr hc hi
      · have hb0 : Byt (n0 :: (x % 256) :: (bys s ++ l)) := fun y hy => by
          rcases List.mem_cons.1 hy with rfl | hy
          · simp [beN] at hq; omega
          · rcases List.mem_cons.1 hy with rfl | hy
            · omega
            · exact hby y hy
        have h := rx_ok_199 A c n0 (x % 256) x (bys s ++ l) w (by simpa using hr) (by simpa using hc) hi s.size hb0 hq (by omega) h8
        rw [e1, e2] at h
        simpa using h
    · have hz : (s.size : Int) < 65536 := by simp only [okf_2, decide_eq_true_eq] at ho; omega
      have hq := beN_bgr2 s.size (by omega) hz
      have hbb := byt_bg s.size 2
      obtain ⟨n0, n1, hn0⟩ : ∃ n0 n1, bg s.size 2 = [n0, n1] := ⟨_, _, rfl⟩
      rw [hn0] at hq hbb
      simp only [hn0] at hr hc ⊢
      have hb0 : Byt (n0 :: n1 :: (x % 256) :: (bys s ++ l)) := fun y hy => by
        have h9 : y ∈ [n0, n1] ++ ((x % 256) :: (bys s ++ l)) := hy
        rcases List.mem_append.1 h9 with h9 | h9
        · exact hbb y h9
        · rcases List.mem_cons.1 h9 with rfl | h9
          · omega
          · exact hby y h9
      have h := rx_ok_200 A c n0 n1 (x % 256) x (bys s ++ l) w (by simpa using hr) (by simpa using hc) hi s.size hb0 hq h8
      rw [e1, e2] at h
      simpa using h
    · have hz : (s.size : Int) < 4294967296 := by simp only [okf_4, decide_eq_true_eq] at ho; omega
      have hq := beN_bgr4 s.size (by omega) hz
      have hbb := byt_bg s.size 4
      obtain ⟨n0, n1, n2, n3, hn0⟩ : ∃ n0 n1 n2 n3, bg s.size 4 = [n0, n1, n2, n3] := ⟨_, _, _, _, rfl⟩
      rw [hn0] at hq hbb
      simp only [hn0] at hr hc ⊢
      have hb0 : Byt (n0 :: n1 :: n2 :: n3 :: (x % 256) :: (bys s ++ l)) := fun y hy => by
        have h9 : y ∈ [n0, n1, n2, n3] ++ ((x % 256) :: (bys s ++ l)) := hy
        rcases List.mem_append.1 h9 with h9 | h9
        · exact hbb y h9
        · rcases List.mem_cons.1 h9 with rfl | h9
          · omega
          · exact hby y h9
      have h := rx_ok_201 A c n0 n1 n2 n3 (x % 256) x (bys s ++ l) w (by simpa using hr) (by simpa using hc) hi s.size hb0 hq h8
      rw [e1, e2] at h
      simpa using h

/-- What is cut off is refused. -/
theorem rx_cutoff {n x : Int} {s : ByteArray} {m : Nat} {K : Fin m → Pk} {d : List Int} (hd : PutD (.mk 10 n s x m K) d) (h0 : -128 ≤ x) (h1 : x ≤ 127) (k : Nat) (hk : k < d.length ∨ d = []) (A : Option Addr) (c : Nat) (w : World) (hs : Sh w) (hr : Rd u8 w A (d.take k)) (hc : (d.take k).length ≤ c) :
    Calls Tryd.prog 36 #[.slice A (d.take k).length c] w (RxNo w) := by
  by_cases h3 : (d.take k).length < 3
  · exact rx_tiny A c _ w hs h3
  obtain ⟨hd', he, rfl⟩ := putD_ten hd
  have hL := bys_len s
  have hi := i8_of x h0 h1
  rcases he with ⟨p, hp, hn, rfl⟩ | ⟨f, hf, ho, rfl⟩
  · obtain ⟨j, rfl⟩ : ∃ j, k = j + 2 := ⟨k - 2, by rw [List.length_take] at h3; omega⟩
    have hj : ((bys s).take j).length < p.2.toNat := by
      rcases hk with hk | hk
      · simp at hk; rw [List.length_take]; omega
      · cases hk
    have ht : ([p.1, x % 256] ++ bys s).take (j + 2) = p.1 :: (x % 256) :: (bys s).take j := rfl
    rw [ht] at hr hc h3 ⊢
    simp only [List.mem_cons, List.not_mem_nil, or_false] at hp
    rcases hp with rfl | rfl | rfl | rfl | rfl
    · first | exact rx_cut_212 A c (x % 256) x ((bys s).take j) w hr hc hi hs hj | (exfalso; simp at h3; have h9 : ((bys s).take j).length < 1 := hj; simp at h9; omega)
    · first | exact rx_cut_213 A c (x % 256) x ((bys s).take j) w hr hc hi hs hj | (exfalso; simp at h3; have h9 : ((bys s).take j).length < 2 := hj; simp at h9; omega)
    · first | exact rx_cut_214 A c (x % 256) x ((bys s).take j) w hr hc hi hs hj | (exfalso; simp at h3; have h9 : ((bys s).take j).length < 4 := hj; simp at h9; omega)
    · first | exact rx_cut_215 A c (x % 256) x ((bys s).take j) w hr hc hi hs hj | (exfalso; simp at h3; have h9 : ((bys s).take j).length < 8 := hj; simp at h9; omega)
    · first | exact rx_cut_216 A c (x % 256) x ((bys s).take j) w hr hc hi hs hj | (exfalso; simp at h3; have h9 : ((bys s).take j).length < 16 := hj; simp at h9; omega)

  · simp only [List.mem_cons, List.not_mem_nil, or_false] at hf
    rcases hf with rfl | rfl | rfl
    · have hz : (s.size : Int) < 256 := by simp only [okf_1, decide_eq_true_eq] at ho; omega
      have hq := beN_bgr1 s.size (by omega) hz
      have hbb := byt_bg s.size 1
      obtain ⟨n0, hn0⟩ : ∃ n0, bg s.size 1 = [n0] := ⟨_, rfl⟩
      rw [hn0] at hq hbb
      simp only [hn0] at hr hc h3 hk ⊢
      have hsm : ¬ ((199 :: [n0] ++ [x % 256] ++ bys s).take k).length < 3 := h3
      obtain ⟨j, rfl⟩ : ∃ j, k = j + 3 := ⟨k - 3, by rw [List.length_take] at hsm; omega⟩
      have hj : ((bys s).take j).length < s.size := by
        rcases hk with hk | hk
        · simp at hk; rw [List.length_take]; omega
        · cases hk
      have hb0 : Byt (n0 :: (x % 256) :: (bys s).take j) := fun y hy => by
        have h9 : y ∈ [n0] ++ ((x % 256) :: (bys s).take j) := hy
        rcases List.mem_append.1 h9 with h9 | h9
        · exact hbb y h9
        · rcases List.mem_cons.1 h9 with rfl | h9
          · omega
          · exact byt_bys s y (List.mem_of_mem_take h9)
      exact rx_cut_199 A c n0 (x % 256) x ((bys s).take j) w hr hc hi s.size hb0 hq (by omega) hs hj
    · have hz : (s.size : Int) < 65536 := by simp only [okf_2, decide_eq_true_eq] at ho; omega
      have hq := beN_bgr2 s.size (by omega) hz
      have hbb := byt_bg s.size 2
      obtain ⟨n0, n1, hn0⟩ : ∃ n0 n1, bg s.size 2 = [n0, n1] := ⟨_, _, rfl⟩
      rw [hn0] at hq hbb
      simp only [hn0] at hr hc h3 hk ⊢
      by_cases hsm : ((200 :: [n0, n1] ++ [x % 256] ++ bys s).take k).length < 4
      · obtain ⟨j, rfl⟩ : ∃ j, k = j + 1 := ⟨k - 1, by rw [List.length_take] at h3; omega⟩
        exact rx_four A c (([n0, n1] ++ [x % 256] ++ bys s).take j) w hs hr (by have := h3; exact Nat.le_of_not_lt this) hsm
      obtain ⟨j, rfl⟩ : ∃ j, k = j + 4 := ⟨k - 4, by rw [List.length_take] at hsm; omega⟩
      have hj : ((bys s).take j).length < s.size := by
        rcases hk with hk | hk
        · simp at hk; rw [List.length_take]; omega
        · cases hk
      have hb0 : Byt (n0 :: n1 :: (x % 256) :: (bys s).take j) := fun y hy => by
        have h9 : y ∈ [n0, n1] ++ ((x % 256) :: (bys s).take j) := hy
        rcases List.mem_append.1 h9 with h9 | h9
        · exact hbb y h9
        · rcases List.mem_cons.1 h9 with rfl | h9
          · omega
          · exact byt_bys s y (List.mem_of_mem_take h9)
      exact rx_cut_200 A c n0 n1 (x % 256) x ((bys s).take j) w hr hc hi s.size hb0 hq hs hj
    · have hz : (s.size : Int) < 4294967296 := by simp only [okf_4, decide_eq_true_eq] at ho; omega
      have hq := beN_bgr4 s.size (by omega) hz
      have hbb := byt_bg s.size 4
      obtain ⟨n0, n1, n2, n3, hn0⟩ : ∃ n0 n1 n2 n3, bg s.size 4 = [n0, n1, n2, n3] := ⟨_, _, _, _, rfl⟩
      rw [hn0] at hq hbb
      simp only [hn0] at hr hc h3 hk ⊢
      by_cases hsm : ((201 :: [n0, n1, n2, n3] ++ [x % 256] ++ bys s).take k).length < 6
      · obtain ⟨j, rfl⟩ : ∃ j, k = j + 1 := ⟨k - 1, by rw [List.length_take] at h3; omega⟩
        exact rx_six A c (([n0, n1, n2, n3] ++ [x % 256] ++ bys s).take j) w hs hr (by have := h3; exact Nat.le_of_not_lt this) hsm
      obtain ⟨j, rfl⟩ : ∃ j, k = j + 6 := ⟨k - 6, by rw [List.length_take] at hsm; omega⟩
      have hj : ((bys s).take j).length < s.size := by
        rcases hk with hk | hk
        · simp at hk; rw [List.length_take]; omega
        · cases hk
      have hb0 : Byt (n0 :: n1 :: n2 :: n3 :: (x % 256) :: (bys s).take j) := fun y hy => by
        have h9 : y ∈ [n0, n1, n2, n3] ++ ((x % 256) :: (bys s).take j) := hy
        rcases List.mem_append.1 h9 with h9 | h9
        · exact hbb y h9
        · rcases List.mem_cons.1 h9 with rfl | h9
          · omega
          · exact byt_bys s y (List.mem_of_mem_take h9)
      exact rx_cut_201 A c n0 n1 n2 n3 (x % 256) x ((bys s).take j) w hr hc hi s.size hb0 hq hs hj

def Next (d : List Int) : Prop := ∃ b r, d = b :: r ∧ 0 ≤ b ∧ b < 256 ∧ (b < 199 ∨ (201 < b ∧ b < 212) ∨ 216 < b)
theorem rx_next {d : List Int} (h : Next d) (A : Option Addr) (c : Nat) (w : World) (hs : Sh w) (hr : Rd u8 w A d) : Calls Tryd.prog 36 #[.slice A d.length c] w (RxNo w) := by
  obtain ⟨b, r, rfl, h0, h1, h2⟩ := h
  by_cases h3 : (b :: r).length < 3
  · exact rx_tiny A c _ w hs h3
  · exact rx_other A c b r w hr (by omega) h0 h1 h2
theorem next_take {d : List Int} (h : Next d) (k : Nat) : d.take k = [] ∨ Next (d.take k) := by
  obtain ⟨b, r, rfl, h⟩ := h
  cases k with
  | zero => exact .inl rfl
  | succ k => exact .inr ⟨b, r.take k, rfl, h⟩
theorem pos_next {u : Int} {d : List Int} (h : PosD u d) (h0 : 0 ≤ u) : Next d := by
  rcases h with ⟨h2, rfl⟩ | ⟨f, hf, h2, rfl⟩ | ⟨f, hf, h2, rfl⟩
  · exact ⟨u, [], rfl, by omega⟩
  · exact ⟨f.1, _, rfl, by simp only [List.mem_cons, List.not_mem_nil, or_false] at hf; rcases hf with rfl | rfl | rfl | rfl <;> simp⟩
  · exact ⟨f.1, _, rfl, by simp only [List.mem_cons, List.not_mem_nil, or_false] at hf; rcases hf with rfl | rfl | rfl | rfl <;> simp⟩
theorem neg_next {u : Int} {d : List Int} (h : NegD u d) (h1 : u < 18446744073709551616) : Next d := by
  rcases h with ⟨h2, rfl⟩ | ⟨f, hf, h2, rfl⟩
  · exact ⟨u % 256, [], rfl, by omega⟩
  · exact ⟨f.1, _, rfl, by simp only [List.mem_cons, List.not_mem_nil, or_false] at hf; rcases hf with rfl | rfl | rfl | rfl <;> simp⟩
theorem next_form {k n x : Int} {s : ByteArray} {m : Nat} {K : Fin m → Pk} {d : List Int} (h : PutD (.mk k n s x m K) d) (hn0 : 0 ≤ n) (hn1 : n < 18446744073709551616) (h1 : k = 1 → n ≤ 1) (k10 : k ≠ 10) : Next d := by
  unfold PutD at h
  have hd : ∀ (fx un : Int) (fs : List (Int × Nat)) (q : Int) (hd l : List Int), HdB fx un fs q hd → 0 ≤ q → ((0 ≤ fx ∧ q < un → 0 ≤ fx + q ∧ fx + q < 199) ∧ ∀ f ∈ fs, 0 ≤ f.1 ∧ f.1 < 256 ∧ (f.1 < 199 ∨ (201 < f.1 ∧ f.1 < 212) ∨ 216 < f.1)) → Next (hd ++ l) := fun fx un fs q hd l h hq ⟨a, b⟩ => by
    rcases h with ⟨h1, h2, rfl⟩ | ⟨f, hf, _, rfl⟩
    · have := a ⟨h1, h2⟩
      exact ⟨_, l, rfl, by omega⟩
    · exact ⟨f.1, _, rfl, b f hf⟩
  rcases h with ⟨_, rfl⟩ | ⟨e, rfl⟩ | ⟨_, _, h⟩ | ⟨_, _, h⟩ | ⟨_, h⟩ | ⟨_, rfl⟩ | ⟨_, rfl⟩ | ⟨_, hd', hh, rfl⟩ | ⟨_, hd', hh, rfl⟩ | ⟨e, _⟩ | ⟨_, hd', ds, hh, rfl, _⟩ | ⟨_, hd', ds, hh, rfl, _⟩
  · exact ⟨192, [], rfl, by omega⟩
  · exact ⟨194 + n, [], rfl, by have := h1 e; omega⟩
  · exact neg_next h hn1
  · exact pos_next h hn0
  · exact pos_next h hn0
  · exact ⟨202, _, rfl, by omega⟩
  · exact ⟨203, _, rfl, by omega⟩
  · exact hd 160 32 _ _ _ _ hh (by omega) ⟨fun h => by omega, by simp⟩
  · exact hd (-1) 0 _ _ _ _ hh (by omega) ⟨fun h => by omega, by simp⟩
  · exact absurd e k10
  · exact hd 144 16 _ _ _ _ hh (by omega) ⟨fun h => by omega, by simp⟩
  · exact hd 128 16 _ _ _ _ hh (by omega) ⟨fun h => by omega, by simp⟩
end Go.Proofs.YtfelmhfdklakpaaDoor
