/- A text parted at a byte: what cron's zzIndex and zzSplit and the reference's cronPieces answer (over their printed functions). -/
import Derived.Test.YtikgnpachlgakaaDoorPrA
namespace Go.Proofs.YtikgnpachlgakaaDoor.Text
open Go Go.RowKit Go.Proofs.YtikgnpachlgakaaDoorW.PrintWords Go.Proofs.YtikgnpachlgakaaDoor.Pr
set_option linter.unusedVariables false

def ba (l : List UInt8) : ByteArray := ⟨l.toArray⟩
theorem ba_size (l : List UInt8) : (ba l).size = l.length := by unfold ba ByteArray.size; exact List.size_toArray
theorem ba_list (l : List UInt8) : (ba l).data.toList = l := by simp [ba]
theorem ba_of (s : ByteArray) : ba s.data.toList = s := by simp [ba]
theorem size_list (s : ByteArray) : s.size = s.data.toList.length := (Array.length_toList (xs := s.data)).symm

theorem toList_data (s : ByteArray) : s.toList = s.data.toList := by
  have key : ∀ (n i : Nat) (r : List UInt8), s.size - i = n → ByteArray.toList.loop s i r = r.reverse ++ s.data.toList.drop i := by
    intro n
    induction n with
    | zero =>
      intro i r h
      unfold ByteArray.toList.loop
      rw [if_neg (by omega), List.drop_eq_nil_of_le (by rw [← size_list]; omega), List.append_nil]
    | succ n ih =>
      intro i r h
      have hi : i < s.size := by omega
      unfold ByteArray.toList.loop
      rw [if_pos hi, ih (i + 1) _ (by omega)]
      have hi' : i < s.data.toList.length := by rw [← size_list]; exact hi
      rw [List.drop_eq_getElem_cons hi', List.reverse_cons, List.append_assoc, List.singleton_append]
      have : s.get! i = s.data.toList[i] := by
        show s.data[i]! = _
        rw [getElem!_pos s.data i (by simpa using hi')]
        simp
      rw [this]
  have := key s.size 0 [] (by omega)
  simpa [ByteArray.toList] using this

theorem bt_list (s : ByteArray) (i : Nat) (h : i < s.data.toList.length) : bt s (i : Int) = ((s.data.toList[i]).toNat : Int) := by
  have h' : i < s.size := by rw [size_list]; exact h
  have := bt_at s (i : Int) (by simpa using h')
  rw [← this]
  simp only [Int.toNat_natCast]
  rfl

theorem extract_list (s : ByteArray) (a b : Nat) : (s.extract a b).data.toList = (s.data.toList.take b).drop a := by
  rw [ByteArray.data_extract, Array.toList_extract, List.extract_eq_take_drop, List.drop_take]

theorem extract_ba (s : ByteArray) (a b : Nat) : s.extract a b = ba ((s.data.toList.take b).drop a) := by
  rw [← extract_list, ba_of]

theorem ba_inj {a b : List UInt8} (h : ba a = ba b) : a = b := by
  have := congrArg (fun x => x.data.toList) h
  simpa [ba] using this

/-- the pieces of a text between the bytes c -/
def splitL (c : UInt8) : List UInt8 → List (List UInt8)
  | [] => [[]]
  | x :: r => if x = c then [] :: splitL c r else match splitL c r with
    | h :: t => (x :: h) :: t
    | [] => [[x]]

def consHead (p : List UInt8) : List (List UInt8) → List (List UInt8)
  | h :: t => (p ++ h) :: t
  | [] => [p]

theorem splitL_ne (c : UInt8) (l : List UInt8) : splitL c l ≠ [] := by
  cases l with
  | nil => simp [splitL]
  | cons x r =>
    unfold splitL
    split
    · simp
    · split <;> simp

theorem splitL_cons_ne {c x : UInt8} (r : List UInt8) (h : x ≠ c) : splitL c (x :: r) = consHead [x] (splitL c r) := by
  rw [splitL, if_neg h]
  cases e : splitL c r <;> rfl

theorem splitL_cons_eq (c : UInt8) (r : List UInt8) : splitL c (c :: r) = [] :: splitL c r := by rw [splitL, if_pos rfl]

theorem consHead_nil {ls : List (List UInt8)} (h : ls ≠ []) : consHead [] ls = ls := by
  cases ls with
  | nil => exact absurd rfl h
  | cons a t => rfl

theorem consHead_cons (p q : List UInt8) (ls : List (List UInt8)) : consHead p (consHead q ls) = consHead (p ++ q) ls := by
  cases ls <;> simp [consHead]

theorem splitL_none {c : UInt8} : ∀ {l : List UInt8}, c ∉ l → splitL c l = [l]
  | [], _ => rfl
  | x :: r, h => by
    have h1 : x ≠ c := fun e => h (by simp [e])
    have h2 : c ∉ r := fun e => h (by simp [e])
    rw [splitL_cons_ne r h1, splitL_none h2]
    rfl

theorem splitL_at {c : UInt8} : ∀ {p : List UInt8} (q : List UInt8), c ∉ p → splitL c (p ++ c :: q) = p :: splitL c q
  | [], q, _ => splitL_cons_eq c q
  | x :: r, q, h => by
    have h1 : x ≠ c := fun e => h (by simp [e])
    have h2 : c ∉ r := fun e => h (by simp [e])
    rw [List.cons_append, splitL_cons_ne _ h1, splitL_at q h2]
    rfl

theorem splitL_len (c : UInt8) : ∀ l : List UInt8, (splitL c l).length ≤ l.length + 1
  | [] => by simp [splitL]
  | x :: r => by
    have := splitL_len c r
    by_cases h : x = c
    · subst h; rw [splitL_cons_eq]; simp; omega
    · rw [splitL_cons_ne r h]
      cases e : splitL c r with
      | nil => simp [consHead]
      | cons a t => simp [consHead]; rw [e] at this; simp at this; omega

theorem splitL_size (c : UInt8) : ∀ (l : List UInt8), ∀ p ∈ splitL c l, p.length ≤ l.length
  | [] => by simp [splitL]
  | x :: r => by
    have ih := splitL_size c r
    by_cases h : x = c
    · subst h
      rw [splitL_cons_eq]
      intro p hp
      rcases List.mem_cons.1 hp with rfl | hp
      · simp
      · have := ih p hp; simp; omega
    · rw [splitL_cons_ne r h]
      intro p hp
      cases e : splitL c r with
      | nil => exact absurd e (splitL_ne c r)
      | cons a t =>
        rw [e] at hp ih
        rcases List.mem_cons.1 hp with rfl | hp
        · have := ih a (by simp); simp; omega
        · have := ih p (by simp [hp]); simp; omega

theorem splitL_mem (c : UInt8) : ∀ (l : List UInt8), ∀ p ∈ splitL c l, ∀ x ∈ p, x ∈ l ∧ x ≠ c
  | [] => by simp [splitL]
  | y :: r => by
    have ih := splitL_mem c r
    by_cases h : y = c
    · subst h
      rw [splitL_cons_eq]
      intro p hp x hx
      rcases List.mem_cons.1 hp with rfl | hp
      · simp at hx
      · have := ih p hp x hx; exact ⟨by simp [this.1], this.2⟩
    · rw [splitL_cons_ne r h]
      intro p hp x hx
      cases e : splitL c r with
      | nil => exact absurd e (splitL_ne c r)
      | cons a t =>
        rw [e] at hp ih
        rcases List.mem_cons.1 hp with rfl | hp
        · rcases List.mem_append.1 hx with hx | hx
          · have : x = y := by simpa using hx
            subst this; exact ⟨by simp, h⟩
          · have := ih a (by simp) x hx; exact ⟨by simp [this.1], this.2⟩
        · have := ih p (by simp [hp]) x hx; exact ⟨by simp [this.1], this.2⟩

def splitB (c : UInt8) (s : ByteArray) : List ByteArray := (splitL c s.data.toList).map ba

theorem splitB_ne (c : UInt8) (s : ByteArray) : splitB c s ≠ [] := by
  unfold splitB
  intro h
  exact splitL_ne c _ (List.map_eq_nil_iff.1 h)

theorem wrap_in {n : Int} (h : 0 ≤ n) (h2 : n ≤ 281474976710657) : wrap64 n = n := by unfold wrap64; omega

/-! ### the reference's cronPieces -/
theorem pieces_l0 (c : UInt8) (s : ByteArray) (hs : s.size ≤ 281474976710656) : ∀ (d k : Nat) (acc : List ByteArray) (f i : Nat), f ≤ i → i ≤ s.size → s.size - i = d → d < k → acc.length + s.size - i + 1 < 8796093022208 →
    spec_cronPieces.l0 k s (c.toNat : Int) acc f (s.size : Int) i = some (acc ++ (consHead ((s.data.toList.take i).drop f) (splitL c (s.data.toList.drop i))).map ba) := by
  intro d
  induction d with
  | zero =>
    intro k acc f i hf hi hd hk hl
    obtain ⟨k, rfl⟩ : ∃ m, k = m + 1 := ⟨k - 1, by omega⟩
    simp only [spec_cronPieces.l0]
    have e : i = s.size := by omega
    rw [if_neg (by omega), if_pos (by omega), if_pos (by omega), if_pos (by omega)]
    have hdr : s.data.toList.drop i = [] := List.drop_eq_nil_of_le (by rw [← size_list]; omega)
    rw [hdr, extract_ba, Int.toNat_natCast]
    have ht : s.data.toList.take s.size = s.data.toList.take i := by rw [e]
    rw [ht]
    simp [splitL, consHead]
  | succ d ih =>
    intro k acc f i hf hi hd hk hl
    obtain ⟨k, rfl⟩ : ∃ m, k = m + 1 := ⟨k - 1, by omega⟩
    have hlt : i < s.data.toList.length := by rw [← size_list]; omega
    simp only [spec_cronPieces.l0]
    rw [if_pos (by omega), if_pos (by omega), if_pos (by omega), bt_list s i hlt, List.drop_eq_getElem_cons hlt]
    have hw : wrap64 ((i : Int) + 1) = ((i + 1 : Nat) : Int) := by rw [wrap_in (by omega) (by omega)]; omega
    by_cases h : s.data.toList[i] = c
    · rw [if_pos (by rw [h]), if_pos (by omega), if_pos (by omega), if_pos (by omega), if_pos (by omega), hw]
      rw [ih k _ (i + 1) (i + 1) (by omega) (by omega) (by omega) (by omega) (by simp; omega)]
      rw [h, splitL_cons_eq]
      have hp : (s.data.toList.take (i + 1)).drop (i + 1) = [] := List.drop_eq_nil_of_le (by simp; omega)
      rw [hp, consHead_nil (splitL_ne _ _), extract_ba, Int.toNat_natCast, Int.toNat_natCast]
      simp [consHead]
    · rw [if_neg (by intro e; exact h (UInt8.toNat_inj.1 (by omega))), hw]
      rw [ih k _ f (i + 1) (by omega) (by omega) (by omega) (by omega) (by omega)]
      rw [splitL_cons_ne _ h, consHead_cons]
      congr 3
      rw [List.take_succ_eq_append_getElem hlt, List.drop_append_of_le_length (by simp; omega)]

theorem pieces_f (c : UInt8) (s : ByteArray) (hs : s.size ≤ 8796093022206) : Ev (fun k => spec_cronPieces.f k s (c.toNat : Int)) (splitB c s) := by
  refine ⟨s.size + 1, fun k hk => ?_⟩
  unfold spec_cronPieces.f
  have := pieces_l0 c s (by omega) s.size k [] 0 0 (by omega) (by omega) (by omega) (by omega) (by simp; omega)
  rw [show ((0 : Nat) : Int) = 0 from rfl] at this
  show spec_cronPieces.l0 k s (c.toNat : Int) [] 0 (s.size : Int) 0 = _
  rw [this]
  simp [splitB, consHead_nil (splitL_ne _ _)]

/-! ### zzIndex and zzSplit -/
theorem index_l0 (c : UInt8) (s : ByteArray) (hs : s.size ≤ 281474976710655) : ∀ (d k i : Nat), i ≤ s.size → s.size - i = d → d < k →
    (cron_zzIndex.l0 k s (ba [c]) i = some (-1) ∧ c ∉ s.data.toList.drop i) ∨
    ∃ j : Nat, cron_zzIndex.l0 k s (ba [c]) i = some (j : Int) ∧ i ≤ j ∧ j < s.size ∧ ∃ p q, s.data.toList.drop i = p ++ c :: q ∧ c ∉ p ∧ p.length = j - i := by
  intro d
  induction d with
  | zero =>
    intro k i hi hd hk
    obtain ⟨k, rfl⟩ : ∃ m, k = m + 1 := ⟨k - 1, by omega⟩
    left
    simp only [cron_zzIndex.l0, ba_size, List.length_singleton]
    rw [wrap_in (by omega) (by omega), if_neg (by omega)]
    refine ⟨rfl, ?_⟩
    rw [List.drop_eq_nil_of_le (by rw [← size_list]; omega)]
    simp
  | succ d ih =>
    intro k i hi hd hk
    obtain ⟨k, rfl⟩ : ∃ m, k = m + 1 := ⟨k - 1, by omega⟩
    have hlt : i < s.data.toList.length := by rw [← size_list]; omega
    simp only [cron_zzIndex.l0, ba_size, List.length_singleton]
    have hw : wrap64 ((i : Int) + ((1 : Nat) : Int)) = ((i + 1 : Nat) : Int) := by rw [wrap_in (by omega) (by omega)]; omega
    have hw' : wrap64 ((i : Int) + 1) = ((i + 1 : Nat) : Int) := by rw [wrap_in (by omega) (by omega)]; omega
    rw [hw, if_pos (by omega), if_pos (by omega), if_pos (by omega), hw', Int.toNat_natCast, Int.toNat_natCast, toList_data, toList_data, extract_list, ba_list]
    have hx : (s.data.toList.take (i + 1)).drop i = [s.data.toList[i]] := by
      rw [List.take_succ_eq_append_getElem hlt, List.drop_append_of_le_length (by simp; omega), List.drop_eq_nil_of_le (by simp; omega)]
      rfl
    rw [hx, List.drop_eq_getElem_cons hlt]
    by_cases h : s.data.toList[i] = c
    · right
      rw [if_pos (by rw [h])]
      exact ⟨i, rfl, by omega, by omega, [], _, by rw [h]; rfl, by simp, by simp⟩
    · rw [if_neg (by intro e; exact h (by simpa using e))]
      rcases ih k (i + 1) (by omega) (by omega) (by omega) with ⟨h1, h2⟩ | ⟨j, h1, h2, h3, p, q, h4, h5, h6⟩
      · left
        refine ⟨h1, ?_⟩
        intro hm
        rcases List.mem_cons.1 hm with e | hm
        · exact h e.symm
        · exact h2 hm
      · right
        refine ⟨j, h1, by omega, h3, s.data.toList[i] :: p, q, by rw [h4]; rfl, ?_, by simp; omega⟩
        intro hm
        rcases List.mem_cons.1 hm with e | hm
        · exact h e.symm
        · exact h5 hm

theorem split_l0 (c : UInt8) : ∀ (n : Nat) (s : ByteArray) (k : Nat) (acc : List ByteArray), s.size ≤ n → s.size ≤ 281474976710655 → n + 2 < k → acc.length + s.size + 1 < 8796093022208 →
    cron_zzSplit.l0 k s (ba [c]) acc = some (acc ++ splitB c s) := by
  intro n
  induction n with
  | zero =>
    intro s k acc hn hs hk hl
    obtain ⟨k, rfl⟩ : ∃ m, k = m + 1 := ⟨k - 1, by omega⟩
    simp only [cron_zzSplit.l0]
    rcases index_l0 c s hs s.size k 0 (by omega) (by omega) (by omega) with ⟨h1, h2⟩ | ⟨j, h1, h2, h3, _⟩
    · unfold cron_zzIndex.f
      rw [show ((0 : Nat) : Int) = 0 from rfl] at h1
      rw [h1]
      simp only [Option.bind_some]
      rw [if_pos (by omega), if_pos (by omega)]
      rw [List.drop_zero] at h2
      rw [splitB, splitL_none h2]
      simp [ba_of]
    · omega
  | succ n ih =>
    intro s k acc hn hs hk hl
    obtain ⟨k, rfl⟩ : ∃ m, k = m + 1 := ⟨k - 1, by omega⟩
    simp only [cron_zzSplit.l0]
    rcases index_l0 c s hs s.size k 0 (by omega) (by omega) (by omega) with ⟨h1, h2⟩ | ⟨j, h1, h2, h3, p, q, h4, h5, h6⟩
    · unfold cron_zzIndex.f
      rw [show ((0 : Nat) : Int) = 0 from rfl] at h1
      rw [h1]
      simp only [Option.bind_some]
      rw [if_pos (by omega), if_pos (by omega)]
      rw [List.drop_zero] at h2
      rw [splitB, splitL_none h2]
      simp [ba_of]
    · unfold cron_zzIndex.f
      rw [show ((0 : Nat) : Int) = 0 from rfl] at h1
      rw [h1]
      simp only [Option.bind_some, ba_size, List.length_singleton]
      have hw : wrap64 ((j : Int) + ((1 : Nat) : Int)) = ((j + 1 : Nat) : Int) := by rw [wrap_in (by omega) (by omega)]; omega
      rw [if_neg (by omega), if_pos (by omega), if_pos (by omega), if_pos (by omega), hw, if_pos (by omega), if_pos (by omega), Int.toNat_natCast, Int.toNat_natCast]
      rw [List.drop_zero] at h4
      have hsz : (s.extract (j + 1) s.size).size = s.size - (j + 1) := by simp
      rw [ih _ k _ (by omega) (by omega) (by omega) (by simp; omega)]
      have e1 : s.extract 0 j = ba p := by
        rw [extract_ba, h4]
        congr 1
        simp
        rw [List.take_append_of_le_length (by omega), List.take_of_length_le (by omega)]
      have e2 : s.extract (j + 1) s.size = ba q := by
        rw [extract_ba, size_list, List.take_length, h4]
        congr 1
        rw [show j + 1 = p.length + 1 by omega, List.drop_append]
        simp
      rw [e1, e2]
      have e3 : splitB c s = ba p :: splitB c (ba q) := by
        rw [splitB, h4, splitL_at q h5, splitB, ba_list]
        rfl
      rw [e3]
      simp

theorem split_f (c : UInt8) (s : ByteArray) (hs : s.size ≤ 8796093022206) : Ev (fun k => cron_zzSplit.f k s (ba [c])) (splitB c s) := by
  refine ⟨s.size + 3, fun k hk => ?_⟩
  unfold cron_zzSplit.f
  show cron_zzSplit.l0 k s (ba [c]) [] = _
  rw [split_l0 c s.size s k [] (by omega) (by omega) (by omega) (by simp; omega)]
  simp

end Go.Proofs.YtikgnpachlgakaaDoor.Text
