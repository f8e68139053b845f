/- Texts as lists of bytes: small letters, blanks, pieces. -/
import Derived.Test.YtmenbolalghljaaAw31
set_option linter.unusedVariables false
namespace Go.Proofs.YtmenbolalghljaaA

def lowB (c : UInt8) : UInt8 := if 65 ≤ c.toNat ∧ c.toNat ≤ 90 then c + 32 else c
def BA (l : List UInt8) : ByteArray := ⟨l.toArray⟩
def bl (s : ByteArray) : List UInt8 := s.data.toList
@[simp] theorem bl_BA (l : List UInt8) : bl (BA l) = l := by simp [bl, BA]
@[simp] theorem BA_bl (s : ByteArray) : BA (bl s) = s := by simp [bl, BA]
theorem BA_inj {l m : List UInt8} : BA l = BA m ↔ l = m := ⟨fun h => by simpa using congrArg bl h, fun h => h ▸ rfl⟩
theorem bl_inj {s t : ByteArray} : bl s = bl t ↔ s = t := ⟨fun h => by simpa using congrArg BA h, fun h => h ▸ rfl⟩
theorem bl_length (s : ByteArray) : (bl s).length = s.size := by simp [bl]
theorem BA_size (l : List UInt8) : (BA l).size = l.length := by simp [BA, ByteArray.size]
theorem bl_append (s t : ByteArray) : bl (s ++ t) = bl s ++ bl t := by simp [bl, ByteArray.data_append]
theorem bl_extract (s : ByteArray) (i j : Nat) : bl (s.extract i j) = ((bl s).drop i).take (j - i) := by
  simp [bl, ByteArray.data_extract, List.extract_eq_take_drop]
theorem low_toNat (c : UInt8) (h : 65 ≤ c.toNat ∧ c.toNat ≤ 90) : (c + 32).toNat = c.toNat + 32 := by
  rw [UInt8.toNat_add]
  have : (32 : UInt8).toNat = 32 := rfl
  omega
theorem lowB_lowB (c : UInt8) : lowB (lowB c) = lowB c := by
  unfold lowB
  by_cases h : 65 ≤ c.toNat ∧ c.toNat ≤ 90
  · have := low_toNat c h
    rw [if_pos h, if_neg (by omega)]
  · rw [if_neg h, if_neg h]

def bk (c : UInt8) : Bool := c == 32 || c == 9
def trimL (l : List UInt8) : List UInt8 := l.dropWhile bk
def trimR (l : List UInt8) : List UInt8 := (l.reverse.dropWhile bk).reverse
def trim (l : List UInt8) : List UInt8 := trimR (trimL l)
theorem trimR_append {l m : List UInt8} (h : ∃ c, c ∈ m ∧ bk c = false) : trimR (l ++ m) = l ++ trimR m := by
  unfold trimR
  rw [List.reverse_append]
  have : ∀ (m l : List UInt8), (∃ c, c ∈ m ∧ bk c = false) → (m ++ l).dropWhile bk = m.dropWhile bk ++ l := by
    intro m l
    induction m with
    | nil => rintro ⟨c, hc, _⟩; cases hc
    | cons a m ih =>
      rintro ⟨c, hc, hb⟩
      by_cases ha : bk a = true
      · rw [List.cons_append, List.dropWhile_cons_of_pos ha, List.dropWhile_cons_of_pos ha]
        refine ih ⟨c, ?_, hb⟩
        rcases List.mem_cons.1 hc with rfl | h
        · rw [ha] at hb; cases hb
        · exact h
      · rw [List.cons_append, List.dropWhile_cons_of_neg ha, List.dropWhile_cons_of_neg ha, List.cons_append]
  rw [this _ _ (by obtain ⟨c, h1, h2⟩ := h; exact ⟨c, by simpa using h1, h2⟩)]
  simp
theorem trim_comm (l : List UInt8) : trimL (trimR l) = trimR (trimL l) := by
  induction l with
  | nil => rfl
  | cons a l ih =>
    by_cases ha : bk a = true
    · have e1 : trimL (a :: l) = trimL l := List.dropWhile_cons_of_pos ha
      rw [e1, ← ih]
      by_cases hx : ∃ c, c ∈ l ∧ bk c = false
      · have : trimR (a :: l) = a :: trimR l := trimR_append (l := [a]) hx
        rw [this]
        exact List.dropWhile_cons_of_pos ha
      · have hall : ∀ c, c ∈ l → bk c = true := fun c hc => by
          cases hb : bk c with
          | true => rfl
          | false => exact absurd ⟨c, hc, hb⟩ hx
        have h1 : ∀ m : List UInt8, (∀ c, c ∈ m → bk c = true) → m.dropWhile bk = [] := by
          intro m
          induction m with
          | nil => intro _; rfl
          | cons b m ih2 => intro h; rw [List.dropWhile_cons_of_pos (h b List.mem_cons_self)]; exact ih2 fun c hc => h c (List.mem_cons_of_mem _ hc)
        have e2 : trimR (a :: l) = [] := by
          unfold trimR
          rw [h1 _ (by intro c hc; rcases List.mem_cons.1 (List.mem_reverse.1 hc) with rfl | h; exact ha; exact hall c h)]
          rfl
        have e3 : trimR l = [] := by
          unfold trimR
          rw [h1 _ (by intro c hc; exact hall c (List.mem_reverse.1 hc))]
          rfl
        rw [e2, e3]
    · have e1 : trimL (a :: l) = a :: l := List.dropWhile_cons_of_neg ha
      rw [e1]
      have hx : ∃ c, c ∈ a :: l ∧ bk c = false := ⟨a, List.mem_cons_self, by simpa using ha⟩
      cases hl : trimR (a :: l) with
      | nil => rfl
      | cons b m =>
        by_cases hy : ∃ c, c ∈ l ∧ bk c = false
        · have : trimR (a :: l) = a :: trimR l := trimR_append (l := [a]) hy
          rw [this] at hl
          cases hl
          exact List.dropWhile_cons_of_neg ha
        · have hb : b = a := by
            have hp : (a :: l).reverse.dropWhile bk = (b :: m).reverse := by
              have := congrArg List.reverse hl
              simpa [trimR] using this
            have hs : (b :: m).reverse <:+ (a :: l).reverse := hp ▸ List.dropWhile_suffix _
            have : b :: m <+: a :: l := List.reverse_suffix.1 hs
            exact (List.cons_prefix_cons.1 this).1
          subst hb
          exact List.dropWhile_cons_of_neg ha

/-- The pieces of a text between a byte. -/
def pieces (sep : UInt8) : List UInt8 → List (List UInt8)
  | [] => [[]]
  | c :: r => if c = sep then [] :: pieces sep r else match pieces sep r with
    | h :: t => (c :: h) :: t
    | [] => [[c]]
theorem pieces_ne (sep : UInt8) (l : List UInt8) : pieces sep l ≠ [] := by
  cases l with
  | nil => simp [pieces]
  | cons c r =>
    unfold pieces
    split
    · simp
    · split <;> simp
theorem pieces_none {sep : UInt8} {l : List UInt8} (h : sep ∉ l) : pieces sep l = [l] := by
  induction l with
  | nil => rfl
  | cons c r ih =>
    have h1 : c ≠ sep := fun e => h (e ▸ List.mem_cons_self)
    have h2 := ih fun hc => h (List.mem_cons_of_mem _ hc)
    unfold pieces
    rw [if_neg h1, h2]
theorem pieces_cut {sep : UInt8} {l m : List UInt8} (h : sep ∉ l) : pieces sep (l ++ sep :: m) = l :: pieces sep m := by
  induction l with
  | nil => simp [pieces]
  | cons c r ih =>
    have h1 : c ≠ sep := fun e => h (e ▸ List.mem_cons_self)
    have h2 := ih fun hc => h (List.mem_cons_of_mem _ hc)
    rw [List.cons_append, pieces, if_neg h1, h2]
end Go.Proofs.YtmenbolalghljaaA
