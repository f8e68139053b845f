import Derived.Test.YtjdcljggbbeikaaDoorM
set_option linter.unusedVariables false
set_option linter.unusedSimpArgs false
set_option maxRecDepth 100000
namespace Go.Proofs.YtjdcljggbbeikaaDoor
open Go.Proofs Go.Proofs.YtjdcljggbbeikaaDoorA

/-! Pieces. -/
theorem pieces_app {m : List UInt8} {x : List UInt8} {t : List (List UInt8)} (hm : pieces 46 m = x :: t) : ∀ (l : List UInt8) (ps : List (List UInt8)) (cur : List UInt8), pieces 46 l = ps ++ [cur] → pieces 46 (l ++ m) = ps ++ (cur ++ x) :: t
  | [], ps, cur, h => by
    have h1 : ps = [] ∧ cur = [] := by
      cases ps with
      | nil =>
        have h : [[]] = [cur] := h
        injection h with h1 h2
        exact ⟨rfl, h1.symm⟩
      | cons p ps =>
        have hl := congrArg List.length (show [[]] = p :: (ps ++ [cur]) from h)
        simp at hl
    obtain ⟨rfl, rfl⟩ := h1
    simpa using hm
  | d :: r, ps, cur, h => by
    unfold pieces at h
    rw [List.cons_append]
    unfold pieces
    by_cases hd : d = 46
    · rw [if_pos hd] at h ⊢
      cases ps with
      | nil =>
        have hl := congrArg List.length h
        have := List.length_pos_iff.2 (pieces_ne 46 r)
        simp at hl
        exact absurd hl (pieces_ne 46 r)
      | cons p ps =>
        rw [List.cons_append] at h
        injection h with h1 h2
        rw [pieces_app hm r ps cur h2, ← h1]; rfl
    · rw [if_neg hd] at h ⊢
      cases hp : pieces 46 r with
      | nil => exact absurd hp (pieces_ne 46 r)
      | cons y ys =>
        rw [hp] at h
        dsimp only at h
        cases ps with
        | nil =>
          rw [List.nil_append] at h
          injection h with h1 h2
          subst h2
          have := pieces_app hm r [] y (by rw [hp]; rfl)
          rw [this, ← h1]; rfl
        | cons p ps =>
          rw [List.cons_append] at h
          injection h with h1 h2
          have := pieces_app hm r (y :: ps) cur (by rw [hp, h2]; rfl)
          rw [this, ← h1]; rfl
theorem pieces_mem {c : UInt8} (hc : c ≠ 46) : ∀ (l : List UInt8), c ∈ l → ∃ p, p ∈ pieces 46 l ∧ c ∈ p
  | d :: r, h => by
    unfold pieces
    rcases List.mem_cons.1 h with rfl | h
    · rw [if_neg hc]
      cases hp : pieces 46 r with
      | nil => exact ⟨[c], by simp, by simp⟩
      | cons y ys => exact ⟨c :: y, by simp, by simp⟩
    · obtain ⟨p, h1, h2⟩ := pieces_mem hc r h
      by_cases hd : d = 46
      · rw [if_pos hd]; exact ⟨p, List.mem_cons_of_mem _ h1, h2⟩
      · rw [if_neg hd]
        cases hp : pieces 46 r with
        | nil => rw [hp] at h1; cases h1
        | cons y ys =>
          rw [hp] at h1
          rcases List.mem_cons.1 h1 with rfl | h1
          · exact ⟨d :: p, by simp, List.mem_cons_of_mem _ h2⟩
          · exact ⟨p, List.mem_cons_of_mem _ h1, h2⟩
theorem host_bad {l : List UInt8} {c : UInt8} (h : c ∈ l) (h46 : c ≠ 46) (hc : chB c = false) : hostB l = false := by
  obtain ⟨p, h1, h2⟩ := pieces_mem h46 l h
  unfold hostB
  rw [show (pieces 46 l).all labB = false from List.all_eq_false.2 ⟨p, h1, by rw [labB_all h2 hc]; decide⟩, Bool.and_false]
/-- A small letter or a digit. -/
def alB (c : UInt8) : Bool := decide (97 ≤ c.toNat ∧ c.toNat ≤ 122) || decide (48 ≤ c.toNat ∧ c.toNat ≤ 57)
theorem al_nat {c : UInt8} (h : alB c = true) : (97 ≤ c.toNat ∧ c.toNat ≤ 122) ∨ (48 ≤ c.toNat ∧ c.toNat ≤ 57) := by
  unfold alB at h
  simpa only [Bool.or_eq_true, decide_eq_true_eq] using h
theorem al_ne {c : UInt8} (h : alB c = true) (d : UInt8) (hd : d.toNat < 48 ∨ (57 < d.toNat ∧ d.toNat < 97)) : c ≠ d := by
  rintro rfl
  have := al_nat h
  omega
theorem al_ch {c : UInt8} (h : alB c = true) : chB c = true := by
  have := al_nat h
  unfold chB chN
  simp only [Bool.or_eq_true, decide_eq_true_eq]
  omega
structure Clean (l : List UInt8) : Prop where
  ne : l ≠ []
  len : l.length ≤ 63
  al : ∀ c, c ∈ l → alB c = true
theorem Clean.lab {l : List UInt8} (h : Clean l) : labB l = true := by
  unfold labB
  have h1 : l.all chB = true := List.all_eq_true.2 fun c hc => al_ch (h.al c hc)
  rw [h1, Bool.and_true]
  refine decide_eq_true ⟨h.ne, h.len, fun e => ?_, fun e => ?_⟩
  · exact al_ne (h.al 45 (List.mem_of_mem_head? (by rw [e]; rfl))) 45 (.inl (by decide)) rfl
  · exact al_ne (h.al 45 (List.mem_of_getLast? e)) 45 (.inl (by decide)) rfl

/-! Numerals. -/
theorem dec_def (m : Nat) : Lib.decDigits m = if h : m < 10 then [UInt8.ofNat (48 + m)] else Lib.decDigits (m / 10) ++ [UInt8.ofNat (48 + m % 10)] := by rw [Lib.decDigits]
theorem dig_nat (m : Nat) (h : m < 10) : (UInt8.ofNat (48 + m)).toNat = 48 + m := by
  simp only [UInt8.toNat_ofNat']
  omega
theorem dec_spec : ∀ (k n : Nat), n < k → (Lib.decDigits n).all digB = true ∧ numF (Lib.decDigits n) = n ∧ Lib.decDigits n ≠ [] ∧ (1 ≤ n → (Lib.decDigits n).head? ≠ some 48) ∧ (∀ j, 1 ≤ j → n < 10 ^ j → (Lib.decDigits n).length ≤ j)
  | 0, n, h => absurd h (Nat.not_lt_zero _)
  | k + 1, n, h => by
    rw [dec_def]
    split
    · rename_i h10
      have hd := dig_nat n h10
      refine ⟨by simp [digB, hd]; omega, by simp only [numF, List.foldl_cons, List.foldl_nil, hd]; omega, by simp, fun h1 e => ?_, fun j hj _ => by simpa using hj⟩
      have e : UInt8.ofNat (48 + n) = 48 := by simpa using e
      rw [e] at hd
      have : (48 : UInt8).toNat = 48 := rfl
      omega
    · rename_i h10
      obtain ⟨h1, h2, h3, h4, h5⟩ := dec_spec k (n / 10) (by omega)
      have hd := dig_nat (n % 10) (by omega)
      refine ⟨by rw [List.all_append, h1]; simp [digB, hd]; omega, by rw [numF_snoc, h2, hd]; omega, by simp, fun _ e => ?_, fun j hj hjn => ?_⟩
      · rw [List.head?_append] at e
        cases hh : (Lib.decDigits (n / 10)).head? with
        | none => exact h3 (List.head?_eq_none_iff.1 hh)
        | some x => rw [hh] at e; exact h4 (by omega) (by rw [hh]; simpa using e)
      · rw [List.length_append]
        obtain ⟨i, rfl⟩ : ∃ i, j = i + 1 := ⟨j - 1, by omega⟩
        have hi : 1 ≤ i := by
          rcases Nat.eq_zero_or_pos i with h0 | h0
          · subst h0; simp at hjn; omega
          · exact h0
        have := h5 i hi (by rw [Nat.pow_succ] at hjn; omega)
        simpa using this
theorem portN_dec (n : Nat) (h1 : 1 ≤ n) (h2 : n < 100000) : portN (Lib.decDigits n) = (n : Nat) := by
  obtain ⟨d1, d2, d3, d4, d5⟩ := dec_spec (n + 1) n (Nat.lt_succ_self n)
  unfold portN
  rw [if_pos ⟨d3, d5 5 (by omega) h2, d4 h1, d1⟩, d2]

/-! There and back. -/
structure GoodO (o : Org) : Prop where
  sch : o.sch = sHttp ∨ o.sch = sHttps
  port : 1 ≤ o.port ∧ o.port ≤ 65535
  ch : ∀ c, c ∈ bl o.host → alB c = true ∨ c = 46
  len : (bl o.host).length ≤ 253
  lab : ∀ p, p ∈ pieces 46 (bl o.host) → Clean p
theorem GoodO.right {o : Org} (h : GoodO o) : rightB o = true := by
  unfold rightB hostB
  have h1 : 0 < usualN o.sch := by rcases h.sch with e | e <;> rw [e] <;> decide
  rw [decide_eq_true h1, decide_eq_true h.len, decide_eq_true h.port, show (pieces 46 (bl o.host)).all labB = true from List.all_eq_true.2 fun p hp => (h.lab p hp).lab]
  rfl
theorem GoodO.withPort {o : Org} (h : GoodO o) {p : Int} (hp : 1 ≤ p ∧ p ≤ 65535) : GoodO { o with port := p } := ⟨h.sch, hp, h.ch, h.len, h.lab⟩
theorem low_id {o : Org} (h : GoodO o) : (bl o.host).map lowB = bl o.host := by
  have : ∀ l : List UInt8, (∀ c, c ∈ l → alB c = true ∨ c = 46) → l.map lowB = l := by
    intro l
    induction l with
    | nil => intro _; rfl
    | cons c r ih =>
      intro h
      rw [List.map_cons, ih fun x hx => h x (List.mem_cons_of_mem _ hx)]
      have hc : lowB c = c := by
        unfold lowB
        rcases h c List.mem_cons_self with h | rfl
        · have := al_nat h
          rw [if_neg (by omega)]
        · decide
      rw [hc]
  exact this _ h.ch
theorem no_colon {o : Org} (h : GoodO o) {u : List UInt8} (hu : u.map lowB = bl o.host) : (58 : UInt8) ∉ u := fun hm => by
  have h1 : lowB 58 ∈ bl o.host := hu ▸ List.mem_map_of_mem hm
  have h2 : lowB 58 = 58 := by decide
  rw [h2] at h1
  rcases h.ch 58 h1 with h3 | h3
  · exact al_ne h3 58 (.inr (by decide)) rfl
  · revert h3; decide
/-- The text of an authority: the host as it is spelt; the port, where it is named. -/
def authT (u : List UInt8) (b : Bool) (p : Nat) : List UInt8 := u ++ if b = true then 58 :: Lib.decDigits p else []
theorem cut1_auth {o : Org} (h : GoodO o) {u : List UInt8} (hu : u.map lowB = bl o.host) (b : Bool) (p : Nat) : cut1 (authT u b p) = (u, if b = true then Lib.decDigits p else [], b) := by
  unfold authT
  cases b
  · simpa using cut1_none (no_colon h hu)
  · simpa using cut1_some (no_colon h hu)
theorem spelt_back {o : Org} (h : GoodO o) {u : List UInt8} (hu : u.map lowB = bl o.host) (b : Bool) (hb : b = true ∨ o.port = usualN o.sch) : speltO o.sch (BA (authT u b o.port.toNat)) = o := by
  have hp := h.port
  have hpd := portN_dec o.port.toNat (by omega) (by omega)
  unfold speltO
  rw [bl_BA, cut1_auth h hu]
  dsimp only
  rw [hu, BA_bl]
  cases b
  · rcases hb with hb | hb
    · cases hb
    · rw [if_neg Bool.false_ne_true, ← hb]
  · rw [if_pos rfl, if_pos rfl, hpd]
    obtain ⟨s, t, q⟩ := o
    dsimp only at hp ⊢
    rw [show ((q.toNat : Nat) : Int) = q by omega]
theorem cut3_sch {s : ByteArray} (hs : s = sHttp ∨ s = sHttps) (r : List UInt8) : cut3 (bl s ++ ([58, 47, 47] ++ r)) = (bl s, r, true) := by
  have key : ∀ l : List UInt8, (∀ c, c ∈ l → c ≠ 58) → cut3 (l ++ ([58, 47, 47] ++ r)) = (l, r, true) := by
    intro l hl
    have hocc : Lib.occAt (l ++ ([58, 47, 47] ++ r)) [58, 47, 47] l.length = true := by
      unfold Lib.occAt
      rw [List.drop_left]
      simp [List.isPrefixOf]
    have hno : ∀ j, j < l.length → Lib.occAt (l ++ ([58, 47, 47] ++ r)) [58, 47, 47] j = false := fun j hj => by
      unfold Lib.occAt
      rw [List.drop_append_of_le_length (by omega), List.drop_eq_getElem_cons hj, List.cons_append]
      simp only [List.isPrefixOf]
      have : ((58 : UInt8) == l[j]) = false := by
        have := hl _ (List.getElem_mem hj)
        simpa using fun e => this e.symm
      rw [this]; rfl
    rcases cut3_spec (l ++ ([58, 47, 47] ++ r)) with ⟨_, h⟩ | ⟨k, h1, h2, h3, h⟩
    · rw [h] at hocc; cases hocc
    · have : k = l.length := by
        rcases Nat.lt_trichotomy k l.length with hk | hk | hk
        · rw [hno k hk] at h2; cases h2
        · exact hk
        · rw [h3 _ hk] at hocc; cases hocc
      subst this
      rw [h]
      simp
  refine key (bl s) fun c hc => ?_
  rcases hs with rfl | rfl <;> (revert c hc; decide)
theorem sch_low {s : ByteArray} (hs : s = sHttp ∨ s = sHttps) : BA ((bl s).map lowB) = s := by rcases hs with rfl | rfl <;> decide
theorem parse_sch {s : ByteArray} (hs : s = sHttp ∨ s = sHttps) (t : List UInt8) : parseN (BA (bl s ++ ([58, 47, 47] ++ t))) = if rightB (speltO s (BA t)) = true then (speltO s (BA t), 0) else (org0, 150) := by
  unfold parseN parseOf
  rw [bl_BA, cut3_sch hs]
  dsimp only
  rw [sch_low hs]
  simp
theorem bad_host {s : ByteArray} {t : List UInt8} (h58 : (58 : UInt8) ∉ t) {c : UInt8} (hc : c ∈ t) (h46 : c ≠ 46) (hl : lowB c = c) (hb : chB c = false) : rightB (speltO s (BA t)) = false := by
  unfold rightB speltO
  rw [bl_BA, cut1_none h58]
  dsimp only
  rw [bl_BA, host_bad (c := c) (by rw [← hl]; exact List.mem_map_of_mem hc) h46 hb, Bool.and_false, Bool.false_and]
theorem bad_port {s : ByteArray} {a b : List UInt8} (h58 : (58 : UInt8) ∉ a) (hp : portN b = 0) : rightB (speltO s (BA (a ++ 58 :: b))) = false := by
  unfold rightB speltO
  rw [bl_BA, cut1_some h58]
  dsimp only
  rw [if_pos rfl, hp, show decide ((1 : Int) ≤ 0 ∧ (0 : Int) ≤ 65535) = false by decide, Bool.and_false]
theorem print_good {o : Org} (h : GoodO o) : printN o = (BA (bl o.sch ++ ([58, 47, 47] ++ authT (bl o.host) (decide (o.port ≠ usualN o.sch)) o.port.toNat)), 0) := by
  unfold printN
  rw [if_pos h.right]
  have hp := h.port
  unfold printS authT Lib.itoa
  refine Prod.ext ?_ rfl
  dsimp only
  rw [← bl_inj]
  by_cases hpu : o.port = usualN o.sch
  · rw [if_pos hpu, decide_eq_false (fun hn => hn hpu), if_neg Bool.false_ne_true, bl_BA]
    simp only [bl_append]
    simp [bl]
  · rw [if_neg hpu, decide_eq_true hpu, if_pos rfl, if_neg (by omega), bl_BA]
    simp only [bl_append, bl_BA]
    simp [bl]
end Go.Proofs.YtjdcljggbbeikaaDoor
