namespace Go.Proofs.Ybulkckss

/-! the sort's own laws, with no Go in sight: rows as functions of the place -/
section sym
variable {E : Type} {key : E → Nat}

/-- g is f with the places a .. b-1 in another order -/
def PermF (a b : Nat) (f g : Nat → E) : Prop := ∃ s t : Nat → Nat, (∀ i, t (s i) = i) ∧ (∀ i, s (t i) = i) ∧ (∀ i, ¬ (a ≤ i ∧ i < b) → s i = i) ∧ ∀ i, g i = f (s i)
theorem PermF.refl (a b : Nat) (f : Nat → E) : PermF a b f f := ⟨id, id, fun _ => rfl, fun _ => rfl, fun _ _ => rfl, fun _ => rfl⟩
theorem PermF.trans {a b : Nat} {f g h : Nat → E} (p : PermF a b f g) (q : PermF a b g h) : PermF a b f h := by
  obtain ⟨s, t, h1, h2, h3, h4⟩ := p
  obtain ⟨s', t', k1, k2, k3, k4⟩ := q
  refine ⟨fun i => s (s' i), fun i => t' (t i), fun i => ?_, fun i => ?_, fun i hi => ?_, fun i => ?_⟩
  · show t' (t (s (s' i))) = i
    rw [h1, k1]
  · show s (s' (t' (t i))) = i
    rw [k2, h2]
  · show s (s' i) = i
    rw [k3 i hi, h3 i hi]
  · rw [k4, h4]
theorem PermF.mono {a b a' b' : Nat} {f g : Nat → E} (p : PermF a b f g) (h1 : a' ≤ a) (h2 : b ≤ b') : PermF a' b' f g := by
  obtain ⟨s, t, k1, k2, k3, k4⟩ := p
  exact ⟨s, t, k1, k2, fun i hi => k3 i (fun x => hi ⟨by omega, by omega⟩), k4⟩
theorem PermF.out {a b : Nat} {f g : Nat → E} (p : PermF a b f g) {i : Nat} (hi : ¬ (a ≤ i ∧ i < b)) : g i = f i := by
  obtain ⟨s, t, _, _, k3, k4⟩ := p
  rw [k4, k3 i hi]
theorem PermF.bk {a b : Nat} {f g : Nat → E} (p : PermF a b f g) {i : Nat} (h1 : a ≤ i) (h2 : i < b) : ∃ j, a ≤ j ∧ j < b ∧ g i = f j := by
  obtain ⟨s, t, k1, k2, k3, k4⟩ := p
  refine Classical.byContradiction fun hn => ?_
  have hs : ¬ (a ≤ s i ∧ s i < b) := fun x => hn ⟨s i, x.1, x.2, k4 i⟩
  have e := k3 _ hs
  have e2 : s i = i := by
    have := congrArg t e
    rwa [k1, k1] at this
  exact hs (by rw [e2]; exact ⟨h1, h2⟩)
theorem PermF.symm {a b : Nat} {f g : Nat → E} (p : PermF a b f g) : PermF a b g f := by
  obtain ⟨s, t, k1, k2, k3, k4⟩ := p
  refine ⟨t, s, k2, k1, fun i hi => ?_, fun i => by rw [k4, k2]⟩
  have := congrArg t (k3 i hi)
  rw [k1] at this
  exact this.symm
theorem PermF.fw {a b : Nat} {f g : Nat → E} (p : PermF a b f g) {i : Nat} (h1 : a ≤ i) (h2 : i < b) : ∃ j, a ≤ j ∧ j < b ∧ g j = f i := by
  obtain ⟨j, j1, j2, e⟩ := p.symm.bk h1 h2
  exact ⟨j, j1, j2, e.symm⟩
theorem PermF.inj {a b : Nat} {f g : Nat → E} (p : PermF a b f g) (hf : ∀ i j, a ≤ i → i < b → a ≤ j → j < b → f i = f j → i = j) {i j : Nat} (i1 : a ≤ i) (i2 : i < b) (j1 : a ≤ j) (j2 : j < b) (e : g i = g j) : i = j := by
  obtain ⟨s, t, k1, k2, k3, k4⟩ := p
  have hin : ∀ i, a ≤ i → i < b → a ≤ s i ∧ s i < b := fun i h1 h2 => by
    refine Classical.byContradiction fun hs => ?_
    have e := k3 _ hs
    have e2 : s i = i := by
      have := congrArg t e
      rwa [k1, k1] at this
    exact hs (by rw [e2]; exact ⟨h1, h2⟩)
  rw [k4, k4] at e
  have := hf _ _ (hin i i1 i2).1 (hin i i1 i2).2 (hin j j1 j2).1 (hin j j1 j2).2 e
  have := congrArg t this
  rwa [k1, k1] at this

def swF (f : Nat → E) (i j : Nat) : Nat → E := fun k => if k = i then f j else if k = j then f i else f k
theorem PermF.swap {a b : Nat} {f : Nat → E} {i j : Nat} (hi : a ≤ i ∧ i < b) (hj : a ≤ j ∧ j < b) : PermF a b f (swF f i j) := by
  refine ⟨fun k => if k = i then j else if k = j then i else k, fun k => if k = i then j else if k = j then i else k, fun k => ?_, fun k => ?_, fun k hk => ?_, fun k => ?_⟩
  · show (if (if k = i then j else if k = j then i else k) = i then j else if (if k = i then j else if k = j then i else k) = j then i else (if k = i then j else if k = j then i else k)) = k
    split <;> split <;> (try split) <;> (try split) <;> omega
  · show (if (if k = i then j else if k = j then i else k) = i then j else if (if k = i then j else if k = j then i else k) = j then i else (if k = i then j else if k = j then i else k)) = k
    split <;> split <;> (try split) <;> (try split) <;> omega
  · show (if k = i then j else if k = j then i else k) = k
    rw [if_neg (fun e => hk ⟨by omega, by omega⟩), if_neg (fun e => hk ⟨by omega, by omega⟩)]
  · show (if k = i then f j else if k = j then f i else f k) = f (if k = i then j else if k = j then i else k)
    split
    · rfl
    · split <;> rfl

/-- the places a .. b-1 are in order -/
def SortF (key : E → Nat) (a b : Nat) (f : Nat → E) : Prop := ∀ i j, a ≤ i → i < j → j < b → key (f i) ≤ key (f j)

/-- swapRange -/
def srF (f : Nat → E) (a b n : Nat) : Nat → E := fun k => if a ≤ k ∧ k < a + n then f (k - a + b) else if b ≤ k ∧ k < b + n then f (k - b + a) else f k
theorem srF_zero (f : Nat → E) (a b : Nat) : srF f a b 0 = f := by
  funext k
  unfold srF
  rw [if_neg (by omega), if_neg (by omega)]
theorem srF_step (f : Nat → E) {a b n : Nat} (h : a + n < b) : swF (srF f a b n) (a + n) (b + n) = srF f a b (n + 1) := by
  funext k
  unfold swF srF
  by_cases e1 : k = a + n
  · rw [if_pos e1, if_neg (by omega), if_neg (by omega), if_pos (by omega)]
    congr 1; omega
  · rw [if_neg e1]
    by_cases e2 : k = b + n
    · rw [if_pos e2, if_neg (by omega), if_neg (by omega), if_neg (by omega), if_pos (by omega)]
      congr 1; omega
    · rw [if_neg e2]
      by_cases e3 : a ≤ k ∧ k < a + n
      · rw [if_pos e3, if_pos (by omega)]
      · by_cases e4 : b ≤ k ∧ k < b + n
        · rw [if_neg e3, if_pos e4, if_neg (by omega), if_pos (by omega)]
        · rw [if_neg e3, if_neg e4, if_neg (by omega), if_neg (by omega)]

/-- rotate: the places lo .. m-1 and m .. hi-1 change sides -/
def rotF (f : Nat → E) (lo m hi : Nat) : Nat → E := fun k => if lo ≤ k ∧ k < lo + (hi - m) then f (k + (m - lo)) else if lo + (hi - m) ≤ k ∧ k < hi then f (k - (hi - m)) else f k
theorem rotF_left (g : Nat → E) {i j m : Nat} (hi : i ≤ m) (h : j < i) : rotF (srF g (m - i) m j) (m - i + j) m (m + j) = rotF g (m - i) m (m + j) := by
  funext k
  unfold rotF srF
  by_cases c1 : m - i ≤ k ∧ k < m - i + j
  · rw [if_neg (by omega), if_neg (by omega), if_pos (by omega), if_pos (by omega)]
    congr 1; omega
  · by_cases c2 : m - i + j ≤ k ∧ k < m - i + j + j
    · rw [if_pos (by omega), if_neg (by omega), if_pos (by omega)]
      rw [if_neg (by omega), if_pos (by omega)]
      congr 1; omega
    · by_cases c3 : m - i + j + j ≤ k ∧ k < m + j
      · rw [if_neg (by omega), if_pos (by omega), if_neg (by omega), if_neg (by omega), if_neg (by omega), if_pos (by omega)]
      · rw [if_neg (by omega), if_neg (by omega), if_neg (by omega), if_neg (by omega), if_neg (by omega), if_neg (by omega)]
theorem rotF_right (g : Nat → E) {i j m : Nat} (hi : i ≤ m) (h : i < j) : rotF (srF g (m - i) (m + j - i) i) (m - i) m (m + (j - i)) = rotF g (m - i) m (m + j) := by
  funext k
  unfold rotF srF
  by_cases c1 : m - i ≤ k ∧ k < m - i + (j - i)
  · rw [if_pos (by omega)]
    rw [if_neg (by omega), if_neg (by omega), if_pos (by omega)]
  · by_cases c2 : m - i + (j - i) ≤ k ∧ k < m - i + j
    · rw [if_neg (by omega), if_pos (by omega), if_pos (by omega), if_pos (by omega)]
      congr 1; omega
    · by_cases c3 : m - i + j ≤ k ∧ k < m + j
      · rw [if_neg (by omega), if_neg (by omega), if_neg (by omega), if_pos (by omega), if_neg (by omega), if_pos (by omega)]
        congr 1; omega
      · rw [if_neg (by omega), if_neg (by omega), if_neg (by omega), if_neg (by omega), if_neg (by omega), if_neg (by omega)]
theorem rotF_even (g : Nat → E) {i m : Nat} (hi : i ≤ m) : srF g (m - i) m i = rotF g (m - i) m (m + i) := by
  funext k
  unfold rotF srF
  by_cases c1 : m - i ≤ k ∧ k < m - i + i
  · rw [if_pos (by omega), if_pos (by omega)]
    congr 1; omega
  · by_cases c2 : m ≤ k ∧ k < m + i
    · rw [if_neg (by omega), if_pos (by omega), if_neg (by omega), if_pos (by omega)]
      congr 1; omega
    · rw [if_neg (by omega), if_neg (by omega), if_neg (by omega), if_neg (by omega)]
theorem rotF_perm (f : Nat → E) {a m b : Nat} (h1 : a ≤ m) (h2 : m ≤ b) : PermF a b f (rotF f a m b) := by
  refine ⟨fun k => if a ≤ k ∧ k < a + (b - m) then k + (m - a) else if a + (b - m) ≤ k ∧ k < b then k - (b - m) else k,
    fun k => if a ≤ k ∧ k < m then k + (b - m) else if m ≤ k ∧ k < b then k - (m - a) else k, fun k => ?_, fun k => ?_, fun k hk => ?_, fun k => ?_⟩
  · by_cases c1 : a ≤ k ∧ k < a + (b - m)
    · simp only [if_pos c1]
      rw [if_neg (by omega), if_pos (by omega)]; omega
    · simp only [if_neg c1]
      by_cases c2 : a + (b - m) ≤ k ∧ k < b
      · simp only [if_pos c2]
        rw [if_pos (by omega)]; omega
      · simp only [if_neg c2]
        rw [if_neg (by omega), if_neg (by omega)]
  · by_cases c1 : a ≤ k ∧ k < m
    · simp only [if_pos c1]
      rw [if_neg (by omega), if_pos (by omega)]; omega
    · simp only [if_neg c1]
      by_cases c2 : m ≤ k ∧ k < b
      · simp only [if_pos c2]
        rw [if_pos (by omega)]; omega
      · simp only [if_neg c2]
        rw [if_neg (by omega), if_neg (by omega)]
  · dsimp only
    rw [if_neg (by omega), if_neg (by omega)]
  · unfold rotF
    dsimp only
    by_cases c1 : a ≤ k ∧ k < a + (b - m)
    · rw [if_pos c1, if_pos c1]
    · rw [if_neg c1, if_neg c1]
      by_cases c2 : a + (b - m) ≤ k ∧ k < b
      · rw [if_pos c2, if_pos c2]
      · rw [if_neg c2, if_neg c2]

theorem rotF_nil (f : Nat → E) (a m : Nat) : rotF f a m m = f := by
  funext k
  unfold rotF
  rw [if_neg (by omega)]
  by_cases c : a + (m - m) ≤ k ∧ k < m
  · rw [if_pos c]; congr 1; omega
  · rw [if_neg c]
theorem rotF_nil2 (f : Nat → E) {m b : Nat} (h : m ≤ b) : rotF f m m b = f := by
  funext k
  unfold rotF
  by_cases c : m ≤ k ∧ k < m + (b - m)
  · rw [if_pos c]; congr 1; omega
  · rw [if_neg c, if_neg (by omega)]
theorem ins_up (f : Nat → E) {a k : Nat} (h : a ≤ k) : swF (rotF f a (a + 1) (k + 1)) k (k + 1) = rotF f a (a + 1) (k + 2) := by
  funext x
  unfold swF rotF
  by_cases e1 : x = k
  · rw [if_pos e1, if_neg (by omega), if_neg (by omega), if_pos (by omega)]
    congr 1; omega
  · rw [if_neg e1]
    by_cases e2 : x = k + 1
    · rw [if_pos e2, if_neg (by omega), if_pos (by omega), if_neg (by omega), if_pos (by omega)]
      congr 1; omega
    · rw [if_neg e2]
      by_cases e3 : a ≤ x ∧ x < k
      · rw [if_pos (by omega), if_pos (by omega)]
      · rw [if_neg (by omega), if_neg (by omega), if_neg (by omega), if_neg (by omega)]
theorem ins_down (f : Nat → E) {k m : Nat} (h1 : 1 ≤ k) (h : k ≤ m) : swF (rotF f k m (m + 1)) k (k - 1) = rotF f (k - 1) m (m + 1) := by
  funext x
  unfold swF rotF
  by_cases e1 : x = k
  · rw [if_pos e1, if_neg (by omega), if_neg (by omega), if_neg (by omega), if_pos (by omega)]
    congr 1; omega
  · rw [if_neg e1]
    by_cases e2 : x = k - 1
    · rw [if_pos e2, if_pos (by omega), if_pos (by omega)]
      congr 1; omega
    · rw [if_neg e2]
      by_cases e3 : k < x ∧ x < m + 1
      · rw [if_neg (by omega), if_pos (by omega), if_neg (by omega), if_pos (by omega)]
      · rw [if_neg (by omega), if_neg (by omega), if_neg (by omega), if_neg (by omega)]

theorem SortF.le {a b : Nat} {f : Nat → E} (h : SortF key a b f) {i j : Nat} (h1 : a ≤ i) (h2 : i ≤ j) (h3 : j < b) : key (f i) ≤ key (f j) := by
  by_cases e : i = j
  · rw [e]; exact Nat.le_refl _
  · exact h i j h1 (by omega) h3
theorem SortF.congr {a b : Nat} {f g : Nat → E} (h : SortF key a b f) (e : ∀ i, a ≤ i → i < b → g i = f i) : SortF key a b g := fun i j h1 h2 h3 => by
  rw [e i h1 (by omega), e j (by omega) h3]; exact h i j h1 h2 h3
theorem SortF.mono {a b a' b' : Nat} {f : Nat → E} (h : SortF key a b f) (h1 : a ≤ a') (h2 : b' ≤ b) : SortF key a' b' f := fun i j x y z => h i j (by omega) y (by omega)

theorem rot_lo (f : Nat → E) {lo m hi k : Nat} (h1 : lo ≤ k) (h2 : k < lo + (hi - m)) : rotF f lo m hi k = f (k + (m - lo)) := by
  unfold rotF; rw [if_pos ⟨h1, h2⟩]
theorem rot_hi (f : Nat → E) {lo m hi k : Nat} (h1 : lo + (hi - m) ≤ k) (h2 : k < hi) : rotF f lo m hi k = f (k - (hi - m)) := by
  unfold rotF; rw [if_neg (by omega), if_pos ⟨h1, h2⟩]
theorem rot_out (f : Nat → E) {lo m hi k : Nat} (hm : m ≤ hi) (h : k < lo ∨ hi ≤ k) (hl : lo ≤ m) : rotF f lo m hi k = f k := by
  unfold rotF; rw [if_neg (by omega), if_neg (by omega)]

/-- the first element goes to its place -/
theorem ins_left {f : Nat → E} {a b i : Nat} (hs : SortF key (a + 1) b f) (h1 : a + 1 ≤ i) (h2 : i ≤ b) (hlt : ∀ k, a + 1 ≤ k → k < i → key (f k) ≤ key (f a)) (hge : ∀ k, i ≤ k → k < b → key (f a) ≤ key (f k)) : SortF key a b (rotF f a (a + 1) i) := by
  intro x y hx hxy hy
  by_cases x1 : x < i - 1
  · rw [rot_lo f hx (by omega)]
    by_cases y1 : y < i - 1
    · rw [rot_lo f (by omega) (by omega)]; exact hs _ _ (by omega) (by omega) (by omega)
    · by_cases y2 : y < i
      · rw [rot_hi f (by omega) y2, show y - (i - (a + 1)) = a from by omega]; exact hlt _ (by omega) (by omega)
      · rw [rot_out f h1 (by omega) (by omega)]; exact hs _ _ (by omega) (by omega) (by omega)
  · by_cases x2 : x < i
    · rw [rot_hi f (by omega) x2, show x - (i - (a + 1)) = a from by omega, rot_out f h1 (by omega) (by omega)]; exact hge _ (by omega) hy
    · rw [rot_out f h1 (by omega) (by omega), rot_out f h1 (by omega) (by omega)]; exact hs _ _ (by omega) hxy hy
/-- the last element goes to its place -/
theorem ins_right {f : Nat → E} {a m i : Nat} (hs : SortF key a m f) (h1 : a ≤ i) (h2 : i ≤ m) (hlt : ∀ k, a ≤ k → k < i → key (f k) ≤ key (f m)) (hge : ∀ k, i ≤ k → k < m → key (f m) ≤ key (f k)) : SortF key a (m + 1) (rotF f i m (m + 1)) := by
  intro x y hx hxy hy
  by_cases x1 : x < i
  · rw [rot_out f (by omega) (by omega) h2]
    by_cases y1 : y < i
    · rw [rot_out f (by omega) (by omega) h2]; exact hs _ _ hx hxy (by omega)
    · by_cases y2 : y = i
      · rw [rot_lo f (by omega) (by omega), show y + (m - i) = m from by omega]; exact hlt _ hx x1
      · rw [rot_hi f (by omega) hy]; exact hs _ _ hx (by omega) (by omega)
  · by_cases x2 : x = i
    · rw [rot_lo f (by omega) (by omega), show x + (m - i) = m from by omega, rot_hi f (by omega) hy]; exact hge _ (by omega) (by omega)
    · rw [rot_hi f (by omega) (by omega), rot_hi f (by omega) hy]; exact hs _ _ (by omega) (by omega) (by omega)

/-- behind the rotation: the low half lies below the high half, each half two runs -/
theorem sym_split {f : Nat → E} {a m b mid s : Nat} (r1 : SortF key a m f) (r2 : SortF key m b f) (ha : a < m) (hmid : mid = (a + b) / 2)
    (hs1 : (if m > mid then mid + m - b else a) ≤ s) (hs2 : s ≤ (if m > mid then mid else m))
    (hlo : ∀ c, (if m > mid then mid + m - b else a) ≤ c → c < s → key (f c) ≤ key (f (mid + m - 1 - c))) (hhi : ∀ c, s ≤ c → c < (if m > mid then mid else m) → key (f (mid + m - 1 - c)) ≤ key (f c)) :
    a ≤ s ∧ s ≤ mid ∧ s ≤ m ∧ m ≤ mid + m - s ∧ mid + m - s ≤ b ∧ mid ≤ mid + m - s ∧
    (∀ x y, a ≤ x → x < mid → mid ≤ y → y < b → key (rotF f s m (mid + m - s) x) ≤ key (rotF f s m (mid + m - s) y)) ∧
    SortF key a s (rotF f s m (mid + m - s)) ∧ SortF key s mid (rotF f s m (mid + m - s)) ∧ SortF key mid (mid + m - s) (rotF f s m (mid + m - s)) ∧ SortF key (mid + m - s) b (rotF f s m (mid + m - s)) := by
  have b1 : a ≤ s ∧ s ≤ mid ∧ s ≤ m ∧ m ≤ mid + m - s ∧ mid + m - s ≤ b ∧ mid ≤ mid + m - s := by
    by_cases c : m > mid
    · rw [if_pos c] at hs1 hs2; omega
    · rw [if_neg c] at hs1 hs2; omega
  obtain ⟨q1, q2, q3, q4, q5, q6⟩ := b1
  -- the two crossings
  have x1 : ∀ x y, a ≤ x → x < s → mid + m - s ≤ y → y < b → key (f x) ≤ key (f y) := fun x y hx1 hx2 hy1 hy2 => by
    have h0 : (if m > mid then mid + m - b else a) ≤ s - 1 := by
      by_cases c : m > mid
      · rw [if_pos c] at hs1 ⊢; omega
      · rw [if_neg c] at hs1 ⊢; omega
    have h := hlo (s - 1) h0 (by omega)
    rw [show mid + m - 1 - (s - 1) = mid + m - s from by omega] at h
    exact Nat.le_trans (r1.le hx1 (by omega) (by omega)) (Nat.le_trans h (r2.le (by omega) hy1 hy2))
  have x2 : ∀ x y, m ≤ x → x < mid + m - s → s ≤ y → y < m → key (f x) ≤ key (f y) := fun x y hx1 hx2 hy1 hy2 => by
    have h0 : s < (if m > mid then mid else m) := by
      by_cases c : m > mid
      · rw [if_pos c] at hs2 ⊢; omega
      · rw [if_neg c] at hs2 ⊢; omega
    have h := hhi s (Nat.le_refl _) h0
    exact Nat.le_trans (r2.le hx1 (show x ≤ mid + m - 1 - s from by omega) (by omega)) (Nat.le_trans h (r1.le (by omega) hy1 hy2))
  refine ⟨q1, q2, q3, q4, q5, q6, fun x y hx1 hx2 hy1 hy2 => ?_, fun x y hx hxy hy => ?_, fun x y hx hxy hy => ?_, fun x y hx hxy hy => ?_, fun x y hx hxy hy => ?_⟩
  · by_cases cx : x < s
    · rw [rot_out f q4 (by omega) q3]
      by_cases cy : y < mid + m - s
      · rw [rot_hi f (by omega) cy]; exact r1.le hx1 (by omega) (by omega)
      · rw [rot_out f q4 (by omega) q3]; exact x1 _ _ hx1 cx (by omega) hy2
    · rw [rot_lo f (by omega) (by omega)]
      by_cases cy : y < mid + m - s
      · rw [rot_hi f (by omega) cy]; exact x2 _ _ (by omega) (by omega) (by omega) (by omega)
      · rw [rot_out f q4 (by omega) q3]; exact r2.le (by omega) (by omega) hy2
  · rw [rot_out f q4 (by omega) q3, rot_out f q4 (by omega) q3]; exact r1 _ _ hx hxy (by omega)
  · rw [rot_lo f (by omega) (by omega), rot_lo f (by omega) (by omega)]; exact r2 _ _ (by omega) (by omega) (by omega)
  · rw [rot_hi f (by omega) (by omega), rot_hi f (by omega) (by omega)]; exact r1 _ _ (by omega) (by omega) (by omega)
  · rw [rot_out f q4 (by omega) q3, rot_out f q4 (by omega) q3]; exact r2 _ _ (by omega) hxy hy
theorem sym_join {g g1 g2 : Nat → E} {a mid b : Nat} (hx : ∀ x y, a ≤ x → x < mid → mid ≤ y → y < b → key (g x) ≤ key (g y)) (p1 : PermF a mid g g1) (p2 : PermF mid b g1 g2) (s1 : SortF key a mid g1) (s2 : SortF key mid b g2) : SortF key a b g2 := by
  intro x y hx1 hxy hy
  by_cases cx : x < mid
  · rw [p2.out (by omega)]
    by_cases cy : y < mid
    · rw [p2.out (by omega)]; exact s1 _ _ hx1 hxy cy
    · obtain ⟨l, l1, l2, e⟩ := p2.bk (by omega : mid ≤ y) hy
      obtain ⟨k, k1, k2, e'⟩ := p1.bk hx1 cx
      rw [e, e', p1.out (by omega)]
      exact hx _ _ k1 k2 l1 l2
  · exact s2 _ _ (by omega) hxy hy
end sym
end Go.Proofs.Ybulkckss
