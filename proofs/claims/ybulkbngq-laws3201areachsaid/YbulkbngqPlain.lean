/-
  THE PLAIN MATHEMATICS of 'snow.LawS3201AReach': reachability, the walk with a stack, the sweeps. No Go in this text.
-/
namespace Go.Proofs.Ybulkbngq.Plain

/-- x is reached from st: it lies in every set that holds st and is closed under 'go on to the parents of a where c a'. -/
def Reach (st : Nat) (c : Nat → Bool) (par : Nat → List Nat) (x : Nat) : Prop :=
  ∀ S : Nat → Prop, S st → (∀ a, S a → c a = true → ∀ b, b ∈ par a → S b) → S x

theorem Reach.start (st : Nat) (c : Nat → Bool) (par : Nat → List Nat) : Reach st c par st := fun _ h _ => h
theorem Reach.step {st : Nat} {c : Nat → Bool} {par : Nat → List Nat} {a b : Nat} (h : Reach st c par a) (hc : c a = true) (hb : b ∈ par a) : Reach st c par b :=
  fun S h0 h1 => h1 a (h S h0 h1) hc b hb

theorem nodup_bound (m : Nat) : ∀ L : List Nat, L.Nodup → (∀ x, x ∈ L → x < m) → L.length ≤ m := by
  induction m with
  | zero => intro L _ h; cases L with
    | nil => simp
    | cons a l => exact absurd (h a (by simp)) (by omega)
  | succ m ih =>
    intro L hn h
    have h1 := ih (L.erase m) (hn.erase m) (fun x hx => by
      have := h x (List.mem_of_mem_erase hx)
      have : x ≠ m := by
        rintro rfl
        exact (List.Nodup.mem_erase_iff hn).1 hx |>.1 rfl
      omega)
    have h2 := List.length_erase (l := L) (a := m)
    split at h2 <;> omega

/-! ### The walk with a stack -/
/-- The state of the walk at the head of its loop: visited (log), waiting (stk). -/
structure WInv (m st : Nat) (c : Nat → Bool) (par : Nat → List Nat) (log stk : List Nat) : Prop where
  nodup : (log ++ stk).Nodup
  lt : ∀ x, x ∈ log ++ stk → x < m
  reach : ∀ x, x ∈ log ++ stk → Reach st c par x
  head : (log = [] ∧ stk = [st]) ∨ log.head? = some st
  closed : ∀ a, a ∈ log → c a = true → ∀ b, b ∈ par a → b ∈ log ++ stk

theorem WInv.start (m st : Nat) (c : Nat → Bool) (par : Nat → List Nat) (h : st < m) : WInv m st c par [] [st] :=
  ⟨by simp, by simpa using h, by simp; exact Reach.start st c par, .inl ⟨rfl, rfl⟩, by simp⟩

theorem WInv.size {m st : Nat} {c : Nat → Bool} {par : Nat → List Nat} {log stk : List Nat} (h : WInv m st c par log stk) : log.length + stk.length ≤ m := by
  have := nodup_bound m _ h.nodup h.lt
  simpa using this

/-- The state while u, popped last, is being gone on from: its first j parents are in. -/
structure EInv (m st : Nat) (c : Nat → Bool) (par : Nat → List Nat) (log stk : List Nat) (u j : Nat) : Prop where
  nodup : (log ++ [u] ++ stk).Nodup
  lt : ∀ x, x ∈ log ++ [u] ++ stk → x < m
  reach : ∀ x, x ∈ log ++ [u] ++ stk → Reach st c par x
  head : (log ++ [u]).head? = some st
  closed : ∀ a, a ∈ log → c a = true → ∀ b, b ∈ par a → b ∈ log ++ [u] ++ stk
  some : ∀ b, b ∈ (par u).take j → b ∈ log ++ [u] ++ stk

theorem EInv.size {m st : Nat} {c : Nat → Bool} {par : Nat → List Nat} {log stk : List Nat} {u j : Nat} (h : EInv m st c par log stk u j) : log.length + 1 + stk.length ≤ m := by
  have := nodup_bound m _ h.nodup h.lt
  simp at this; omega

theorem mem_pop {log stk : List Nat} {u x : Nat} : x ∈ log ++ [u] ++ stk ↔ x ∈ log ++ (stk ++ [u]) := by
  simp only [List.mem_append, List.mem_singleton, or_assoc]
  constructor
  · rintro (h | h | h)
    · exact .inl h
    · exact .inr (.inr h)
    · exact .inr (.inl h)
  · rintro (h | h | h)
    · exact .inl h
    · exact .inr (.inr h)
    · exact .inr (.inl h)

theorem WInv.pop {m st : Nat} {c : Nat → Bool} {par : Nat → List Nat} {log stk : List Nat} {u : Nat} (h : WInv m st c par log (stk ++ [u])) : EInv m st c par log stk u 0 := by
  refine ⟨?_, fun x hx => h.lt x (mem_pop.1 hx), fun x hx => h.reach x (mem_pop.1 hx), ?_, fun a ha hc b hb => mem_pop.2 (h.closed a ha hc b hb), by simp⟩
  · have hn := h.nodup
    have hp : (log ++ (stk ++ [u])).Perm (log ++ [u] ++ stk) := by
      rw [List.append_assoc]
      exact List.Perm.append_left log (List.perm_append_comm (l₁ := stk) (l₂ := [u]))
    exact hp.nodup hn
  · rcases h.head with ⟨rfl, h1⟩ | h1
    · cases stk with
      | nil => simpa using h1
      | cons a l => simp at h1
    · cases log with
      | nil => simp at h1
      | cons a l => simpa using h1

/-- u is not gone on from. -/
theorem EInv.stop {m st : Nat} {c : Nat → Bool} {par : Nat → List Nat} {log stk : List Nat} {u : Nat} (h : EInv m st c par log stk u 0) (hc : c u = false) : WInv m st c par (log ++ [u]) stk := by
  refine ⟨h.nodup, h.lt, h.reach, .inr h.head, ?_⟩
  intro a ha hca b hb
  rcases List.mem_append.1 ha with ha | ha
  · exact h.closed a ha hca b hb
  · simp at ha; subst ha; rw [hc] at hca; cases hca

/-- All parents of u are in. -/
theorem EInv.done {m st : Nat} {c : Nat → Bool} {par : Nat → List Nat} {log stk : List Nat} {u j : Nat} (h : EInv m st c par log stk u j) (hj : (par u).length ≤ j) : WInv m st c par (log ++ [u]) stk := by
  refine ⟨h.nodup, h.lt, h.reach, .inr h.head, ?_⟩
  intro a ha hca b hb
  rcases List.mem_append.1 ha with ha | ha
  · exact h.closed a ha hca b hb
  · simp at ha; subst ha
    exact h.some b (by rw [List.take_of_length_le hj]; exact hb)

theorem take_succ' (l : List Nat) (j : Nat) (h : j < l.length) : l.take (j + 1) = l.take j ++ [l[j]] := List.take_succ_eq_append_getElem h

/-- The parent is in already. -/
theorem EInv.skip {m st : Nat} {c : Nat → Bool} {par : Nat → List Nat} {log stk : List Nat} {u j : Nat} (h : EInv m st c par log stk u j) (hj : j < (par u).length) (hin : (par u)[j] ∈ log ++ [u] ++ stk) : EInv m st c par log stk u (j + 1) := by
  refine ⟨h.nodup, h.lt, h.reach, h.head, h.closed, ?_⟩
  intro b hb
  rw [take_succ' _ _ hj] at hb
  rcases List.mem_append.1 hb with hb | hb
  · exact h.some b hb
  · simp at hb; subst hb; exact hin

/-- The parent is new: it is marked and waits. -/
theorem EInv.push {m st : Nat} {c : Nat → Bool} {par : Nat → List Nat} {log stk : List Nat} {u j : Nat} (h : EInv m st c par log stk u j) (hj : j < (par u).length) (hin : (par u)[j] ∉ log ++ [u] ++ stk) (hlt : (par u)[j] < m) (hc : c u = true) : EInv m st c par log (stk ++ [(par u)[j]]) u (j + 1) := by
  have e : log ++ [u] ++ (stk ++ [(par u)[j]]) = (log ++ [u] ++ stk) ++ [(par u)[j]] := by simp
  have hu : Reach st c par u := h.reach u (by simp)
  refine ⟨?_, ?_, ?_, h.head, ?_, ?_⟩
  · rw [e, List.nodup_append]
    refine ⟨h.nodup, by simp, ?_⟩
    intro a ha b hb
    simp at hb; subst hb
    rintro rfl
    exact hin ha
  · intro x hx
    rw [e] at hx
    rcases List.mem_append.1 hx with hx | hx
    · exact h.lt x hx
    · simp at hx; subst hx; exact hlt
  · intro x hx
    rw [e] at hx
    rcases List.mem_append.1 hx with hx | hx
    · exact h.reach x hx
    · simp at hx; subst hx; exact hu.step hc (List.getElem_mem hj)
  · intro a ha hca b hb
    rw [e]
    exact List.mem_append_left _ (h.closed a ha hca b hb)
  · intro b hb
    rw [e]
    rw [take_succ' _ _ hj] at hb
    rcases List.mem_append.1 hb with hb | hb
    · exact List.mem_append_left _ (h.some b hb)
    · exact List.mem_append_right _ hb

/-- What the whole walk comes to. -/
structure WDone (m st : Nat) (c : Nat → Bool) (par : Nat → List Nat) (log : List Nat) : Prop where
  nodup : log.Nodup
  lt : ∀ x, x ∈ log → x < m
  head : log.head? = some st
  mem : ∀ x, x ∈ log ↔ Reach st c par x

theorem WInv.fin {m st : Nat} {c : Nat → Bool} {par : Nat → List Nat} {log : List Nat} (h : WInv m st c par log []) : WDone m st c par log := by
  have hh : log.head? = some st := by
    rcases h.head with ⟨_, h1⟩ | h1
    · simp at h1
    · exact h1
  refine ⟨by simpa using h.nodup, by simpa using h.lt, hh, ?_⟩
  intro x
  constructor
  · intro hx; exact h.reach x (by simpa using hx)
  · intro hx
    refine hx (fun y => y ∈ log) (List.mem_of_mem_head? hh) ?_
    intro a ha hc b hb
    simpa using h.closed a ha hc b hb

/-- The marks, when the vertices of L bear the number W. -/
def mkOf (W : Int) (mk0 : Nat → Int) (L : List Nat) (i : Nat) : Int := if i ∈ L then W else mk0 i
theorem mkOf_in {W : Int} {mk0 : Nat → Int} {L : List Nat} {i : Nat} (h : i ∈ L) : mkOf W mk0 L i = W := if_pos h
theorem mkOf_out {W : Int} {mk0 : Nat → Int} {L : List Nat} {i : Nat} (h : i ∉ L) : mkOf W mk0 L i = mk0 i := if_neg h
theorem mkOf_congr {W : Int} {mk0 : Nat → Int} {L L' : List Nat} (h : ∀ x, x ∈ L ↔ x ∈ L') : mkOf W mk0 L = mkOf W mk0 L' := by
  funext i; unfold mkOf; simp only [h i]
theorem mkOf_snoc (W : Int) (mk0 : Nat → Int) (L : List Nat) (p : Nat) : mkOf W mk0 (L ++ [p]) = fun i => if i = p then W else mkOf W mk0 L i := by
  funext i; unfold mkOf
  by_cases h : i = p
  · subst h; simp
  · simp [h]
theorem mkOf_bd {W : Int} {mk0 : Nat → Int} {L : List Nat} (h : ∀ i, 0 ≤ mk0 i ∧ mk0 i < W) (i : Nat) : 0 ≤ mkOf W mk0 L i ∧ mkOf W mk0 L i ≤ W := by
  unfold mkOf; have := h i; split <;> omega
/-- 'p.mark != d.walks' says that p is not in. -/
theorem mkOf_ne {W : Int} {mk0 : Nat → Int} {L : List Nat} (h : ∀ i, 0 ≤ mk0 i ∧ mk0 i < W) (i : Nat) : mkOf W mk0 L i = W ↔ i ∈ L := by
  unfold mkOf
  have := h i
  split
  · simp_all
  · rename_i hn
    exact ⟨fun e => by omega, fun e => absurd e hn⟩

/-! ### The sweeps -/
def Closed (c : Nat → Bool) (par : Nat → List Nat) (T : Nat → Bool) : Prop := ∀ a, T a = true → c a = true → ∀ b, b ∈ par a → T b = true
def cnt (m : Nat) (T : Nat → Bool) : Nat := (List.range m).countP T

theorem cnt_le (m : Nat) (T : Nat → Bool) : cnt m T ≤ m := by
  have := List.countP_le_length (p := T) (l := List.range m)
  simpa [cnt] using this
theorem cnt_mono (m : Nat) (T T' : Nat → Bool) (h : ∀ x, T x = true → T' x = true) : cnt m T ≤ cnt m T' :=
  List.countP_mono_left (fun x _ => h x)
theorem countP_lt (l : List Nat) (T T' : Nat → Bool) (h : ∀ x, T x = true → T' x = true) (x : Nat) (hx : x ∈ l) (h0 : T x = false) (h1 : T' x = true) : l.countP T < l.countP T' := by
  induction l with
  | nil => simp at hx
  | cons a l ih =>
    rw [List.countP_cons, List.countP_cons]
    rcases List.mem_cons.1 hx with rfl | hx
    · have := List.countP_mono_left (l := l) (p := T) (q := T') (fun x _ => h x)
      simp [h0, h1]; omega
    · have := ih hx
      have h2 : (if T a = true then 1 else 0) ≤ (if T' a = true then 1 else 0) := by
        by_cases e : T a = true
        · simp [e, h a e]
        · simp [e]
      omega
theorem cnt_lt (m : Nat) (T T' : Nat → Bool) (h : ∀ x, T x = true → T' x = true) (x : Nat) (hx : x < m) (h0 : T x = false) (h1 : T' x = true) : cnt m T < cnt m T' :=
  countP_lt _ T T' h x (by simpa using hx) h0 h1

/-- At the head of sweep r. -/
structure RInv (m st : Nat) (c : Nat → Bool) (par : Nat → List Nat) (r : Nat) (T : Nat → Bool) : Prop where
  start : T st = true
  reach : ∀ x, T x = true → x < m ∧ Reach st c par x
  grows : Closed c par T ∨ r + 1 ≤ cnt m T

/-- In a sweep that began at T0, ahead of vertex i. -/
structure SInv (m st : Nat) (c : Nat → Bool) (par : Nat → List Nat) (i : Nat) (T0 T : Nat → Bool) : Prop where
  up : ∀ x, T0 x = true → T x = true
  reach : ∀ x, T x = true → x < m ∧ Reach st c par x
  done : ∀ a, a < i → T0 a = true → c a = true → ∀ b, b ∈ par a → T b = true

theorem RInv.first (m st : Nat) (c : Nat → Bool) (par : Nat → List Nat) (h : st < m) : RInv m st c par 0 (fun x => x == st) := by
  refine ⟨by simp, ?_, .inr ?_⟩
  · intro x hx; simp at hx; subst hx; exact ⟨h, Reach.start _ _ _⟩
  · have := cnt_lt m (fun _ => false) (fun x => x == st) (by simp) st h rfl (by simp)
    omega

theorem RInv.sweep {m st : Nat} {c : Nat → Bool} {par : Nat → List Nat} {r : Nat} {T : Nat → Bool} (h : RInv m st c par r T) : SInv m st c par 0 T T :=
  ⟨fun _ h => h, h.reach, fun a ha => absurd ha (by omega)⟩

theorem SInv.next {m st : Nat} {c : Nat → Bool} {par : Nat → List Nat} {r : Nat} {T0 T : Nat → Bool} (h : RInv m st c par r T0) (h' : SInv m st c par m T0 T) : RInv m st c par (r + 1) T := by
  refine ⟨h'.up _ h.start, h'.reach, ?_⟩
  by_cases hall : ∀ x, x < m → T x = true → T0 x = true
  · left
    intro a ha hc b hb
    have hlt := (h'.reach a ha).1
    exact h'.done a hlt (hall a hlt ha) hc b hb
  · have ⟨x, hx⟩ : ∃ x, x < m ∧ T x = true ∧ T0 x = false := by
      apply Classical.byContradiction
      intro hno
      apply hall
      intro x hx h1
      cases h0 : T0 x with
      | true => rfl
      | false => exact absurd ⟨x, hx, h1, h0⟩ hno
    obtain ⟨hx, h1, h0⟩ := hx
    rcases h.grows with hcl | hgr
    · -- T0 is closed and holds st: whatever is reached lies in it
      have := (h'.reach x h1).2 (fun y => T0 y = true) h.start (fun a ha hc b hb => hcl a ha hc b hb)
      rw [h0] at this; cases this
    · right
      have := cnt_lt m T0 T h'.up x hx h0 h1
      omega

theorem RInv.fin {m st : Nat} {c : Nat → Bool} {par : Nat → List Nat} {T : Nat → Bool} (h : RInv m st c par m T) (x : Nat) : T x = true ↔ Reach st c par x := by
  constructor
  · intro hx; exact (h.reach x hx).2
  · intro hx
    rcases h.grows with hcl | hgr
    · exact hx (fun y => T y = true) h.start (fun a ha hc b hb => hcl a ha hc b hb)
    · have := cnt_le m T; omega

/-- Vertex i is passed over. -/
theorem SInv.pass {m st : Nat} {c : Nat → Bool} {par : Nat → List Nat} {i : Nat} {T0 T : Nat → Bool} (h : SInv m st c par i T0 T) (hno : T i = false ∨ c i = false) : SInv m st c par (i + 1) T0 T := by
  refine ⟨h.up, h.reach, ?_⟩
  intro a ha h0 hc b hb
  rcases Nat.lt_or_ge a i with hlt | hge
  · exact h.done a hlt h0 hc b hb
  · obtain rfl : a = i := by omega
    rcases hno with h1 | h1
    · rw [h.up _ h0] at h1; cases h1
    · rw [hc] at h1; cases h1

/-- Ahead of parent j of vertex i. -/
structure PInv (m st : Nat) (c : Nat → Bool) (par : Nat → List Nat) (i j : Nat) (T0 T : Nat → Bool) : Prop where
  sweep : SInv m st c par i T0 T
  here : T i = true
  go : c i = true
  some : ∀ b, b ∈ (par i).take j → T b = true

theorem SInv.enter {m st : Nat} {c : Nat → Bool} {par : Nat → List Nat} {i : Nat} {T0 T : Nat → Bool} (h : SInv m st c par i T0 T) (h1 : T i = true) (h2 : c i = true) : PInv m st c par i 0 T0 T :=
  ⟨h, h1, h2, by simp⟩

theorem PInv.step {m st : Nat} {c : Nat → Bool} {par : Nat → List Nat} {i j : Nat} {T0 T : Nat → Bool} (h : PInv m st c par i j T0 T) (hj : j < (par i).length) (hlt : (par i)[j] < m) : PInv m st c par i (j + 1) T0 (fun x => if x = (par i)[j] then true else T x) := by
  have hr : Reach st c par (par i)[j] := ((h.sweep.reach i h.here).2).step h.go (List.getElem_mem hj)
  have up : ∀ x, T x = true → (fun x => if x = (par i)[j] then true else T x) x = true := by
    intro x hx; simp [hx]
  refine ⟨⟨fun x hx => up x (h.sweep.up x hx), ?_, fun a ha h0 hc b hb => up b (h.sweep.done a ha h0 hc b hb)⟩, up i h.here, h.go, ?_⟩
  · intro x hx
    by_cases e : x = (par i)[j]
    · subst e; exact ⟨hlt, hr⟩
    · simp [e] at hx; exact h.sweep.reach x hx
  · intro b hb
    rw [take_succ' _ _ hj] at hb
    rcases List.mem_append.1 hb with hb | hb
    · exact up b (h.some b hb)
    · simp at hb; simp [hb]

theorem PInv.done {m st : Nat} {c : Nat → Bool} {par : Nat → List Nat} {i j : Nat} {T0 T : Nat → Bool} (h : PInv m st c par i j T0 T) (hj : (par i).length ≤ j) : SInv m st c par (i + 1) T0 T := by
  refine ⟨h.sweep.up, h.sweep.reach, ?_⟩
  intro a ha h0 hc b hb
  rcases Nat.lt_or_ge a i with hlt | hge
  · exact h.sweep.done a hlt h0 hc b hb
  · obtain rfl : a = i := by omega
    exact h.some b (by rw [List.take_of_length_le hj]; exact hb)

/-! ### The counts -/
theorem count_snoc (L : List Nat) (k : Nat) (h : k < L.length) (i : Nat) : (L.take (k + 1)).count i = (L.take k).count i + if i = L[k] then 1 else 0 := by
  rw [take_succ' _ _ h, List.count_append, List.count_singleton]
  by_cases e : i = L[k]
  · subst e; simp
  · have : (L[k] == i) = false := by simp; exact fun h => e h.symm
    simp [this, e]
theorem count_le_len (L : List Nat) (k i : Nat) : (L.take k).count i ≤ k := by
  have h1 := List.count_le_length (a := i) (l := L.take k)
  have h2 := List.length_take_le k L
  omega
theorem count_in {L : List Nat} (hn : L.Nodup) {i : Nat} (h : i ∈ L) : L.count i = 1 := by
  rw [List.Nodup.count hn]; simp [h]
theorem count_out {L : List Nat} {i : Nat} (h : i ∉ L) : L.count i = 0 := List.count_eq_zero.2 h

end Go.Proofs.Ybulkbngq.Plain
