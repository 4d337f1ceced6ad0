import PyProof.Rows.All
import Wide.All
import OpenK.AllK
import Wide.FinOn
import PySem.Challenge.RW_fe0209_01
set_option Elab.async false
set_option maxRecDepth 100000

/-! The plain law: webs, walks along them, the three searches. No program in sight. -/
namespace FE

abbrev Gph := List (Int × List Int)
def nb (g : Gph) (k : Int) : List Int := (g.lookup k).getD []
structure Small (g : Gph) : Prop where
  len : ∀ k, (nb g k).length ≤ 4
  rng : ∀ k, ∀ v ∈ nb g k, 0 ≤ v ∧ v < 8

inductive Wk (g : Gph) (s : Int) : Nat → Int → Prop
  | zero : Wk g s 0 s
  | step {n : Nat} {u v : Int} : Wk g s n u → v ∈ nb g u → Wk g s (n + 1) v

theorem Wk.zero_eq {g : Gph} {s v : Int} (h : Wk g s 0 v) : v = s := by cases h; rfl
theorem Wk.pred {g : Gph} {s v : Int} {n : Nat} (h : Wk g s (n + 1) v) : ∃ u, Wk g s n u ∧ v ∈ nb g u := by cases h with | step a b => exact ⟨_, a, b⟩

theorem nine {l : List Int} (h : l.Nodup) (r : ∀ v ∈ l, 0 ≤ v ∧ v < 9) : l.length ≤ 9 := by
  have := h.length_le_of_subset (l₂ := [0, 1, 2, 3, 4, 5, 6, 7, 8]) (fun v hv => by
    have := r v hv
    simp only [List.mem_cons, List.not_mem_nil, or_false]
    omega)
  simpa using this

/-! ## The levels -/
def stepNb (n : Int) (S : List (Int × Int) × List Int) (v : Int) : List (Int × Int) × List Int :=
  if v ∈ S.1.map (·.1) then S else (S.1 ++ [(v, n)], S.2 ++ [v])
def stepNode (g : Gph) (n : Int) (S : List (Int × Int) × List Int) (u : Int) : List (Int × Int) × List Int := (nb g u).foldl (stepNb n) S
def level (g : Gph) (n : Int) (D : List (Int × Int)) (H : List Int) : List (Int × Int) × List Int := H.foldl (stepNode g n) (D, [])

/-- what stands while a level is made -/
structure LInv (g : Gph) (n : Int) (D₀ : List (Int × Int)) (src : Int → Prop) (S : List (Int × Int) × List Int) : Prop where
  shape : S.1 = D₀ ++ S.2.map fun v => (v, n)
  nd : S.2.Nodup
  off : ∀ v ∈ S.2, v ∉ D₀.map (·.1)
  from_ : ∀ v ∈ S.2, src v

theorem LInv.keys {g : Gph} {n : Int} {D₀ : List (Int × Int)} {src : Int → Prop} {S : List (Int × Int) × List Int} (L : LInv g n D₀ src S) : S.1.map (·.1) = D₀.map (·.1) ++ S.2 := by
  rw [L.shape, List.map_append, List.map_map]
  congr 1
  exact List.map_id' S.2

theorem LInv.step {g : Gph} {n : Int} {D₀ : List (Int × Int)} {src : Int → Prop} {S : List (Int × Int) × List Int} {v : Int} (L : LInv g n D₀ src S) (hv : src v) :
    LInv g n D₀ src (stepNb n S v) ∧ v ∈ (stepNb n S v).1.map (·.1) ∧ ∀ x ∈ S.1.map (·.1), x ∈ (stepNb n S v).1.map (·.1) := by
  unfold stepNb
  by_cases h : v ∈ S.1.map (·.1)
  · rw [if_pos h]
    exact ⟨L, h, fun x hx => hx⟩
  · rw [if_neg h]
    rw [L.keys] at h
    have h1 : v ∉ D₀.map (·.1) := fun e => h (List.mem_append_left _ e)
    have h2 : v ∉ S.2 := fun e => h (List.mem_append_right _ e)
    refine ⟨⟨?_, ?_, ?_, ?_⟩, ?_, ?_⟩
    · simp [L.shape]
    · rw [List.nodup_append]
      refine ⟨L.nd, by simp, ?_⟩
      intro a ha b hb e
      simp at hb
      subst hb
      exact h2 (e ▸ ha)
    · intro x hx
      rcases List.mem_append.mp hx with hx | hx
      · exact L.off x hx
      · simp at hx; subst hx; exact h1
    · intro x hx
      rcases List.mem_append.mp hx with hx | hx
      · exact L.from_ x hx
      · simp at hx; subst hx; exact hv
    · simp
    · intro x hx
      rw [List.map_append]
      exact List.mem_append_left _ hx

theorem LInv.nbs {g : Gph} {n : Int} {D₀ : List (Int × Int)} {src : Int → Prop} : ∀ (l : List Int) (S : List (Int × Int) × List Int), LInv g n D₀ src S → (∀ v ∈ l, src v) →
    LInv g n D₀ src (l.foldl (stepNb n) S) ∧ (∀ v ∈ l, v ∈ (l.foldl (stepNb n) S).1.map (·.1)) ∧ ∀ x ∈ S.1.map (·.1), x ∈ (l.foldl (stepNb n) S).1.map (·.1)
  | [], _, L, _ => ⟨L, fun _ h => (by cases h), fun _ h => h⟩
  | v :: l, S, L, hs => by
    obtain ⟨a, b, c⟩ := L.step (hs v (List.mem_cons_self ..))
    obtain ⟨a', b', c'⟩ := LInv.nbs l _ a fun x hx => hs x (List.mem_cons_of_mem _ hx)
    refine ⟨a', fun x hx => ?_, fun x hx => c' x (c x hx)⟩
    rcases List.mem_cons.mp hx with rfl | hx
    · exact c' _ b
    · exact b' x hx

theorem LInv.nodes {g : Gph} {n : Int} {D₀ : List (Int × Int)} {src : Int → Prop} : ∀ (l : List Int) (S : List (Int × Int) × List Int), LInv g n D₀ src S → (∀ u ∈ l, ∀ v ∈ nb g u, src v) →
    LInv g n D₀ src (l.foldl (stepNode g n) S) ∧ (∀ u ∈ l, ∀ v ∈ nb g u, v ∈ (l.foldl (stepNode g n) S).1.map (·.1)) ∧ ∀ x ∈ S.1.map (·.1), x ∈ (l.foldl (stepNode g n) S).1.map (·.1)
  | [], _, L, _ => ⟨L, fun _ h => (by cases h), fun _ h => h⟩
  | u :: l, S, L, hs => by
    obtain ⟨a, b, c⟩ := LInv.nbs (g := g) (nb g u) S L (hs u (List.mem_cons_self ..))
    obtain ⟨a', b', c'⟩ := LInv.nodes l _ a fun x hx => hs x (List.mem_cons_of_mem _ hx)
    refine ⟨a', fun x hx v hv => ?_, fun x hx => c' x (c x hx)⟩
    rcases List.mem_cons.mp hx with rfl | hx
    · exact c' _ (b v hv)
    · exact b' x hx v hv

/-- the state of the search by levels -/
structure SInv (g : Gph) (s : Int) (D : List (Int × Int)) (H : List Int) (n : Nat) : Prop where
  nd : (D.map (·.1)).Nodup
  rng : ∀ v ∈ D.map (·.1), 0 ≤ v ∧ v < 9
  ok : ∀ v d, (v, d) ∈ D → ∃ k : Nat, d = (k : Int) ∧ k ≤ n ∧ Wk g s k v ∧ ∀ j, Wk g s j v → k ≤ j
  all : ∀ v k, k ≤ n → Wk g s k v → v ∈ D.map (·.1)
  here : ∀ v, (v, (n : Int)) ∈ D ↔ v ∈ H
  hnd : H.Nodup

theorem SInv.start {g : Gph} {s : Int} (h0 : 0 ≤ s) (h1 : s < 9) : SInv g s [(s, 0)] [s] 0 where
  nd := by simp
  rng := fun v hv => by simp at hv; omega
  ok := fun v d h => by
    simp at h
    obtain ⟨rfl, rfl⟩ := h
    exact ⟨0, rfl, Nat.le_refl _, .zero, fun _ _ => Nat.zero_le _⟩
  all := fun v k hk h => by
    obtain rfl : k = 0 := by omega
    rw [h.zero_eq]; simp
  here := fun v => by simp
  hnd := by simp

theorem mem_fst {D : List (Int × Int)} {v : Int} (h : v ∈ D.map (·.1)) : ∃ d, (v, d) ∈ D := by
  obtain ⟨p, hp, rfl⟩ := List.mem_map.mp h
  exact ⟨p.2, hp⟩

theorem SInv.level {g : Gph} {s : Int} {D : List (Int × Int)} {H : List Int} {n : Nat} (I : SInv g s D H n) (hg : Small g) :
    LInv g ((n + 1 : Nat) : Int) D (fun v => ∃ u ∈ H, v ∈ nb g u) (level g ((n + 1 : Nat) : Int) D H) ∧ SInv g s (level g ((n + 1 : Nat) : Int) D H).1 (level g ((n + 1 : Nat) : Int) D H).2 (n + 1) := by
  have L0 : LInv g ((n + 1 : Nat) : Int) D (fun v => ∃ u ∈ H, v ∈ nb g u) (D, []) := ⟨by simp, by simp, by simp, by simp⟩
  obtain ⟨L, hin, hsub⟩ := LInv.nodes (g := g) H _ L0 fun u hu v hv => ⟨u, hu, hv⟩
  change LInv g _ D _ (FE.level g _ D H) at L
  change ∀ u ∈ H, ∀ v ∈ nb g u, v ∈ (FE.level g ((n + 1 : Nat) : Int) D H).1.map (·.1) at hin
  change ∀ x ∈ D.map (·.1), x ∈ (FE.level g ((n + 1 : Nat) : Int) D H).1.map (·.1) at hsub
  generalize FE.level g ((n + 1 : Nat) : Int) D H = S at L hin hsub ⊢
  refine ⟨L, ?_, ?_, ?_, ?_, ?_, L.nd⟩
  · rw [L.keys, List.nodup_append]
    exact ⟨I.nd, L.nd, fun a ha b hb e => L.off b hb (e ▸ ha)⟩
  · intro v hv
    rw [L.keys] at hv
    rcases List.mem_append.mp hv with hv | hv
    · exact I.rng v hv
    · obtain ⟨u, _, hvu⟩ := L.from_ v hv
      have := hg.rng u v hvu
      omega
  · intro v d hvd
    rw [L.shape] at hvd
    rcases List.mem_append.mp hvd with hvd | hvd
    · obtain ⟨k, a, b, c, e⟩ := I.ok v d hvd
      exact ⟨k, a, by omega, c, e⟩
    · obtain ⟨x, hx, e⟩ := List.mem_map.mp hvd
      cases e
      obtain ⟨u, hu, hvu⟩ := L.from_ _ hx
      obtain ⟨k, hk, _, hw, _⟩ := I.ok u n ((I.here u).mpr hu)
      have hk' : k = n := by omega
      subst hk'
      refine ⟨k + 1, rfl, Nat.le_refl _, .step hw hvu, fun j hj => ?_⟩
      rcases Nat.lt_or_ge k j with h | h
      · exact h
      · exact absurd (I.all _ j h hj) (L.off _ hx)
  · intro v k hk hw
    rcases Nat.lt_or_ge n k with h | h
    · have : k = n + 1 := by omega
      subst this
      obtain ⟨u, hu, hvu⟩ := hw.pred
      obtain ⟨d, hd⟩ := mem_fst (I.all u n (Nat.le_refl _) hu)
      obtain ⟨k', rfl, hk', hw', hmin⟩ := I.ok u d hd
      rcases Nat.lt_or_ge k' n with h' | h'
      · exact hsub _ (I.all v (k' + 1) h' (.step hw' hvu))
      · have : k' = n := by omega
        subst this
        exact hin u ((I.here u).mp hd) v hvu
    · exact hsub _ (I.all v k h hw)
  · intro v
    rw [L.shape]
    constructor
    · intro h
      rcases List.mem_append.mp h with h | h
      · obtain ⟨k, hk, hkn, _⟩ := I.ok _ _ h
        omega
      · obtain ⟨x, hx, e⟩ := List.mem_map.mp h
        cases e
        exact hx
    · intro h
      exact List.mem_append_right _ (List.mem_map.mpr ⟨v, h, rfl⟩)

theorem SInv.len {g : Gph} {s : Int} {D : List (Int × Int)} {H : List Int} {n : Nat} (I : SInv g s D H n) : D.length ≤ 9 := by
  have := nine I.nd I.rng
  simpa using this

theorem LInv.len {g : Gph} {s n1 : Int} {D : List (Int × Int)} {H : List Int} {n : Nat} {src : Int → Prop} {S : List (Int × Int) × List Int} (L : LInv g n1 D src S) (I : SInv g s D H n) (hs : ∀ v, src v → 0 ≤ v ∧ v < 8) : S.1.length ≤ 9 ∧ S.2.length ≤ 9 := by
  have h1 : (S.1.map (·.1)).Nodup := by
    rw [L.keys, List.nodup_append]
    exact ⟨I.nd, L.nd, fun a ha b hb e => L.off b hb (e ▸ ha)⟩
  have h2 : ∀ v ∈ S.1.map (·.1), 0 ≤ v ∧ v < 9 := fun v hv => by
    rw [L.keys] at hv
    rcases List.mem_append.mp hv with hv | hv
    · exact I.rng v hv
    · have := hs v (L.from_ v hv); omega
  refine ⟨by simpa using nine h1 h2, nine L.nd fun v hv => ?_⟩
  have := hs v (L.from_ v hv)
  omega

def sMeas (D : List (Int × Int)) (H : List Int) : Nat := 2 * (9 - D.length) + (if H = [] then 0 else 1)

theorem SInv.meas {g : Gph} {s : Int} {D : List (Int × Int)} {H : List Int} {n : Nat} (I : SInv g s D H n) (hg : Small g) (hH : H ≠ []) :
    sMeas (FE.level g ((n + 1 : Nat) : Int) D H).1 (FE.level g ((n + 1 : Nat) : Int) D H).2 < sMeas D H := by
  obtain ⟨L, I'⟩ := I.level hg
  generalize FE.level g ((n + 1 : Nat) : Int) D H = S at L I' ⊢
  have h1 := I'.len
  have h2 := congrArg List.length L.shape
  rw [List.length_append, List.length_map] at h2
  unfold sMeas
  rw [if_neg hH]
  by_cases h : S.2 = []
  · rw [if_pos h]
    rw [h, List.length_nil] at h2
    omega
  · rw [if_neg h]
    have : 0 < S.2.length := List.length_pos_iff.mpr h
    omega

/-- D tells the least number of steps to each node that ways lead to -/
structure Dist (g : Gph) (s : Int) (D : List (Int × Int)) : Prop where
  nd : (D.map (·.1)).Nodup
  rng : ∀ v ∈ D.map (·.1), 0 ≤ v ∧ v < 9
  ok : ∀ v d, (v, d) ∈ D → ∃ k : Nat, d = (k : Int) ∧ Wk g s k v ∧ ∀ j, Wk g s j v → k ≤ j
  all : ∀ v k, Wk g s k v → v ∈ D.map (·.1)

theorem SInv.dist {g : Gph} {s : Int} {D : List (Int × Int)} {n : Nat} (I : SInv g s D [] n) : Dist g s D where
  nd := I.nd
  rng := I.rng
  ok := fun v d h => let ⟨k, a, _, c, e⟩ := I.ok v d h; ⟨k, a, c, e⟩
  all := fun v k hw => by
    induction k generalizing v with
    | zero => exact I.all v 0 (Nat.zero_le _) hw
    | succ k ih =>
      obtain ⟨u, hu, hvu⟩ := hw.pred
      obtain ⟨d, hd⟩ := mem_fst (ih u hu)
      obtain ⟨k', rfl, hk', hw', _⟩ := I.ok u d hd
      rcases Nat.lt_or_ge k' n with h | h
      · exact I.all v (k' + 1) h (.step hw' hvu)
      · have : k' = n := by omega
        subst this
        have := (I.here u).mp hd
        cases this

/-! ## The stack -/
structure CInv (g : Gph) (s : Int) (V S : List Int) : Prop where
  nd : V.Nodup
  rng : ∀ v ∈ V, 0 ≤ v ∧ v < 9
  srng : ∀ v ∈ S, 0 ≤ v ∧ v < 9
  reach : ∀ v ∈ V, ∃ k, Wk g s k v
  sreach : ∀ v ∈ S, ∃ k, Wk g s k v
  start : s ∈ V ∨ s ∈ S
  closed : ∀ u ∈ V, ∀ v ∈ nb g u, v ∈ V ∨ v ∈ S
  size : S.length ≤ 1 + 4 * V.length

theorem CInv.init {g : Gph} {s : Int} (h0 : 0 ≤ s) (h1 : s < 9) : CInv g s [] [s] where
  nd := by simp
  rng := by simp
  srng := fun v hv => by simp at hv; omega
  reach := by simp
  sreach := fun v hv => by simp at hv; subst hv; exact ⟨0, .zero⟩
  start := by simp
  closed := by simp
  size := by simp

theorem CInv.skip {g : Gph} {s u : Int} {V S : List Int} (I : CInv g s V (S ++ [u])) (hu : u ∈ V) : CInv g s V S where
  nd := I.nd
  rng := I.rng
  srng := fun v hv => I.srng v (List.mem_append_left _ hv)
  reach := I.reach
  sreach := fun v hv => I.sreach v (List.mem_append_left _ hv)
  start := by
    rcases I.start with h | h
    · exact .inl h
    · rcases List.mem_append.mp h with h | h
      · exact .inr h
      · simp at h; exact .inl (h ▸ hu)
  closed := fun x hx v hv => by
    rcases I.closed x hx v hv with h | h
    · exact .inl h
    · rcases List.mem_append.mp h with h | h
      · exact .inr h
      · simp at h; exact .inl (h ▸ hu)
  size := by have := I.size; simp at this; omega

theorem CInv.take {g : Gph} {s u : Int} {V S : List Int} (I : CInv g s V (S ++ [u])) (hg : Small g) (hu : u ∉ V) : CInv g s (V ++ [u]) (S ++ (nb g u).filter fun v => decide (v ∉ V ++ [u])) where
  nd := by
    rw [List.nodup_append]
    exact ⟨I.nd, by simp, fun a ha b hb e => by simp at hb; subst hb; exact hu (e ▸ ha)⟩
  rng := fun v hv => by
    rcases List.mem_append.mp hv with h | h
    · exact I.rng v h
    · simp at h; subst h; exact I.srng v (by simp)
  srng := fun v hv => by
    rcases List.mem_append.mp hv with h | h
    · exact I.srng v (List.mem_append_left _ h)
    · have := hg.rng u v (List.mem_filter.mp h).1
      omega
  reach := fun v hv => by
    rcases List.mem_append.mp hv with h | h
    · exact I.reach v h
    · simp at h; subst h; exact I.sreach v (by simp)
  sreach := fun v hv => by
    rcases List.mem_append.mp hv with h | h
    · exact I.sreach v (List.mem_append_left _ h)
    · obtain ⟨k, hk⟩ := I.sreach u (by simp)
      exact ⟨k + 1, .step hk (List.mem_filter.mp h).1⟩
  start := by
    rcases I.start with h | h
    · exact .inl (List.mem_append_left _ h)
    · rcases List.mem_append.mp h with h | h
      · exact .inr (List.mem_append_left _ h)
      · exact .inl (List.mem_append_right _ h)
  closed := fun x hx v hv => by
    rcases List.mem_append.mp hx with h | h
    · rcases I.closed x h v hv with h | h
      · exact .inl (List.mem_append_left _ h)
      · rcases List.mem_append.mp h with h | h
        · exact .inr (List.mem_append_left _ h)
        · exact .inl (List.mem_append_right _ h)
    · simp at h
      subst h
      by_cases hm : v ∈ V ++ [x]
      · exact .inl hm
      · exact .inr (List.mem_append_right _ (List.mem_filter.mpr ⟨hv, by simpa using hm⟩))
  size := by
    have h1 := I.size
    have h2 := List.length_filter_le (fun v => decide (v ∉ V ++ [u])) (nb g u)
    have h3 := hg.len u
    simp only [List.length_append, List.length_cons, List.length_nil] at *
    omega

def cMeas (V S : List Int) : Nat := 5 * (9 - V.length) + S.length
theorem CInv.takeMeas {g : Gph} {s u : Int} {V S : List Int} (I : CInv g s V (S ++ [u])) (hg : Small g) (hu : u ∉ V) : cMeas (V ++ [u]) (S ++ (nb g u).filter fun v => decide (v ∉ V ++ [u])) < cMeas V (S ++ [u]) := by
  have h0 := nine (I.take hg hu).nd (I.take hg hu).rng
  have h2 := List.length_filter_le (fun v => decide (v ∉ V ++ [u])) (nb g u)
  have h3 := hg.len u
  unfold cMeas
  simp only [List.length_append, List.length_cons, List.length_nil] at *
  omega
theorem cMeasSkip {u : Int} {V S : List Int} : cMeas V S < cMeas V (S ++ [u]) := by
  unfold cMeas
  simp only [List.length_append, List.length_cons, List.length_nil]
  omega

theorem CInv.done {g : Gph} {s : Int} {V : List Int} (I : CInv g s V []) : ∀ v, v ∈ V ↔ ∃ k, Wk g s k v := fun v => by
  have key : ∀ k v, Wk g s k v → v ∈ V := by
    intro k
    induction k with
    | zero => intro v hk; rw [hk.zero_eq]; simpa using I.start
    | succ k ih =>
      intro v hk
      obtain ⟨u, hu, hvu⟩ := hk.pred
      simpa using I.closed u (ih u hu) v hvu
  exact ⟨I.reach v, fun ⟨k, hk⟩ => key k v hk⟩
end FE

namespace FE

/-- p leads from s to u along the web -/
inductive Pth (g : Gph) (s : Int) : List Int → Int → Prop
  | one : Pth g s [s] s
  | snoc {p : List Int} {u v : Int} : Pth g s p u → v ∈ nb g u → Pth g s (p ++ [v]) v

theorem Pth.walk {g : Gph} {s u : Int} {p : List Int} (h : Pth g s p u) : ∃ n, p.length = n + 1 ∧ Wk g s n u := by
  induction h with
  | one => exact ⟨0, rfl, .zero⟩
  | snoc _ hv ih =>
    obtain ⟨n, a, b⟩ := ih
    exact ⟨n + 1, by simp [a], .step b hv⟩
theorem Pth.last {g : Gph} {s u : Int} {p : List Int} (h : Pth g s p u) : u ∈ p := by cases h <;> simp

abbrev Itm := Int × List Int
def wt (Q : List Itm) : Nat := (Q.map fun x => 5 ^ (9 - x.2.length)).sum

structure FItem (g : Gph) (s e : Int) (V : List Int) (x : Itm) : Prop where
  pth : Pth g s x.2 x.1
  nd : x.2.Nodup
  rng : ∀ v ∈ x.2, 0 ≤ v ∧ v < 9
  seen : ∀ v ∈ x.2, v = x.1 ∨ v ∈ V
  ne : x.1 ≠ e

structure FInv (g : Gph) (s e : Int) (Q : List Itm) (V : List Int) : Prop where
  nd : V.Nodup
  rng : ∀ v ∈ V, 0 ≤ v ∧ v < 9
  item : ∀ x ∈ Q, FItem g s e V x
  ne : e ∉ V
  start : s ∈ V ∨ ∃ p, (s, p) ∈ Q
  closed : ∀ u ∈ V, ∀ v ∈ nb g u, v ∈ V ∨ ∃ p, (v, p) ∈ Q
  lev : ∃ (l : Nat) (Q1 Q2 : List Itm), Q = Q1 ++ Q2 ∧ (∀ x ∈ Q1, x.2.length = l + 1) ∧ (∀ x ∈ Q2, x.2.length = l + 2) ∧
    (∀ v j, j < l → Wk g s j v → v ∈ V) ∧ ∀ v, Wk g s l v → v ∈ V ∨ ∃ p, (v, p) ∈ Q1
  wts : wt Q ≤ 5 ^ 8

theorem FInv.init {g : Gph} {s e : Int} (h0 : 0 ≤ s) (h1 : s < 9) (hne : s ≠ e) : FInv g s e [(s, [s])] [] where
  nd := by simp
  rng := by simp
  item := fun x hx => by
    simp at hx
    subst hx
    exact ⟨.one, by simp, fun v hv => by simp at hv; omega, fun v hv => by simp at hv; exact .inl hv, hne⟩
  ne := by simp
  start := .inr ⟨[s], by simp⟩
  closed := by simp
  lev := ⟨0, [(s, [s])], [], rfl, by simp, by simp, fun v j hj => absurd hj (Nat.not_lt_zero _), fun v hw => .inr ⟨[s], by rw [hw.zero_eq]; simp⟩⟩
  wts := by simp [wt]

theorem wt_len (Q : List Itm) : Q.length ≤ wt Q := by
  induction Q with
  | nil => simp [wt]
  | cons x Q ih =>
    have : 0 < 5 ^ (9 - x.2.length) := Nat.pow_pos (by decide)
    simp only [wt, List.map_cons, List.sum_cons, List.length_cons] at *
    omega
theorem FInv.len {g : Gph} {s e : Int} {Q : List Itm} {V : List Int} (I : FInv g s e Q V) : Q.length ≤ 390625 := Nat.le_trans (wt_len Q) I.wts

/-- where the fifo is empty no way leads to e -/
theorem FInv.empty {g : Gph} {s e : Int} {V : List Int} (I : FInv g s e [] V) : ∀ k, ¬ Wk g s k e := by
  have key : ∀ k v, Wk g s k v → v ∈ V := by
    intro k
    induction k with
    | zero => intro v h; rw [h.zero_eq]; simpa using I.start
    | succ k ih =>
      intro v h
      obtain ⟨u, hu, hv⟩ := h.pred
      simpa using I.closed u (ih u hu) v hv
  exact fun k h => I.ne (key k e h)

/-- the head's level is the least that stands -/
theorem FInv.norm {g : Gph} {s e : Int} {x : Itm} {T : List Itm} {V : List Int} (I : FInv g s e (x :: T) V) :
    ∃ (l : Nat) (T1 Q2 : List Itm), T = T1 ++ Q2 ∧ x.2.length = l + 1 ∧ (∀ y ∈ T1, y.2.length = l + 1) ∧ (∀ y ∈ Q2, y.2.length = l + 2) ∧
      (∀ v j, j < l → Wk g s j v → v ∈ V) ∧ ∀ v, Wk g s l v → v ∈ V ∨ ∃ p, (v, p) ∈ x :: T1 := by
  obtain ⟨l, Q1, Q2, hQ, h1, h2, hA, hB⟩ := I.lev
  cases Q1 with
  | cons y T1 =>
    rw [List.cons_append] at hQ
    injection hQ with e1 e2
    subst e1
    exact ⟨l, T1, Q2, e2, h1 x (List.mem_cons_self ..), fun y hy => h1 y (List.mem_cons_of_mem _ hy), h2, hA, hB⟩
  | nil =>
    rw [List.nil_append] at hQ
    subst hQ
    have hA' : ∀ v j, j < l + 1 → Wk g s j v → v ∈ V := fun v j hj hw => by
      rcases Nat.lt_or_ge j l with h | h
      · exact hA v j h hw
      · have : j = l := by omega
        subst this
        simpa using hB v hw
    refine ⟨l + 1, T, [], by simp, h2 x (List.mem_cons_self ..), fun y hy => h2 y (List.mem_cons_of_mem _ hy), by simp, hA', fun v hw => ?_⟩
    obtain ⟨u, hu, hvu⟩ := hw.pred
    exact I.closed u (hA' u l (Nat.lt_succ_self _) hu) v hvu

def ins (V : List Int) (u : Int) : List Int := if u ∈ V then V else V ++ [u]
theorem mem_ins {V : List Int} {u v : Int} : v ∈ ins V u ↔ v = u ∨ v ∈ V := by
  unfold ins
  split
  · rename_i h
    exact ⟨.inr, fun x => x.elim (fun e => e ▸ h) id⟩
  · simp [Or.comm]
theorem nd_ins {V : List Int} {u : Int} (h : V.Nodup) : (ins V u).Nodup := by
  unfold ins
  split
  · exact h
  · rename_i hu
    rw [List.nodup_append]
    exact ⟨h, by simp, fun a ha b hb e => by simp at hb; subst hb; exact hu (e ▸ ha)⟩

def nexts (g : Gph) (V : List Int) (u : Int) : List Int := (nb g u).filter fun v => decide (v ∉ ins V u)
theorem mem_nexts {g : Gph} {V : List Int} {u v : Int} : v ∈ nexts g V u ↔ v ∈ nb g u ∧ v ∉ ins V u := by simp [nexts, List.mem_filter]

/-- a way as short as can be -/
structure Short (g : Gph) (s e : Int) (p : List Int) : Prop where
  pth : Pth g s p e
  least : ∀ j, Wk g s j e → p.length ≤ j + 1

theorem FInv.found {g : Gph} {s e : Int} {u : Int} {p : List Int} {T : List Itm} {V : List Int} (I : FInv g s e ((u, p) :: T) V) (h : e ∈ nexts g V u) : Short g s e (p ++ [e]) := by
  obtain ⟨l, T1, Q2, rfl, hx, h1, h2, hA, hB⟩ := I.norm
  have X := I.item (u, p) (List.mem_cons_self ..)
  refine ⟨.snoc X.pth (mem_nexts.mp h).1, fun j hj => ?_⟩
  have hx' : p.length = l + 1 := hx
  rw [List.length_append, hx']
  show l + 1 + 1 ≤ j + 1
  rcases Nat.lt_or_ge l j with hlt | hge
  · omega
  · exfalso
    rcases Nat.lt_or_ge j l with h3 | h3
    · exact I.ne (hA e j h3 hj)
    · have : j = l := by omega
      subst this
      rcases hB e hj with h4 | ⟨q, hq⟩
      · exact I.ne h4
      · have hm : (e, q) ∈ (u, p) :: (T1 ++ Q2) := by
          rcases List.mem_cons.mp hq with h5 | h5
          · exact h5 ▸ List.mem_cons_self ..
          · exact List.mem_cons_of_mem _ (List.mem_append_left _ h5)
        exact (I.item _ hm).ne rfl

theorem wt_app (A B : List Itm) : wt (A ++ B) = wt A + wt B := by simp [wt]
theorem wt_new (p : List Int) : ∀ as : List Int, wt (as.map fun a => (a, p ++ [a])) = as.length * 5 ^ (9 - (p.length + 1))
  | [] => by simp [wt]
  | a :: as => by
    have := wt_new p as
    simp only [wt, List.map_cons, List.sum_cons, List.length_cons, List.length_append, List.length_nil, Nat.zero_add] at *
    rw [this, Nat.add_mul]
    omega

theorem FInv.next {g : Gph} {s e : Int} {u : Int} {p : List Int} {T : List Itm} {V : List Int} (I : FInv g s e ((u, p) :: T) V) (hg : Small g) (h : e ∉ nexts g V u) :
    FInv g s e (T ++ (nexts g V u).map fun a => (a, p ++ [a])) (ins V u) ∧ wt (T ++ (nexts g V u).map fun a => (a, p ++ [a])) < wt ((u, p) :: T) := by
  have X := I.item (u, p) (List.mem_cons_self ..)
  have hXp : ∀ v ∈ p, v ∈ ins V u := fun v hv => mem_ins.mpr (X.seen v hv)
  have new : ∀ a ∈ nexts g V u, FItem g s e (ins V u) (a, p ++ [a]) := fun a ha => by
    obtain ⟨h1, h2⟩ := mem_nexts.mp ha
    refine ⟨.snoc X.pth h1, ?_, ?_, ?_, fun q => h (q ▸ ha)⟩
    · show (p ++ [a]).Nodup
      rw [List.nodup_append]
      exact ⟨X.nd, by simp, fun x hx b hb q => by simp at hb; subst hb; exact h2 (q ▸ hXp x hx)⟩
    · intro v hv
      rcases List.mem_append.mp hv with hv | hv
      · exact X.rng v hv
      · simp at hv; subst hv; have := hg.rng u v h1; omega
    · intro v hv
      rcases List.mem_append.mp hv with hv | hv
      · exact .inr (hXp v hv)
      · simp at hv; exact .inl hv
  have hw : wt (T ++ (nexts g V u).map fun a => (a, p ++ [a])) < wt ((u, p) :: T) := by
    have e1 : wt ((u, p) :: T) = 5 ^ (9 - p.length) + wt T := by simp [wt]
    rw [wt_app, wt_new, e1]
    have hp9 : p.length ≤ 9 := nine X.nd X.rng
    have hlen : (nexts g V u).length ≤ 4 := Nat.le_trans (List.length_filter_le _ _) (hg.len u)
    by_cases h9 : p.length = 9
    · have : nexts g V u = [] := by
        cases hn : nexts g V u with
        | nil => rfl
        | cons a r =>
          have Y := new a (by rw [hn]; exact List.mem_cons_self ..)
          have := nine Y.nd Y.rng
          rw [List.length_append] at this
          simp at this
          omega
      rw [this]
      have : 0 < 5 ^ (9 - p.length) := Nat.pow_pos (by decide)
      simp
      omega
    · have e2 : 9 - p.length = (9 - (p.length + 1)) + 1 := by omega
      rw [e2, Nat.pow_succ]
      have hpos : 0 < 5 ^ (9 - (p.length + 1)) := Nat.pow_pos (by decide)
      have := Nat.mul_le_mul_right (5 ^ (9 - (p.length + 1))) hlen
      omega
  obtain ⟨l, T1, Q2, rfl, hx, h1, h2, hA, hB⟩ := I.norm
  refine ⟨⟨nd_ins I.nd, ?_, ?_, ?_, ?_, ?_, ?_, Nat.le_trans (Nat.le_of_lt hw) I.wts⟩, hw⟩
  · intro v hv
    rcases mem_ins.mp hv with rfl | hv
    · exact X.rng v X.pth.last
    · exact I.rng v hv
  · intro y hy
    rcases List.mem_append.mp hy with hy | hy
    · have Y := I.item y (List.mem_cons_of_mem _ hy)
      exact ⟨Y.pth, Y.nd, Y.rng, fun v hv => (Y.seen v hv).imp id fun q => mem_ins.mpr (.inr q), Y.ne⟩
    · obtain ⟨a, ha, rfl⟩ := List.mem_map.mp hy
      exact new a ha
  · intro q
    rcases mem_ins.mp q with q | q
    · exact X.ne q.symm
    · exact I.ne q
  · rcases I.start with q | ⟨r, hr⟩
    · exact .inl (mem_ins.mpr (.inr q))
    · rcases List.mem_cons.mp hr with q | q
      · cases q; exact .inl (mem_ins.mpr (.inl rfl))
      · exact .inr ⟨r, List.mem_append_left _ q⟩
  · intro x hx v hv
    by_cases hm : v ∈ ins V u
    · exact .inl hm
    · rcases mem_ins.mp hx with rfl | hx
      · exact .inr ⟨p ++ [v], List.mem_append_right _ (List.mem_map.mpr ⟨v, mem_nexts.mpr ⟨hv, hm⟩, rfl⟩)⟩
      · rcases I.closed x hx v hv with q | ⟨r, hr⟩
        · exact absurd (mem_ins.mpr (.inr q)) hm
        · rcases List.mem_cons.mp hr with q | q
          · cases q; exact absurd (mem_ins.mpr (.inl rfl)) hm
          · exact .inr ⟨r, List.mem_append_left _ q⟩
  · refine ⟨l, T1, Q2 ++ (nexts g V u).map fun a => (a, p ++ [a]), by rw [List.append_assoc], h1, ?_, fun v j hj hw => mem_ins.mpr (.inr (hA v j hj hw)), fun v hw => ?_⟩
    · intro y hy
      rcases List.mem_append.mp hy with hy | hy
      · exact h2 y hy
      · obtain ⟨a, _, rfl⟩ := List.mem_map.mp hy
        have hx' : p.length = l + 1 := hx
        show (p ++ [a]).length = l + 2
        rw [List.length_append, hx']
        rfl
    · rcases hB v hw with q | ⟨r, hr⟩
      · exact .inl (mem_ins.mpr (.inr q))
      · rcases List.mem_cons.mp hr with q | q
        · cases q; exact .inl (mem_ins.mpr (.inl rfl))
        · exact .inr ⟨r, q⟩
end FE

open PySem PySem.W PySem.Calls PyProof.Rows PySem.Spec

namespace FE

def st (i : Nat) : Stmt := (PySem.Challenge.pw_fe0209_01.main.body[i]?).getD (.Pass ⟨0, 0, 0, 0⟩)
def bodyOf : Stmt → List Stmt
  | .FunctionDef _ _ b _ _ _ _ _ _ _ => b
  | _ => []
def scopeOf : Stmt → Scope
  | .FunctionDef _ _ _ _ _ _ sc _ _ _ => sc
  | _ => PySem.Challenge.pw_fe0209_01.main.scope
def body (i : Nat) : List Stmt := bodyOf (st i)
def scp (i : Nat) : Scope := scopeOf (st i)

/-- what a call needs of the globals -/
structure Cx (mg mb : Str → Option Value) (h : Heap) : Prop where
  g : h.Ns mainGlobals mg
  b : h.Ns builtinsNs mb
  nolimit : h.NoLimit

theorem Cx.keeps {mg mb : Str → Option Value} {h h' : Heap} (C : Cx mg mb h) (k : ∀ b o, h.get? b = some o → h'.get? b = some o) : Cx mg mb h' :=
  ⟨C.g.keeps k, C.b.keeps k, C.nolimit.keeps k⟩

section
variable {M : Model} {A : Around} {E : Value → Shared → Prop} {s : Shared} {h₀ : Heap} {L a : Addr} {m mg mb : Str → Option Value} {cn : Str} {cs : Scope} {ccd : Value} {cl : List (Str × Addr)}
  {x : Str} {pos : Pos} {v : Value} {Q : Value → Shared → Prop}
theorem nameG (F : Fr h₀ L s.heap m) (C : Cx mg mb h₀) (e : mg x = some v) (h : Q v s)
    (hk : cs.kind = .function := by rfl) (hx : (envX cn cs L a ccd cl).kindOf x = some .globalImplicit := by rfl) (hd : (x == ("__debug__" : Str)) = false := by decide) :
    wpAny M A (eval (.Name x pos) (envX cn cs L a ccd cl)) Q E s := Name_function_global hk hx (loadGlobal_global (env := envX cn cs L a ccd cl) (C.g.keeps F.keep) e h) hd
theorem nameB (F : Fr h₀ L s.heap m) (C : Cx mg mb h₀) (e : mg x = none) (hv : mb x = some v) (h : Q v s)
    (hk : cs.kind = .function := by rfl) (hx : (envX cn cs L a ccd cl).kindOf x = some .globalImplicit := by rfl) (hd : (x == ("__debug__" : Str)) = false := by decide) :
    wpAny M A (eval (.Name x pos) (envX cn cs L a ccd cl)) Q E s :=
  Name_function_global hk hx (loadGlobal_builtin (env := envX cn cs L a ccd cl) (C.g.keeps F.keep) e (C.b.keeps F.keep) hv h) hd
end

theorem iteT {c : Bool} {P Q : Prop} (hc : c = true) (h : P) : if c = true then P else Q := by rw [if_pos hc]; exact h
theorem iteF {c : Bool} {P Q : Prop} (hc : c = false) (h : Q) : if c = true then P else Q := by rw [if_neg (by rw [hc]; decide)]; exact h

/-- the value of _law_cell -/
def cellv (ns : List Int) (at_ : Nat) : Int := if at_ < ns.length then ((ns.getD at_ 0).natAbs : Int) % 1000003 else 7 * at_ + 3

theorem cellv_nonneg (ns : List Int) (k : Nat) : 0 ≤ cellv ns k := by unfold cellv; split <;> omega

structure Bl (mg mb : Str → Option Value) : Prop where
  abs : mg "abs" = none ∧ mb "abs" = some (.builtin "abs")
  int : mg "int" = none ∧ mb "int" = some (.type "int")
  len : mg "len" = none ∧ mb "len" = some (.builtin "len")
  range : mg "range" = none ∧ mb "range" = some (.type "range")
  list : mg "list" = none ∧ mb "list" = some (.type "list")
  zip : mg "zip" = none ∧ mb "zip" = some (.type "zip")
  sorted : mg "sorted" = none ∧ mb "sorted" = some (.builtin "sorted")

section
variable {prog : Program} {w : World} {A : Around} {s : Shared} {h₀ : Heap} {L a : Addr} {m mg mb : Str → Option Value} {cn : Str} {ccd : Value}

theorem cell_body {sl : Addr} {vs : List Value} {ns : List Int} {k : Nat} {t : Tok} (F : Fr h₀ L s.heap m) (C : Cx mg mb h₀) (B : Bl mg mb)
    (hs : m "script" = some (.ref sl)) (hl : h₀.IsList sl vs.toArray) (hi : IntsAre vs ns) (ha : m "at" = some (.int k t)) (hk : k < 1000) (hlen : ns.length ≤ 63) :
    wpAny (model prog w) A (execs (body 4) (envX cn (scp 4) L a ccd [])) (fun f s' => ∃ t tk, f = .ret (.int (cellv ns k) t) ∧ s' = { s with toks := tk }) (fun _ _ => False) s := by
  refine wpAny_execs_cons (wpAny_Return_some (IfExp_ (wpAny_isTrue_Compare1 ?_)))
  refine nameX_L F ha ?_
  refine Call_ (nameB F C B.len.1 B.len.2 (callWith_builtin1 (args_cons (nameX_L F hs (args_nil ?_)))))
  have hls : s.heap.IsList sl vs.toArray := hl.at fun o e => F.keep sl o e
  have hvn : vs.length = ns.length := hi.length
  refine call_len_list hls (by simp; omega) ?_
  refine lt_int (wpAny_truthy_bool ?_)
  rw [List.size_toArray, hvn]
  by_cases hc : (k : Int) < (ns.length : Int)
  · refine iteT (decide_eq_true hc) ?_
    have hkl : k < ns.length := by omega
    obtain ⟨u, hu⟩ := hi.get k ns[k] (by simp [hkl])
    refine wpAny_BinOp (Call_ (nameB F C B.abs.1 B.abs.2 (callWith_builtin1 (args_cons (Call_ (nameB F C B.int.1 B.int.2 (PyProof.Rows.callWith_type1 (args_cons (Subscript_ (nameX_L F hs (nameX_L F ha ?_)))))))))))
    refine item_list (x := .int ns[k] u) hls (by omega) (by omega) (by simpa using hu) (args_nil (call_int_int (args_nil (call_abs_int fun u tk => ?_))))
    refine wpAny_Constant_int (mod_int (by decide) ?_)
    have e : (if ns[k] < 0 then -ns[k] else ns[k]).fmod 1000003 = cellv ns k := by
      have : ns.getD k 0 = ns[k] := by simp [List.getD, hkl]
      rw [cellv, if_pos hkl, this, Int.fmod_eq_emod_of_nonneg _ (by decide)]
      congr 1
      split <;> omega
    rw [e]
    exact ⟨_, _, rfl, rfl⟩
  · refine iteF (decide_eq_false hc) ?_
    have hkl : ¬ k < ns.length := by omega
    refine wpAny_BinOp (wpAny_BinOp (wpAny_Constant_int (nameX_L F ha (mul_int ?_ (IntMulOk.of_left (by decide))))))
    refine wpAny_Constant_int (add_int ?_)
    have e : 7 * (k : Int) + 3 = cellv ns k := by rw [cellv, if_neg hkl]
    rw [e]
    exact ⟨_, _, rfl, rfl⟩
end
end FE

namespace FE

def Kp (h h' : Heap) : Prop := ∀ b o, h.get? b = some o → h'.get? b = some o
def Gr (L : Addr) (h h' : Heap) : Prop := ∀ b o, b ≠ L → h.get? b = some o → h'.get? b = some o
def Own (h₀ : Heap) (L : Addr) (h : Heap) (a : Addr) (o : Obj) : Prop := h.get? a = some o ∧ a ≠ L ∧ h₀.get? a = none

theorem Kp.refl (h : Heap) : Kp h h := fun _ _ e => e
theorem Kp.trans {h h' h'' : Heap} (a : Kp h h') (b : Kp h' h'') : Kp h h'' := fun _ _ e => b _ _ (a _ _ e)
theorem Kp.gr {h h' : Heap} (k : Kp h h') (L : Addr) : Gr L h h' := fun b o _ e => k b o e
theorem Gr.refl (L : Addr) (h : Heap) : Gr L h h := fun _ _ _ e => e
theorem Gr.trans {L : Addr} {h h' h'' : Heap} (a : Gr L h h') (b : Gr L h' h'') : Gr L h h'' := fun _ _ n e => b _ _ n (a _ _ n e)
theorem Gr.same {L : Addr} {h h' : Heap} (a : Heap.SameBut L h h') : Gr L h h' := fun b _ n e => (a.2 b n).trans e
theorem Own.gr {h₀ h h' : Heap} {L a : Addr} {o : Obj} (O : Own h₀ L h a o) (g : Gr L h h') : Own h₀ L h' a o := ⟨g _ _ O.2.1 O.1, O.2⟩
theorem Own.ch {h₀ h h' : Heap} {L a d : Addr} {o : Obj} (O : Own h₀ L h a o) (g : Heap.SameBut d h h') (n : a ≠ d) : Own h₀ L h' a o := ⟨(g.2 a n).trans O.1, O.2⟩
theorem Own.lt {h₀ h : Heap} {L a : Addr} {o : Obj} (O : Own h₀ L h a o) : a < h.objs.size := Heap.lt_size O.1
theorem Own.ne {h₀ h : Heap} {L a D : Addr} {o : Obj} (O : Own h₀ L h a o) (n : h.objs.size ≤ D) : a ≠ D := Nat.ne_of_lt (Nat.lt_of_lt_of_le O.lt n)
theorem Own.one {h₀ h : Heap} {L a : Addr} {o o' : Obj} (O : Own h₀ L h a o) (P : Own h₀ L h a o') : o = o' := by have := O.1; rw [P.1] at this; exact (Option.some.inj this).symm
theorem newsGr {h₀ h h' : Heap} {L : Addr} {l : List (Addr × Obj)} (N : News h₀ L h l) (g : Gr L h h') : News h₀ L h' l := fun p hp => Own.gr (N p hp) g
theorem newsCh {h₀ h h' : Heap} {L d : Addr} {l : List (Addr × Obj)} (N : News h₀ L h l) (g : Heap.SameBut d h h') (n : ∀ p ∈ l, p.1 ≠ d) : News h₀ L h' l := fun p hp => Own.ch (N p hp) g (n p hp)
theorem newsNe {h₀ h : Heap} {L D : Addr} {l : List (Addr × Obj)} (N : News h₀ L h l) (n : h.objs.size ≤ D) : ∀ p ∈ l, p.1 ≠ D := fun p hp => Own.ne (N p hp) n
theorem newsCons {h₀ h : Heap} {L a : Addr} {o : Obj} {l : List (Addr × Obj)} (O : Own h₀ L h a o) (N : News h₀ L h l) : News h₀ L h ((a, o) :: l) := by
  intro p hp
  rcases List.mem_cons.mp hp with rfl | hp
  · exact O
  · exact N p hp
theorem newsApp {h₀ h : Heap} {L : Addr} {l l' : List (Addr × Obj)} (N : News h₀ L h l) (N' : News h₀ L h l') : News h₀ L h (l ++ l') := fun p hp => (List.mem_append.mp hp).elim (N p) (N' p)
theorem Fr.kp {h₀ h h' : Heap} {L : Addr} {m : Str → Option Value} (F : Fr h₀ L h m) (k : Kp h h') : Fr h₀ L h' m := F.after k
theorem frLt {h₀ h : Heap} {L : Addr} {m : Str → Option Value} (F : Fr h₀ L h m) : L < h.objs.size := F.ns.lt

theorem szOk {n : Nat} (h : n ≤ 1000000) : n ≤ sizeLine := by rw [sizeLine_eq]; omega
abbrev upd (m : Str → Option Value) (x : Str) (v : Value) : Str → Option Value := fun y => if y = x then some v else m y
abbrev tupOf (vs : List Value) : Obj := { cls := .type "tuple", data := .seq vs.toArray }

section
variable {M : Model} {A : Around} {E : Value → Shared → Prop} {s : Shared} {h₀ : Heap} {L a : Addr} {m : Str → Option Value} {cn : Str} {cs : Scope} {ccd : Value} {cl : List (Str × Addr)}

theorem stG {x : Str} {v : Value} {Q : Unit → Shared → Prop} (F : Fr h₀ L s.heap m)
    (h : ∀ h', Fr h₀ L h' (upd m x v) → Gr L s.heap h' → Q () { s with heap := h', toks := s.toks + 1 })
    (hk : cs.kind = .function := by rfl) (hx : (envX cn cs L a ccd cl).kindOf x = some .local := by rfl) : wpAny M A (storeName (envX cn cs L a ccd cl) x v) Q E s :=
  wpAny_storeName_local hx F.ns (fun h' hn hs => h h' (F.set hn hs) (Gr.same hs)) (by show (cs.kind == .class || (cs.kind == .module && L != mainGlobals)) = false; rw [hk]; rfl)

/-- a cell of the frame is turned: the frame, all other objects stay -/
theorem stCellG {x : Str} {v : Value} {c : Addr} {o : Obj} {v₀ : Option Value} {Q : Unit → Shared → Prop} (F : Fr h₀ L s.heap m) (O : Own h₀ L s.heap c o) (hd : o.data = .cell v₀) (hc : cl.lookup x = some c)
    (h : ∀ h' o', Fr h₀ L h' m → Heap.SameBut c s.heap h' → Own h₀ L h' c o' → o'.data = .cell (some v) → Q () { s with heap := h' })
    (hk : cs.kind = .function := by rfl) (hx : (envX cn cs L a ccd cl).kindOf x = some .cell := by rfl) : wpAny M A (storeName (envX cn cs L a ccd cl) x v) Q E s := by
  refine wpAny_storeName_cell hk hx hc ⟨o, O.1, hd⟩ fun h' hv hs => ?_
  obtain ⟨o', ho', hd'⟩ := hv
  exact h h' o' (F.change hs O.2.1 O.2.2) hs ⟨ho', O.2⟩ hd'

theorem ldCellG {x : Str} {pos : Pos} {v : Value} {c : Addr} {o : Obj} {Q : Value → Shared → Prop} (O : Own h₀ L s.heap c o) (hd : o.data = .cell (some v)) (hc : cl.lookup x = some c) (h : Q v s)
    (hk : cs.kind = .function := by rfl) (hx : (envX cn cs L a ccd cl).kindOf x = some .cell := by rfl) (hb : (x == ("__debug__" : Str)) = false := by decide) :
    wpAny M A (eval (.Name x pos) (envX cn cs L a ccd cl)) Q E s := wpAny_Name (wpAny_loadName_cell hk hx hc ⟨o, O.1, hd⟩ h) hb

theorem newSize {h : Heap} {o : Obj} (F : Fr h₀ L h m) (hf : o.isFreed = false := by rfl) : Own h₀ L (h.push o) h.objs.size o := by
  refine ⟨Heap.get?_push_size _ hf, Nat.ne_of_gt (frLt F), ?_⟩
  cases hq : h₀.get? h.objs.size with
  | none => rfl
  | some o' => exact absurd (Heap.lt_size (F.keep _ _ hq)) (Nat.lt_irrefl _)

theorem newListG {vs : List Value} {Q : Value → Shared → Prop} (F : Fr h₀ L s.heap m)
    (h : ∀ h' D, Fr h₀ L h' m → Kp s.heap h' → Own h₀ L h' D (listOf vs.toArray 0) → s.heap.objs.size ≤ D → Q (.ref D) { s with heap := h' }) (hsz : vs.length ≤ sizeLine) :
    wpAny M A (newList vs) Q E s :=
  wpAny_newObj_type (h _ _ (F.push _) (fun _ _ e => Heap.get?_push_of_some _ e) (newSize F) (Nat.le_refl _)) (by show vs.toArray.size ≤ sizeLine; rw [List.size_toArray]; exact hsz)

theorem newTupleG {vs : List Value} {Q : Value → Shared → Prop} (F : Fr h₀ L s.heap m)
    (h : ∀ h' D, Fr h₀ L h' m → Kp s.heap h' → Own h₀ L h' D (tupOf vs) → s.heap.objs.size ≤ D → Q (.ref D) { s with heap := h' }) (hsz : vs.length ≤ sizeLine) :
    wpAny M A (newTuple vs) Q E s :=
  wpAny_newObj_type (h _ _ (F.push _) (fun _ _ e => Heap.get?_push_of_some _ e) (newSize F) (Nat.le_refl _)) (by show vs.toArray.size ≤ sizeLine; rw [List.size_toArray]; exact hsz)

end

section
variable {prog : Program} {w : World} {A : Around} {E : Value → Shared → Prop} {s : Shared} {h₀ : Heap} {L a : Addr} {m : Str → Option Value} {env : Env}

theorem newDictG {pos : Pos} {Q : Value → Shared → Prop} (F : Fr h₀ L s.heap m) (hbig : sysModules < h₀.objs.size)
    (h : ∀ h' D o, Fr h₀ L h' m → Kp s.heap h' → Own h₀ L h' D o → o.IsDictOf (intKind prog w) [] → (D == sysModules) = false → s.heap.objs.size ≤ D → Q (.ref D) { s with heap := h' }) :
    wpAny (model prog w) A (eval (.Dict [] [] pos) env) Q E s := by
  refine wpAny_Dict_empty (h _ _ { cls := .type "dict", data := .dict #[] } (F.push _) (fun _ _ e => Heap.get?_push_of_some _ e) (newSize F) ?_ (F.notModules hbig) (Nat.le_refl _))
  exact ⟨#[], 0, ⟨rfl, rfl, rfl⟩, rfl, fun _ he => by simp at he, .nil, List.nodup_nil⟩

theorem setItemG {d : Addr} {o : Obj} {kvs : List (Int × Value)} {k : Int} {t : Tok} {v : Value} {Q : Unit → Shared → Prop} (F : Fr h₀ L s.heap m) (O : Own h₀ L s.heap d o) (hd : o.IsDictOf (intKind prog w) kvs) (hz : kvs.length ≤ sizeLine)
    (h : ∀ h' o', Fr h₀ L h' m → Heap.SameBut d s.heap h' → Own h₀ L h' d o' → o'.IsDictOf (intKind prog w) (stored kvs k v) → Q () { s with heap := h', toks := s.toks + 1 }) :
    wpAny (model prog w) A (setItem (.ref d) (.int k t) v) Q E s := by
  refine wpAny_setItem_pairs (hsz := hz) (intKind_is prog w k t) (Heap.dictOf_iff.mpr ⟨o, O.1, hd⟩) fun h' hm hs => ?_
  obtain ⟨o', ho', hd'⟩ := Heap.dictOf_iff.mp hm
  exact h h' o' (F.change hs O.2.1 O.2.2) hs ⟨ho', O.2⟩ hd'

theorem notInG {d : Addr} {kvs : List (Int × Value)} {k : Int} {t : Tok} {Q : Value → Shared → Prop} (hd : s.heap.DictOf (intKind prog w) d kvs) (lo : (d == sysModules) = false)
    (h : Q (.bool (!(valueAt kvs k).isSome)) { s with toks := s.toks + 1 }) : wpAny (model prog w) A (compareOp .NotIn (.int k t) (.ref d)) Q E s := wpAny_notIn_of (intKind_is prog w k t) lo hd.mapOf h
theorem inG {d : Addr} {kvs : List (Int × Value)} {k : Int} {t : Tok} {Q : Value → Shared → Prop} (hd : s.heap.DictOf (intKind prog w) d kvs) (lo : (d == sysModules) = false)
    (h : Q (.bool (valueAt kvs k).isSome) { s with toks := s.toks + 1 }) : wpAny (model prog w) A (compareOp .In (.int k t) (.ref d)) Q E s := wpAny_in_of (intKind_is prog w k t) lo hd.mapOf h
theorem Own.dict {d : Addr} {h : Heap} {o : Obj} {kvs : List (Int × Value)} (O : Own h₀ L h d o) (hd : o.IsDictOf (intKind prog w) kvs) : h.DictOf (intKind prog w) d kvs := Heap.dictOf_iff.mpr ⟨o, O.1, hd⟩

theorem dgetMethG {d : Addr} {kvs : List (Int × Value)} {pl : Sem Bool} {Q : Value × List Value → Shared → Prop} (hD : s.heap.DictOf (intKind prog w) d kvs) (h : Q (.builtin "dict.get", [.ref d]) s) :
    wpAny (model prog w) A (getMethod (.ref d) "get" pl) Q E s :=
  getMethod_builtin hD.typeIs PySem.F.plainAttrs_dict PySem.F.slot_dict_get PySem.F.type_dict_get hD.mapOf.noDict h
theorem dgetG {d : Addr} {kvs : List (Int × Value)} {k : Int} {t : Tok} {dflt : Value} {Q : Value → Shared → Prop} (hD : s.heap.DictOf (intKind prog w) d kvs) (lo : (d == sysModules) = false)
    (h : Q ((valueAt kvs k).getD dflt) { s with toks := s.toks + 1 }) : wpAny (model prog w) A (call (.builtin "dict.get") [.ref d, .int k t, dflt]) Q E s :=
  call_meetsIn PySem.F.slot_dict_get hD.typeIs PySem.F.entry_dict_get (PySem.F.args_dict_get_3 _ _ _) (meets_dict_get_default (intKind prog w) d (intKind_is prog w k t) lo dflt) ⟨_, hD.mapOf, h⟩

theorem lMethG {D : Addr} {its : Array Value} {n : Nat} {name : Str} {id : String} {pl : Sem Bool} {Q : Value × List Value → Shared → Prop} (O : Own h₀ L s.heap D (listOf its n)) (slot : Slot "list" name id) (hty : typeOf (.builtin id) = pure (.type "method_descriptor"))
    (h : Q (.builtin id, [.ref D]) s) : wpAny (model prog w) A (getMethod (.ref D) name pl) Q E s :=
  getMethod_builtin ⟨_, O.1, rfl⟩ PySem.F.plainAttrs_list slot hty (fun a e => by cases e; exact ⟨_, O.1, rfl⟩) h

theorem appendG {D : Addr} {its : Array Value} {n : Nat} {x : Value} {Q : Value → Shared → Prop} (F : Fr h₀ L s.heap m) (O : Own h₀ L s.heap D (listOf its n)) (hz : its.size ≤ sizeLine)
    (h : ∀ h', Fr h₀ L h' m → Heap.SameBut D s.heap h' → Own h₀ L h' D (listOf (its.push x) (n + 1)) → Q .none { s with heap := h' }) : wpAny (model prog w) A (call (.builtin "list.append") [.ref D, x]) Q E s :=
  append_at (hsz := hz) O.1 fun h' hs ho => h h' (F.change hs O.2.1 O.2.2) hs ⟨ho, O.2⟩

theorem seqUpd {h : Heap} {D : Addr} {its its' : Array Value} {n : Nat} (f : Array Value → Array Value) (e : h.get? D = some (listOf its n)) (he : f its = its') (hs : its'.size ≠ its.size) :
    (h.update D (Obj.mapSeq f)).get? D = some (listOf its' (n + 1)) := by
  have q := PySem.IsL.update e f
  rw [he, if_neg (by simpa using hs)] at q
  exact q

theorem pop0G {D : Addr} {y : Value} {q : List Value} {n : Nat} {u : Tok} {Q : Value → Shared → Prop} (F : Fr h₀ L s.heap m) (O : Own h₀ L s.heap D (listOf (y :: q).toArray n)) (hz : (y :: q).length ≤ sizeLine)
    (h : ∀ h', Fr h₀ L h' m → Heap.SameBut D s.heap h' → Own h₀ L h' D (listOf q.toArray (n + 1)) → Q y { s with heap := h' }) : wpAny (model prog w) A (call (.builtin "list.pop") [.ref D, .int 0 u]) Q E s := by
  have hz' : (y :: q).toArray.size ≤ sizeLine := by rw [List.size_toArray]; exact hz
  have hk : seqIndex? 0 (y :: q).toArray.size = some 0 := by rw [List.size_toArray]; simp [seqIndex?]
  refine call_meets PySem.F.slot_list_pop ⟨_, O.1, rfl⟩ PySem.F.entry_list_pop (PySem.F.args_list_pop_2 _ _) (PySem.MeetsSeq.list_pop_at D _ n 0 u _ y (by rfl) hk (by simp) hz')
    ⟨O.1, h _ (F.change (Heap.SameBut.update ..) O.2.1 O.2.2) (Heap.SameBut.update ..) ⟨?_, O.2⟩⟩
  exact seqUpd _ O.1 (kl_erase [] q y) (by simp)

theorem popG {D : Addr} {y : Value} {p : List Value} {n : Nat} {Q : Value → Shared → Prop} (F : Fr h₀ L s.heap m) (O : Own h₀ L s.heap D (listOf (p ++ [y]).toArray n)) (hz : (p ++ [y]).length ≤ sizeLine)
    (h : ∀ h', Fr h₀ L h' m → Heap.SameBut D s.heap h' → Own h₀ L h' D (listOf p.toArray (n + 1)) → Q y { s with heap := h' }) : wpAny (model prog w) A (call (.builtin "list.pop") [.ref D]) Q E s := by
  have hz' : (p ++ [y]).toArray.size ≤ sizeLine := by rw [List.size_toArray]; exact hz
  have hk : (p ++ [y]).toArray.size - 1 = p.length := by rw [List.size_toArray, List.length_append]; rfl
  have hy : (p ++ [y]).toArray[(p ++ [y]).toArray.size - 1]? = some y := by rw [hk]; simp
  refine call_meets PySem.F.slot_list_pop ⟨_, O.1, rfl⟩ PySem.F.entry_list_pop (PySem.F.args_list_pop_1 _) (PySem.MeetsSeq.list_pop_last D _ n y hy hz')
    ⟨O.1, h _ (F.change (Heap.SameBut.update ..) O.2.1 O.2.2) (Heap.SameBut.update ..) ⟨?_, O.2⟩⟩
  refine seqUpd _ O.1 ?_ (by simp)
  show (p ++ [y]).toArray.eraseIdxIfInBounds ((p ++ [y]).toArray.size - 1) = p.toArray
  rw [hk, kl_erase, List.append_nil]

theorem extendG {D b : Addr} {its its2 : Array Value} {n n2 : Nat} {Q : Value → Shared → Prop} (F : Fr h₀ L s.heap m) (O : Own h₀ L s.heap D (listOf its n)) (hb : s.heap.get? b = some (listOf its2 n2)) (hz : its.size + its2.size ≤ 1000000)
    (h : ∀ h' n', Fr h₀ L h' m → Heap.SameBut D s.heap h' → Own h₀ L h' D (listOf (its ++ its2) n') → Q .none { s with heap := h' }) : wpAny (model prog w) A (call (.builtin "list.extend") [.ref D, .ref b]) Q E s := by
  have e5 := sizeLine_eq
  have hd : ¬(!its.isEmpty && Builtin.List.listTooLong (its.size + its2.size)) = true := extend_door (by omega)
  refine call_meets PySem.F.slot_list_extend ⟨_, O.1, rfl⟩ PySem.F.entry_list_extend (PySem.F.args_list_extend_2 _ _) (PySem.AutoSeq1.list_extend_list_list_0 D its n b its2 n2 hd (by omega) (by omega))
    ⟨O.1, hb, h _ _ (F.change (Heap.SameBut.update ..) O.2.1 O.2.2) (Heap.SameBut.update ..) ⟨PySem.IsL.update O.1 _, O.2⟩⟩
end
end FE

namespace FE

section
variable {prog : Program} {w : World} {A : Around} {s : Shared} {h₀ : Heap} {env : Env} {Q : Flow → Shared → Prop}

def WhEnd (I : Nat → Shared → Prop) (n : Nat) (Q : Flow → Shared → Prop) (f : Flow) (s₃ : Shared) : Prop := match f with
  | .next | .cont => ∃ k, k < n ∧ I k s₃
  | .brk => Q .next s₃
  | .ret v => Q (.ret v) s₃

theorem whileG {test : Expr} {body : List Stmt} {pos : Pos} (I : Nat → Shared → Prop)
    (turn : ∀ n s, I n s → wpAny (model prog w) A (isTrue test env (eval test env)) (fun b s₂ =>
        if b = true then wpAny (model prog w) A (execs body env) (WhEnd I n Q) (fun _ _ => False) s₂ else Q .next s₂) (fun _ _ => False) s)
    (n : Nat) (h : I n s) : wpAny (model prog w) A (exec (.While test body [] pos) env) Q (fun _ _ => False) s := by
  refine wpAny_While (codeAny_whileLoop I (fun n s hI => wpAny_mono (turn n s hI) (fun b s₂ hb => ?_) fun _ _ x => x.elim) n h)
  cases b with
  | true =>
    refine wpAny_mono (show wpAny _ _ _ _ _ _ from hb) (fun f s₃ hf => ?_) fun _ _ x => x.elim
    cases f <;> exact hf
  | false => exact wpAny_execs_nil hb

def ForEnd (h₀ : Heap) (L I : Addr) (own : List (Addr × Obj)) (Jn : (Str → Option Value) → List (Addr × Obj) → Prop) (s : Shared) (Q : Flow → Shared → Prop) (f : Flow) (s₂ : Shared) : Prop := match f with
  | .ret v => Q (.ret v) s₂
  | .brk => Q .next s₂
  | _ => ∃ h' tk m₂ news₂, s₂ = { s with heap := h', toks := tk } ∧ Fr h₀ L h' m₂ ∧ News h₀ L h' own ∧ News h₀ L h' news₂ ∧ (∀ p ∈ news₂, p.1 ≠ I) ∧ Jn m₂ news₂

theorem loopG {x : Str} {body : List Stmt} {I : Addr} {fp : List Addr} {n : Nat} {P : Nat → Value → Prop} {St : Nat → Heap → Prop} {m : Str → Option Value} {news : List (Addr × Obj)} {E : Value → Shared → Prop}
    (W : Walks prog w A I fp [I] n P St) (hLf : env.locals ∉ fp) (hI : h₀.get? I = none) (hnw : ∀ p ∈ news, p.1 ≠ I) (hst : St 0 s.heap) (hSt : ∀ i h, St i h → ∃ o, h.get? I = some o)
    (F : Fr h₀ env.locals s.heap m) (N : News h₀ env.locals s.heap news) (J : Nat → (Str → Option Value) → List (Addr × Obj) → Prop) (h0 : J 0 m news)
    (step : ∀ i v m₁ news₁ h₁ tk own, i < n → P i v → J i m₁ news₁ → (∀ p ∈ news₁, p.1 ≠ I) → (∀ p ∈ own, p.1 ∈ fp) → (∃ o, h₁.get? I = some o) → Fr h₀ env.locals h₁ (upd m₁ x v) → News h₀ env.locals h₁ own → News h₀ env.locals h₁ news₁ →
      wpAny (model prog w) A (execs body env) (ForEnd h₀ env.locals I own (J (i + 1)) s Q) E { s with heap := h₁, toks := tk })
    (done : ∀ h' tk m' news', Fr h₀ env.locals h' m' → News h₀ env.locals h' news' → J n m' news' → Q .next { s with heap := h', toks := tk }) :
    LoopAtV prog w A h₀ env x body Q E (.ref I) s := by
  refine ⟨I, fp, [I], n, P, St, m, news, J, rfl, W, hLf, fun b hb => by rw [List.mem_singleton.mp hb]; exact hI, fun p hp hb => hnw p hp (List.mem_singleton.mp hb), hst, F, N, h0, ?_, fun h' tk m' news' F' N' _ hJ => done h' tk m' news' F' N' hJ⟩
  rintro i v m₁ news₁ s₁ own ⟨h₁, tk, rfl⟩ hi hP hJ hoff hsub _ _ hst₁ F₁ N₁
  refine wpAny_mono (step i v m₁ news₁ h₁ tk own hi hP hJ (fun p hp e => hoff p hp (List.mem_singleton.mpr e)) hsub (hSt _ _ hst₁) F₁ (fun p hp => N₁ p (List.mem_append_left _ hp)) (fun p hp => N₁ p (List.mem_append_right _ hp))) (fun f s₂ hf => ?_) fun _ _ e => e
  cases f with
  | ret v => exact hf
  | brk => exact hf
  | next =>
    obtain ⟨h', tk', m₂, news₂, rfl, F₂, No, N₂, ho, hJ₂⟩ := hf
    exact ⟨rfl, h', tk', m₂, news₂, rfl, F₂, newsApp No N₂, fun p hp hb => ho p hp (List.mem_singleton.mp hb), hJ₂⟩
  | cont =>
    obtain ⟨h', tk', m₂, news₂, rfl, F₂, No, N₂, ho, hJ₂⟩ := hf
    exact ⟨rfl, h', tk', m₂, news₂, rfl, F₂, newsApp No N₂, fun p hp hb => ho p hp (List.mem_singleton.mp hb), hJ₂⟩

theorem listAtLt {h : Heap} {l : Addr} {its : Array Value} (x : h.IsList l its) : l < h.objs.size := let ⟨_, ho, _⟩ := x; Heap.lt_size ho

theorem iterListG {l : Addr} {items : Array Value} {x : Str} {body : List Stmt} {m : Str → Option Value} {news : List (Addr × Obj)} {E : Value → Shared → Prop}
    (hh : A.handled = none) (hl : s.heap.IsList l items) (hL : l ≠ env.locals)
    (F : Fr h₀ env.locals s.heap m) (N : News h₀ env.locals s.heap news) (J : Nat → (Str → Option Value) → List (Addr × Obj) → Prop) (h0 : J 0 m news)
    (step : ∀ I i v m₁ news₁ h₁ tk own, s.heap.objs.size ≤ I → items[i]? = some v → J i m₁ news₁ → (∀ p ∈ news₁, p.1 ≠ I) → (∀ p ∈ own, p.1 = I ∨ p.1 = l) → (∃ o, h₁.get? I = some o) → Fr h₀ env.locals h₁ (upd m₁ x v) → News h₀ env.locals h₁ own → News h₀ env.locals h₁ news₁ →
      wpAny (model prog w) A (execs body env) (ForEnd h₀ env.locals I own (J (i + 1)) s Q) E { s with heap := h₁, toks := tk })
    (done : ∀ h' tk m' news', Fr h₀ env.locals h' m' → News h₀ env.locals h' news' → J items.size m' news' → Q .next { s with heap := h', toks := tk }) :
    wpAny (model prog w) A (pyIter (.ref l)) (fun it s₂ => LoopAtV prog w A h₀ env x body Q E it s₂) E s := by
  have hlt := listAtLt hl
  have hne : l ≠ s.heap.objs.size := Nat.ne_of_lt hlt
  refine wpAny_pyIter_list hl ?_
  refine loopG (Walks.list hh s.heap.objs.size l hne items) ?_ (next_is_new F) (fun p hp e => Nat.lt_irrefl _ (e ▸ Heap.lt_size (N p hp).1)) ⟨⟨_, Heap.get?_push_size _ rfl, rfl, rfl⟩, hl.push _⟩
    (fun i h st => let ⟨o, ho, _⟩ := st.1; ⟨o, ho⟩) (F.push _) (fun p hp => ⟨Heap.get?_push_of_some _ (N p hp).1, (N p hp).2⟩) J h0 ?_ done
  · intro hm
    rcases List.mem_cons.mp hm with e | hm
    · exact Nat.lt_irrefl _ (e ▸ F.ns.lt)
    · exact hL (List.mem_singleton.mp hm).symm
  · intro i v m₁ news₁ h₁ tk own _ hP hJ hoff hsub hI F₁ No N₁
    exact step _ i v m₁ news₁ h₁ tk own (Nat.le_refl _) hP hJ hoff (fun p hp => by simpa using hsub p hp) hI F₁ No N₁

theorem iterDictG {d : Addr} {kvs : List (Int × Value)} {x : Str} {body : List Stmt} {m : Str → Option Value} {news : List (Addr × Obj)} {E : Value → Shared → Prop}
    (hh : A.handled = none) (hd : s.heap.DictOf (intKind prog w) d kvs) (lo : (d == sysModules) = false) (hL : d ≠ env.locals)
    (F : Fr h₀ env.locals s.heap m) (N : News h₀ env.locals s.heap news) (J : Nat → (Str → Option Value) → List (Addr × Obj) → Prop) (h0 : J 0 m news)
    (step : ∀ I i k t m₁ news₁ h₁ tk own, s.heap.objs.size ≤ I → (kvs.map (·.1))[i]? = some k → J i m₁ news₁ → (∀ p ∈ news₁, p.1 ≠ I) → (∀ p ∈ own, p.1 = I ∨ p.1 = d) → (∃ o, h₁.get? I = some o) → Fr h₀ env.locals h₁ (upd m₁ x (.int k t)) → News h₀ env.locals h₁ own → News h₀ env.locals h₁ news₁ →
      wpAny (model prog w) A (execs body env) (ForEnd h₀ env.locals I own (J (i + 1)) s Q) E { s with heap := h₁, toks := tk })
    (done : ∀ h' tk m' news', Fr h₀ env.locals h' m' → News h₀ env.locals h' news' → J kvs.length m' news' → Q .next { s with heap := h', toks := tk }) :
    wpAny (model prog w) A (pyIter (.ref d)) (fun it s₂ => LoopAtV prog w A h₀ env x body Q E it s₂) E s := by
  obtain ⟨ep, hd'⟩ := hd.dictAt
  have hlt := hd'.lt_size
  have hne : d ≠ s.heap.objs.size := Nat.ne_of_lt hlt
  refine wpAny_pyIter_dict lo hd' ?_
  refine loopG (Walks.dictKeys hh s.heap.objs.size d hne kvs ep) ?_ (next_is_new F) (fun p hp e => Nat.lt_irrefl _ (e ▸ Heap.lt_size (N p hp).1)) ⟨⟨_, Heap.get?_push_size _ rfl, rfl, rfl⟩, hd'.push _⟩
    (fun i h st => let ⟨o, ho, _⟩ := st.1; ⟨o, ho⟩) (F.push _) (fun p hp => ⟨Heap.get?_push_of_some _ (N p hp).1, (N p hp).2⟩) J h0 ?_ done
  · intro hm
    rcases List.mem_cons.mp hm with e | hm
    · exact Nat.lt_irrefl _ (e ▸ F.ns.lt)
    · exact hL (List.mem_singleton.mp hm).symm
  · rintro i v m₁ news₁ h₁ tk own hi ⟨k, y, hk, hkv⟩ hJ hoff hsub hI F₁ No N₁
    obtain ⟨t, rfl⟩ := Value.isInt_shape hkv
    exact step _ i k t m₁ news₁ h₁ tk own (Nat.le_refl _) (by rw [List.getElem?_map, hk]; rfl) hJ hoff (fun p hp => by simpa using hsub p hp) hI F₁ No N₁

theorem iterRangeG {r : Addr} {n : Nat} {t₀ u₀ v₀ : Tok} {x : Str} {body : List Stmt} {m : Str → Option Value} {news : List (Addr × Obj)} {E : Value → Shared → Prop}
    (hh : A.handled = none) (hr : IsRange s.heap r 0 n 1 t₀ u₀ v₀) (hn : n < 1000)
    (F : Fr h₀ env.locals s.heap m) (N : News h₀ env.locals s.heap news) (J : Nat → (Str → Option Value) → List (Addr × Obj) → Prop) (h0 : J 0 m news)
    (step : ∀ I i t m₁ news₁ h₁ tk own, s.heap.objs.size ≤ I → i < n → J i m₁ news₁ → (∀ p ∈ news₁, p.1 ≠ I) → (∀ p ∈ own, p.1 = I) → (∃ o, h₁.get? I = some o) → Fr h₀ env.locals h₁ (upd m₁ x (.int i t)) → News h₀ env.locals h₁ own → News h₀ env.locals h₁ news₁ →
      wpAny (model prog w) A (execs body env) (ForEnd h₀ env.locals I own (J (i + 1)) s Q) E { s with heap := h₁, toks := tk })
    (done : ∀ h' tk m' news', Fr h₀ env.locals h' m' → News h₀ env.locals h' news' → J n m' news' → Q .next { s with heap := h', toks := tk }) :
    wpAny (model prog w) A (pyIter (.ref r)) (fun it s₂ => LoopAtV prog w A h₀ env x body Q E it s₂) E s := by
  have hsz : Builtin.Range.rangeSize 0 n 1 = (n : Int) := by simp [Builtin.Range.rangeSize]; omega
  refine wpAny_pyIter_range hr ?_ ?_
  · exact small_one (by omega) (by omega) (by omega) (by omega)
  refine loopG (Walks.range hh s.heap.objs.size 0 1 n) ?_ (next_is_new F) (fun p hp e => Nat.lt_irrefl _ (e ▸ Heap.lt_size (N p hp).1)) (by show IsRangeIter _ _ _ _ _; rw [hsz]; simpa using Heap.get?_push_size _ rfl)
    (fun i h st => ⟨_, (show h.get? _ = some _ from st)⟩) (F.push _) (fun p hp => ⟨Heap.get?_push_of_some _ (N p hp).1, (N p hp).2⟩) J h0 ?_ done
  · intro hm
    exact Nat.lt_irrefl _ ((List.mem_singleton.mp hm) ▸ F.ns.lt)
  · rintro i v m₁ news₁ h₁ tk own hi ⟨t, rfl⟩ hJ hoff hsub hI F₁ No N₁
    have e1 : (0 : Int) + (i : Int) * 1 = (i : Int) := by omega
    rw [e1] at F₁
    exact step _ i t m₁ news₁ h₁ tk own (Nat.le_refl _) hi hJ hoff (fun p hp => by simpa using hsub p hp) hI F₁ No N₁
end
end FE

namespace FE

def nameOf : Stmt → Str
  | .FunctionDef n _ _ _ _ _ _ _ _ _ => n
  | _ => ""
def paramsOf : Stmt → Arguments
  | .FunctionDef _ p _ _ _ _ _ _ _ _ => p
  | _ => { posonlyargs := [], args := [], vararg := none, kwonlyargs := [], kw_defaults := [], kwarg := none, defaults := [] }
def nm (i : Nat) : Str := nameOf (st i)
def pms (i : Nat) : Arguments := paramsOf (st i)

def FnAt (h : Heap) (f : Addr) (i : Nat) : Prop := ∃ o pm cd doc, h.get? f = some o ∧ o.data = .func (docDef (nm i) (pms i) (body i) (scp i) pm cd doc) ∧ h.CodeRec cd (nm i)
theorem FnAt.keeps {h h' : Heap} {f : Addr} {i : Nat} (x : FnAt h f i) (k : Kp h h') : FnAt h' f i :=
  let ⟨o, pm, cd, doc, ho, hd, hc⟩ := x
  ⟨o, pm, cd, doc, k _ _ ho, hd, hc.keeps k⟩

/-- a call came back with a value, all that stood stands -/
def Back (s : Shared) (P : Value → Heap → Prop) (r : Result) (s' : Shared) : Prop :=
  ∃ v h' tk, r = .ok (.ret v) ∧ s' = { s with heap := h', toks := tk } ∧ Kp s.heap h' ∧ P v h'

def flowVal : Flow → Value
  | .ret v => v
  | _ => .none
def BodyBack (s : Shared) (P : Value → Heap → Prop) (fl : Flow) (s' : Shared) : Prop :=
  ∃ h' tk, s' = { s with heap := h', toks := tk } ∧ Kp s.heap h' ∧ P (flowVal fl) h'

section
variable {prog : Program} {w : World} {A : Around} {s : Shared}

theorem callP {i : Nat} {f : Addr} {args : List Value} {binds : List (Str × Value)} {P : Value → Heap → Prop} (hf : FnAt s.heap f i) (hlim : s.heap.NoLimit) (hroom : A.depth < recursionLimit)
    (hbind : ∀ pm cd doc, bindArgs (docDef (nm i) (pms i) (body i) (scp i) pm cd doc) ⟨args, []⟩ = pure binds)
    (hloc : ∀ x ∈ binds, (scp i).names.lookup x.1 = some .local) (hcell : ∀ x ∈ (scp i).names, x.2 ≠ .cell)
    (h : ∀ h₁ tk cd, Fr s.heap s.heap.objs.size h₁ (fun x => binds.reverse.lookup x) →
      wpAny (model prog w) (A.deeper (envX (nm i) (scp i) s.heap.objs.size f cd [])) (execs (body i) (envX (nm i) (scp i) s.heap.objs.size f cd [])) (BodyBack s P) (fun _ _ => False) { s with heap := h₁, toks := tk })
    (hco : (scp i).isCoroutine = false := by rfl) (hgen : (scp i).isGenerator = false := by rfl) (hk : (scp i).kind = .function := by rfl) :
    codeAny (model prog w) A (.call (.ref f) ⟨args, []⟩) (Back s P) s := by
  obtain ⟨o, pm, cd, doc, ho, hd, hc⟩ := hf
  refine call_plain_ret hroom ho hd hlim hc (hbind pm cd doc) hloc (fun h₁ F => ?_) hco hgen hk hcell
  refine wpAny_mono (h h₁ _ cd F) (fun fl s' hb => ?_) fun _ _ x => x
  obtain ⟨h', tk, rfl, k, p⟩ := hb
  refine ⟨_, h', tk, rfl, rfl, k, ?_⟩
  cases fl <;> exact p

/-- a function with cells -/
theorem callC {i : Nat} {f : Addr} {args : List Value} {binds : List (Str × Value)} {P : Value → Heap → Prop} (hf : FnAt s.heap f i) (hlim : s.heap.NoLimit) (hroom : A.depth < recursionLimit)
    (hbind : ∀ pm cd doc, bindArgs (docDef (nm i) (pms i) (body i) (scp i) pm cd doc) ⟨args, []⟩ = pure binds)
    (hkind : ∀ x ∈ binds, (scp i).names.lookup x.1 = some .local ∨ ((scp i).names.lookup x.1 = some .cell ∧ ((cellsFrom (s.heap.objs.size + 1) (scp i).names []).lookup x.1).isSome = true))
    (hnd : ((cellsFrom 0 (scp i).names []).map (·.1)).Nodup)
    (h : ∀ h₁ tk cd cells, Fr s.heap s.heap.objs.size h₁ (bindL (envOfC (nm i) (scp i) s.heap.objs.size f cd).kindOf binds fun _ => none) → News s.heap s.heap.objs.size h₁ cells →
      CellsAre (bindC (envOfC (nm i) (scp i) s.heap.objs.size f cd).kindOf binds fun _ => none) (cellsFrom (s.heap.objs.size + 1) (scp i).names []) cells →
      wpAny (model prog w) (A.deeper (envX (nm i) (scp i) s.heap.objs.size f cd (cellsFrom (s.heap.objs.size + 1) (scp i).names []))) (execs (body i) (envX (nm i) (scp i) s.heap.objs.size f cd (cellsFrom (s.heap.objs.size + 1) (scp i).names [])))
        (BodyBack s P) (fun _ _ => False) { s with heap := h₁, toks := tk })
    (hco : (scp i).isCoroutine = false := by rfl) (hgen : (scp i).isGenerator = false := by rfl) (hk : (scp i).kind = .function := by rfl) :
    codeAny (model prog w) A (.call (.ref f) ⟨args, []⟩) (Back s P) s := by
  obtain ⟨o, pm, cd, doc, ho, hd, hc⟩ := hf
  refine call_cellsN_ret hroom ho hd hlim hc (hbind pm cd doc) hkind hnd (fun h₁ tk cells F N X => ?_) hco hgen hk
  refine wpAny_mono (h h₁ tk cd cells F N X) (fun fl s' hb => ?_) fun _ _ x => x
  obtain ⟨h', tk, rfl, k, p⟩ := hb
  refine ⟨_, h', tk, rfl, rfl, k, ?_⟩
  cases fl <;> exact p

theorem callB {f : Value} {vs : List Value} {P : Value → Heap → Prop} {Q : Value → Shared → Prop} {E : Value → Shared → Prop} (hc : codeAny (model prog w) A (.call f ⟨vs, []⟩) (Back s P) s)
    (h : ∀ v h' tk, Kp s.heap h' → P v h' → Q v { s with heap := h', toks := tk }) : wpAny (model prog w) A (call f vs) Q E s := by
  refine wpAny_call (codeAny_mono hc ?_)
  rintro r s' ⟨v, h', tk, rfl, rfl, k, p⟩
  exact h v h' tk k p

/-- the callee of a def: the object stays while the arguments are reckoned -/
theorem callWithG {env : Env} {pos : Pos} {f : Addr} {i : Nat} {h₀ : Heap} {e : Expr} {rest : List Expr} {Q : Value → Shared → Prop} {E : Value → Shared → Prop} (hf : FnAt h₀ f i)
    (h : wpAny (model prog w) A (spliced (backTo pos (starEach (e :: rest) env))) (fun vs s₁ => Kp h₀ s₁.heap ∧ wpAny (model prog w) A (call (.ref f) vs) Q E s₁) E s)
    (he : starEach (e :: rest) env = (false, eval e env) :: starEach rest env := by rfl) :
    wpAny (model prog w) A (callWith pos (.ref f) [] (backTo pos (starEach (e :: rest) env)) []) Q E s := by
  obtain ⟨o, pm, cd, doc, ho, hd, hc⟩ := hf
  exact callWith_def hd (wpAny_mono h (fun vs s₁ x => ⟨x.1 _ _ ho, x.2⟩) fun _ _ x => x) he

theorem cell_call {mg mb : Str → Option Value} {f sl : Addr} {vs : List Value} {ns : List Int} {k : Nat} {t : Tok} (hf : FnAt s.heap f 4) (C : Cx mg mb s.heap) (B : Bl mg mb) (hroom : A.depth < recursionLimit)
    (hl : s.heap.IsList sl vs.toArray) (hi : IntsAre vs ns) (hk : k < 1000) (hlen : ns.length ≤ 63) :
    codeAny (model prog w) A (.call (.ref f) ⟨[.ref sl, .int k t], []⟩) (Back s (fun v _ => ∃ c u, v = .int c u ∧ 0 ≤ c)) s := by
  refine callP (binds := [("script", .ref sl), ("at", .int k t)]) hf C.nolimit hroom (fun _ _ _ => by rfl) (locs (by rfl)) (by decide) (fun h₁ tk cd F => ?_)
  refine wpAny_mono (cell_body (ns := ns) F C B (by rfl) hl hi (by rfl) hk hlen) (fun fl s' hb => ?_) fun _ _ x => x
  obtain ⟨u, tk', rfl, rfl⟩ := hb
  exact ⟨h₁, tk', rfl, F.keep, ⟨_, u, rfl, cellv_nonneg ns k⟩⟩
end
end FE

namespace FE

abbrev ksOf (kvs : List (Int × Value)) : List Int := kvs.map (·.1)

theorem valueAt_some {kvs : List (Int × Value)} {k : Int} : (valueAt kvs k).isSome = decide (k ∈ ksOf kvs) := by
  unfold valueAt
  induction kvs with
  | nil => simp
  | cons p r ih =>
    rw [List.find?_cons]
    by_cases h : p.1 = k
    · simp [h]
    · simp only [h, decide_false]
      rw [ih]
      simp only [ksOf, List.map_cons, List.mem_cons]
      have : ¬ k = p.1 := fun e => h e.symm
      simp [this]
theorem valueAt_none {kvs : List (Int × Value)} {k : Int} (h : k ∉ ksOf kvs) : valueAt kvs k = none := by
  have := valueAt_some (kvs := kvs) (k := k)
  rw [decide_eq_false h] at this
  simpa using this
theorem any_ks {kvs : List (Int × Value)} {k : Int} : (kvs.any fun kv => kv.1 = k) = decide (k ∈ ksOf kvs) := by
  induction kvs with
  | nil => simp
  | cons p r ih =>
    rw [List.any_cons, ih]
    simp only [ksOf, List.map_cons, List.mem_cons]
    by_cases h : p.1 = k
    · simp [h]
    · have : ¬ k = p.1 := fun e => h e.symm
      simp [h, this]
theorem stored_new {kvs : List (Int × Value)} {k : Int} {v : Value} (h : k ∉ ksOf kvs) : stored kvs k v = kvs ++ [(k, v)] := by
  unfold stored
  rw [any_ks, decide_eq_false h]
  simp
theorem stored_old {kvs : List (Int × Value)} {k : Int} {v : Value} (h : k ∈ ksOf kvs) : ksOf (stored kvs k v) = ksOf kvs := by
  unfold stored
  rw [any_ks, decide_eq_true h, if_pos rfl]
  rw [ksOf, List.map_map]
  refine List.map_congr_left fun p _ => ?_
  show (if p.1 = k then (p.1, v) else p).1 = p.1
  split <;> rfl
theorem stored_ins {kvs : List (Int × Value)} {k : Int} {v : Value} : ksOf (stored kvs k v) = ins (ksOf kvs) k := by
  unfold ins
  by_cases h : k ∈ ksOf kvs
  · rw [if_pos h, stored_old h]
  · rw [if_neg h, stored_new h]; simp

section
variable (prog : Program) (w : World)
def LotAt (h : Heap) (v : Value) (l : List Int) : Prop := ∃ d kv, v = .ref d ∧ h.DictOf (intKind prog w) d kv ∧ (d == sysModules) = false ∧ ksOf kv = l
def WebAt (h : Heap) (a : Addr) (g : Gph) : Prop := ∃ kvs, h.DictOf (intKind prog w) a kvs ∧ (a == sysModules) = false ∧ Paired (fun (kv : Int × Value) (p : Int × List Int) => kv.1 = p.1 ∧ LotAt prog w h kv.2 p.2) kvs g
end

section
variable {prog : Program} {w : World}
theorem LotAt.keeps {h h' : Heap} {v : Value} {l : List Int} (x : LotAt prog w h v l) (k : Kp h h') : LotAt prog w h' v l :=
  let ⟨d, kv, a, b, c⟩ := x; ⟨d, kv, a, b.keep k, c⟩
theorem pimp {α β : Type} {F G : α → β → Prop} (hi : ∀ a b, F a b → G a b) {l : List α} {r : List β} (p : Paired F l r) : Paired G l r := by
  induction p with
  | nil => exact .nil
  | cons a _ ih => exact .cons (hi _ _ a) ih
theorem WebAt.keeps {h h' : Heap} {a : Addr} {g : Gph} (x : WebAt prog w h a g) (k : Kp h h') : WebAt prog w h' a g :=
  let ⟨kvs, p, lo, q⟩ := x; ⟨kvs, p.keep k, lo, pimp (fun _ _ r => ⟨r.1, r.2.keeps k⟩) q⟩

theorem paired_keys {h : Heap} {kvs : List (Int × Value)} {g : Gph} (p : Paired (fun (kv : Int × Value) (p : Int × List Int) => kv.1 = p.1 ∧ LotAt prog w h kv.2 p.2) kvs g) : ksOf kvs = g.map (·.1) := by
  induction p with
  | nil => rfl
  | cons a _ ih => simp only [ksOf, List.map_cons] at *; rw [ih, a.1]

theorem paired_at {h : Heap} {kvs : List (Int × Value)} {g : Gph} {k : Int} (p : Paired (fun (kv : Int × Value) (p : Int × List Int) => kv.1 = p.1 ∧ LotAt prog w h kv.2 p.2) kvs g) :
    (valueAt kvs k = none ∧ g.lookup k = none) ∨ ∃ v l, valueAt kvs k = some v ∧ g.lookup k = some l ∧ LotAt prog w h v l := by
  induction p with
  | nil => exact .inl ⟨rfl, rfl⟩
  | @cons kv q kvs g a _ ih =>
    obtain ⟨k', l'⟩ := q
    by_cases e : k = k'
    · subst e
      refine .inr ⟨kv.2, l', ?_, ?_, a.2⟩
      · simp only [valueAt, List.find?_cons, a.1, decide_true, Option.map_some]
      · simp
    · have e' : ¬ kv.1 = k := fun q => e (q.symm.trans a.1)
      have h1 : valueAt (kv :: kvs) k = valueAt kvs k := by simp [valueAt, e']
      have h2 : List.lookup k ((k', l') :: g) = List.lookup k g := by
        have : (k == k') = false := beq_eq_false_iff_ne.mpr e
        rw [List.lookup_cons, this]
      rw [h1, h2]
      exact ih

theorem lookup_keys {g : Gph} {k : Int} : g.lookup k = none ↔ k ∉ g.map (·.1) := by
  induction g with
  | nil => simp
  | cons p r ih =>
    obtain ⟨k', l⟩ := p
    by_cases e : k = k'
    · subst e; simp
    · have : (k == k') = false := beq_eq_false_iff_ne.mpr e
      rw [List.lookup_cons, this]
      simp [ih, e]

variable {A : Around} {s : Shared}

/-- web.get(node, {}): a dict whose keys are the node's others -/
theorem getNbG {env : Env} {gx : Expr} {nk : Str} {npos : Pos} {apos dpos pos : Pos} {pl : Sem Bool} {h₀ : Heap} {a : Addr} {g : Gph} {k : Int} {t : Tok} {Q : Value → Shared → Prop} {E : Value → Shared → Prop}
    (W : WebAt prog w h₀ a g) (K : Kp h₀ s.heap) (hbig : sysModules < h₀.objs.size) (hsz : h₀.objs.size ≤ s.heap.objs.size)
    (hg : ∀ Q' : Value → Shared → Prop, Q' (.ref a) s → wpAny (model prog w) A (eval gx env) Q' E s) (hn : ∀ Q' : Value → Shared → Prop, Q' (.int k t) s → wpAny (model prog w) A (eval (.Name nk npos) env) Q' E s)
    (h : ∀ d kv h' tk, Kp s.heap h' → s.heap.objs.size ≤ h'.objs.size → h'.DictOf (intKind prog w) d kv → (d == sysModules) = false → ksOf kv = nb g k → ((∃ o, h₀.get? d = some o) ∨ s.heap.objs.size ≤ d) → Q (.ref d) { s with heap := h', toks := tk })
    (he : eval (.Call (.Attribute gx "get" apos) [.Name nk npos, .Dict [] [] dpos] [] pos) env = (do
      let ov ← eval gx env
      standAt apos.atName
      let (f, first) ← holding [ov] (getMethod ov "get" pl)
      callWith pos f first (backTo pos (starEach [.Name nk npos, .Dict [] [] dpos] env)) []) := by rfl) :
    wpAny (model prog w) A (eval (.Call (.Attribute gx "get" apos) [.Name nk npos, .Dict [] [] dpos] [] pos) env) Q E s := by
  obtain ⟨kvs, hd, lo, hp⟩ := W
  have hd1 := hd.keep K
  refine MethodCall_ (pl := pl) (hg _ (dgetMethG hd1 (callWith_method1 (args_cons (hn _ (args_cons ?_)))))) he
  refine wpAny_Dict_empty (args_nil ?_)
  have k1 : Kp s.heap (s.heap.push { cls := .type "dict", data := .dict #[] }) := fun _ _ e => Heap.get?_push_of_some _ e
  refine dgetG (s := { s with heap := s.heap.push { cls := .type "dict", data := .dict #[] } }) (hd1.keep k1) lo ?_
  have hsz' : s.heap.objs.size ≤ (s.heap.push { cls := .type "dict", data := .dict #[] }).objs.size := by rw [Heap.size_push]; exact Nat.le_succ _
  rcases paired_at (k := k) hp with ⟨e1, e2⟩ | ⟨v, l, e1, e2, d, kv, rfl, hdd, lod, hk⟩
  · rw [e1]
    exact h _ [] _ _ k1 hsz' (Heap.DictOf.new _) (beq_eq_false_iff_ne.mpr (Nat.ne_of_gt (Nat.lt_of_lt_of_le hbig hsz))) (by rw [nb, e2]; rfl) (.inr (Nat.le_refl _))
  · rw [e1]
    obtain ⟨o, ho, _⟩ := Heap.dictOf_iff.mp hdd
    exact h d kv _ _ k1 hsz' ((hdd.keep K).keep k1) lod (by rw [nb, e2]; exact hk) (.inl ⟨o, ho⟩)
end
end FE

namespace FE
section
variable {prog : Program} {w : World} {A : Around} {E : Value → Shared → Prop} {s : Shared} {env : Env}

theorem kpExt {h h' : Heap} (he : Heap.ExtBut h.objs.size h h') : Kp h h' := fun b o e => he b o (Nat.ne_of_lt (Heap.lt_size e)) e

theorem swapAsg {elts vals : List Expr} {k k' : Nat} {tpos vpos pos : Pos} {names : List Str} {Q : Flow → Shared → Prop} (hh : A.handled = none)
    (h : wpAny (model prog w) A (spliced (backTo vpos (starEach vals env))) (fun vs s₁ => vs.length = names.length ∧ vs.length ≤ 3 ∧
      ∀ h', Kp s₁.heap h' → wpAny (model prog w) A (assignInOrder (names.reverse.map fun n => bindName env n) vs.reverse) (fun _ => Q .next) E { s₁ with heap := h' }) E s)
    (hs : swapsWithSole [.Tuple elts k tpos] (.Tuple vals k' vpos) pos.line env = pure false := by rfl)
    (hw : swappedStores [.Tuple elts k tpos] (.Tuple vals k' vpos) env = pure (some names) := by rfl) :
    wpAny (model prog w) A (exec (.Assign [.Tuple elts k tpos] (.Tuple vals k' vpos) pos) env) Q E s := by
  refine Assign_Tuple_swapped (Tuple_ (wpAny_mono h (fun vs s₁ x => ?_) fun _ _ e => e)) hs hw
  obtain ⟨h1, h2, h3⟩ := x
  refine wpAny_newObj_type ?_ (by show vs.toArray.size ≤ sizeLine; rw [List.size_toArray, sizeLine_eq]; omega)
  have e1 : names.length = vs.toArray.size := by rw [List.size_toArray, h1]
  rw [e1]
  refine unpackItems_tuple hh ⟨_, Heap.get?_push_size _ rfl, rfl, 0, rfl⟩ fun h' he => ?_
  have e2 : vs.toArray.toList = vs := rfl
  exact h3 h' fun b o e => kpExt he b o (Heap.get?_push_of_some _ e)

theorem tupAsg {elts : List Expr} {value : Expr} {k : Nat} {tpos pos : Pos} {Q : Flow → Shared → Prop} (hh : A.handled = none)
    (h : wpAny (model prog w) A (eval value env) (fun v s₁ => ∃ t items, v = .ref t ∧ IsTup s₁.heap t items ∧ (assignEach elts env).length = items.size ∧
      ∀ h', Kp s₁.heap h' → wpAny (model prog w) A (assignInOrder ((assignEach elts env).map (·.2)) items.toList) (fun _ => Q .next) E { s₁ with heap := h' }) E s)
    (hstar : (assignEach elts env).findIdx? (·.1) = none := by rfl)
    (hs : swapsWithSole [.Tuple elts k tpos] value pos.line env = pure false := by rfl)
    (hw : swappedStores [.Tuple elts k tpos] value env = pure none := by rfl) :
    wpAny (model prog w) A (exec (.Assign [.Tuple elts k tpos] value pos) env) Q E s := by
  refine Assign_Tuple (wpAny_mono h (fun v s₁ x => ?_) fun _ _ e => e) hs hw
  obtain ⟨t, items, rfl, ht, hn, h3⟩ := x
  exact assign_Tuple_tuple hh ht hn hstar fun h' he => h3 h' (kpExt he)

/-- a display of one entry whose key is an int -/
theorem dict1G {kx : Str} {kpos pos : Pos} {vx : Expr} {k c : Int} {t : Tok} {Q : Value → Shared → Prop} {h₀ : Heap} {L : Addr} {m : Str → Option Value} (F : Fr h₀ L s.heap m) (hbig : sysModules < h₀.objs.size)
    (hk : ∀ (Q' : Value → Shared → Prop) (h' : Heap) (tk : Nat), Fr h₀ L h' m → Q' (.int k t) { s with heap := h', toks := tk } → wpAny (model prog w) A (eval (.Name kx kpos) env) Q' E { s with heap := h', toks := tk })
    (hv : ∀ (Q' : Value → Shared → Prop) (h' : Heap) (tk : Nat), Fr h₀ L h' m → (∀ u tk', Q' (.int c u) { s with heap := h', toks := tk' }) → wpAny (model prog w) A (eval vx env) Q' E { s with heap := h', toks := tk })
    (h : ∀ u h' tk D o, Fr h₀ L h' m → Kp s.heap h' → Own h₀ L h' D o → o.IsDictOf (intKind prog w) [(k, .int c u)] → (D == sysModules) = false → s.heap.objs.size ≤ D → Q (.ref D) { s with heap := h', toks := tk }) :
    wpAny (model prog w) A (eval (.Dict [some (.Name kx kpos)] [vx] pos) env) Q E s := by
  refine Dict_made (knd := intKind prog w) F rfl rfl (by simp) (by simp) fun F1 => pairTrees_cons_walk (hk _ _ _ F1 (hv _ _ _ F1 fun u tk => pairTrees_nil_walk ?_))
  refine ⟨[(k, .int c u)], ⟨intKind_is prog w k t, rfl, trivial⟩, Heap.DictOf.new _, fun h' hm hs => ?_⟩
  obtain ⟨o, ho, hd⟩ := Heap.dictOf_iff.mp hm
  have O := newSize (o := { cls := .type "dict", data := .dict #[] }) F
  exact h u h' _ _ o (F1.change hs O.2.1 O.2.2) (fun b x e => (hs.2 b (Nat.ne_of_lt (Heap.lt_size e))).trans (Heap.get?_push_of_some _ e)) ⟨ho, O.2⟩ hd (F.notModules hbig) (Nat.le_refl _)
end
end FE

namespace FE

/-- the dict bears the ints of D -/
abbrev FlatI (kvs : List (Int × Value)) (D : List (Int × Int)) : Prop := Paired (fun (kv : Int × Value) (p : Int × Int) => kv.1 = p.1 ∧ ∃ t, kv.2 = .int p.2 t) kvs D
theorem FlatI.keys {kvs : List (Int × Value)} {D : List (Int × Int)} (p : FlatI kvs D) : ksOf kvs = D.map (·.1) := by
  induction p with
  | nil => rfl
  | cons a _ ih => simp only [ksOf, List.map_cons] at *; rw [ih, a.1]
theorem intsSnoc : ∀ {vs : List Value} {ns : List Int} {n : Int} {t : Tok}, IntsAre vs ns → IntsAre (vs ++ [.int n t]) (ns ++ [n])
  | _, _, n, t, .nil => .cons n t .nil
  | _, _, _, _, .cons k u r => .cons k u (intsSnoc r)

theorem pairedLen {α β : Type} {R : α → β → Prop} {l : List α} {r : List β} (p : Paired R l r) : l.length = r.length := by
  induction p with
  | nil => rfl
  | cons _ _ ih => simp [ih]
theorem pairedSnoc {α β : Type} {R : α → β → Prop} {l : List α} {r : List β} {a : α} {b : β} (p : Paired R l r) (h : R a b) : Paired R (l ++ [a]) (r ++ [b]) := by
  induction p with
  | nil => exact .cons h .nil
  | cons x _ ih => exact .cons x ih
theorem intsAt {vs : List Value} {ns : List Int} {i : Nat} {v : Value} (h : IntsAre vs ns) (e : vs.toArray[i]? = some v) : ∃ u t, ns[i]? = some u ∧ v = .int u t := by
  have e' : vs[i]? = some v := by simpa using e
  have hlt : i < vs.length := by
    rcases Nat.lt_or_ge i vs.length with q | q
    · exact q
    · rw [List.getElem?_eq_none q] at e'; cases e'
  have hlt' : i < ns.length := by rw [← h.length]; exact hlt
  obtain ⟨t, ht⟩ := h.get i ns[i] (by simp [hlt'])
  rw [ht] at e'
  exact ⟨ns[i], t, by simp [hlt'], (Option.some.inj e').symm⟩
theorem foldTake {α β : Type} {f : β → α → β} {z : β} {l : List α} {i : Nat} {u : α} (e : l[i]? = some u) : (l.take (i + 1)).foldl f z = f ((l.take i).foldl f z) u := by
  rw [List.take_add_one, e]
  simp

section
variable {prog : Program} {w : World} {A : Around} {s : Shared} {h₀ : Heap} {L f : Addr} {m : Str → Option Value} {cd : Value}

def stepsOut (prog : Program) (w : World) (s : Shared) (h₀ : Heap) (L : Addr) (g : Gph) (st : Int) (fl : Flow) (s' : Shared) : Prop :=
  ∃ h' tk d kvs D m', fl = .ret (.ref d) ∧ s' = { s with heap := h', toks := tk } ∧ Fr h₀ L h' m' ∧ h'.DictOf (intKind prog w) d kvs ∧ (d == sysModules) = false ∧ FlatI kvs D ∧ Dist g st D

/-- the two things that a level turns -/
def SC (prog : Program) (w : World) (a fd la : Addr) (n1 : Nat) (rest : List (Addr × Obj)) (S : List (Int × Int) × List Int) (m : Str → Option Value) (news : List (Addr × Obj)) : Prop :=
  ∃ kvs fo vsL nL, news = (fd, fo) :: (la, listOf vsL.toArray nL) :: rest ∧ fo.IsDictOf (intKind prog w) kvs ∧ FlatI kvs S.1 ∧ IntsAre vsL S.2 ∧
    m "web" = some (.ref a) ∧ m "found" = some (.ref fd) ∧ m "later" = some (.ref la) ∧ ∃ t, m "steps" = some (.int (n1 : Nat) t)

/-- the state at the while's head -/
def SW (prog : Program) (w : World) (s : Shared) (h₀ : Heap) (L a : Addr) (g : Gph) (st : Int) (μ : Nat) (s' : Shared) : Prop :=
  ∃ h tk m n D H kvs fd fo hl vsH nH, s' = { s with heap := h, toks := tk } ∧ Fr h₀ L h m ∧ μ = sMeas D H ∧ SInv g st D H n ∧
    m "web" = some (.ref a) ∧ m "found" = some (.ref fd) ∧ m "here" = some (.ref hl) ∧ (∃ tn, m "steps" = some (.int (n : Nat) tn)) ∧
    Own h₀ L h fd fo ∧ fo.IsDictOf (intKind prog w) kvs ∧ FlatI kvs D ∧ (fd == sysModules) = false ∧ Own h₀ L h hl (listOf vsH.toArray nH) ∧ IntsAre vsH H

set_option maxHeartbeats 8000000 in
theorem steps_body {a : Addr} {g : Gph} {st : Int} {t : Tok} (hh : A.handled = none) (hu : A.units + 100 < cLine) {mg mb : Str → Option Value} (C : Cx mg mb h₀) (B : Bl mg mb) (F : Fr h₀ L s.heap m) (hbig : sysModules < h₀.objs.size)
    (hw : m "web" = some (.ref a)) (hs : m "start" = some (.int st t)) (W : WebAt prog w h₀ a g) (hg : Small g) (h0 : 0 ≤ st) (h1 : st < 9) :
    wpAny (model prog w) A (execs (body 6) (envX (nm 6) (scp 6) L f cd [])) (stepsOut prog w s h₀ L g st) (fun _ _ => False) s := by
  refine wpAny_execs_cons (swapAsg hh (args_cons (dict1G F hbig (fun Q' h' tk F' q => nameX_L F' hs q) (fun Q' h' tk F' q => wpAny_Constant_int (q _ _)) ?_)))
  intro uA hA tkA fd fo FA kA OA hfo lof szA
  refine args_cons (List_ (args_cons (nameX_L FA hs (args_nil (newListG FA ?_ (szOk (by simp)))))))
  intro hB hl FB kB OB szB
  refine args_cons (wpAny_Constant_int (args_nil ⟨rfl, by simp, fun hC kC => ?_⟩))
  have FC := Fr.kp FB kC
  have OA' := OA.gr ((kB.trans kC).gr L)
  have OB' := OB.gr (kC.gr L)
  refine assignInOrder_cons (bindName_ (stG FC fun hD FD gD => assignInOrder_cons (bindName_ (stG FD fun hE FE_ gE => assignInOrder_cons (bindName_ (stG FE_ fun hF FF gF => assignInOrder_nil ?_))))))
  have G := gD.trans (gE.trans gF)
  refine wpAny_execs_cons (whileG (SW prog w s h₀ L a g st) ?_ (sMeas [(st, 0)] [st]) ?_)
  · rintro μ s' ⟨h, tk, m', n, D, H, kvs, fd, fo, hl, vsH, nH, rfl, F', rfl, I, m1, m2, m3, ⟨tn, m4⟩, Of, hfo, hfl, lof, Ol, hi⟩
    refine wpAny_isTrue_Compare1 (nameX_L F' m3 (List_ (args_nil (newListG F' ?_ (szOk (by simp))))))
    intro h1 e1 F1 k1 O1 sz1
    refine ke_ne_ints ⟨_, (Ol.gr (k1.gr L)).1, rfl, _, rfl⟩ ⟨_, O1.1, rfl, _, rfl⟩ hi .nil (by omega) (wpAny_truthy_bool ?_)
    by_cases hH : H = []
    · refine iteF (by simp [hH]) ?_
      subst hH
      refine wpAny_execs_cons (wpAny_Return_some (nameX_L F1 m2 ?_))
      exact ⟨h1, _, fd, kvs, D, m', rfl, rfl, F1, (Of.gr (k1.gr L)).dict hfo, lof, hfl, I.dist⟩
    · refine iteT (by simp [hH]) ?_
      obtain ⟨LL, I'⟩ := I.level hg
      have hlt := I.meas hg hH
      have Of1 := Of.gr (k1.gr L)
      have Ol1 := Ol.gr (k1.gr L)
      have hfl_ne : fd ≠ hl := fun e => by
        subst e
        have := Of.one Ol
        subst this
        obtain ⟨es, ep, hx, _⟩ := hfo
        have := hx.1
        simp at this
      refine wpAny_execs_cons (swapAsg hh (args_cons (List_ (args_nil (newListG F1 ?_ (szOk (by simp)))))))
      intro h2 la F2 k2 O2 sz2
      refine args_cons (wpAny_BinOp (nameX_L F2 m4 (wpAny_Constant_int (add_int (args_nil ⟨rfl, by simp, fun h3 k3 => ?_⟩)))))
      have F3 := Fr.kp F2 k3
      refine assignInOrder_cons (bindName_ (stG F3 fun h4 F4 g4 => assignInOrder_cons (bindName_ (stG F4 fun h5 F5 g5 => assignInOrder_nil ?_))))
      have G5 : Gr L h1 h5 := ((k2.trans k3).gr L).trans (g4.trans g5)
      have Of5 := Of1.gr G5
      have Ol5 := Ol1.gr G5
      have O5 := O2.gr ((k3.gr L).trans (g4.trans g5))
      have hfla : fd ≠ la := Of1.ne sz2
      have hlla : hl ≠ la := Ol1.ne sz2
      refine wpAny_execs_cons (For_invV h₀ rfl rfl (nameX_L F5 m3 ?_))
      refine iterListG (news := [(fd, fo), (la, listOf #[] 0)]) hh ⟨_, Ol5.1, rfl, _, rfl⟩ Ol5.2.1 F5 (newsCons Of5 (newsCons O5 News.nil))
        (fun i m news => SC prog w a fd la (n + 1) [] ((H.take i).foldl (stepNode g ((n + 1 : Nat) : Int)) (D, [])) m news ∧ LInv g ((n + 1 : Nat) : Int) D (fun v => ∃ u ∈ H, v ∈ nb g u) ((H.take i).foldl (stepNode g ((n + 1 : Nat) : Int)) (D, [])))
        ⟨⟨kvs, fo, [], 0, rfl, hfo, hfl, .nil, m1, m2, rfl, ⟨_, rfl⟩⟩, ⟨by simp, by simp, by simp, by simp⟩⟩ ?_ ?_
      · rintro Ia i v m₁ news₁ h6 tk6 own hIa hv ⟨⟨kvs1, fo1, vsL, nL, rfl, hfo1, hfl1, hiL, q1, q2, q3, tq, q4⟩, LI⟩ hoff hsub hIlt F6 No6 N6
        obtain ⟨u, tu, hu1, rfl⟩ := intsAt hi hv
        have huH : u ∈ H := List.mem_of_getElem? hu1
        rw [foldTake hu1]
        generalize (H.take i).foldl (stepNode g ((n + 1 : Nat) : Int)) (D, []) = S at hfl1 hiL LI ⊢
        have Of6 : Own h₀ L h6 fd fo1 := N6 _ (List.mem_cons_self ..)
        have Ola6 : Own h₀ L h6 la (listOf vsL.toArray nL) := N6 _ (List.mem_cons_of_mem _ (List.mem_cons_self ..))
        have hfIa : fd ≠ Ia := hoff _ (List.mem_cons_self ..)
        have hlIa : la ≠ Ia := hoff _ (List.mem_cons_of_mem _ (List.mem_cons_self ..))
        have ho1 : ∀ p ∈ own, p.1 ≠ fd := fun p hp e => (hsub p hp).elim (fun q => hfIa (e ▸ q)) fun q => hfl_ne (e ▸ q)
        have ho2 : ∀ p ∈ own, p.1 ≠ la := fun p hp e => (hsub p hp).elim (fun q => hlIa (e ▸ q)) fun q => hlla ((e ▸ q).symm)
        refine wpAny_execs_cons (For_invV h₀ rfl rfl (getNbG W F6.keep hbig (Nat.le_trans F6.above (Nat.le_of_lt (frLt F6))) (fun Q' q => nameX_L F6 q1 q) (fun Q' q => nameX_L F6 rfl q) ?_))
        intro d kvd h7 tk7 k7 sz7 hd lod hks hdd
        have F7 := Fr.kp F6 k7
        have hdL : d ≠ L := hdd.elim (fun ⟨o, ho⟩ => Nat.ne_of_lt (Nat.lt_of_lt_of_le (Heap.lt_size ho) F6.above)) fun q => Nat.ne_of_gt (Nat.lt_of_lt_of_le (frLt F6) q)
        have hdf : d ≠ fd := hdd.elim (fun ⟨o, ho⟩ e => by rw [e, Of6.2.2] at ho; cases ho) fun q => Nat.ne_of_gt (Nat.lt_of_lt_of_le Of6.lt q)
        have hdl : d ≠ la := hdd.elim (fun ⟨o, ho⟩ e => by rw [e, Ola6.2.2] at ho; cases ho) fun q => Nat.ne_of_gt (Nat.lt_of_lt_of_le Ola6.lt q)
        refine iterDictG (news := (fd, fo1) :: (la, listOf vsL.toArray nL) :: own) hh hd lod hdL F7 (newsGr (newsCons Of6 (newsCons Ola6 No6)) (k7.gr L))
          (fun j m news => SC prog w a fd la (n + 1) own (((nb g u).take j).foldl (stepNb ((n + 1 : Nat) : Int)) S) m news ∧ LInv g ((n + 1 : Nat) : Int) D (fun v => ∃ u ∈ H, v ∈ nb g u) (((nb g u).take j).foldl (stepNb ((n + 1 : Nat) : Int)) S))
          ⟨⟨kvs1, fo1, vsL, nL, rfl, hfo1, hfl1, hiL, q1, q2, q3, ⟨tq, q4⟩⟩, LI⟩ ?_ ?_
        · rintro Ib j k tkk m₂ news₂ h8 tk8 own2 hIb hk ⟨⟨kvs2, fo2, vsL2, nL2, rfl, hfo2, hfl2, hiL2, r1, r2, r3, tr, r4⟩, LI2⟩ hoff2 hsub2 hIlt2 F8 No8 N8
          replace hk : (nb g u)[j]? = some k := by rw [← hks]; exact hk
          rw [foldTake hk]
          generalize ((nb g u).take j).foldl (stepNb ((n + 1 : Nat) : Int)) S = S2 at hfl2 hiL2 LI2 ⊢
          have LI3 := (LI2.step (v := k) ⟨u, huH, List.mem_of_getElem? hk⟩).1
          have Of8 : Own h₀ L h8 fd fo2 := N8 _ (List.mem_cons_self ..)
          have Ola8 : Own h₀ L h8 la (listOf vsL2.toArray nL2) := N8 _ (List.mem_cons_of_mem _ (List.mem_cons_self ..))
          have Nr8 : News h₀ L h8 own := fun p hp => N8 p (List.mem_cons_of_mem _ (List.mem_cons_of_mem _ hp))
          refine wpAny_execs_cons (wpAny_If (wpAny_isTrue_Compare1 (nameX_L F8 rfl (nameX_L F8 r2 (notInG (Of8.dict hfo2) lof (wpAny_truthy_bool ?_))))))
          rw [valueAt_some, hfl2.keys]
          by_cases hin : k ∈ S2.1.map (·.1)
          · refine iteF (by simp only [hin]; rfl) (wpAny_execs_nil (wpAny_execs_nil ?_))
            have e2 : stepNb ((n + 1 : Nat) : Int) S2 k = S2 := by unfold stepNb; rw [if_pos hin]
            rw [e2] at LI3 ⊢
            exact ⟨h8, _, _, _, rfl, F8, No8, N8, hoff2, ⟨kvs2, fo2, vsL2, nL2, rfl, hfo2, hfl2, hiL2, r1, r2, r3, ⟨tr, r4⟩⟩, LI3⟩
          · refine iteT (by simp only [hin]; rfl) ?_
            have e2 : stepNb ((n + 1 : Nat) : Int) S2 k = (S2.1 ++ [(k, ((n + 1 : Nat) : Int))], S2.2 ++ [k]) := by unfold stepNb; rw [if_neg hin]
            rw [e2] at LI3 ⊢
            have hsrc : ∀ v, (∃ u ∈ H, v ∈ nb g u) → 0 ≤ v ∧ v < 8 := fun v ⟨u, _, q⟩ => hg.rng u v q
            have hl1 := (LI2.len I hsrc).1
            have hl2 := (LI2.len I hsrc).2
            rw [← pairedLen hfl2] at hl1
            rw [← hiL2.length] at hl2
            have hof2 : ∀ p ∈ own2, p.1 ≠ fd := fun p hp e => (hsub2 p hp).elim (fun q => hoff2 _ (List.mem_cons_self ..) (e ▸ q)) fun q => hdf (e ▸ q).symm
            have hol2 : ∀ p ∈ own2, p.1 ≠ la := fun p hp e => (hsub2 p hp).elim (fun q => hoff2 _ (List.mem_cons_of_mem _ (List.mem_cons_self ..)) (e ▸ q)) fun q => hdl (e ▸ q).symm
            refine wpAny_execs_cons (wpAny_Assign_Subscript (nameX_L F8 r4 (nameX_L F8 r2 (nameX_L F8 rfl (setItemG F8 Of8 hfo2 (szOk (by omega)) ?_)))))
            intro h9 fo3 F9 c9 O9 hfo3
            rw [stored_new (by rw [hfl2.keys]; exact hin)] at hfo3
            have Ola9 := Ola8.ch c9 (Ne.symm hfla)
            refine wpAny_execs_cons (wpAny_Expr (MethodCall_ (nameX_L F9 r3 (lMethG Ola9 PySem.F.slot_list_append PySem.F.type_list_append (callWith_method1 (args_cons (nameX_L F9 rfl (args_nil (appendG F9 Ola9 (szOk (by rw [List.size_toArray]; omega)) ?_)))))))))
            intro hX FX cX OX
            refine wpAny_execs_nil (wpAny_execs_nil ?_)
            refine ⟨hX, _, _, (fd, fo3) :: (la, listOf (vsL2 ++ [Value.int k tkk]).toArray (nL2 + 1)) :: own, rfl, FX, newsCh (newsCh No8 c9 hof2) cX hol2, ?_, ?_, ⟨_, fo3, _, _, rfl, hfo3, pairedSnoc hfl2 ⟨rfl, _, rfl⟩, intsSnoc hiL2, r1, r2, r3, ⟨tr, r4⟩⟩, LI3⟩
            · refine newsCons (O9.ch cX hfla) (newsCons ?_ (newsCh (newsCh Nr8 c9 ho1) cX ho2))
              have e3 : (vsL2 ++ [Value.int k tkk]).toArray = vsL2.toArray.push (.int k tkk) := by simp
              rw [e3]
              exact OX
            · intro p hp
              rcases List.mem_cons.mp hp with rfl | hp
              · exact hoff2 (fd, fo2) (List.mem_cons_self ..)
              · rcases List.mem_cons.mp hp with rfl | hp
                · exact hoff2 (la, listOf vsL2.toArray nL2) (List.mem_cons_of_mem _ (List.mem_cons_self ..))
                · exact hoff2 p (List.mem_cons_of_mem _ (List.mem_cons_of_mem _ hp))
        · rintro h8 tk8 m8 news8 F8 N8 ⟨⟨kvs2, fo2, vsL2, nL2, rfl, hfo2, hfl2, hiL2, r1, r2, r3, tr, r4⟩, LI2⟩
          have e1 : (nb g u).take kvd.length = nb g u := by
            rw [← hks]
            exact List.take_of_length_le (by simp)
          rw [e1] at hfl2 hiL2 LI2
          refine wpAny_execs_nil ?_
          refine ⟨h8, _, _, [(fd, fo2), (la, listOf vsL2.toArray nL2)], rfl, F8, fun p hp => N8 p (List.mem_cons_of_mem _ (List.mem_cons_of_mem _ hp)), ?_, ?_, ⟨kvs2, fo2, vsL2, nL2, rfl, hfo2, hfl2, hiL2, r1, r2, r3, ⟨tr, r4⟩⟩, LI2⟩
          · exact newsCons (N8 _ (List.mem_cons_self ..)) (newsCons (N8 _ (List.mem_cons_of_mem _ (List.mem_cons_self ..))) News.nil)
          · intro p hp
            rcases List.mem_cons.mp hp with rfl | hp
            · exact hfIa
            · rw [List.mem_singleton.mp hp]
              exact hlIa
      · rintro h6 tk6 m6 news6 F6 N6 ⟨⟨kvs1, fo1, vsL, nL, rfl, hfo1, hfl1, hiL, q1, q2, q3, tq, q4⟩, LI⟩
        have e1 : H.take vsH.toArray.size = H := List.take_of_length_le (by rw [List.size_toArray, hi.length]; exact Nat.le_refl _)
        rw [e1] at hfl1 hiL
        change FlatI kvs1 (level g ((n + 1 : Nat) : Int) D H).1 at hfl1
        change IntsAre vsL (level g ((n + 1 : Nat) : Int) D H).2 at hiL
        have Of6 : Own h₀ L h6 fd fo1 := N6 _ (List.mem_cons_self ..)
        have Ola6 : Own h₀ L h6 la (listOf vsL.toArray nL) := N6 _ (List.mem_cons_of_mem _ (List.mem_cons_self ..))
        refine wpAny_execs_cons (wpAny_Assign_Name (Call_ (nameB F6 C B.list.1 B.list.2 (PyProof.Rows.callWith_type1 (args_cons (nameX_L F6 q3 (args_nil (call_list_seq la (T := "list") (.inl rfl) Ola6.1 rfl rfl ?_ (szOk ?_)))))))))
        · intro h7 c7 k7 e7
          replace k7 : Kp h6 h7 := k7
          have F7 := Fr.kp F6 k7
          have O7 : Own h₀ L h7 h6.objs.size (listOf vsL.toArray c7) := ⟨e7, Nat.ne_of_gt (frLt F6), next_is_new F6⟩
          refine stG F7 fun h8 F8 g8 => wpAny_execs_nil ?_
          exact ⟨_, hlt, h8, _, _, n + 1, _, _, kvs1, fd, fo1, _, vsL, c7, rfl, F8, rfl, I', q1, q2, rfl, ⟨tq, q4⟩, (Of6.gr (k7.gr L)).gr g8, hfo1, hfl1, lof, O7.gr g8, hiL⟩
        · have := nine I'.hnd fun v hv => I'.rng v (List.mem_map.mpr ⟨(v, ((n + 1 : Nat) : Int)), (I'.here v).mpr hv, rfl⟩)
          rw [List.size_toArray, hiL.length]
          omega
  · exact ⟨hF, _, _, 0, [(st, 0)], [st], [(st, .int 0 uA)], fd, fo, hl, [.int st t], 0, rfl, FF, rfl, SInv.start h0 h1, hw, rfl, rfl, ⟨_, rfl⟩, OA'.gr G, hfo, .cons ⟨rfl, _, rfl⟩ .nil, lof, OB'.gr G, .cons _ _ .nil⟩
end
end FE

namespace FE

theorem constNone {M : Model} {A : Around} {E : Value → Shared → Prop} {s : Shared} {env : Env} {k pos} {Q : Value → Shared → Prop} (h : Q .none s) : wpAny M A (eval (.Constant .none k pos) env) Q E s := fun _ _ _ => h

def inV (V : List Int) (v : Value) : Bool := match v with
  | .int k _ => decide (k ∉ V)
  | _ => false

theorem intsOf {vs : List Value} {ks : List Int} (hl : vs.length = ks.length) (h : ∀ (j : Nat) (v : Value), vs[j]? = some v → ∃ (k : Int) (t : Tok), ks[j]? = some k ∧ v = Value.int k t) : IntsAre vs ks := by
  induction vs generalizing ks with
  | nil =>
    cases ks with
    | nil => exact .nil
    | cons _ _ => simp at hl
  | cons v vs ih =>
    cases ks with
    | nil => simp at hl
    | cons k ks =>
      obtain ⟨k', t, e, rfl⟩ := h 0 v (by simp)
      simp at e
      subst e
      exact .cons k t (ih (by simpa using hl) fun j x e => by have := h (j + 1) x (by simpa using e); simpa using this)
theorem intsFilter {V : List Int} : ∀ {vs : List Value} {ks : List Int}, IntsAre vs ks → IntsAre (vs.filter (inV V)) (ks.filter fun v => decide (v ∉ V))
  | _, _, .nil => .nil
  | _, _, .cons n t r => by
    have ih := intsFilter (V := V) r
    by_cases h : n ∈ V
    · have e1 : inV V (.int n t) = false := decide_eq_false (fun q => q h)
      rw [List.filter_cons, if_neg (by rw [e1]; decide), List.filter_cons, if_neg (by simpa using h)]
      exact ih
    · have e1 : inV V (.int n t) = true := decide_eq_true h
      rw [List.filter_cons, if_pos e1, List.filter_cons, if_pos (by simpa using h)]
      exact .cons n t ih
theorem pairedEq {α : Type} : ∀ {l r : List α}, Paired (fun a b => a = b) l r → l = r
  | _, _, .nil => rfl
  | _, _, .cons a b => by rw [a, pairedEq b]

section
variable {prog : Program} {w : World} {A : Around} {s : Shared} {h₀ : Heap} {L a f : Addr} {m : Str → Option Value} {cn : Str} {cs : Scope} {ccd : Value} {cl : List (Str × Addr)}

/-- [one for one in graph.get(node, {}) if one not in visited] -/
theorem compG {scope : Scope} {g : Gph} {u : Int} {tu : Tok} {ga vd vc : Addr} {vo co : Obj} {kvs : List (Int × Value)} {V : List Int} {p1 p2 p3 p4 p5 p6 p7 p8 p9 p10 : Pos} {pl : Sem Bool} {Q : Value → Shared → Prop}
    (hh : A.handled = none) (hbig : sysModules < h₀.objs.size) (F : Fr h₀ L s.heap m) (W : WebAt prog w h₀ ga g) (hg : Small g) (hcs : cs.kind = .function)
    (hgr : m "graph" = some (.ref ga)) (hnode : m "node" = some (.int u tu))
    (kgr : (envX cn cs L a ccd cl).kindOf "graph" = some .local) (knode : (envX cn cs L a ccd cl).kindOf "node" = some .local)
    (Oc : Own h₀ L s.heap vc co) (hco : co.data = .cell (some (.ref vd))) (Ov : Own h₀ L s.heap vd vo) (hvo : vo.IsDictOf (intKind prog w) kvs) (lov : (vd == sysModules) = false) (hks : ksOf kvs = V)
    (hclos : closureFor scope (envX cn cs L a ccd cl) = pure [(("visited" : Str), vc)]) (hcell : ∀ y ∈ scope.names, y.2 ≠ .cell) (hkind : scope.kind = .function)
    (hnames : ∀ y ∈ scope.names, y.2 = .local → scope.names.lookup y.1 = some .local) (hx : scope.names.lookup ("one" : Str) = some NameKind.local)
    (kv : (relabel scope (envX cn cs L a ccd cl)).names.lookup ("visited" : Str) = some NameKind.cell)
    (h : ∀ D h' tk ys n, Fr h₀ L h' m → Kp s.heap h' → Own h₀ L h' D (listOf ys.toArray n) → s.heap.get? D = none → IntsAre ys ((nb g u).filter fun v => decide (v ∉ V)) → Q (.ref D) { s with heap := h', toks := tk })
    (he : eval (.Call (.Attribute (.Name "graph" p3) "get" p4) [.Name "node" p5, .Dict [] [] p6] [] p7) (envX cn cs L a ccd cl) = (do
      let ov ← eval (.Name "graph" p3) (envX cn cs L a ccd cl)
      standAt p4.atName
      let (f, first) ← holding [ov] (getMethod ov "get" pl)
      callWith p7 f first (backTo p7 (starEach [.Name "node" p5, .Dict [] [] p6] (envX cn cs L a ccd cl))) []) := by rfl)
    (hs : ∀ x, foldedSetIterable (.Call (.Attribute (.Name "graph" p3) "get" p4) [.Name "node" p5, .Dict [] [] p6] [] p7) (envX cn cs L a ccd cl) x = pure x := by intro _; rfl) :
    wpAny (model prog w) A (eval (.ListComp (.Name "one" p1) [⟨.Name "one" p2, .Call (.Attribute (.Name "graph" p3) "get" p4) [.Name "node" p5, .Dict [] [] p6] [] p7, [.Compare (.Name "one" p8) [.NotIn] [.Name "visited" p9] p10], 0⟩] scope pos) (envX cn cs L a ccd cl)) Q (fun _ _ => False) s := by
  refine wpAny_ListComp_free (inV V) (fun a b => a = b) hclos hcell hkind hnames hx ?_ hs
  refine getNbG W F.keep hbig (Nat.le_trans F.above (Nat.le_of_lt (frLt F))) (fun Q' q => nameX_L F hgr q hcs kgr) (fun Q' q => nameX_L F hnode q hcs knode) ?_ he
  intro d kvd h1 tk1 k1 sz1 hd lod hkd hdd
  have F1 := Fr.kp F k1
  obtain ⟨ep, hd'⟩ := hd.dictAt
  have hlt : d < h1.objs.size := hd'.lt_size
  refine wpAny_pyIter_dict lod hd' ?_
  have k2 : Kp h1 (h1.push { cls := .type "dict_keyiterator", data := .fields #[.ref d, .int 0 0, .int kvd.length 0, .int ep 0] }) := fun _ _ e => Heap.get?_push_of_some _ e
  have F2 := F1.push { cls := .type "dict_keyiterator", data := .fields #[.ref d, .int 0 0, .int kvd.length 0, .int ep 0] }
  have Oc2 := (Oc.gr (k1.gr L)).gr (k2.gr L)
  have Ov2 := (Ov.gr (k1.gr L)).gr (k2.gr L)
  have hlen : kvd.length ≤ 4 := by
    have e1 := congrArg List.length hkd
    rw [List.length_map] at e1
    rw [e1]
    exact hg.len u
  refine ⟨h1.objs.size, [h1.objs.size, d], [h1.objs.size], kvd.length, _, _, rfl, Walks.dictKeys hh h1.objs.size d (Nat.ne_of_lt hlt) kvd ep, szOk (by omega), ⟨⟨_, Heap.get?_push_size _ rfl, rfl, rfl⟩, hd'.push _⟩, ?_, ⟨?_, ?_⟩, ?_⟩
  · intro b hb
    rw [Heap.size_push]
    rcases List.mem_cons.mp hb with rfl | hb
    · exact Nat.lt_succ_self _
    · rw [List.mem_singleton.mp hb]; exact Nat.lt_succ_of_lt hlt
  · rintro C i v s₃ m₃ E' hC ⟨k, x, hk, hkv⟩ hns hmx hkp htk
    obtain ⟨t, rfl⟩ := Value.isInt_shape hkv
    have hnI : ∀ b, b < h1.objs.size → b ∉ [h1.objs.size] := fun b hb hm => Nat.ne_of_lt hb (List.mem_singleton.mp hm)
    have lc := (Oc.gr (k1.gr L)).lt
    have lv := (Ov.gr (k1.gr L)).lt
    have hc3 : s₃.heap.IsCell vc (some (.ref vd)) := ⟨co, hkp _ _ (hnI _ lc) Oc2.1, hco⟩
    have hv3 : s₃.heap.DictOf (intKind prog w) vd kvs := Heap.dictOf_iff.mpr ⟨vo, hkp _ _ (hnI _ lv) Ov2.1, hvo⟩
    rw [List.forIn_cons]
    simp only [if_true]
    refine wpAny_bind (wpAny_bind (wpAny_isTrue_Compare1 (wpAny_Name (wpAny_loadName_local hkind (lookup_relabel_local hx) hns hmx (wpAny_Name (wpAny_loadName_cell hkind kv rfl hc3 (notInG hv3 lov (wpAny_truthy_bool (wpAny_pure ?_)))))))))
    dsimp only
    rw [List.forIn_nil]
    refine wpAny_pure ⟨?_, s₃.heap, _, rfl, fun _ _ e => e⟩
    rw [valueAt_some, hks]
    simp [inV]
  · rintro C i v s₃ m₃ E' hC _ _ hns hmx hkp htk
    exact wpAny_Name (wpAny_loadName_local hkind (lookup_relabel_local hx) hns hmx ⟨rfl, s₃.heap, _, rfl, fun _ _ e => e⟩)
  · rintro D h3 tk3 ys vs hD hl3 ⟨n3, hp3⟩ hvl hvP hF hk3
    have kk : Kp h1 h3 := fun b o e => hk3 b o (fun hm => Nat.ne_of_lt (Heap.lt_size e) (List.mem_singleton.mp hm)) (k2 b o e)
    have kk' : Kp s.heap h3 := k1.trans kk
    have hD1 : h1.get? D = none := by
      cases q : h1.get? D with
      | none => rfl
      | some o => have := k2 _ _ q; rw [hD] at this; cases this
    have hDs : s.heap.get? D = none := by
      cases q : s.heap.get? D with
      | none => rfl
      | some o => have := k1 _ _ q; rw [hD1] at this; cases this
    have hDL : D ≠ L := by
      rintro rfl
      obtain ⟨oL, _, _, hoL, _⟩ := F.ns
      rw [hDs] at hoL; cases hoL
    have hD0 : h₀.get? D = none := by
      cases q : h₀.get? D with
      | none => rfl
      | some o => have := F.keep _ _ q; rw [hDs] at this; cases this
    have hints : IntsAre vs (nb g u) := by
      rw [← hkd]
      refine intsOf (by rw [hvl, List.length_map]) fun j v e => ?_
      obtain ⟨k, x, hk, hkv⟩ := hvP j v e
      obtain ⟨t, rfl⟩ := Value.isInt_shape hkv
      exact ⟨k, t, by rw [List.getElem?_map, hk]; rfl, rfl⟩
    have eys : vs.filter (inV V) = ys.toList := pairedEq hF
    have hres : IntsAre ys.toList ((nb g u).filter fun v => decide (v ∉ V)) := by rw [← eys]; exact intsFilter hints
    exact h D h3 tk3 ys.toList n3 (Fr.kp F kk') kk' ⟨by rw [Array.toArray_toList]; exact hp3, hDL, hD0⟩ hDs hres
end
end FE

namespace FE

theorem addListG {prog : Program} {w : World} {A : Around} {E : Value → Shared → Prop} {s : Shared} {h₀ : Heap} {L l b : Addr} {m : Str → Option Value} {xs ys : List Value} {n n2 : Nat} {Q : Value → Shared → Prop} (F : Fr h₀ L s.heap m)
    (hl : s.heap.get? l = some (listOf xs.toArray n)) (hb : s.heap.get? b = some (listOf ys.toArray n2)) (hz : xs.length + ys.length ≤ 1000000)
    (h : ∀ h' D, Fr h₀ L h' m → Kp s.heap h' → Own h₀ L h' D (listOf (xs ++ ys).toArray 0) → s.heap.objs.size ≤ D → Q (.ref D) { s with heap := h' }) :
    wpAny (model prog w) A (binaryOp .Add (.ref l) (.ref b)) Q E s := by
  have e5 := sizeLine_eq
  refine PySem.P.add_list (l := l) (b := b) (n := n) (n2 := n2) (items := xs.toArray) (items2 := ys.toArray) hl hb ?_ (by rw [List.size_toArray, List.size_toArray]; omega)
  have e1 : xs.toArray ++ ys.toArray = (xs ++ ys).toArray := by simp
  rw [e1]
  exact h _ _ (F.push _) (fun _ _ e => Heap.get?_push_of_some _ e) (newSize F) (Nat.le_refl _)

/-- an item of the fifo, borne by the ledger -/
def ItemIn (imm : List (Addr × Obj)) (v : Value) (x : Itm) : Prop :=
  ∃ t tk pa vsP nP, v = .ref t ∧ (t, tupOf [.int x.1 tk, .ref pa]) ∈ imm ∧ (pa, listOf (List.toArray vsP) nP) ∈ imm ∧ IntsAre vsP x.2
theorem ItemIn.mono {imm imm' : List (Addr × Obj)} {v : Value} {x : Itm} (h : ItemIn imm v x) (hs : ∀ p ∈ imm, p ∈ imm') : ItemIn imm' v x :=
  let ⟨t, tk, pa, vsP, nP, a, b, c, d⟩ := h; ⟨t, tk, pa, vsP, nP, a, hs _ b, hs _ c, d⟩

/-- what find_shortest_path tells -/
def FspP (g : Gph) (st e : Int) (v : Value) (h : Heap) : Prop :=
  (v = .none ∧ ∀ k, ¬ Wk g st k e) ∨ ∃ d p vs n, v = .ref d ∧ h.get? d = some (listOf (List.toArray vs) n) ∧ IntsAre vs p ∧ Short g st e p

section
variable {prog : Program} {w : World} {A : Around} {s : Shared} {h₀ : Heap} {L f : Addr} {m : Str → Option Value} {cd : Value}

def fspOut (s : Shared) (h₀ : Heap) (L : Addr) (g : Gph) (st e : Int) (fl : Flow) (s' : Shared) : Prop :=
  ∃ h' tk m', s' = { s with heap := h', toks := tk } ∧ Fr h₀ L h' m' ∧ FspP g st e (flowVal fl) h'

/-- the state at the while's head -/
def SF (prog : Program) (w : World) (s : Shared) (h₀ : Heap) (L a : Addr) (g : Gph) (st e : Int) (μ : Nat) (s' : Shared) : Prop :=
  ∃ h tk m Q V kvs ff nF vsF co vd vo imm, s' = { s with heap := h, toks := tk } ∧ Fr h₀ L h m ∧ μ = wt Q ∧ FInv g st e Q V ∧
    m "graph" = some (.ref a) ∧ (∃ te, m "end" = some (.int e te)) ∧ m "fifo" = some (.ref ff) ∧
    Own h₀ L h ff (listOf (List.toArray vsF) nF) ∧ Own h₀ L h (L + 1) co ∧ co.data = .cell (some (.ref vd)) ∧ Own h₀ L h vd vo ∧ vo.IsDictOf (intKind prog w) kvs ∧ ksOf kvs = V ∧ (vd == sysModules) = false ∧
    News h₀ L h imm ∧ (∀ p ∈ imm, p.1 ≠ ff ∧ p.1 ≠ vd) ∧ Paired (ItemIn imm) vsF Q

theorem dictNeSeq {o : Obj} {kvs : List (Int × Value)} {xs : Array Value} {n : Nat} (h : o.IsDictOf (intKind prog w) kvs) : o ≠ listOf xs n := by
  rintro rfl
  obtain ⟨es, ep, hx, _⟩ := h
  have := hx.1
  simp at this
theorem dictNeCell {o : Obj} {kvs : List (Int × Value)} {v : Option Value} (h : o.IsDictOf (intKind prog w) kvs) (hc : o.data = .cell v) : False := by
  obtain ⟨es, ep, _, hx, _⟩ := h
  rw [hc] at hx; cases hx
theorem Own.apart {h : Heap} {a b : Addr} {o o' : Obj} (O : Own h₀ L h a o) (P : Own h₀ L h b o') (n : o ≠ o') : a ≠ b := fun e => by subst e; exact n (O.one P)

def whTest : Stmt → Expr
  | .While t _ _ _ => t
  | _ => .Constant .none 0 ⟨0, 0, 0, 0⟩
def whBody : Stmt → List Stmt
  | .While _ b _ _ => b
  | _ => []
def nth : List Stmt → Nat → Stmt
  | [], _ => .Pass ⟨0, 0, 0, 0⟩
  | a :: _, 0 => a
  | _ :: r, n + 1 => nth r n
abbrev fspEnv (L f : Addr) (cd : Value) : Env := envX (nm 1) (scp 1) L f cd (cellsFrom (L + 1) (scp 1).names [])

set_option maxHeartbeats 16000000 in
theorem fsp_turn {a : Addr} {g : Gph} {st e : Int} {μ : Nat} {s' : Shared} {Q : Flow → Shared → Prop} (hh : A.handled = none) (hbig : sysModules < h₀.objs.size)
    (W : WebAt prog w h₀ a g) (hg : Small g) (hI : SF prog w s h₀ L a g st e μ s')
    (hret : ∀ h tk m v, Fr h₀ L h m → FspP g st e v h → Q (.ret v) { s with heap := h, toks := tk })
    (hend : ∀ h tk m, Fr h₀ L h m → (∀ k, ¬ Wk g st k e) → Q .next { s with heap := h, toks := tk }) :
    wpAny (model prog w) A (isTrue (whTest (nth (body 1) 5)) (fspEnv L f cd) (eval (whTest (nth (body 1) 5)) (fspEnv L f cd))) (fun b s₂ =>
      if b = true then wpAny (model prog w) A (execs (whBody (nth (body 1) 5)) (fspEnv L f cd)) (WhEnd (SF prog w s h₀ L a g st e) μ Q) (fun _ _ => False) s₂ else Q .next s₂) (fun _ _ => False) s' := by
  obtain ⟨h, tk, m, Q', V, kvs, ff, nF, vsF, co, vd, vo, imm, rfl, F, rfl, I, q1, ⟨te, q2⟩, q3, Off, Oco, hco, Ovd, hvo, hks, lov, Nimm, himm, hit⟩ := hI
  have hlenQ := I.len
  have hlen : vsF.length = Q'.length := pairedLen hit
  refine isTrue_plain (nameX_L F q3 (wpAny_truthy_list (l := ff) (items := vsF.toArray) ⟨_, Off.1, rfl, _, rfl⟩ (by rw [List.size_toArray]; omega) ?_))
  cases hit with
  | nil =>
    refine iteF rfl ?_
    exact hend _ _ _ F I.empty
  | @cons y x q T hy hq =>
    refine iteT rfl ?_
    obtain ⟨u, p⟩ := x
    obtain ⟨t, tu, pa, vsP, nP, rfl, ht, hpa, hip⟩ := hy
    have X := I.item (u, p) (List.mem_cons_self ..)
    have hp9 : p.length ≤ 9 := nine X.nd X.rng
    have hvp : vsP.length = p.length := hip.length
    have hfv : ff ≠ vd := Off.apart Ovd (Ne.symm (dictNeSeq hvo))
    have hcf : L + 1 ≠ ff := fun z => by
      have q := Off
      rw [← z] at q
      have := q.one Oco
      rw [← this] at hco; cases hco
    have hcv : L + 1 ≠ vd := fun z => by
      have q := Ovd
      rw [← z] at q
      have := q.one Oco
      rw [← this] at hco
      exact dictNeCell hvo hco
    have hlenT : T.length + 1 ≤ 390625 := hlenQ
    have hqT : q.length = T.length := pairedLen hq
    refine wpAny_execs_cons (tupAsg hh (MethodCall_ (nameX_L F q3 (lMethG Off PySem.F.slot_list_pop PySem.F.type_list_pop (callWith_method1 (args_cons (wpAny_Constant_int (args_nil (pop0G F Off (szOk (by simp; omega)) ?_)))))))))
    intro h1 F1 c1 O1
    have Ot1 : Own h₀ L h1 t (tupOf [.int u tu, .ref pa]) := Own.ch (Nimm _ ht) c1 (himm _ ht).1
    refine ⟨t, #[.int u tu, .ref pa], rfl, ⟨_, Ot1.1, rfl, 0, rfl⟩, rfl, fun h2 k2 => ?_⟩
    have F2 := Fr.kp F1 k2
    refine assignInOrder_cons (PyProof.Rows.assign_Name (stG F2 fun h3 F3 g3 => assignInOrder_cons (PyProof.Rows.assign_Name (stG F3 fun h4 F4 g4 => assignInOrder_nil ?_))))
    have G : Gr L h1 h4 := (k2.gr L).trans (g3.trans g4)
    have Off4 := O1.gr G
    have Oco4 := (Oco.ch c1 hcf).gr G
    have Ovd4 := (Ovd.ch c1 (Ne.symm hfv)).gr G
    have N4 : News h₀ L h4 imm := newsGr (newsCh Nimm c1 fun p hp => (himm p hp).1) G
    have hV9 : V.length ≤ 9 := nine I.nd I.rng
    refine wpAny_execs_cons (wpAny_Assign_Subscript (constNone (ldCellG Oco4 hco rfl (nameX_L F4 rfl (setItemG F4 Ovd4 hvo (szOk (by rw [← hks, List.length_map] at hV9; omega)) ?_)))))
    intro h5 vo1 F5 c5 O5 hvo1
    have hks1 : ksOf (stored kvs u .none) = ins V u := by rw [stored_ins, hks]
    have Off5 := Off4.ch c5 hfv
    have Oco5 := Oco4.ch c5 hcv
    have N5 : News h₀ L h5 imm := newsCh N4 c5 fun p hp => (himm p hp).2
    refine wpAny_execs_cons (For_invV h₀ rfl rfl (compG hh hbig F5 W hg rfl q1 rfl rfl rfl Oco5 hco O5 hvo1 lov hks1 rfl (by decide) rfl (by decide) rfl rfl ?_))
    intro D h6 tk6 ys nD F6 k6 OD hDn hys
    change IntsAre ys (nexts g V u) at hys
    have Off6 := Off5.gr (k6.gr L)
    have Oco6 := Oco5.gr (k6.gr L)
    have Ovd6 := O5.gr (k6.gr L)
    have N6 := newsGr N5 (k6.gr L)
    have hDff : D ≠ ff := fun z => by rw [z, Off5.1] at hDn; cases hDn
    have hys4 : ys.length ≤ 4 := by
      rw [hys.length]
      exact Nat.le_trans (List.length_filter_le _ _) (hg.len u)
    refine iterListG (news := (ff, listOf q.toArray (nF + 1)) :: (L + 1, co) :: (vd, vo1) :: imm) hh ⟨_, OD.1, rfl, _, rfl⟩ OD.2.1 F6 (newsCons Off6 (newsCons Oco6 (newsCons Ovd6 N6)))
      (fun i m news => ∃ vsQ nQ imm', news = (ff, listOf (List.toArray vsQ) nQ) :: (L + 1, co) :: (vd, vo1) :: imm' ∧ Paired (ItemIn imm') vsQ (T ++ ((nexts g V u).take i).map fun a => (a, p ++ [a])) ∧
        e ∉ (nexts g V u).take i ∧ (∀ x ∈ imm', x.1 ≠ ff ∧ x.1 ≠ vd) ∧ (pa, listOf vsP.toArray nP) ∈ imm' ∧ m "graph" = some (.ref a) ∧ (∃ te, m "end" = some (.int e te)) ∧ m "fifo" = some (.ref ff) ∧ m "path" = some (.ref pa))
      ⟨q, _, imm, rfl, by simpa using hq, by simp, himm, hpa, q1, ⟨te, q2⟩, q3, rfl⟩ ?_ ?_
    · rintro Ia i v m₁ news₁ h7 tk7 own hIa hv ⟨vsQ, nQ, imm', rfl, hQ, hne, him, hpa', r1, ⟨te', r2⟩, r3, r4⟩ hoff hsub hIlt F7 No7 N7
      obtain ⟨k, tk, hk, rfl⟩ := intsAt hys hv
      have Off7 : Own h₀ L h7 ff (listOf (List.toArray vsQ) nQ) := N7 _ (List.mem_cons_self ..)
      have Oco7 : Own h₀ L h7 (L + 1) co := N7 _ (List.mem_cons_of_mem _ (List.mem_cons_self ..))
      have Ovd7 : Own h₀ L h7 vd vo1 := N7 _ (List.mem_cons_of_mem _ (List.mem_cons_of_mem _ (List.mem_cons_self ..)))
      have Nim7 : News h₀ L h7 imm' := fun p hp => N7 p (List.mem_cons_of_mem _ (List.mem_cons_of_mem _ (List.mem_cons_of_mem _ hp)))
      have Opa7 : Own h₀ L h7 pa (listOf vsP.toArray nP) := Nim7 _ hpa'
      have hkm : k ∈ nexts g V u := List.mem_of_getElem? hk
      have hlQ : vsQ.length ≤ 400000 := by
        have e1 := pairedLen hQ
        have e2 := List.length_take_le' i (nexts g V u)
        rw [List.length_append, List.length_map] at e1
        have e3 : (nexts g V u).length = ys.length := hys.length.symm
        omega
      refine wpAny_execs_cons (wpAny_If (wpAny_isTrue_Compare1 (nameX_L F7 rfl (nameX_L F7 r2 (eq_int (wpAny_truthy_bool ?_))))))
      by_cases hke : k = e
      · refine iteT (by simp [hke]) ?_
        refine wpAny_execs_cons (wpAny_Return_some (wpAny_BinOp (nameX_L F7 r4 (List_ (args_cons (nameX_L F7 rfl (args_nil (newListG F7 ?_ (szOk (by simp))))))))))
        intro h8 l1 F8 k8 O8 s8
        refine addListG F8 (Opa7.gr (k8.gr L)).1 O8.1 (by simp; omega) ?_
        intro h9 D9 F9 k9 O9 s9
        subst hke
        exact hret _ _ _ _ F9 (.inr ⟨D9, p ++ [k], _, _, rfl, O9.1, intsSnoc hip, I.found hkm⟩)
      · refine iteF (by simpa using hke) ?_
        refine wpAny_execs_cons (wpAny_Expr (MethodCall_ (nameX_L F7 r3 (lMethG Off7 PySem.F.slot_list_append PySem.F.type_list_append (callWith_method1 (args_cons (Tuple_ (args_cons (nameX_L F7 rfl (args_cons (wpAny_BinOp (nameX_L F7 r4 (List_ (args_cons (nameX_L F7 rfl (args_nil (newListG F7 ?_ (szOk (by simp)))))))))))))))))))
        intro h8 l1 F8 k8 O8 s8
        refine addListG F8 (Opa7.gr (k8.gr L)).1 O8.1 (by simp; omega) ?_
        intro h9 pb F9 k9 O9 s9
        refine args_nil (newTupleG F9 ?_ (szOk (by simp)))
        intro hX tb FX kX OX sX
        have K7 : Kp h7 hX := k8.trans (k9.trans kX)
        have Off8 := Off7.gr (K7.gr L)
        refine args_nil (appendG FX Off8 (szOk (by rw [List.size_toArray]; omega)) ?_)
        intro hY FY cY OY
        have hpbf : pb ≠ ff := Ne.symm ((Off7.gr (k8.gr L)).ne s9)
        have htbf : tb ≠ ff := Ne.symm ((Off7.gr ((k8.trans k9).gr L)).ne sX)
        have hpbv : pb ≠ vd := Ne.symm ((Ovd7.gr (k8.gr L)).ne s9)
        have htbv : tb ≠ vd := Ne.symm ((Ovd7.gr ((k8.trans k9).gr L)).ne sX)
        have hIf : ff ≠ Ia := hoff _ (List.mem_cons_self ..)
        have hown : ∀ x ∈ own, x.1 ≠ ff := fun x hx z => (hsub x hx).elim (fun y => hIf (z ▸ y)) fun y => hDff (y ▸ z)
        refine wpAny_execs_nil (wpAny_execs_nil ?_)
        have e3 : (vsQ ++ [Value.ref tb]).toArray = vsQ.toArray.push (.ref tb) := by simp
        refine ⟨hY, _, _, (ff, listOf (vsQ ++ [Value.ref tb]).toArray (nQ + 1)) :: (L + 1, co) :: (vd, vo1) :: (tb, tupOf [.int k tk, .ref pb]) :: (pb, listOf (vsP ++ [Value.int k tk]).toArray 0) :: imm', rfl, FY, newsCh (newsGr No7 (K7.gr L)) cY hown, ?_, ?_,
          ⟨_, _, _, rfl, ?_, ?_, ?_, ?_, r1, ⟨te', r2⟩, r3, r4⟩⟩
        · refine newsCons (by rw [e3]; exact OY) (newsCons ((Oco7.gr (K7.gr L)).ch cY hcf) (newsCons ((Ovd7.gr (K7.gr L)).ch cY (Ne.symm hfv)) (newsCons (OX.ch cY htbf) (newsCons ((O9.gr (kX.gr L)).ch cY hpbf) ?_))))
          exact newsCh (newsGr Nim7 (K7.gr L)) cY fun x hx => (him x hx).1
        · intro x hx
          rcases List.mem_cons.mp hx with rfl | hx
          · exact hIf
          rcases List.mem_cons.mp hx with rfl | hx
          · exact hoff (L + 1, co) (List.mem_cons_of_mem _ (List.mem_cons_self ..))
          rcases List.mem_cons.mp hx with rfl | hx
          · exact hoff (vd, vo1) (List.mem_cons_of_mem _ (List.mem_cons_of_mem _ (List.mem_cons_self ..)))
          rcases List.mem_cons.mp hx with rfl | hx
          · obtain ⟨oI, hoI⟩ := hIlt
            exact Nat.ne_of_gt (Nat.lt_of_lt_of_le (Heap.lt_size (k9 _ _ (k8 _ _ hoI))) sX)
          rcases List.mem_cons.mp hx with rfl | hx
          · obtain ⟨oI, hoI⟩ := hIlt
            exact Nat.ne_of_gt (Nat.lt_of_lt_of_le (Heap.lt_size (k8 _ _ hoI)) s9)
          · exact hoff x (List.mem_cons_of_mem _ (List.mem_cons_of_mem _ (List.mem_cons_of_mem _ hx)))
        · rw [List.take_add_one, hk, Option.toList_some, List.map_append, ← List.append_assoc]
          refine pairedSnoc (pimp (fun _ _ r => r.mono fun x hx => List.mem_cons_of_mem _ (List.mem_cons_of_mem _ hx)) hQ) ?_
          exact ⟨tb, tk, pb, vsP ++ [Value.int k tk], 0, rfl, List.mem_cons_self .., List.mem_cons_of_mem _ (List.mem_cons_self ..), intsSnoc hip⟩
        · rw [List.take_add_one, hk, Option.toList_some]
          intro z
          rcases List.mem_append.mp z with z | z
          · exact hne z
          · exact hke (List.mem_singleton.mp z).symm
        · intro x hx
          rcases List.mem_cons.mp hx with rfl | hx
          · exact ⟨htbf, htbv⟩
          rcases List.mem_cons.mp hx with rfl | hx
          · exact ⟨hpbf, hpbv⟩
          · exact him x hx
        · exact List.mem_cons_of_mem _ (List.mem_cons_of_mem _ hpa')
    · rintro h7 tk7 m7 news7 F7 N7 ⟨vsQ, nQ, imm', rfl, hQ, hne, him, hpa', r1, ⟨te', r2⟩, r3, r4⟩
      have e1 : (nexts g V u).take ys.toArray.size = nexts g V u := List.take_of_length_le (by rw [List.size_toArray, hys.length]; exact Nat.le_refl _)
      rw [e1] at hQ hne
      obtain ⟨I', hlt⟩ := I.next hg hne
      refine wpAny_execs_nil ?_
      exact ⟨_, hlt, h7, _, _, _, _, _, ff, nQ, vsQ, co, vd, vo1, imm', rfl, F7, rfl, I', r1, ⟨te', r2⟩, r3, N7 _ (List.mem_cons_self ..), N7 _ (List.mem_cons_of_mem _ (List.mem_cons_self ..)), hco, N7 _ (List.mem_cons_of_mem _ (List.mem_cons_of_mem _ (List.mem_cons_self ..))), hvo1, hks1, lov,
        fun p hp => N7 p (List.mem_cons_of_mem _ (List.mem_cons_of_mem _ (List.mem_cons_of_mem _ hp))), him, hQ⟩

set_option maxHeartbeats 16000000 in
theorem fsp_body {a : Addr} {g : Gph} {st e : Int} {ts te : Tok} {c0 : Obj} (hh : A.handled = none) (F : Fr h₀ L s.heap m) (hbig : sysModules < h₀.objs.size)
    (hgr : m "graph" = some (.ref a)) (hs : m "start" = some (.int st ts)) (hend : m "end" = some (.int e te)) (Oc : Own h₀ L s.heap (L + 1) c0) (hc0 : c0.data = .cell none)
    (W : WebAt prog w h₀ a g) (hg : Small g) (h0 : 0 ≤ st) (h1 : st < 9) :
    wpAny (model prog w) A (execs (body 1) (envX (nm 1) (scp 1) L f cd (cellsFrom (L + 1) (scp 1).names []))) (fspOut s h₀ L g st e) (fun _ _ => False) s := by
  refine wpAny_execs_cons (wpAny_Assign_Name (List_ (args_cons (nameX_L F hs (args_nil (newListG F ?_ (szOk (by simp))))))))
  intro hA pa FA kA OA szA
  refine stG FA fun hB FB gB => ?_
  refine wpAny_execs_cons (wpAny_If (wpAny_isTrue_Compare1 (nameX_L FB hs (nameX_L FB hend (eq_int (wpAny_truthy_bool ?_))))))
  by_cases hse : st = e
  · refine iteT (by simp [hse]) ?_
    refine wpAny_execs_cons (wpAny_Return_some (nameX_L FB rfl ?_))
    subst hse
    exact ⟨hB, _, _, rfl, FB, .inr ⟨pa, [st], _, _, rfl, (OA.gr gB).1, .cons st ts .nil, ⟨.one, fun j _ => by simp⟩⟩⟩
  · refine iteF (by simpa using hse) (wpAny_execs_nil ?_)
    refine wpAny_execs_cons (wpAny_Assign_Name (List_ (args_nil (newListG FB ?_ (szOk (by simp))))))
    intro hC ff FC kC OC szC
    refine stG FC fun hD FD gD => ?_
    have OA1 := ((OA.gr gB).gr (kC.gr L)).gr gD
    have OC1 := OC.gr gD
    have hpf : pa ≠ ff := (OA.gr gB).ne szC
    refine wpAny_execs_cons (wpAny_Expr (MethodCall_ (nameX_L FD rfl (lMethG OC1 PySem.F.slot_list_append PySem.F.type_list_append (callWith_method1 (args_cons (Tuple_ (args_cons (nameX_L FD hs (args_cons (nameX_L FD rfl (args_nil (newTupleG FD ?_ (szOk (by simp)))))))))))))))
    intro hE t1 FE_ kE OE szE
    refine args_nil (appendG FE_ (OC1.gr (kE.gr L)) (szOk (by simp)) ?_)
    intro hF FF cF OF
    have htf : t1 ≠ ff := Ne.symm (OC1.ne szE)
    refine wpAny_execs_cons (wpAny_Assign_Name (newDictG FF hbig ?_))
    intro hG vd vo FG kG OG hvo lov szG
    have Oc1 : Own h₀ L hF (L + 1) c0 := by
      have q := ((((Oc.gr (kA.gr L)).gr gB).gr (kC.gr L)).gr gD).gr (kE.gr L)
      exact q.ch cF (q.apart (OC1.gr (kE.gr L)) (fun z => by rw [z] at hc0; cases hc0))
    refine stCellG FG (Oc1.gr (kG.gr L)) hc0 rfl ?_
    intro hH co FH cH OH hco
    have hcv : L + 1 ≠ vd := Oc1.ne szG
    have hfc : ff ≠ L + 1 := fun z => by
      have q1 := OF
      rw [z] at q1
      have := q1.one Oc1
      rw [← this] at hc0; cases hc0
    refine wpAny_execs_cons (whileG (SF prog w s h₀ L a g st e) ?_ (wt [(st, [st])]) ?_)
    · exact fun μ s' hI => fsp_turn hh hbig W hg hI (fun h tk m v F' p => ⟨h, tk, m, rfl, F', p⟩) (fun h tk m F' p => wpAny_execs_cons (wpAny_Return_some (constNone ⟨h, tk, m, rfl, F', .inl ⟨rfl, p⟩⟩)))
    · refine ⟨hH, _, _, [(st, [st])], [], [], ff, _, [.ref t1], co, vd, vo, [(t1, tupOf [.int st ts, .ref pa]), (pa, listOf #[.int st ts] 0)], rfl, FH, rfl, FInv.init h0 h1 hse, hgr, ⟨te, hend⟩, rfl,
        (OF.gr (kG.gr L)).ch cH hfc, OH, hco, OG.ch cH (Ne.symm hcv), hvo, rfl, lov, ?_, ?_, .cons ⟨t1, ts, pa, _, _, rfl, List.mem_cons_self .., List.mem_cons_of_mem _ (List.mem_cons_self ..), .cons st ts .nil⟩ .nil⟩
      · have hpc : pa ≠ L + 1 := (OA1.gr (kE.gr L)).ch cF hpf |>.apart Oc1 (fun z => by rw [← z] at hc0; cases hc0)
        have htc : t1 ≠ L + 1 := (OE.ch cF htf).apart Oc1 (fun z => by rw [← z] at hc0; cases hc0)
        exact newsCons (((OE.ch cF htf).gr (kG.gr L)).ch cH htc) (newsCons ((((OA1.gr (kE.gr L)).ch cF hpf).gr (kG.gr L)).ch cH hpc) News.nil)
      · intro p hp
        rcases List.mem_cons.mp hp with rfl | hp
        · exact ⟨htf, (OE.ch cF htf).ne szG⟩
        · rw [List.mem_singleton.mp hp]
          exact ⟨hpf, ((OA1.gr (kE.gr L)).ch cF hpf).ne szG⟩
end
end FE

namespace FE

/-- what find_connected_nodes tells -/
def FcnP (prog : Program) (w : World) (g : Gph) (st : Int) (v : Value) (h : Heap) : Prop :=
  (v = .none ∧ st ∉ g.map (·.1)) ∨ (st ∈ g.map (·.1) ∧ ∃ d kvs, v = .ref d ∧ h.DictOf (intKind prog w) d kvs ∧ (d == sysModules) = false ∧ ∀ x, x ∈ ksOf kvs ↔ ∃ k, Wk g st k x)

section
variable {prog : Program} {w : World} {A : Around} {s : Shared} {h₀ : Heap} {L f : Addr} {m : Str → Option Value} {cd : Value}

def fcnOut (prog : Program) (w : World) (s : Shared) (h₀ : Heap) (L : Addr) (g : Gph) (st : Int) (fl : Flow) (s' : Shared) : Prop :=
  ∃ h' tk m', s' = { s with heap := h', toks := tk } ∧ Fr h₀ L h' m' ∧ FcnP prog w g st (flowVal fl) h'

/-- the state at the while's head -/
def SG (prog : Program) (w : World) (s : Shared) (h₀ : Heap) (L a : Addr) (g : Gph) (st : Int) (μ : Nat) (s' : Shared) : Prop :=
  ∃ h tk m V S kvs sk nS vsS co vd vo, s' = { s with heap := h, toks := tk } ∧ Fr h₀ L h m ∧ μ = cMeas V S ∧ CInv g st V S ∧
    m "graph" = some (.ref a) ∧ m "stack" = some (.ref sk) ∧
    Own h₀ L h sk (listOf (List.toArray vsS) nS) ∧ IntsAre vsS S ∧ Own h₀ L h (L + 1) co ∧ co.data = .cell (some (.ref vd)) ∧ Own h₀ L h vd vo ∧ vo.IsDictOf (intKind prog w) kvs ∧ ksOf kvs = V ∧ (vd == sysModules) = false

abbrev fcnEnv (L f : Addr) (cd : Value) : Env := envX (nm 2) (scp 2) L f cd (cellsFrom (L + 1) (scp 2).names [])

theorem intsLast : ∀ {vs : List Value} {ns : List Int}, IntsAre vs ns → ns ≠ [] → ∃ p x t q, vs = p ++ [.int x t] ∧ ns = q ++ [x] ∧ IntsAre p q
  | _, _, .nil, h => absurd rfl h
  | _, _, .cons n t .nil, _ => ⟨[], n, t, [], rfl, rfl, .nil⟩
  | _, _, .cons n t (.cons k u r), _ => by
    obtain ⟨p, x, t', q, e1, e2, h⟩ := intsLast (.cons k u r) (by simp)
    exact ⟨.int n t :: p, x, t', n :: q, by rw [e1]; rfl, by rw [e2]; rfl, .cons n t h⟩
theorem intsApp : ∀ {vs us : List Value} {ns ms : List Int}, IntsAre vs ns → IntsAre us ms → IntsAre (vs ++ us) (ns ++ ms)
  | _, _, _, _, .nil, h => h
  | _, _, _, _, .cons n t r, h => .cons n t (intsApp r h)

set_option maxHeartbeats 16000000 in
theorem fcn_turn {a : Addr} {g : Gph} {st : Int} {μ : Nat} {s' : Shared} {Q : Flow → Shared → Prop} (hh : A.handled = none) (hbig : sysModules < h₀.objs.size)
    (W : WebAt prog w h₀ a g) (hg : Small g) (hI : SG prog w s h₀ L a g st μ s')
    (hend : ∀ h tk m kvs vd vo co, Fr h₀ L h m → Own h₀ L h (L + 1) co → co.data = .cell (some (.ref vd)) → Own h₀ L h vd vo → vo.IsDictOf (intKind prog w) kvs → (vd == sysModules) = false →
      (∀ x, x ∈ ksOf kvs ↔ ∃ k, Wk g st k x) → Q .next { s with heap := h, toks := tk }) :
    wpAny (model prog w) A (isTrue (whTest (nth (body 2) 3)) (fcnEnv L f cd) (eval (whTest (nth (body 2) 3)) (fcnEnv L f cd))) (fun b s₂ =>
      if b = true then wpAny (model prog w) A (execs (whBody (nth (body 2) 3)) (fcnEnv L f cd)) (WhEnd (SG prog w s h₀ L a g st) μ Q) (fun _ _ => False) s₂ else Q .next s₂) (fun _ _ => False) s' := by
  obtain ⟨h, tk, m, V, S, kvs, sk, nS, vsS, co, vd, vo, rfl, F, rfl, I, q1, q2, Osk, hi, Oco, hco, Ovd, hvo, hks, lov⟩ := hI
  have hV9 : V.length ≤ 9 := nine I.nd I.rng
  have hS := I.size
  have hlen : vsS.length = S.length := hi.length
  refine isTrue_plain (nameX_L F q2 (wpAny_truthy_list (l := sk) (items := vsS.toArray) ⟨_, Osk.1, rfl, _, rfl⟩ (by rw [List.size_toArray]; omega) ?_))
  by_cases hS0 : S = []
  · subst hS0
    have : vsS = [] := List.eq_nil_of_length_eq_zero (by simpa using hlen)
    subst this
    refine iteF rfl ?_
    exact hend _ _ _ kvs vd vo co F Oco hco Ovd hvo lov (by rw [hks]; exact I.done)
  · obtain ⟨p, x, t, q, rfl, rfl, hp⟩ := intsLast hi hS0
    refine iteT (by simp) ?_
    have hsv : sk ≠ vd := Osk.apart Ovd (Ne.symm (dictNeSeq hvo))
    have hcs : L + 1 ≠ sk := fun z => by
      have q := Osk
      rw [← z] at q
      have := q.one Oco
      rw [← this] at hco; cases hco
    have hcv : L + 1 ≠ vd := fun z => by
      have q := Ovd
      rw [← z] at q
      have := q.one Oco
      rw [← this] at hco
      exact dictNeCell hvo hco
    refine wpAny_execs_cons (wpAny_Assign_Name (MethodCall_ (nameX_L F q2 (lMethG Osk PySem.F.slot_list_pop PySem.F.type_list_pop (callWith_method0 (popG F Osk (szOk (by omega)) ?_))))))
    intro h1 F1 c1 O1
    refine stG F1 fun h2 F2 g2 => ?_
    have Osk2 := O1.gr g2
    have Oco2 := (Oco.ch c1 hcs).gr g2
    have Ovd2 := (Ovd.ch c1 (Ne.symm hsv)).gr g2
    refine wpAny_execs_cons (wpAny_If (wpAny_isTrue_Compare1 (nameX_L F2 rfl (ldCellG Oco2 hco rfl (inG (Ovd2.dict hvo) lov (wpAny_truthy_bool ?_))))))
    rw [valueAt_some, hks]
    by_cases hx : x ∈ V
    · refine iteT (decide_eq_true hx) (wpAny_execs_cons (wpAny_Continue ?_))
      exact ⟨_, cMeasSkip, h2, _, _, V, q, kvs, sk, _, p, co, vd, vo, rfl, F2, rfl, I.skip hx, q1, q2, Osk2, hp, Oco2, hco, Ovd2, hvo, hks, lov⟩
    · refine iteF (decide_eq_false hx) (wpAny_execs_nil ?_)
      have hkl : kvs.length ≤ 9 := by rw [← hks, List.length_map] at hV9; exact hV9
      refine wpAny_execs_cons (wpAny_Assign_Subscript (constNone (ldCellG Oco2 hco rfl (nameX_L F2 rfl (setItemG F2 Ovd2 hvo (szOk (by omega)) ?_)))))
      intro h3 vo1 F3 c3 O3 hvo1
      have hks1 : ksOf (stored kvs x .none) = V ++ [x] := by rw [stored_new (by rw [hks]; exact hx), ksOf, List.map_append, ← hks]; rfl
      have Osk3 := Osk2.ch c3 hsv
      have Oco3 := Oco2.ch c3 hcv
      refine wpAny_execs_cons (wpAny_Expr (MethodCall_ (nameX_L F3 q2 (lMethG Osk3 PySem.F.slot_list_extend PySem.F.type_list_extend (callWith_method1 (args_cons (compG hh hbig F3 W hg rfl q1 rfl rfl rfl Oco3 hco O3 hvo1 lov hks1 rfl (by decide) rfl (by decide) rfl rfl ?_)))))))
      intro D h4 tk4 ys nD F4 k4 OD hDn hys
      have hyl : ys.length ≤ 4 := by
        rw [hys.length]
        exact Nat.le_trans (List.length_filter_le _ _) (hg.len x)
      refine args_nil (extendG F4 (Osk3.gr (k4.gr L)) OD.1 (by rw [List.size_toArray, List.size_toArray]; simp at hlen hS; omega) ?_)
      intro h5 n5 F5 c5 O5
      have e1 : p.toArray ++ ys.toArray = (p ++ ys).toArray := by simp
      rw [e1] at O5
      refine wpAny_execs_nil ?_
      exact ⟨_, I.takeMeas hg hx, h5, _, _, _, _, _, sk, n5, p ++ ys, co, vd, vo1, rfl, F5, rfl, I.take hg hx, q1, q2, O5, intsApp hp hys, (Oco3.gr (k4.gr L)).ch c5 hcs, hco, (O3.gr (k4.gr L)).ch c5 (Ne.symm hsv), hvo1, hks1, lov⟩

set_option maxHeartbeats 16000000 in
theorem fcn_body {a : Addr} {g : Gph} {st : Int} {ts : Tok} {c0 : Obj} (hh : A.handled = none) (F : Fr h₀ L s.heap m) (hbig : sysModules < h₀.objs.size)
    (hgr : m "graph" = some (.ref a)) (hs : m "start" = some (.int st ts)) (Oc : Own h₀ L s.heap (L + 1) c0) (hc0 : c0.data = .cell (some .none))
    (W : WebAt prog w h₀ a g) (hg : Small g) (h0 : 0 ≤ st) (h1 : st < 9) :
    wpAny (model prog w) A (execs (body 2) (fcnEnv L f cd)) (fcnOut prog w s h₀ L g st) (fun _ _ => False) s := by
  obtain ⟨kw, hdw, low, hpw⟩ := id W
  refine wpAny_execs_cons (wpAny_If (wpAny_isTrue_Compare1 (nameX_L F hs (nameX_L F hgr (notInG (hdw.keep F.keep) low (wpAny_truthy_bool ?_))))))
  rw [valueAt_some, paired_keys hpw]
  by_cases hk : st ∈ g.map (·.1)
  · refine iteF (by rw [decide_eq_true hk]; rfl) (wpAny_execs_nil ?_)
    refine wpAny_execs_cons (wpAny_Assign_Name (BoolOp_or (ldCellG Oc hc0 rfl (truthy_none (iteF rfl (BoolOp_one (newDictG F hbig ?_)))))))
    intro hA vd vo FA kA OA hvo lov szA
    refine stCellG FA (Oc.gr (kA.gr L)) hc0 rfl ?_
    intro hB co FB cB OB hco
    have hcv : L + 1 ≠ vd := Oc.ne szA
    have OA1 := OA.ch cB (Ne.symm hcv)
    refine wpAny_execs_cons (wpAny_Assign_Name (List_ (args_cons (nameX_L FB hs (args_nil (newListG FB ?_ (szOk (by simp))))))))
    intro hC sk FC kC OC szC
    refine stG FC fun hD FD gD => ?_
    refine wpAny_execs_cons (whileG (SG prog w s h₀ L a g st) (fun μ s' hI => fcn_turn hh hbig W hg hI ?_) (cMeas [] [st]) ?_)
    · intro h tk m' kvs vd' vo' co' F' Oc' hc' Ov' hv' lo' hall
      refine wpAny_execs_cons (wpAny_Return_some (ldCellG Oc' hc' rfl ?_))
      exact ⟨h, tk, m', rfl, F', .inr ⟨hk, vd', kvs, rfl, Ov'.dict hv', lo', hall⟩⟩
    · exact ⟨hD, _, _, [], [st], [], sk, _, [.int st ts], co, vd, vo, rfl, FD, rfl, CInv.init h0 h1, hgr, rfl, OC.gr gD, .cons st ts .nil, (OB.gr (kC.gr L)).gr gD, hco, (OA1.gr (kC.gr L)).gr gD, hvo, rfl, lov⟩
  · refine iteT (by rw [decide_eq_false hk]; rfl) ?_
    refine wpAny_execs_cons (wpAny_Return_some (constNone ?_))
    exact ⟨s.heap, _, m, rfl, F, .inl ⟨rfl, hk⟩⟩
end
end FE

namespace FE

theorem lookup_mem {g : Gph} {k : Int} {l : List Int} (h : g.lookup k = some l) : (k, l) ∈ g := by
  induction g with
  | nil => cases h
  | cons p r ih =>
    obtain ⟨k', l'⟩ := p
    by_cases e : k = k'
    · subst e
      simp at h
      subst h
      exact List.mem_cons_self ..
    · have : (k == k') = false := beq_eq_false_iff_ne.mpr e
      rw [List.lookup_cons, this] at h
      exact List.mem_cons_of_mem _ (ih h)
def SmallL (g : Gph) : Prop := ∀ p ∈ g, p.2.length ≤ 4 ∧ ∀ v ∈ p.2, 0 ≤ v ∧ v < 8
theorem SmallL.small {g : Gph} (h : SmallL g) : Small g where
  len := fun k => by
    unfold nb
    cases q : g.lookup k with
    | none => simp
    | some l => exact (h _ (lookup_mem q)).1
  rng := fun k v hv => by
    unfold nb at hv
    cases q : g.lookup k with
    | none => rw [q] at hv; simp at hv
    | some l => rw [q] at hv; exact (h _ (lookup_mem q)).2 v hv

theorem fm5 {c : Int} (_h : 0 ≤ c) : ∃ n : Nat, c.fmod 5 = (n : Int) ∧ n < 5 := by
  have e : c.fmod 5 = c % 5 := Int.fmod_eq_emod_of_nonneg _ (by decide)
  obtain ⟨n, hn⟩ : ∃ n : Nat, c.fmod 5 = (n : Int) := Int.eq_ofNat_of_zero_le (by omega)
  exact ⟨n, hn, by omega⟩
theorem fm7 {c : Int} (_h : 0 ≤ c) : ∃ n : Nat, 2 + c.fmod 7 = (n : Int) ∧ 2 ≤ n ∧ n ≤ 8 := by
  have e : c.fmod 7 = c % 7 := Int.fmod_eq_emod_of_nonneg _ (by decide)
  obtain ⟨n, hn⟩ : ∃ n : Nat, 2 + c.fmod 7 = (n : Int) := Int.eq_ofNat_of_zero_le (by omega)
  exact ⟨n, hn, by omega, by omega⟩
theorem plus2 (j : Nat) : (j : Int) + 2 ≠ 0 := by omega
theorem mulOk {j : Nat} (h : j < 5) : IntMulOk (j : Int) (j : Int) := IntMulOk.of_left (intBits_le_iff.mpr (Nat.lt_of_lt_of_le (by omega) (show 5 ≤ 2 ^ 64 by decide)))
theorem pyl (c : Int) {j : Nat} (h : j < 5) : Builtin.divisionGoesByPylong c ((j : Int) + 2) = false := PyProof.noPylong_small (by omega)
theorem natNe {M : Nat} (h : 2 ≤ M) : (M : Int) ≠ 0 := by omega
theorem modR (x : Int) {M : Nat} (h : 2 ≤ M) : 0 ≤ x.fmod M ∧ x.fmod M < (M : Int) := by
  have e : x.fmod M = x % M := Int.fmod_eq_emod_of_nonneg _ (by omega)
  rw [e]
  exact ⟨Int.emod_nonneg _ (by omega), Int.emod_lt_of_pos _ (by omega)⟩
theorem stored_len {kvs : List (Int × Value)} {k : Int} {v : Value} : (stored kvs k v).length ≤ kvs.length + 1 := by
  have e := congrArg List.length (stored_ins (kvs := kvs) (k := k) (v := v))
  rw [List.length_map] at e
  rw [e]
  unfold ins
  split
  · simp
  · simp
theorem lt1000 {n k : Nat} (h : n < k) (hk : k ≤ 1000) : n < 1000 := Nat.lt_of_lt_of_le h hk

section
variable {prog : Program} {w : World} {A : Around} {s : Shared} {h₀ : Heap} {L f : Addr} {m : Str → Option Value} {cd : Value}

def LotIn (prog : Program) (w : World) (imm : List (Addr × Obj)) (kv : Int × Value) (p : Int × List Int) : Prop :=
  kv.1 = p.1 ∧ ∃ d o kv', kv.2 = .ref d ∧ (d, o) ∈ imm ∧ o.IsDictOf (intKind prog w) kv' ∧ (d == sysModules) = false ∧ ksOf kv' = p.2
theorem LotIn.mono {imm imm' : List (Addr × Obj)} {kv : Int × Value} {p : Int × List Int} (h : LotIn prog w imm kv p) (hs : ∀ x ∈ imm, x ∈ imm') : LotIn prog w imm' kv p :=
  let ⟨a, d, o, kv', b, c, e⟩ := h; ⟨a, d, o, kv', b, hs _ c, e⟩

/-- what _law_web tells -/
def WebP (prog : Program) (w : World) (v : Value) (h : Heap) : Prop :=
  ∃ t fd tm g, ∃ M : Nat, v = .ref t ∧ h.get? t = some (tupOf [.ref fd, .int M tm]) ∧ WebAt prog w h fd g ∧ Small g ∧ M ≤ 8

def webOut (prog : Program) (w : World) (s : Shared) (h₀ : Heap) (L : Addr) (fl : Flow) (s' : Shared) : Prop :=
  ∃ h' tk m', s' = { s with heap := h', toks := tk } ∧ Fr h₀ L h' m' ∧ WebP prog w (flowVal fl) h'

set_option maxHeartbeats 16000000 in
theorem web_body {mg mb : Str → Option Value} {cf sl : Addr} {vs : List Value} {ns : List Int} (hh : A.handled = none) (hroom : A.depth < recursionLimit) (C : Cx mg mb h₀) (B : Bl mg mb) (F : Fr h₀ L s.heap m) (hbig : sysModules < h₀.objs.size)
    (hcf : FnAt h₀ cf 4) (hcm : mg "_law_cell" = some (.ref cf)) (hsc : m "script" = some (.ref sl)) (hl : h₀.IsList sl vs.toArray) (hi : IntsAre vs ns) (hlen : ns.length ≤ 63) :
    wpAny (model prog w) A (execs (body 5) (envX (nm 5) (scp 5) L f cd [])) (webOut prog w s h₀ L) (fun _ _ => False) s := by
  have lst : ∀ {h : Heap}, Kp h₀ h → h.IsList sl vs.toArray := fun k => hl.at fun o e => k sl o e
  refine wpAny_execs_cons (swapAsg hh (args_cons (wpAny_BinOp (wpAny_Constant_int (wpAny_BinOp (Call_ (nameG F C hcm (callWithG hcf (args_cons (nameX_L F hsc (args_cons (wpAny_Constant_int (args_nil ⟨F.keep, callB (cell_call (k := 0) (hcf.keeps F.keep) (C.keeps F.keep) B hroom (lst F.keep) hi (by omega) hlen) ?_⟩)))))))))))))
  rintro _ hA tkA kA ⟨cA, uA, rfl, c0⟩
  have FA := Fr.kp F kA
  refine wpAny_Constant_int (mod_int (by decide) (add_int (args_cons (newDictG FA hbig ?_))))
  intro hB fd fo FB kB OB hfo lof szB
  refine args_nil ⟨rfl, by simp, fun hC kC => ?_⟩
  have FC := Fr.kp FB kC
  obtain ⟨M, hM, hM2, hM8⟩ := fm7 c0
  rw [hM]
  refine assignInOrder_cons (bindName_ (stG FC fun hD FD gD => assignInOrder_cons (bindName_ (stG FD fun hE FE_ gE => assignInOrder_nil ?_))))
  dsimp only
  have OE : Own h₀ L hE fd fo := (OB.gr (kC.gr L)).gr (gD.trans gE)
  refine wpAny_execs_cons (For_invV h₀ rfl rfl (Call_ (nameB FE_ C B.range.1 B.range.2 (PyProof.Rows.callWith_type1 (args_cons (nameX_L FE_ rfl (args_nil (call_range_1 ?_))))))))
  refine iterRangeG (n := M) (news := [(fd, fo)]) hh (IsRange.new ..) (by omega) (FE_.push _) (newsGr (newsCons OE News.nil) (Kp.gr (fun _ _ e => Heap.get?_push_of_some _ e) L))
    (fun i m news => ∃ kvs fo imm g, news = (fd, fo) :: imm ∧ fo.IsDictOf (intKind prog w) kvs ∧ Paired (LotIn prog w imm) kvs g ∧ SmallL g ∧ (∀ x ∈ ksOf kvs, 0 ≤ x ∧ x < (i : Nat)) ∧ kvs.length ≤ i ∧ (∀ p ∈ imm, p.1 ≠ fd) ∧
      m "script" = some (.ref sl) ∧ (∃ t, m "many" = some (.int M t)) ∧ m "found" = some (.ref fd))
    ⟨[], fo, [], [], rfl, hfo, .nil, (by simp [SmallL]), (by simp), (by simp), (by simp), hsc, ⟨_, rfl⟩, rfl⟩ ?_ ?_
  · rintro Ia i tI m₁ news₁ h1 tk1 own hIa hiM ⟨kvs, fo1, imm, g, rfl, hfo1, hg, hsm, hrng, hkl, him, r1, ⟨tm, r2⟩, r3⟩ hoff hsub hIlt F1 No1 N1
    have Of1 : Own h₀ L h1 fd fo1 := N1 _ (List.mem_cons_self ..)
    have Ni1 : News h₀ L h1 imm := fun p hp => N1 p (List.mem_cons_of_mem _ hp)
    refine wpAny_execs_cons (swapAsg hh (args_cons (Call_ (nameG F1 C hcm (callWithG hcf (args_cons (nameX_L F1 r1 (args_cons (wpAny_BinOp (wpAny_Constant_int (nameX_L F1 rfl (add_int (args_nil ⟨F1.keep, callB (cell_call (k := 3 + i) (hcf.keeps F1.keep) (C.keeps F1.keep) B hroom (lst F1.keep) hi (by omega) hlen) ?_⟩)))))))))))))
    rintro _ h2 tk2 k2 ⟨told, ut, rfl, ct⟩
    have F2 := Fr.kp F1 k2
    refine args_cons (newDictG F2 hbig ?_)
    intro h3 ld lo F3 k3 O3 hlo lol sz3
    refine args_nil ⟨rfl, by simp, fun h4 k4 => ?_⟩
    have F4 := Fr.kp F3 k4
    refine assignInOrder_cons (bindName_ (stG F4 fun h5 F5 g5 => assignInOrder_cons (bindName_ (stG F5 fun h6 F6 g6 => assignInOrder_nil ?_))))
    have g26 : Gr L h3 h6 := (k4.gr L).trans (g5.trans g6)
    have g16 : Gr L h1 h6 := ((k2.trans k3).gr L).trans g26
    have Ol6 := O3.gr g26
    have Of6 := Of1.gr g16
    have hlf : fd ≠ ld := (Of1.gr (k2.gr L)).ne sz3
    have hil : ∀ p ∈ imm, p.1 ≠ ld := fun p hp => (Own.gr (Ni1 p hp) (k2.gr L)).ne sz3
    have hol : ∀ p ∈ own, p.1 ≠ ld := fun p hp => (Own.gr (No1 p hp) (k2.gr L)).ne sz3
    dsimp only
    obtain ⟨n2, hn2, hn5⟩ := fm5 ct
    refine wpAny_execs_cons (For_invV h₀ rfl rfl (Call_ (nameB F6 C B.range.1 B.range.2 (PyProof.Rows.callWith_type1 (args_cons (wpAny_BinOp (nameX_L F6 rfl (wpAny_Constant_int (mod_int (by decide) (args_nil ?_))))))))))
    rw [hn2]
    refine call_range_1 ?_
    have kr : ∀ o, Kp h6 (h6.push o) := fun o _ _ e => Heap.get?_push_of_some _ e
    refine iterRangeG (n := n2) (news := (ld, lo) :: (fd, fo1) :: (imm ++ own)) hh (IsRange.new ..) (lt1000 hn5 (by decide)) (F6.push _)
      (newsGr (newsCons Ol6 (newsCons Of6 (newsApp (newsGr Ni1 g16) (newsGr No1 g16)))) ((kr _).gr L))
      (fun j m news => ∃ kvl lo', news = (ld, lo') :: (fd, fo1) :: (imm ++ own) ∧ lo'.IsDictOf (intKind prog w) kvl ∧ kvl.length ≤ j ∧ (∀ x ∈ ksOf kvl, 0 ≤ x ∧ x < (M : Nat)) ∧
        m "script" = some (.ref sl) ∧ (∃ t, m "many" = some (.int M t)) ∧ m "found" = some (.ref fd) ∧ (∃ t, m "told" = some (.int told t)) ∧ m "lot" = some (.ref ld) ∧ ∃ t, m "at" = some (.int i t))
      ⟨[], lo, rfl, hlo, (by simp), (by simp), r1, ⟨tm, r2⟩, r3, ⟨_, rfl⟩, rfl, ⟨_, rfl⟩⟩ ?_ ?_
    · rintro Ib j tJ m₂ news₂ h7 tk7 own2 hIb hj ⟨kvl, lo', rfl, hlo', hkl', hrl, q1, ⟨t2, q2⟩, q3, ⟨t4, q4⟩, q5, ⟨t6, q6⟩⟩ hoff2 hsub2 hIlt2 F7 No7 N7
      have hj5 : j < 5 := Nat.lt_trans hj hn5
      have Ol7 : Own h₀ L h7 ld lo' := N7 _ (List.mem_cons_self ..)
      have Of7 : Own h₀ L h7 fd fo1 := N7 _ (List.mem_cons_of_mem _ (List.mem_cons_self ..))
      have Nr7 : News h₀ L h7 (imm ++ own) := fun p hp => N7 p (List.mem_cons_of_mem _ (List.mem_cons_of_mem _ hp))
      refine wpAny_execs_cons (wpAny_Assign_Subscript (constNone (nameX_L F7 q5 (wpAny_BinOp (wpAny_BinOp (wpAny_BinOp (nameX_L F7 q4 (wpAny_BinOp (nameX_L F7 rfl (wpAny_Constant_int (add_int ?_)))))))))))
      refine floordiv_int (plus2 j) (wpAny_BinOp (nameX_L F7 rfl (nameX_L F7 rfl (mul_int ?_ (mulOk hj5))))) (Or.inl (pyl _ hj5))
      refine add_int (nameX_L F7 q2 (mod_int (natNe hM2) ?_))
      have hr := modR (told.fdiv ((j : Int) + 2) + (j : Int) * (j : Int)) hM2
      refine setItemG F7 Ol7 hlo' (szOk (Nat.le_trans hkl' (Nat.le_trans (Nat.le_of_lt hj5) (by decide)))) ?_
      intro h8 lo2 F8 c8 O8 hlo2
      refine wpAny_execs_nil ?_
      refine ⟨h8, _, _, (ld, lo2) :: (fd, fo1) :: (imm ++ own), rfl, F8, newsCh No7 c8 (fun p hp e => hoff2 _ (List.mem_cons_self ..) (e ▸ hsub2 p hp)), newsCons O8 (newsCons (Of7.ch c8 hlf) (newsCh Nr7 c8 fun p hp => (List.mem_append.mp hp).elim (hil p) (hol p))), ?_,
        ⟨_, lo2, rfl, hlo2, Nat.le_trans stored_len (Nat.succ_le_succ hkl'), ?_, q1, ⟨t2, q2⟩, q3, ⟨t4, q4⟩, q5, ⟨t6, q6⟩⟩⟩
      · intro p hp
        rcases List.mem_cons.mp hp with rfl | hp
        · exact hoff2 (ld, lo') (List.mem_cons_self ..)
        · exact hoff2 p (List.mem_cons_of_mem _ hp)
      · intro x hx
        rw [stored_ins] at hx
        rcases mem_ins.mp hx with rfl | hx
        · exact hr
        · exact hrl x hx
    · rintro h7 tk7 m7 news7 F7 N7 ⟨kvl, lo', rfl, hlo', hkl', hrl, q1, ⟨t2, q2⟩, q3, ⟨t4, q4⟩, q5, ⟨t6, q6⟩⟩
      have Ol7 : Own h₀ L h7 ld lo' := N7 _ (List.mem_cons_self ..)
      have Of7 : Own h₀ L h7 fd fo1 := N7 _ (List.mem_cons_of_mem _ (List.mem_cons_self ..))
      have Ni7 : News h₀ L h7 imm := fun p hp => N7 p (List.mem_cons_of_mem _ (List.mem_cons_of_mem _ (List.mem_append_left _ hp)))
      have No7 : News h₀ L h7 own := fun p hp => N7 p (List.mem_cons_of_mem _ (List.mem_cons_of_mem _ (List.mem_append_right _ hp)))
      have hIf : fd ≠ Ia := hoff _ (List.mem_cons_self ..)
      obtain ⟨oI, hoI⟩ := hIlt
      have hIl : ld ≠ Ia := Nat.ne_of_gt (Nat.lt_of_lt_of_le (Heap.lt_size (k2 _ _ hoI)) sz3)
      refine wpAny_execs_cons (wpAny_If (wpAny_isTrue_Compare1 (wpAny_BinOp (nameX_L F7 q4 (wpAny_Constant_int (mod_int (by decide) (wpAny_Constant_int (gt_int (wpAny_truthy_bool ?_)))))))))
      dsimp only
      by_cases hc : 0 < told.fmod 7
      · refine iteT (decide_eq_true hc) ?_
        have hni : (i : Int) ∉ ksOf kvs := fun z => absurd (hrng _ z).2 (Int.lt_irrefl _)
        refine wpAny_execs_cons (wpAny_Assign_Subscript (nameX_L F7 q5 (nameX_L F7 q3 (nameX_L F7 q6 (setItemG F7 Of7 hfo1 (szOk (Nat.le_trans hkl (Nat.le_trans (Nat.le_of_lt hiM) (Nat.le_trans hM8 (by decide))))) ?_)))))
        intro h8 fo2 F8 c8 O8 hfo2
        rw [stored_new hni] at hfo2
        refine wpAny_execs_nil (wpAny_execs_nil ?_)
        dsimp only
        refine ⟨h8, _, _, (fd, fo2) :: (ld, lo') :: imm, rfl, F8, newsCh No7 c8 (fun p hp e => hIf (e ▸ hsub p hp)), newsCons O8 (newsCons (Ol7.ch c8 (Ne.symm hlf)) (newsCh Ni7 c8 him)), ?_,
          ⟨_, fo2, (ld, lo') :: imm, g ++ [((i : Int), ksOf kvl)], rfl, hfo2, pairedSnoc (pimp (fun _ _ r => LotIn.mono r fun x hx => List.mem_cons_of_mem _ hx) hg) ⟨rfl, ld, lo', kvl, rfl, List.mem_cons_self .., hlo', lol, rfl⟩, ?_, ?_, ?_, ?_, q1, ⟨t2, q2⟩, q3⟩⟩
        · intro p hp
          rcases List.mem_cons.mp hp with rfl | hp
          · exact hIf
          rcases List.mem_cons.mp hp with rfl | hp
          · exact hIl
          · exact hoff p (List.mem_cons_of_mem _ hp)
        · intro p hp
          rcases List.mem_append.mp hp with hp | hp
          · exact hsm p hp
          · rw [List.mem_singleton.mp hp]
            refine ⟨?_, fun v hv => ⟨(hrl v hv).1, Int.lt_of_lt_of_le (hrl v hv).2 (Int.ofNat_le.mpr hM8)⟩⟩
            show (ksOf kvl).length ≤ 4
            rw [List.length_map]
            exact Nat.le_trans hkl' (Nat.le_of_lt_succ hn5)
        · intro x hx
          rw [ksOf, List.map_append] at hx
          rcases List.mem_append.mp hx with hx | hx
          · have := hrng x hx
            exact ⟨this.1, Int.lt_trans this.2 (Int.ofNat_lt.mpr (Nat.lt_succ_self _))⟩
          · rw [List.mem_singleton.mp hx]
            exact ⟨Int.natCast_nonneg _, Int.ofNat_lt.mpr (Nat.lt_succ_self _)⟩
        · rw [List.length_append]
          exact Nat.succ_le_succ hkl
        · intro p hp
          rcases List.mem_cons.mp hp with rfl | hp
          · exact Ne.symm hlf
          · exact him p hp
      · refine iteF (decide_eq_false hc) (wpAny_execs_nil (wpAny_execs_nil ?_))
        refine ⟨h7, _, _, (fd, fo1) :: imm, rfl, F7, No7, newsCons Of7 Ni7, hoff, ⟨kvs, fo1, imm, g, rfl, hfo1, hg, hsm, fun x hx => ⟨(hrng x hx).1, Int.lt_trans (hrng x hx).2 (Int.ofNat_lt.mpr (Nat.lt_succ_self _))⟩, Nat.le_succ_of_le hkl, him, q1, ⟨t2, q2⟩, q3⟩⟩
  · rintro h1 tk1 m1 news1 F1 N1 ⟨kvs, fo1, imm, g, rfl, hfo1, hg, hsm, hrng, hkl, him, r1, ⟨tm, r2⟩, r3⟩
    have Of1 : Own h₀ L h1 fd fo1 := N1 _ (List.mem_cons_self ..)
    have Ni1 : News h₀ L h1 imm := fun p hp => N1 p (List.mem_cons_of_mem _ hp)
    refine wpAny_execs_cons (wpAny_Return_some (Tuple_ (args_cons (nameX_L F1 r3 (args_cons (nameX_L F1 r2 (args_nil (newTupleG F1 ?_ (szOk (by simp))))))))))
    intro h2 t F2 k2 O2 sz2
    refine ⟨h2, _, _, rfl, F2, t, fd, tm, g, M, rfl, O2.1, ⟨kvs, (Of1.gr (k2.gr L)).dict hfo1, lof, pimp (fun a b r => ⟨r.1, ?_⟩) hg⟩, hsm.small, hM8⟩
    obtain ⟨_, d, o, kv', e1, e2, e3, e4, e5⟩ := r
    exact ⟨d, kv', e1, (Own.gr (Ni1 _ e2) (k2.gr L)).dict e3, e4, e5⟩
end
end FE

namespace FE

/-- a def with defaults (one None) -/
def FnAtD (h : Heap) (f : Addr) (i : Nat) : Prop := ∃ o pm cd doc T oT n, h.get? f = some o ∧ o.data = .func { docDef (nm i) (pms i) (body i) (scp i) pm cd doc with defaults := .ref T } ∧ h.CodeRec cd (nm i) ∧
  h.get? T = some oT ∧ oT.data = .seq #[.none] n
theorem FnAtD.keeps {h h' : Heap} {f : Addr} {i : Nat} (x : FnAtD h f i) (k : Kp h h') : FnAtD h' f i :=
  let ⟨o, pm, cd, doc, T, oT, n, ho, hd, hc, hT, hn⟩ := x
  ⟨o, pm, cd, doc, T, oT, n, k _ _ ho, hd, hc.keeps k, k _ _ hT, hn⟩

section
variable {prog : Program} {w : World} {A : Around} {s : Shared}

/-- what _law_steps tells -/
def StepsP (prog : Program) (w : World) (g : Gph) (st : Int) (v : Value) (h : Heap) : Prop :=
  ∃ d kvs D, v = .ref d ∧ h.DictOf (intKind prog w) d kvs ∧ FlatI kvs D ∧ Dist g st D ∧ (d == sysModules) = false

theorem web_call {mg mb : Str → Option Value} {f cf sl : Addr} {vs : List Value} {ns : List Int} (hh : A.handled = none) (hroom : A.depth + 1 < recursionLimit) (hbig : sysModules < s.heap.objs.size) (C : Cx mg mb s.heap) (B : Bl mg mb)
    (hf : FnAt s.heap f 5) (hcf : FnAt s.heap cf 4) (hcm : mg "_law_cell" = some (.ref cf)) (hl : s.heap.IsList sl vs.toArray) (hi : IntsAre vs ns) (hlen : ns.length ≤ 63) :
    codeAny (model prog w) A (.call (.ref f) ⟨[.ref sl], []⟩) (Back s (WebP prog w)) s := by
  refine callP (binds := [("script", .ref sl)]) hf C.nolimit (Nat.lt_of_succ_lt hroom) (fun _ _ _ => by rfl) (locs (by rfl)) (by decide) (fun h₁ tk cd F => ?_)
  refine wpAny_mono (web_body (ns := ns) hh hroom C B F hbig hcf hcm (by rfl) hl hi hlen) (fun fl s' hb => ?_) fun _ _ x => x
  obtain ⟨h', tk', m', rfl, F', p⟩ := hb
  exact ⟨h', tk', rfl, F'.keep, p⟩

theorem steps_call {mg mb : Str → Option Value} {f a : Addr} {g : Gph} {st : Int} {ts : Tok} (hh : A.handled = none) (hroom : A.depth < recursionLimit) (hu : A.units + 110 < cLine) (hbig : sysModules < s.heap.objs.size) (C : Cx mg mb s.heap) (B : Bl mg mb)
    (hf : FnAt s.heap f 6) (W : WebAt prog w s.heap a g) (hg : Small g) (h0 : 0 ≤ st) (h1 : st < 9) :
    codeAny (model prog w) A (.call (.ref f) ⟨[.ref a, .int st ts], []⟩) (Back s (StepsP prog w g st)) s := by
  refine callP (binds := [("web", .ref a), ("start", .int st ts)]) hf C.nolimit hroom (fun _ _ _ => by rfl) (locs (by rfl)) (by decide) (fun h₁ tk cd F => ?_)
  refine wpAny_mono (steps_body (t := ts) hh (show A.units + 3 + 100 < cLine by omega) C B F hbig (by rfl) (by rfl) W hg h0 h1) (fun fl s' hb => ?_) fun _ _ x => x
  obtain ⟨h', tk', d, kvs, D, m', rfl, rfl, F', hd, lo, hfl, hD⟩ := hb
  exact ⟨h', tk', rfl, F'.keep, d, kvs, D, rfl, hd, hfl, hD, lo⟩

theorem fsp_call {f a : Addr} {g : Gph} {st e : Int} {ts te : Tok} (hh : A.handled = none) (hroom : A.depth < recursionLimit) (hbig : sysModules < s.heap.objs.size) (hlim : s.heap.NoLimit)
    (hf : FnAt s.heap f 1) (W : WebAt prog w s.heap a g) (hg : Small g) (h0 : 0 ≤ st) (h1 : st < 9) :
    codeAny (model prog w) A (.call (.ref f) ⟨[.ref a, .int st ts, .int e te], []⟩) (Back s (FspP g st e)) s := by
  refine callC (binds := [("graph", .ref a), ("start", .int st ts), ("end", .int e te)]) hf hlim hroom (fun _ _ _ => by rfl) (fun x hx => .inl (locs (by rfl) x hx)) (by decide) (fun h₁ tk cd cells F N X => ?_)
  obtain ⟨o, rfl, ho⟩ := CellsAre.one (n := "visited") (c := s.heap.objs.size + 1) X
  have Oc : Own s.heap s.heap.objs.size h₁ (s.heap.objs.size + 1) o := N _ (List.mem_cons_self ..)
  refine wpAny_mono (fsp_body (ts := ts) (te := te) hh F hbig (by rfl) (by rfl) (by rfl) Oc ho W hg h0 h1) (fun fl s' hb => ?_) fun _ _ x => x
  obtain ⟨h', tk', m', rfl, F', p⟩ := hb
  exact ⟨h', tk', rfl, F'.keep, p⟩

theorem fcn_call {f a : Addr} {g : Gph} {st : Int} {ts : Tok} (hh : A.handled = none) (hroom : A.depth < recursionLimit) (hbig : sysModules < s.heap.objs.size) (hlim : s.heap.NoLimit)
    (hf : FnAtD s.heap f 2) (W : WebAt prog w s.heap a g) (hg : Small g) (h0 : 0 ≤ st) (h1 : st < 9) :
    codeAny (model prog w) A (.call (.ref f) ⟨[.ref a, .int st ts], []⟩) (Back s (FcnP prog w g st)) s := by
  obtain ⟨o, pm, cd, doc, T, oT, n, ho, hd, hc, hT, hn⟩ := hf
  have hb : BindsTo s { docDef (nm 2) (pms 2) (body 2) (scp 2) pm cd doc with defaults := .ref T } ⟨[.ref a, .int st ts], []⟩ [("graph", .ref a), ("start", .int st ts), ("visited", .none)] :=
    BindsTo.of_defaults rfl hT hn rfl rfl
  refine codeAny_call_function hroom ho hd (by rfl) (by rfl) rfl hc (hb _ _ _ _ ?_)
  refine wpAny_newFunctionEnv_cells (by rfl) ?_ fun env' he s' x => ?_
  · intro x hx
    rcases List.mem_cons.mp hx with rfl | hx
    · exact .inl (by rfl)
    rcases List.mem_cons.mp hx with rfl | hx
    · exact .inl (by rfl)
    · rw [List.mem_singleton.mp hx]
      exact .inr ⟨by rfl, by rfl⟩
  subst he
  refine ⟨hlim.keeps x.toInCall.keep, codeAny_func ?_⟩
  obtain ⟨h₁, tk, rfl, _⟩ := x.done
  have hk₁ := x.toInCall.keep
  obtain ⟨cells, NC, Y⟩ := Cl.news (h₀ := s.heap) (Nat.le_refl _) fun n c hm => ⟨x.cell n c (lookup_of_mem_nodup (cellsFrom_names (scp 2).names 0 (s.heap.objs.size + 1) [] [] rfl ▸ (show ((cellsFrom 0 (scp 2).names []).map (·.1)).Nodup by decide)) hm), x.above n c hm⟩
  obtain ⟨c0, rfl, hc0⟩ := CellsAre.one (n := "visited") (c := s.heap.objs.size + 1) Y
  have Oc : Own s.heap s.heap.objs.size h₁ (s.heap.objs.size + 1) c0 := NC _ (List.mem_cons_self ..)
  refine wpAny_mono (fcn_body (ts := ts) hh ⟨x.toInCall.ns, hk₁, Nat.le_refl _⟩ hbig (by rfl) (by rfl) Oc hc0 W hg h0 h1) (fun fl s' hb => ?_) fun _ _ x => x.elim
  obtain ⟨h', tk', m', rfl, F', p⟩ := hb
  refine ⟨_, h', tk', rfl, rfl, F'.keep, ?_⟩
  cases fl <;> exact p
end
end FE

namespace FE

section
variable {prog : Program} {w : World} {A : Around} {E : Value → Shared → Prop} {s : Shared} {env : Env} {R : Result → Shared → Prop}

theorem loopTests {elt target iter : Expr} {ifs : List Expr} {scope : Scope} {pos : Pos} {it acc : Value} (I : Nat → Shared → Prop)
    (turn : ∀ n s, I n s → wpAny (model prog w) A (pyNext it) (fun r s₁ => match r with
      | none => R (.ok .next) s₁
      | some v => wpAny (model prog w) A (letOwnedTupleGo target it v) (fun _ s₀ => wpAny (model prog w) A (assign target env v) (fun _ s₂ =>
          wpAny (model prog w) A (forIn ifs true fun c r => if r = true then do let ok ← PySem.isTrue c env (eval c env); pure (ForInStep.yield ok) else pure (ForInStep.yield r)) (fun ok s₃ =>
            ok = false ∧ ∃ m, m < n ∧ I m s₃) (notedBy (model prog w) A env fun e s' => R (.error e) s') s₂) (notedBy (model prog w) A env fun e s' => R (.error e) s') s₀) (notedBy (model prog w) A env fun e s' => R (.error e) s') s₁) (notedBy (model prog w) A env fun e s' => R (.error e) s') s)
    (n : Nat) (h : I n s) : codeAny (model prog w) A (.compLoop (.ListComp elt [⟨target, iter, ifs, 0⟩] scope pos) 0 it acc env) R s := by
  refine codeAny_loop rfl I (fun n s hI => ?_) n h
  show wpAny _ A ((compTurn (.ListComp elt [⟨target, iter, ifs, 0⟩] scope pos) 0 it acc env).onRaise (fun x => do noteFrame x env; theTreesLotGoes x)) _ _ s
  refine wpAny_noted ?_
  rw [compTurn_list]
  refine wpAny_bind (wpAny_standAt (wpAny_bind (wpAny_mono (turn n s hI) (fun r s₁ h₁ => ?_) fun _ _ h' => h')))
  cases r with
  | none => exact wpAny_pure h₁
  | some v =>
    refine wpAny_bind (wpAny_mono h₁ (fun _ s₀ h₀' => ?_) fun _ _ h' => h')
    refine wpAny_bind (wpAny_mono h₀' (fun _ s₂ h₂ => wpAny_bind (wpAny_mono h₂ (fun ok s₃ h₃ => ?_) fun _ _ h' => h')) fun _ _ h' => h')
    obtain ⟨rfl, h₃⟩ := h₃
    exact wpAny_pure ⟨rfl, h₃⟩

theorem zipLoop {elt iter : Expr} {xa xb : Str} {pa pb tp : Pos} {kk : Nat} {ifs : List Expr} {scope : Scope} {pos : Pos} {I D : Addr} {fp wr : List Addr} {n : Nat} {Pt : Nat → Array Value → Prop} {St : Nat → Heap → Prop} {Mid : Nat → Addr → Heap → Prop}
    {cenv : Env} {m : Str → Option Value} {oD : Obj} (hh : A.handled = none) (W : WalksT prog w A I fp wr n Pt St Mid)
    (ha : cenv.kindOf xa = some .local) (hb : cenv.kindOf xb = some .local) (hab : xa ≠ xb) (hp : (cenv.scope.kind == .class || (cenv.scope.kind == .module && cenv.locals != cenv.globals)) = false)
    (hDC : D ≠ cenv.locals) (hDf : D ∉ fp) (hCf : cenv.locals ∉ fp) (hpt : ∀ i vals, Pt i vals → ∃ x y, vals = #[x, y])
    (hst : St 0 s.heap) (hacc : s.heap.get? D = some oD) (hn : s.heap.Ns cenv.locals m)
    (htests : ∀ i x y s₂ m₂ E', Pt i #[x, y] → s₂.heap.Ns cenv.locals m₂ → m₂ xa = some x → m₂ xb = some y → (∀ b o, b ≠ cenv.locals → b ∉ wr → s.heap.get? b = some o → s₂.heap.get? b = some o) →
      wpAny (model prog w) A (forIn ifs true fun c r => if r = true then do let ok ← PySem.isTrue c cenv (eval c cenv); pure (ForInStep.yield ok) else pure (ForInStep.yield r))
        (fun ok s₃ => ok = false ∧ Keeps s₂ s₃) E' s₂)
    (hR : ∀ h' tk m', h'.Ns cenv.locals m' → h'.get? D = some oD → (∀ b o, b ≠ cenv.locals → b ∉ wr → s.heap.get? b = some o → h'.get? b = some o) → R (.ok .next) { s with heap := h', toks := tk }) :
    codeAny (model prog w) A (.compLoop (.ListComp elt [⟨.Tuple [.Name xa pa, .Name xb pb] kk tp, iter, ifs, 0⟩] scope pos) 0 (.ref I) (.ref D) cenv) R s := by
  refine loopTests (fun k s' => ∃ h' tk m' i, s' = { s with heap := h', toks := tk } ∧ St i h' ∧ h'.get? D = some oD ∧ h'.Ns cenv.locals m' ∧ i ≤ n ∧ k = n + 1 - i ∧ (∀ b o, b ≠ cenv.locals → b ∉ wr → s.heap.get? b = some o → h'.get? b = some o)) ?_ (n + 1) ⟨s.heap, s.toks, m, 0, rfl, hst, hacc, hn, Nat.zero_le _, rfl, fun _ _ _ _ e => e⟩
  rintro k s' ⟨H, tk, m', i, rfl, hst', hacc', hn', hi, rfl, hk⟩
  have hCw : cenv.locals ∉ wr := fun h => hCf (W.sub _ h)
  have hDw : D ∉ wr := fun h => hDf (W.sub _ h)
  by_cases hlt : i < n
  · refine W.item i _ _ _ hlt hst' fun T vals h₁ tk₁ hP hT htup hmid hk₁ => ?_
    obtain ⟨x, y, rfl⟩ := hpt i vals hP
    refine W.go _ _ _ i T _ _ _ hmid fun h₂ hst₂ hk₂ => ?_
    have htup₂ : h₂.IsTuple T #[x, y] := by
      obtain ⟨oT, hoT, hcT, hdT⟩ := htup
      exact ⟨oT, hk₂ T oT (W.apart _ _ _ hmid) hoT, hcT, hdT⟩
    have hn₂ : h₂.Ns cenv.locals m' := (hn'.at' fun o e => hk₁ _ o hCw e).at' fun o e => hk₂ _ o hCw e
    refine kcp_assign (s := { s with heap := h₂, toks := tk₁ }) hh htup₂ ha hb hp hn₂ fun h₃ tk₃ hn₃ hk₃ => ?_
    have up₃ : ∀ b o, b ≠ cenv.locals → b ∉ wr → H.get? b = some o → h₃.get? b = some o := fun b o hbC hbf e => hk₃ b o hbC (hk₂ b o hbf (hk₁ b o hbf e))
    have hst₃ : St (i + 1) h₃ := W.frame _ _ _ hst₂ fun b hbf o e => hk₃ b o (fun h => hCf (h ▸ hbf)) e
    refine wpAny_mono (htests i x y { s with heap := h₃, toks := tk₃ } _ _ hP hn₃ (by simp [hab]) (by simp) fun b o hbC hbf e => up₃ b o hbC hbf (hk b o hbC hbf e)) (fun ok s₄ h₄ => ?_) fun _ _ e => e
    obtain ⟨rfl, h₄, tk₄, rfl, hk₄⟩ := h₄
    refine ⟨rfl, n + 1 - (i + 1), by omega, h₄, tk₄, _, i + 1, rfl, W.frame _ _ _ hst₃ fun b _ o e => hk₄ b o e, hk₄ _ _ (up₃ D _ hDC hDw hacc'), hn₃.keeps hk₄, hlt, rfl, fun b o hbC hbf e => hk₄ b o (up₃ b o hbC hbf (hk b o hbC hbf e))⟩
  · have e : i = n := Nat.le_antisymm hi (Nat.not_lt.mp hlt)
    subst e
    refine W.done _ _ _ hst' fun h₁ tk₁ hk₁ => ?_
    exact hR h₁ tk₁ m' (hn'.at' fun o e => hk₁ _ o hCw e) (hk₁ _ _ hDw hacc') fun b o hbC hbf e => hk₁ b o hbf (hk b o hbC hbf e)

theorem zipBlock {elt iter : Expr} {xa xb : Str} {pa pb tp : Pos} {kk : Nat} {ifs : List Expr} {scope : Scope} {cl : List (Str × Addr)} {pos : Pos} {I : Addr} {fp wr : List Addr} {n : Nat} {Pt : Nat → Array Value → Prop} {St : Nat → Heap → Prop} {Mid : Nat → Addr → Heap → Prop}
    {RR : Value → Addr → Result → Shared → Prop} (hh : A.handled = none) (W : WalksT prog w A I fp wr n Pt St Mid)
    (hcell : ∀ y ∈ scope.names, y.2 ≠ .cell) (hkind : scope.kind = .function) (ha : scope.names.lookup xa = some .local) (hb : scope.names.lookup xb = some .local) (hab : xa ≠ xb)
    (hpt : ∀ i vals, Pt i vals → ∃ x y, vals = #[x, y]) (hst : St 0 s.heap) (hfp : ∀ b ∈ fp, b < s.heap.objs.size)
    (htests : ∀ C i x y s₂ m₂ E', s.heap.objs.size ≤ C → Pt i #[x, y] → s₂.heap.Ns C m₂ → m₂ xa = some x → m₂ xb = some y → (∀ b o, b ∉ wr → s.heap.get? b = some o → s₂.heap.get? b = some o) →
      wpAny (model prog w) A (forIn ifs true fun c r => if r = true then do let ok ← PySem.isTrue c (compEnvC scope cl C env) (eval c (compEnvC scope cl C env)); pure (ForInStep.yield ok) else pure (ForInStep.yield r))
        (fun ok s₃ => ok = false ∧ Keeps s₂ s₃) E' s₂)
    (hRR : ∀ D C h' tk m', s.heap.get? D = none → s.heap.get? C = none → D ≠ C → h'.Ns C m' → h'.get? D = some (listOf #[] 0) → (∀ b o, b ∉ wr → s.heap.get? b = some o → h'.get? b = some o) → RR (.ref D) C (.ok .next) { s with heap := h', toks := tk }) :
    wpAny (model prog w) A (newList []) (fun acc s₃ => wpAny (model prog w) A (newFunctionEnv scope env.globals cl [] env.qual none .none (some env)) (fun cenv s₄ =>
      codeAny (model prog w) A (.compStart (.ListComp elt [⟨.Tuple [.Name xa pa, .Name xb pb] kk tp, iter, ifs, 0⟩] scope pos) 0 (.ref I) acc { cenv with scope := relabel scope env }) (RR acc cenv.locals) s₄) E s₃) E s := by
  refine wpAny_newObj_type (wpAny_newFunctionEnv hcell (by intro y hy; simp at hy) (fun h₁ hns₁ hsb₁ => ?_) hkind)
  dsimp only at hns₁ hsb₁ ⊢
  generalize hH2 : s.heap.push { cls := .type "list", dict := none, data := .seq ([] : List Value).toArray } = H2 at hns₁ hsb₁ ⊢
  have hC : H2.objs.size = s.heap.objs.size + 1 := by rw [← hH2, Heap.size_push]
  have hDC : s.heap.objs.size ≠ H2.objs.size := by rw [hC]; exact Nat.ne_of_lt (Nat.lt_succ_self _)
  have below : ∀ b, b < s.heap.objs.size → b ≠ H2.objs.size := fun b hb => by rw [hC]; exact Nat.ne_of_lt (Nat.lt_succ_of_lt hb)
  have hDf : s.heap.objs.size ∉ fp := fun hm => Nat.lt_irrefl _ (hfp _ hm)
  have hCf : H2.objs.size ∉ fp := fun hm => by have := hfp _ hm; rw [hC] at this; exact Nat.lt_irrefl _ (Nat.lt_of_succ_lt this)
  have old : ∀ b o, s.heap.get? b = some o → h₁.get? b = some o := fun b o e => hsb₁.extBut b o (below b (Heap.lt_size e)) (Heap.get?_push_of_some _ (hH2 ▸ Heap.get?_push_of_some _ e))
  have hacc : h₁.get? s.heap.objs.size = some (listOf #[] 0) := hsb₁.extBut _ _ hDC (Heap.get?_push_of_some _ (hH2 ▸ Heap.get?_push_size _ rfl))
  have hst₁ : St 0 h₁ := W.frame _ _ _ hst fun b _ o e => old b o e
  have fresh : ∀ a, s.heap.objs.size ≤ a → s.heap.get? a = none := fun a ha => by
    cases e : s.heap.get? a with
    | none => rfl
    | some o' => exact absurd (Heap.lt_size e) (Nat.not_lt.mpr ha)
  have loop : ∀ s₃ : Shared, s₃ = { s with heap := h₁, toks := s.toks + ([] : List (Str × Value)).length } →
      codeAny (model prog w) A (.compLoop (.ListComp elt [⟨.Tuple [.Name xa pa, .Name xb pb] kk tp, iter, ifs, 0⟩] scope pos) 0 (.ref I) (.ref s.heap.objs.size) (compEnvC scope cl H2.objs.size env))
        (RR (.ref s.heap.objs.size) H2.objs.size) s₃ := by
    rintro s₃ rfl
    refine zipLoop (cenv := compEnvC scope cl H2.objs.size env) hh W (lookup_relabel_local ha) (lookup_relabel_local hb) hab (by simp [compEnvC, relabel, hkind]) hDC hDf hCf hpt hst₁ hacc hns₁ (fun i x y s₃ m₃ E' hv hn hma hmb hk => ?_) fun h' tk m' hn hD hk => ?_
    · exact htests _ i x y s₃ m₃ E' (by rw [hC]; exact Nat.le_succ _) hv hn hma hmb (fun b o hbf e => hk b o (below b (Heap.lt_size e)) hbf (old b o e))
    · exact hRR _ _ h' tk m' (fresh _ (Nat.le_refl _)) (fresh _ (by rw [hC]; exact Nat.le_succ _)) hDC hn hD fun b o hbf e => hk b o (below b (Heap.lt_size e)) hbf (old b o e)
  exact codeAny_compStart_list (loop _ rfl) (W.self 0 _ _ _ hst₁ (loop _ rfl))
end

section
variable {prog : Program} {w : World} {A : Around} {s : Shared} {h₀ : Heap} {L a : Addr} {m mg mb : Str → Option Value} {cn : Str} {cs : Scope} {ccd : Value} {cl : List (Str × Addr)}

theorem getNbG2 {env : Env} {gp npos : Pos} {gn nk : Str} {apos dpos pos : Pos} {h₀ : Heap} {a : Addr} {g : Gph} {k : Int} {t : Tok} {Q : Value → Shared → Prop} {E : Value → Shared → Prop}
    (W : WebAt prog w h₀ a g) (K : Kp h₀ s.heap) (hbig : sysModules < h₀.objs.size) (hsz : h₀.objs.size ≤ s.heap.objs.size)
    (hg : ∀ Q' : Value → Shared → Prop, Q' (.ref a) s → wpAny (model prog w) A (eval (.Name gn gp) env) Q' E s) (hn : ∀ Q' : Value → Shared → Prop, Q' (.int k t) s → wpAny (model prog w) A (eval (.Name nk npos) env) Q' E s)
    (h : ∀ d kv h' tk, Kp s.heap h' → s.heap.objs.size ≤ h'.objs.size → h'.DictOf (intKind prog w) d kv → (d == sysModules) = false → ksOf kv = nb g k → ((∃ o, h₀.get? d = some o) ∨ s.heap.objs.size ≤ d) → Q (.ref d) { s with heap := h', toks := tk })
    (hline : (apos.endLine == pos.line) = true) :
    wpAny (model prog w) A (eval (.Call (.Attribute (.Name gn gp) "get" apos) [.Name nk npos, .Dict [] [] dpos] [] pos) env) Q E s := by
  obtain ⟨kvs, hd, lo, hp⟩ := W
  have hd1 := hd.keep K
  refine wpAny_Call_method rfl rfl hline PySem.F.plainAttrs_dict PySem.F.slot_dict_get PySem.F.type_dict_get (hg _ ⟨hd1.typeIs, hd1.mapOf.noDict, callWith_method1 (args_cons (hn _ (args_cons ?_)))⟩)
  refine wpAny_Dict_empty (args_nil ?_)
  have k1 : Kp s.heap (s.heap.push { cls := .type "dict", data := .dict #[] }) := fun _ _ e => Heap.get?_push_of_some _ e
  refine dgetG (s := { s with heap := s.heap.push { cls := .type "dict", data := .dict #[] } }) (hd1.keep k1) lo ?_
  have hsz' : s.heap.objs.size ≤ (s.heap.push { cls := .type "dict", data := .dict #[] }).objs.size := by rw [Heap.size_push]; exact Nat.le_succ _
  rcases paired_at (k := k) hp with ⟨e1, e2⟩ | ⟨v, l, e1, e2, d, kv, rfl, hdd, lod, hk⟩
  · rw [e1]
    exact h _ [] _ _ k1 hsz' (Heap.DictOf.new _) (beq_eq_false_iff_ne.mpr (Nat.ne_of_gt (Nat.lt_of_lt_of_le hbig hsz))) (by rw [nb, e2]; rfl) (.inr (Nat.le_refl _))
  · rw [e1]
    obtain ⟨o, ho, _⟩ := Heap.dictOf_iff.mp hdd
    exact h d kv _ _ k1 hsz' ((hdd.keep K).keep k1) lod (by rw [nb, e2]; exact hk) (.inl ⟨o, ho⟩)

theorem sliceG {value slice : Expr} {l : Addr} {items : Array Value} {vl vu : Value} {lo hi : Option Int} {E : Value → Shared → Prop} {Q : Value → Shared → Prop} (F : Fr h₀ L s.heap m)
    (hl : s.heap.IsList l items) (pl : IsPart vl lo) (pu : IsPart vu hi)
    (h : ∀ h' D, Fr h₀ L h' m → Kp s.heap h' → Own h₀ L h' D (listOf (slicePick items lo hi none) 0) → s.heap.objs.size ≤ D → Q (.ref D) { s with heap := h' })
    (hs : subscripted slice false (.ref l) (.ref s.heap.objs.size) = operate [.ref s.heap.objs.size, .ref l] (getItem (.ref l) (.ref s.heap.objs.size)) := by with_unfolding_all rfl)
    (ht : ∀ r, letTemporaryGo value (.ref l) r = pure () := by intro _; with_unfolding_all rfl) (hsz : items.size ≤ sizeLine) :
    wpAny (model prog w) A (subscriptTail value slice (.ref l) (.ref s.heap.objs.size)) Q E { s with heap := s.heap.push { cls := .type "slice", data := .fields #[vl, vu, .none] } } := by
  refine subscriptTail_ops (Heap.IsList.typeIs (s := { s with heap := s.heap.push { cls := .type "slice", data := .fields #[vl, vu, .none] } }) (hl.push _)) list_getitem_lookup
    (wpAny_getItem_list_slice (hl.push _) (Heap.IsSliceOf.new ..) pl pu .none (by simp) ?_ hsz) hs ht
  have F1 := F.push { cls := .type "slice", data := .fields #[vl, vu, .none] }
  exact h _ _ (F1.push _) (fun _ _ e => Heap.get?_push_of_some _ (Heap.get?_push_of_some _ e)) (newSize F1) (by rw [Heap.size_push]; exact Nat.le_succ _)

set_option maxHeartbeats 4000000 in
/-- [1 for one, other in zip(path, path[1:]) if other not in web.get(one, {})] is empty -/
theorem compZG {scope : Scope} {g : Gph} {ga la vc : Addr} {co : Obj} {vs : List Value} {p : List Int} {n : Nat} {p1 p2 p3 p4 p5 p6 p7 p8 p9 p10 p11 p12 p13 p14 p15 p16 p17 p18 pos : Pos} {k1 k2 k3 : Nat} {Q : Value → Shared → Prop}
    (hh : A.handled = none) (hbig : sysModules < h₀.objs.size) (C : Cx mg mb h₀) (B : Bl mg mb) (F : Fr h₀ L s.heap m) (W : WebAt prog w s.heap ga g) (hcs : cs.kind = .function)
    (hpath : m "path" = some (.ref la)) (kpath : (envX cn cs L a ccd cl).kindOf "path" = some .local) (kzip : (envX cn cs L a ccd cl).kindOf "zip" = some .globalImplicit)
    (Oc : Own h₀ L s.heap vc co) (hco : co.data = .cell (some (.ref ga))) (hl : s.heap.get? la = some (listOf vs.toArray n)) (hi : IntsAre vs p) (hlen : p.length ≤ 1000)
    (hstep : ∀ (i : Nat) (x y : Int), p[i]? = some x → p[i + 1]? = some y → y ∈ nb g x)
    (hclos : closureFor scope (envX cn cs L a ccd cl) = pure [(("web" : Str), vc)]) (hcell : ∀ y ∈ scope.names, y.2 ≠ .cell) (hkind : scope.kind = .function)
    (hnames : ∀ y ∈ scope.names, y.2 = .local → scope.names.lookup y.1 = some .local) (hx : scope.names.lookup ("one" : Str) = some NameKind.local) (hy : scope.names.lookup ("other" : Str) = some NameKind.local)
    (kv : (relabel scope (envX cn cs L a ccd cl)).names.lookup ("web" : Str) = some NameKind.cell)
    (h : ∀ D h' tk, Fr h₀ L h' m → Kp s.heap h' → h'.get? D = some (listOf #[] 0) → Q (.ref D) { s with heap := h', toks := tk })
    (hline : (p4.endLine == p7.line) = true)
    (hs : ∀ x, foldedSetIterable (.Call (.Name "zip" p9) [.Name "path" p10, .Subscript (.Name "path" p11) (.Slice (some (.Constant (.int 1) k2 p12)) none none p13) p14] [] p15) (envX cn cs L a ccd cl) x = pure x := by intro _; rfl) :
    wpAny (model prog w) A (eval (.ListComp (.Constant (.int 1) k1 p1) [⟨.Tuple [.Name "one" p2, .Name "other" p8] k3 p16, .Call (.Name "zip" p9) [.Name "path" p10, .Subscript (.Name "path" p11) (.Slice (some (.Constant (.int 1) k2 p12)) none none p13) p14] [] p15,
      [.Compare (.Name "other" p17) [.NotIn] [.Call (.Attribute (.Name "web" p3) "get" p4) [.Name "one" p5, .Dict [] [] p6] [] p7] p18], 0⟩] scope pos) (envX cn cs L a ccd cl)) Q (fun _ _ => False) s := by
  rw [eval_ListComp]
  refine wpAny_comprehension_free (use := none) rfl hs hclos hkind hnames ?_
  refine Call_ (nameB F C B.zip.1 B.zip.2 (PyProof.Rows.callWith_type1 (args_cons (nameX_L F hpath (args_cons (Subscript_ (nameX_L F hpath (wpAny_Slice ?_) hcs kpath))) hcs kpath))) hcs kzip)
  refine wpAny_Constant_int (k := k2) (pos := p12) (wpAny_pure (wpAny_pure ?_))
  have hL : s.heap.IsList la vs.toArray := ⟨_, hl, rfl, _, rfl⟩
  have hvl : vs.length = p.length := hi.length
  refine sliceG F hL (.int _ _) .none ?_ (hsz := szOk (by rw [List.size_toArray]; omega))
  intro h1 la2 F1 k1 O1 szD
  refine args_nil ?_
  have hi2 := slice_ints_fromW hi (x := 1) (by decide)
  generalize hys : slicePick vs.toArray (some 1) none none = ys at O1 hi2
  dsimp only
  refine zip_rows F1 (hL.at fun o e => k1 _ o e) (ys := ys) ⟨_, O1.1, rfl, _, rfl⟩ ?_
  rintro h2 z TI TO i1 i2 D hst F2 k2 sz1 sz2 sz3 sz4 -
  have k12 : Kp s.heap h2 := k1.trans k2
  have hlt : s.heap.objs.size ≤ h1.objs.size := Nat.le_trans szD (Nat.le_of_lt O1.lt)
  refine wpAny_pyIter_zip hst.1 ?_
  obtain ⟨hz, hTI, ⟨ta, tb, hTO⟩, ⟨o1, e1, c1, d1⟩, ⟨o2, e2, c2, d2⟩, ⟨ol1, el1, cl1, dl1⟩, ⟨ol2, el2, cl2, dl2⟩⟩ := id hst
  have fresh : ∀ b, h1.objs.size ≤ b → ∀ b', b' < s.heap.objs.size → b' ≠ b := fun b hb b' hb' => Nat.ne_of_lt (Nat.lt_of_lt_of_le hb' (Nat.le_trans hlt hb))
  have hwr : ∀ b, b < s.heap.objs.size → b ∉ [z, TO, i1, i2] := by
    intro b hb hm
    simp only [List.mem_cons, List.not_mem_nil, or_false] at hm
    rcases hm with rfl | rfl | rfl | rfl
    · exact fresh _ sz1 _ hb rfl
    · exact fresh _ sz2 _ hb rfl
    · exact fresh _ sz3 _ hb rfl
    · exact fresh _ sz4 _ hb rfl
  refine zipBlock hh (WalksT.zip2 hh z TI TO i1 i2 la la2 D vs.toArray ys) hcell hkind hx hy (by decide) (fun i vals q => let ⟨x, y, _, _, e⟩ := q; ⟨x, y, e⟩) hst ?_ ?_ ?_
  · intro b hb
    simp only [List.mem_cons, List.not_mem_nil, or_false] at hb
    rcases hb with rfl | rfl | rfl | rfl | rfl | rfl | rfl
    · exact Heap.lt_size hz
    · exact Heap.lt_size hTI
    · exact Heap.lt_size hTO
    · exact Heap.lt_size e1
    · exact Heap.lt_size e2
    · exact Heap.lt_size el1
    · exact Heap.lt_size el2
  · rintro Cc i x y s₃ m₃ E' hC ⟨x', y', hx', hy', e⟩ hns hmx hmy hkp
    obtain ⟨rfl, rfl⟩ : x = x' ∧ y = y' := by simpa using congrArg Array.toList e
    obtain ⟨u, tu, hu, rfl⟩ := intsAt hi hx'
    obtain ⟨v, tv, hv, rfl⟩ := intsAt (vs := ys.toList) hi2 (by simpa using hy')
    have hv' : p[i + 1]? = some v := by
      rw [List.getElem?_drop] at hv
      rw [Nat.add_comm]
      exact hv
    have hin := hstep i u v hu hv'
    have ks : Kp s.heap s₃.heap := fun b o e => hkp b o (hwr b (Heap.lt_size e)) (k12 b o e)
    have hc3 : s₃.heap.IsCell vc (some (.ref ga)) := ⟨co, ks _ _ Oc.1, hco⟩
    have hszz : s.heap.objs.size ≤ s₃.heap.objs.size := Nat.le_trans hlt (Nat.le_trans sz1 (Nat.le_trans (Nat.le_of_lt (Heap.lt_size hz)) (Nat.le_trans hC (Nat.le_of_lt hns.lt))))
    rw [List.forIn_cons]
    simp only [if_true]
    refine wpAny_bind (wpAny_bind (wpAny_isTrue_Compare1 (wpAny_Name (wpAny_loadName_local hkind (lookup_relabel_local hy) hns hmy (getNbG2 W ks (Nat.lt_trans (Nat.lt_of_lt_of_le hbig F.above) (frLt F)) hszz (fun Q' q => wpAny_Name (wpAny_loadName_cell hkind kv rfl hc3 q)) (fun Q' q => wpAny_Name (wpAny_loadName_local hkind (lookup_relabel_local hx) hns hmx q)) ?_ hline)))))
    intro d kvd h4 tk4 k4 sz4' hd lod hkd hdd
    refine notInG hd lod (wpAny_truthy_bool (wpAny_pure ?_))
    dsimp only
    rw [List.forIn_nil]
    refine wpAny_pure ⟨?_, h4, _, rfl, fun b o e => k4 b o e⟩
    rw [valueAt_some, hkd]
    simp [hin]
  · rintro Dd Cc h3 tk3 m' hDn hCn hDC hn hD hk3
    have kk : Kp s.heap h3 := fun b o e => hk3 b o (hwr b (Heap.lt_size e)) (k12 b o e)
    refine ⟨m', hn, fun h'' hs'' => ?_⟩
    have kk' : Kp s.heap h'' := fun b o e => (hs''.2 b (by rintro rfl; rw [k12 _ _ e] at hCn; cases hCn)).trans (kk b o e)
    exact h Dd h'' _ (Fr.kp F kk') kk' ((hs''.2 _ hDC).trans hD)
end
end FE

namespace FE

section
variable {prog : Program} {w : World} {A : Around} {E : Value → Shared → Prop} {s : Shared} {h₀ : Heap} {L : Addr} {m : Str → Option Value}

theorem sortedK {d : Addr} {kvs : List (Int × Value)} {Q : Value → Shared → Prop} (hh : A.handled = none) (F : Fr h₀ L s.heap m) (hd : s.heap.DictOf (intKind prog w) d kvs) (lo : (d == sysModules) = false) (hlen : kvs.length ≤ 60)
    (h : ∀ h' tk D vs ns n, Fr h₀ L h' m → Kp s.heap h' → h'.get? D = some (listOf (List.toArray vs) n) → IntsAre vs ns → ns.Perm (ksOf kvs) → ns.Pairwise (· ≤ ·) → Q (.ref D) { s with heap := h', toks := tk }) :
    wpAny (model prog w) A (call (.builtin "sorted") [.ref d]) Q E s := by
  obtain ⟨ep, hat⟩ := hd.dictAt
  refine call_function_entry kind_sorted plain_sorted entry_sorted (args_sorted1 _) ?_
  unfold Builtin.«sorted»
  refine wpAny_bind (m := checkCount "sorted" 1 1 _) (wpAny_pure ?_)
  refine wpAny_bind (kdu_collect (A := A.in1) (kdl_dict (knd := intKind prog w) lo) hh hat (szOk (by omega)) fun h1 tk1 acc k1 hacc => ?_)
  have hl : acc.toList.length = kvs.length := by rw [Array.length_toList]; exact hacc.1
  refine wpAny_bind (wpAny_newList ?_ (by rw [hl]; exact szOk (by omega)))
  have hI : IntsAre acc.toList (ksOf kvs) := by
    refine intsOf (by rw [hl, List.length_map]) fun j v e => ?_
    obtain ⟨k, x, hk, hkv⟩ := hacc.2 j v (by rw [← Array.getElem?_toList]; exact e)
    obtain ⟨t, rfl⟩ := Value.isInt_shape hkv
    exact ⟨k, t, by rw [List.getElem?_map, hk]; rfl, rfl⟩
  have F1 : Fr h₀ L h1 m := F.after k1
  have F2 : Fr h₀ L (h1.push (listOf acc.toList.toArray 0)) m := F1.push _
  have OD : Own h₀ L (h1.push (listOf acc.toList.toArray 0)) h1.objs.size (listOf acc.toList.toArray 0) := newSize F1
  have hk2 : Kp s.heap (h1.push (listOf acc.toList.toArray 0)) := fun b o e => Heap.get?_push_of_some _ (k1 b o e)
  have hlt : ∀ b o, s.heap.get? b = some o → b ≠ h1.objs.size := fun b o e => Nat.ne_of_lt (Heap.lt_size (k1 b o e))
  refine wpAny_bind (wpAny_holding ?_)
  refine wpAny_call_entry PyProof.Rows.slot_list_sort ⟨_, OD.1, rfl⟩ PyProof.Rows.entry_list_sort (list_sort_tree OD.1 hI (by omega) fun out ns' hI' hp hP => ?_) (PyProof.Rows.args_list_sort _)
  obtain ⟨e, he⟩ := sortedHeap_at (out := out) OD.1
  refine ⟨_, rfl, ?_⟩
  refine wpAny_pure ⟨_, rfl, ?_⟩
  have old : ∀ b o, b ≠ h1.objs.size → (h1.push (listOf acc.toList.toArray 0)).get? b = some o → (sortedHeap (h1.push (listOf acc.toList.toArray 0)) h1.objs.size acc.toList out).get? b = some o := fun b o hb e => by rw [sortedHeap_old hb (Heap.lt_size e)]; exact e
  have kk : Kp s.heap (sortedHeap (h1.push (listOf acc.toList.toArray 0)) h1.objs.size acc.toList out) := fun b o e => old b o (hlt b o e) (hk2 b o e)
  exact h _ _ h1.objs.size out.toList ns' e (F.after kk) kk he hI' hp hP
end
end FE

namespace FE

section
variable {prog : Program} {w : World}

theorem nsNeDict {h : Heap} {a : Addr} {m : Str → Option Value} {x : Str} {v : Value} {kvs : List (Int × Value)} (hn : h.Ns a m) (hx : m x = some v) (hd : h.DictOf (intKind prog w) a kvs) : False := by
  obtain ⟨o, es, ep, ho, hdt, hS, hf⟩ := hn
  obtain ⟨o', ho', es', ep', hex, hdt', hK, _⟩ := Heap.dictOf_iff.mp hd
  rw [ho] at ho'
  cases ho'
  rw [hdt] at hdt'
  cases hdt'
  have h1 := hf x
  rw [hx] at h1
  by_cases he : es = #[]
  · subst he
    rw [show nsFind #[] x = none from by simp [nsFind, findBy]] at h1
    cases h1
  · obtain ⟨e, hm⟩ := Array.exists_mem_of_ne_empty es he
    obtain ⟨n, t, e1⟩ := hS e hm
    obtain ⟨k, e2, _⟩ := hK e hm
    rw [e1] at e2
    obtain ⟨u, e3⟩ := Value.isInt_shape (show Value.isInt k (.str n t) = true from e2)
    cases e3

/-- a change of what is no such dict leaves the web -/
def DKp (prog : Program) (w : World) (h h' : Heap) : Prop := ∀ b kvs, h.DictOf (intKind prog w) b kvs → h'.DictOf (intKind prog w) b kvs
theorem DKp.trans {h h' h'' : Heap} (a : DKp prog w h h') (b : DKp prog w h' h'') : DKp prog w h h'' := fun _ _ e => b _ _ (a _ _ e)
theorem DKp.kp {h h' : Heap} (k : Kp h h') : DKp prog w h h' := fun _ _ e => e.keep k
theorem DKp.cell {h h' : Heap} {c : Addr} {o : Obj} {v : Option Value} (k : Heap.SameBut c h h') (ho : h.get? c = some o) (hd : o.data = .cell v) : DKp prog w h h' := fun b kvs e => by
  obtain ⟨ob, hob, hdb⟩ := Heap.dictOf_iff.mp e
  refine Heap.dictOf_iff.mpr ⟨ob, (k.2 b ?_).trans hob, hdb⟩
  rintro rfl
  rw [ho] at hob
  cases hob
  exact dictNeCell hdb hd
theorem DKp.gr {h h' : Heap} {L : Addr} {m : Str → Option Value} {x : Str} {v : Value} (k : Gr L h h') (hn : h.Ns L m) (hx : m x = some v) : DKp prog w h h' := fun b kvs e => by
  obtain ⟨ob, hob, hdb⟩ := Heap.dictOf_iff.mp e
  refine Heap.dictOf_iff.mpr ⟨ob, k b ob ?_ hob, hdb⟩
  rintro rfl
  exact nsNeDict hn hx e
theorem WebAt.dkp {h h' : Heap} {a : Addr} {g : Gph} (x : WebAt prog w h a g) (k : DKp prog w h h') : WebAt prog w h' a g :=
  let ⟨kvs, p, lo, q⟩ := x; ⟨kvs, k _ _ p, lo, pimp (fun _ _ r => ⟨r.1, let ⟨d, kv, a, b, c⟩ := r.2; ⟨d, kv, a, k _ _ b, c⟩⟩) q⟩

theorem dictNodup {h : Heap} {a : Addr} {kvs : List (Int × Value)} (hd : h.DictOf (intKind prog w) a kvs) : (ksOf kvs).Nodup := by
  obtain ⟨_, _, _, _, _, _, _, _, hn⟩ := Heap.dictOf_iff.mp hd
  exact hn
end

theorem flatAt {kvs : List (Int × Value)} {D : List (Int × Int)} {k : Int} (p : FlatI kvs D) (hk : k ∈ ksOf kvs) : ∃ d t, valueAt kvs k = some (.int d t) ∧ (k, d) ∈ D := by
  induction p with
  | nil => simp at hk
  | @cons a b l r ha hp ih =>
    obtain ⟨k', d'⟩ := b
    obtain ⟨e1, t, e2⟩ := ha
    dsimp only at e1 e2
    by_cases e : a.1 = k
    · refine ⟨d', t, ?_, ?_⟩
      · simp only [valueAt, List.find?_cons, e, decide_true, Option.map_some, e2]
      · rw [← e, e1]; exact List.mem_cons_self ..
    · have h1 : valueAt (a :: l) k = valueAt l k := by simp [valueAt, e]
      have hk' : k ∈ ksOf l := by
        rcases List.mem_cons.mp hk with q | q
        · exact absurd q.symm e
        · exact q
      obtain ⟨d, u, q1, q2⟩ := ih hk'
      exact ⟨d, u, h1.trans q1, List.mem_cons_of_mem _ q2⟩

theorem chain {g : Gph} {s v : Int} : ∀ {k : Nat}, Wk g s k v → (∀ j, Wk g s j v → k ≤ j) → ∃ l : List Int, l.length = k + 1 ∧ l.Nodup ∧ ∀ x ∈ l, ∃ i, i ≤ k ∧ Wk g s i x ∧ ∀ j, Wk g s j x → i ≤ j
  | 0, h, hm => ⟨[v], rfl, by simp, fun x hx => by rw [List.mem_singleton.mp hx]; exact ⟨0, Nat.le_refl _, h, hm⟩⟩
  | k + 1, h, hm => by
    obtain ⟨u, hu, hv⟩ := h.pred
    have hm' : ∀ j, Wk g s j u → k ≤ j := fun j hj => Nat.le_of_succ_le_succ (hm (j + 1) (.step hj hv))
    obtain ⟨l, h1, h2, h3⟩ := chain hu hm'
    refine ⟨v :: l, by simp [h1], List.nodup_cons.mpr ⟨fun hv' => ?_, h2⟩, fun x hx => ?_⟩
    · obtain ⟨i, hi, hw, _⟩ := h3 v hv'
      have := hm i hw
      omega
    · rcases List.mem_cons.mp hx with rfl | hx
      · exact ⟨k + 1, Nat.le_refl _, h, hm⟩
      · obtain ⟨i, hi, q⟩ := h3 x hx
        exact ⟨i, Nat.le_succ_of_le hi, q⟩
theorem wkRange {g : Gph} {s v : Int} {k : Nat} (hg : Small g) (h0 : 0 ≤ s) (h1 : s < 9) (h : Wk g s k v) : 0 ≤ v ∧ v < 9 := by
  cases h with
  | zero => exact ⟨h0, h1⟩
  | step _ hv => have := hg.rng _ _ hv; omega
theorem leastBound {g : Gph} {s v : Int} {k : Nat} (hg : Small g) (h0 : 0 ≤ s) (h1 : s < 9) (h : Wk g s k v) (hm : ∀ j, Wk g s j v → k ≤ j) : k ≤ 8 := by
  obtain ⟨l, e1, e2, e3⟩ := chain h hm
  have := nine e2 fun x hx => let ⟨_, _, hw, _⟩ := e3 x hx; wkRange hg h0 h1 hw
  omega

theorem Pth.ends {g : Gph} {s e : Int} {p : List Int} (h : Pth g s p e) : p[0]? = some s ∧ ∃ q, p = q ++ [e] := by
  induction h with
  | one => exact ⟨rfl, [], rfl⟩
  | @snoc p u v hp hv ih =>
    refine ⟨?_, p, rfl⟩
    obtain ⟨a, q, rfl⟩ := ih
    rw [List.getElem?_append_left (by simp)]
    exact a
theorem Pth.steps {g : Gph} {s e : Int} {p : List Int} (h : Pth g s p e) : ∀ (i : Nat) (x y : Int), p[i]? = some x → p[i + 1]? = some y → y ∈ nb g x := by
  induction h with
  | one => intro i x y _ hy; simp at hy
  | @snoc p u v hp hv ih =>
    intro i x y hx hy
    obtain ⟨_, q, rfl⟩ := hp.ends
    by_cases hi : i + 1 < (q ++ [u]).length
    · rw [List.getElem?_append_left hi] at hy
      rw [List.getElem?_append_left (by omega)] at hx
      exact ih i x y hx hy
    · have hlt : i + 1 < (q ++ [u] ++ [v]).length := by
        rcases Nat.lt_or_ge (i + 1) (q ++ [u] ++ [v]).length with z | z
        · exact z
        · rw [List.getElem?_eq_none z] at hy; cases hy
      simp only [List.length_append, List.length_singleton] at hi hlt
      have e : i = q.length := by omega
      subst e
      have ex : x = u := by simpa using hx.symm
      have ey : y = v := by simpa using hy.symm
      rw [ex, ey]
      exact hv

/-- a shortest way has as many steps as the table of steps says -/
theorem shortLen {g : Gph} {s e d : Int} {p : List Int} {D : List (Int × Int)} (hg : Small g) (h0 : 0 ≤ s) (h1 : s < 9) (hs : Short g s e p) (hD : Dist g s D) (hm : (e, d) ∈ D) : (p.length : Int) = d + 1 ∧ p.length ≤ 9 := by
  obtain ⟨k, rfl, hk, hmin⟩ := hD.ok e d hm
  obtain ⟨n, hn, hw⟩ := hs.pth.walk
  have a := hmin n hw
  have b := hs.least k hk
  have c := leastBound hg h0 h1 hk hmin
  omega
theorem shortKey {g : Gph} {s e : Int} {p : List Int} {D : List (Int × Int)} (hs : Short g s e p) (hD : Dist g s D) : e ∈ D.map (·.1) := by
  obtain ⟨n, _, hw⟩ := hs.pth.walk
  exact hD.all e n hw
theorem noKey {g : Gph} {s e : Int} {D : List (Int × Int)} (h : ∀ k, ¬ Wk g s k e) (hD : Dist g s D) : e ∉ D.map (·.1) := by
  intro hm
  obtain ⟨⟨v, d⟩, hp, rfl⟩ := List.mem_map.mp hm
  obtain ⟨k, _, hk, _⟩ := hD.ok v d hp
  exact h k hk
theorem keysPerm {g : Gph} {s : Int} {D : List (Int × Int)} {ks : List Int} (hn : ks.Nodup) (hk : ∀ x, x ∈ ks ↔ ∃ k, Wk g s k x) (hD : Dist g s D) : ks.Perm (D.map (·.1)) := by
  rw [List.perm_ext_iff_of_nodup hn hD.nd]
  intro x
  rw [hk x]
  constructor
  · rintro ⟨k, h⟩; exact hD.all x k h
  · intro hm
    obtain ⟨⟨v, d⟩, hp, rfl⟩ := List.mem_map.mp hm
    obtain ⟨k, _, hk, _⟩ := hD.ok v d hp
    exact ⟨k, hk⟩
end FE

namespace FE

section
variable {prog : Program} {w : World} {A : Around} {s : Shared} {h₀ : Heap} {L f : Addr} {m : Str → Option Value} {cd : Value} {mg mb : Str → Option Value}

abbrev lawEnv (L f : Addr) (cd : Value) : Env := envX (nm 7) (scp 7) L f cd (cellsFrom (L + 1) (scp 7).names [])

def lawOut (s : Shared) (h₀ : Heap) (L : Addr) (fl : Flow) (s' : Shared) : Prop :=
  ∃ h' tk m', fl = .ret (.bool true) ∧ s' = { s with heap := h', toks := tk } ∧ Fr h₀ L h' m'

theorem callWithGD {env : Env} {pos : Pos} {f : Addr} {i : Nat} {h₁ : Heap} {e : Expr} {rest : List Expr} {Q : Value → Shared → Prop} {E : Value → Shared → Prop} (hf : FnAtD h₁ f i)
    (h : wpAny (model prog w) A (spliced (backTo pos (starEach (e :: rest) env))) (fun vs s₁ => Kp h₁ s₁.heap ∧ wpAny (model prog w) A (call (.ref f) vs) Q E s₁) E s)
    (he : starEach (e :: rest) env = (false, eval e env) :: starEach rest env := by rfl) :
    wpAny (model prog w) A (callWith pos (.ref f) [] (backTo pos (starEach (e :: rest) env)) []) Q E s := by
  obtain ⟨o, pm, cd, doc, T, oT, n, ho, hd, hc⟩ := hf
  exact callWith_def hd (wpAny_mono h (fun vs s₁ x => ⟨x.1 _ _ ho, x.2⟩) fun _ _ x => x) he

theorem flatLen {kvs : List (Int × Value)} {D : List (Int × Int)} {g : Gph} {st : Int} (p : FlatI kvs D) (hD : Dist g st D) : kvs.length ≤ 9 := by
  rw [pairedLen p]
  have := nine hD.nd hD.rng
  simpa using this

set_option maxHeartbeats 4000000 in
theorem law_tail {f2 fd dS : Addr} {co : Obj} {g : Gph} {st : Int} {ts : Tok} {kvsS : List (Int × Value)} {D : List (Int × Int)} (hh : A.handled = none) (hroom : A.depth < recursionLimit) (hu : A.units + 64 < cLine) (C : Cx mg mb h₀) (B : Bl mg mb)
    (F : Fr h₀ L s.heap m) (hbig : sysModules < h₀.objs.size) (g2 : FnAtD h₀ f2 2) (e2 : mg "find_connected_nodes" = some (.ref f2)) (Oc : Own h₀ L s.heap (L + 1) co) (hco : co.data = .cell (some (.ref fd)))
    (W : WebAt prog w s.heap fd g) (hg : Small g) (hst : m "start" = some (.int st ts)) (h0 : 0 ≤ st) (h1 : st < 9) (hsteps : m "steps" = some (.ref dS)) (hdS : s.heap.DictOf (intKind prog w) dS kvsS) (loS : (dS == sysModules) = false)
    (hfl : FlatI kvsS D) (hD : Dist g st D) :
    wpAny (model prog w) A (execs ((body 7).drop 5) (lawEnv L f cd)) (lawOut s h₀ L) (fun _ _ => False) s := by
  refine wpAny_execs_cons (wpAny_Assign_Name (Call_ (nameG F C e2 (callWithGD g2 (args_cons (ldCellG Oc hco rfl (args_cons (nameX_L F hst (args_nil ⟨F.keep, callB (fcn_call (g := g) hh hroom (Nat.lt_trans (Nat.lt_of_lt_of_le hbig F.above) (frLt F)) (C.nolimit.keeps F.keep) (g2.keeps F.keep) W hg h0 h1) ?_⟩)))))))))
  intro v h2 tk2 k2 hP
  have F2 := Fr.kp F k2
  have Oc2 := Oc.gr (k2.gr L)
  refine stG F2 fun h3 F3 g3 => ?_
  dsimp only
  have Oc3 := Oc2.gr g3
  have W2 := W.keeps k2
  have dk : DKp prog w h2 h3 := DKp.gr g3 F2.ns hst
  have W3 := W2.dkp dk
  have hdS3 := dk _ _ (hdS.keep k2)
  obtain ⟨kw, hdw, low, hpw⟩ := id W3
  refine wpAny_execs_cons (wpAny_If (wpAny_isTrue_Compare1 (nameX_L F3 hst (ldCellG Oc3 hco rfl (notInG hdw low (wpAny_truthy_bool ?_))))))
  rw [valueAt_some, paired_keys hpw]
  by_cases hk : st ∈ g.map (·.1)
  · refine iteF (by rw [decide_eq_true hk]; rfl) (wpAny_execs_nil ?_)
    rcases hP with ⟨_, hno⟩ | ⟨_, d, kvs, rfl, hdT, loT, hall⟩
    · exact absurd hk hno
    have hdT3 := dk _ _ hdT
    have hperm := keysPerm (dictNodup hdT) hall hD
    have hlenT : kvs.length ≤ 60 := by
      have e1 := hperm.length_eq
      have e2 := flatLen hfl hD
      rw [pairedLen hfl] at e2
      simp only [List.length_map] at e1
      omega
    refine wpAny_execs_cons (wpAny_Return_some (wpAny_Compare1 (Call_ (nameB F3 C B.sorted.1 B.sorted.2 (callWith_builtin1 (args_cons (nameX_L F3 rfl (args_nil (sortedK hh F3 hdT3 loT hlenT ?_)))))))))
    intro h4 tk4 D1 vs1 ns1 n1 F4 k4 hD1 hi1 hp1 ho1
    dsimp only
    refine Call_ (nameB F4 C B.sorted.1 B.sorted.2 (callWith_builtin1 (args_cons (nameX_L F4 hsteps (args_nil (sortedK hh F4 (hdS3.keep k4) loS (Nat.le_trans (flatLen hfl hD) (by decide)) ?_))))))
    intro h5 tk5 D2 vs2 ns2 n2 F5 k5 hD2 hi2 hp2 ho2
    dsimp only
    refine ke_eq_ints ⟨_, k5 _ _ hD1, rfl, _, rfl⟩ ⟨_, hD2, rfl, _, rfl⟩ hi1 hi2 hu ?_
    have e : ns1 = ns2 := by
      refine ksm_same (hp1.trans (hperm.trans ?_)) ho1 ho2
      rw [← hfl.keys]
      exact hp2.symm
    rw [decide_eq_true e]
    exact ⟨h5, _, _, rfl, rfl, F5⟩
  · refine iteT (by rw [decide_eq_false hk]; rfl) ?_
    rcases hP with ⟨rfl, _⟩ | ⟨hyes, _⟩
    · refine wpAny_execs_cons (wpAny_Return_some (wpAny_Compare1 (nameX_L F3 rfl (constNone (is_none_none ?_)))))
      exact ⟨h3, _, _, rfl, rfl, F3⟩
    · exact absurd hyes hk

theorem itemDictG {value slice : Expr} {d : Addr} {kvs : List (Int × Value)} {k : Int} {t : Tok} {v : Value} {E : Value → Shared → Prop} {Q : Value → Shared → Prop} (hd : s.heap.DictOf (intKind prog w) d kvs) (hv : valueAt kvs k = some v) (h : Q v { s with toks := s.toks + 1 })
    (hs : subscripted slice false (.ref d) (.int k t) = operate [.ref d, .int k t] (getItem (.ref d) (.int k t)) := by with_unfolding_all rfl) (hg : ∀ r, letTemporaryGo value (.ref d) r = pure () := by intro _; with_unfolding_all rfl) :
    wpAny (model prog w) A (subscriptTail value slice (.ref d) (.int k t)) Q E s :=
  subscriptTail_builtin hd.typeIs slot_dict_getitem.lookup (wpAny_getItem_of (intKind_is prog w k t) hd.mapOf hv h) hs hg

theorem getD0 {p : List Int} {x : Int} (h : p[0]? = some x) : p.getD (0 : Int).toNat 0 = x := by
  simp [List.getD, h]
theorem getDlast {q : List Int} {x : Int} : (q ++ [x]).getD (-1 + ((q ++ [x]).length : Int)).toNat 0 = x := by
  have e : (-1 + ((q ++ [x]).length : Int)).toNat = q.length := by
    rw [List.length_append, List.length_singleton]
    omega
  rw [e]
  simp [List.getD]
theorem lenPos {p : List Int} {x : Int} (h : p[0]? = some x) : (0 : Int) < (p.length : Int) := by
  cases p with
  | nil => simp at h
  | cons a l => simp only [List.length_cons]; omega
theorem negOne {n : Nat} (h : (0 : Int) < (n : Int)) : -(n : Int) ≤ -1 := by omega
theorem fit9 {n : Nat} (h : n ≤ 9) : (n : Int) < 2 ^ 63 := by omega

set_option maxHeartbeats 4000000 in
theorem law_mid {f2 fd dS : Addr} {co : Obj} {g : Gph} {st e : Int} {ts te : Tok} {kvsS : List (Int × Value)} {D : List (Int × Int)} {v : Value} (hh : A.handled = none) (hroom : A.depth < recursionLimit) (hu : A.units + 64 < cLine) (C : Cx mg mb h₀) (B : Bl mg mb)
    (F : Fr h₀ L s.heap m) (hbig : sysModules < h₀.objs.size) (g2 : FnAtD h₀ f2 2) (e2 : mg "find_connected_nodes" = some (.ref f2)) (Oc : Own h₀ L s.heap (L + 1) co) (hco : co.data = .cell (some (.ref fd)))
    (W : WebAt prog w s.heap fd g) (hg : Small g) (hst : m "start" = some (.int st ts)) (hgo : m "goal" = some (.int e te)) (h0 : 0 ≤ st) (h1 : st < 9) (hsteps : m "steps" = some (.ref dS)) (hdS : s.heap.DictOf (intKind prog w) dS kvsS) (loS : (dS == sysModules) = false)
    (hfl : FlatI kvsS D) (hD : Dist g st D) (hpath : m "path" = some v) (hP : FspP g st e v s.heap) :
    wpAny (model prog w) A (execs ((body 7).drop 3) (lawEnv L f cd)) (lawOut s h₀ L) (fun _ _ => False) s := by
  rcases hP with ⟨rfl, hno⟩ | ⟨d, p, vs, n, rfl, hl, hi, hs⟩
  · have hk := noKey hno hD
    refine wpAny_execs_cons (wpAny_If (wpAny_isTrue_Compare1 (wpAny_Compare1 (nameX_L F hpath (constNone (is_none_none (wpAny_Compare1 (nameX_L F hgo (nameX_L F hsteps (notInG hdS loS (ne_bool (wpAny_truthy_bool ?_))))))))))))
    rw [valueAt_some, hfl.keys]
    refine iteF (by rw [decide_eq_false hk]; rfl) (wpAny_execs_nil ?_)
    refine wpAny_execs_cons (wpAny_If (wpAny_isTrue_Compare1 (nameX_L F hpath (constNone (isnot_none_none (wpAny_truthy_bool ?_))))))
    refine iteF rfl (wpAny_execs_nil ?_)
    exact law_tail (g := g) (s := { s with toks := s.toks + 1 }) hh hroom hu C B F hbig g2 e2 Oc hco W hg hst h0 h1 hsteps hdS loS hfl hD
  · have hk := shortKey hs hD
    obtain ⟨hp0, q, hq⟩ := hs.pth.ends
    obtain ⟨d', t', hv, hm⟩ := flatAt hfl (k := e) (by rw [hfl.keys]; exact hk)
    obtain ⟨hlen, hlen9⟩ := shortLen hg h0 h1 hs hD hm
    have hvl : vs.length = p.length := hi.length
    have hL : s.heap.IsList d vs.toArray := ⟨_, hl, rfl, _, rfl⟩
    refine wpAny_execs_cons (wpAny_If (wpAny_isTrue_Compare1 (wpAny_Compare1 (nameX_L F hpath (constNone (is_ref_none (wpAny_Compare1 (nameX_L F hgo (nameX_L F hsteps (notInG hdS loS (ne_bool (wpAny_truthy_bool ?_))))))))))))
    rw [valueAt_some, hfl.keys]
    refine iteF (by rw [decide_eq_true hk]; rfl) (wpAny_execs_nil ?_)
    refine wpAny_execs_cons (wpAny_If (wpAny_isTrue_Compare1 (nameX_L F hpath (constNone (isnot_ref_none (wpAny_truthy_bool ?_))))))
    refine iteT rfl ?_
    refine wpAny_execs_cons (wpAny_If (isTrue_or (wpAny_isTrue_Compare1 (Subscript_ (nameX_L F hpath (wpAny_Constant_int (item_list_ints hL hi (by decide) (lenPos hp0) (by decide) fun t => ?_)))))))
    rw [getD0 hp0]
    refine nameX_L F hst (ne_int (wpAny_truthy_bool (iteF (by simp) ?_)))
    refine isTrue_or (wpAny_isTrue_Compare1 (Subscript_ (nameX_L F hpath (UnaryOp_ (wpAny_Constant_int (neg_int (item_list_ints_neg hL hi (by decide) (negOne (lenPos hp0)) (by decide) fun t2 => ?_)))))))
    have eL : p.getD (-1 + (p.length : Int)).toNat 0 = e := by rw [hq]; exact getDlast
    rw [eL]
    refine nameX_L F hgo (ne_int (wpAny_truthy_bool (iteF (by simp) ?_)))
    refine isTrue_or (wpAny_isTrue_Compare1 (Call_ (nameB F C B.len.1 B.len.2 (callWith_builtin1 (args_cons (nameX_L F hpath (args_nil (call_len_list hL (by rw [List.size_toArray, hvl]; exact fit9 hlen9) ?_))))))))
    refine wpAny_BinOp (Subscript_ (nameX_L F hsteps (nameX_L F hgo (itemDictG hdS hv (wpAny_Constant_int (add_int (ne_int (wpAny_truthy_bool (iteF ?_ ?_)))))))))
    · rw [List.size_toArray, hvl, hlen]
      simp
    refine isTrue_or_nil (iteF rfl (wpAny_execs_nil ?_))
    dsimp only
    refine wpAny_execs_cons (wpAny_If (wpAny_isTrue_Compare1 (compZG hh hbig C B F W rfl hpath rfl rfl Oc hco hl hi (Nat.le_trans hlen9 (by decide)) hs.pth.steps rfl (by decide) rfl (by decide) rfl rfl rfl ?_ rfl)))
    intro Dz h2 tk2 F2 k2 hDz
    refine List_ (args_nil (newListG F2 ?_ (szOk (by simp))))
    intro h3 Dy F3 k3 O3 sz3
    refine ke_ne_ints (xs := []) (ys := []) ⟨_, k3 _ _ hDz, rfl, _, rfl⟩ ⟨_, O3.1, rfl, _, rfl⟩ .nil .nil hu (wpAny_truthy_bool (iteF rfl (wpAny_execs_nil (wpAny_execs_nil ?_))))
    have kk := k2.trans k3
    dsimp only
    exact law_tail (g := g) (s := { s with heap := h3, toks := tk2 }) hh hroom hu C B F3 hbig g2 e2 (Oc.gr (kk.gr L)) hco (W.keeps kk) hg hst h0 h1 hsteps (hdS.keep kk) loS hfl hD
end
end FE

namespace FE

theorem many1 {M : Nat} : (M : Int) + 1 ≠ 0 := by omega
theorem modS (x : Int) {M : Nat} (h : M ≤ 8) : 0 ≤ x.fmod ((M : Int) + 1) ∧ x.fmod ((M : Int) + 1) < 9 := by
  have e : x.fmod ((M : Int) + 1) = x % ((M : Int) + 1) := Int.fmod_eq_emod_of_nonneg _ (by omega)
  rw [e]
  have a := Int.emod_nonneg x (b := (M : Int) + 1) (by omega)
  have b := Int.emod_lt_of_pos x (b := (M : Int) + 1) (by omega)
  omega

section
variable {prog : Program} {w : World} {A : Around} {s : Shared} {h₀ : Heap} {L f : Addr} {m : Str → Option Value} {cd : Value} {mg mb : Str → Option Value}

theorem listNeL {h : Heap} {a : Addr} {m : Str → Option Value} {xs : Array Value} {n : Nat} {d : Addr} (hn : h.Ns a m) (hd : h.get? d = some (listOf xs n)) : d ≠ a := by
  rintro rfl
  obtain ⟨o, es, ep, ho, hdt, _⟩ := hn
  rw [ho] at hd
  cases hd
  cases hdt
theorem FspP.gr {g : Gph} {st e : Int} {v : Value} {h h' : Heap} {m : Str → Option Value} (p : FspP g st e v h) (hn : h.Ns L m) (k : Gr L h h') : FspP g st e v h' := by
  rcases p with p | ⟨d, q, vs, n, rfl, hl, hi, hs⟩
  · exact .inl p
  · exact .inr ⟨d, q, vs, n, rfl, k _ _ (listNeL hn hl) hl, hi, hs⟩
theorem FspP.kp {g : Gph} {st e : Int} {v : Value} {h h' : Heap} (p : FspP g st e v h) (k : Kp h h') : FspP g st e v h' := by
  rcases p with p | ⟨d, q, vs, n, rfl, hl, hi, hs⟩
  · exact .inl p
  · exact .inr ⟨d, q, vs, n, rfl, k _ _ hl, hi, hs⟩

set_option maxHeartbeats 8000000 in
theorem law_body {f1 f2 f4 f5 f6 sl : Addr} {vs : List Value} {ns : List Int} {c0 : Obj} (hh : A.handled = none) (hroom : A.depth + 1 < recursionLimit) (hu : A.units + 110 < cLine) (C : Cx mg mb h₀) (B : Bl mg mb)
    (F : Fr h₀ L s.heap m) (hbig : sysModules < h₀.objs.size) (g1 : FnAt h₀ f1 1) (e1 : mg "find_shortest_path" = some (.ref f1)) (g2 : FnAtD h₀ f2 2) (e2 : mg "find_connected_nodes" = some (.ref f2))
    (g4 : FnAt h₀ f4 4) (e4 : mg "_law_cell" = some (.ref f4)) (g5 : FnAt h₀ f5 5) (e5 : mg "_law_web" = some (.ref f5)) (g6 : FnAt h₀ f6 6) (e6 : mg "_law_steps" = some (.ref f6))
    (hsc : m "script" = some (.ref sl)) (hl : h₀.IsList sl vs.toArray) (hi : IntsAre vs ns) (hlen : ns.length ≤ 63) (Oc : Own h₀ L s.heap (L + 1) c0) (hc0 : c0.data = .cell none) :
    wpAny (model prog w) A (execs (body 7) (lawEnv L f cd)) (lawOut s h₀ L) (fun _ _ => False) s := by
  have hroom' : A.depth < recursionLimit := Nat.lt_of_succ_lt hroom
  have big : ∀ {h : Heap} {m' : Str → Option Value}, Fr h₀ L h m' → sysModules < h.objs.size := fun F' => Nat.lt_trans (Nat.lt_of_lt_of_le hbig F'.above) (frLt F')
  have lst : ∀ {h : Heap}, Kp h₀ h → h.IsList sl vs.toArray := fun k => hl.at fun o e => k sl o e
  refine wpAny_execs_cons (tupAsg hh (Call_ (nameG F C e5 (callWithG g5 (args_cons (nameX_L F hsc (args_nil ⟨F.keep, callB (web_call (ns := ns) hh hroom (big F) (C.keeps F.keep) B (g5.keeps F.keep) (g4.keeps F.keep) e4 (lst F.keep) hi hlen) ?_⟩)))))))
  rintro _ h1 tk1 k1 ⟨t, fd, tm, g, M, rfl, hT, W1, hg, hM⟩
  have F1 := Fr.kp F k1
  refine ⟨t, #[.ref fd, .int M tm], rfl, ⟨_, hT, rfl, 0, rfl⟩, rfl, fun h2 k2 => ?_⟩
  have F2 := Fr.kp F1 k2
  have Oc2 := Oc.gr ((k1.trans k2).gr L)
  have W2 := W1.keeps k2
  dsimp only
  refine assignInOrder_cons (wpAny_assign_Name (stCellG F2 Oc2 hc0 rfl ?_))
  intro h3 co F3 c3 O3 hco
  have W3 := W2.dkp (DKp.cell c3 Oc2.1 hc0)
  refine assignInOrder_cons (wpAny_assign_Name (stG F3 fun h4 F4 g4' => assignInOrder_nil ?_))
  have W4 := W3.dkp (DKp.gr g4' F3.ns hsc)
  have O4 := O3.gr g4'
  dsimp only
  refine wpAny_execs_cons (swapAsg hh (args_cons (wpAny_BinOp (Call_ (nameG F4 C e4 (callWithG g4 (args_cons (nameX_L F4 hsc (args_cons (wpAny_Constant_int (args_nil ⟨F4.keep, callB (cell_call (ns := ns) (k := 1) (g4.keeps F4.keep) (C.keeps F4.keep) B hroom' (lst F4.keep) hi (by omega) hlen) ?_⟩)))))))))))
  rintro _ h5 tk5 k5 ⟨x1, u1, rfl, hx1⟩
  have F5 := Fr.kp F4 k5
  dsimp only
  refine wpAny_BinOp (nameX_L F5 rfl (wpAny_Constant_int (add_int (mod_int many1 (args_cons (wpAny_BinOp (Call_ (nameG F5 C e4 (callWithG g4 (args_cons (nameX_L F5 hsc (args_cons (wpAny_Constant_int (args_nil ⟨F5.keep, callB (cell_call (ns := ns) (k := 2) (g4.keeps F5.keep) (C.keeps F5.keep) B hroom' (lst F5.keep) hi (by omega) hlen) ?_⟩))))))))))))))
  rintro _ h6 tk6 k6 ⟨x2, u2, rfl, hx2⟩
  have F6 := Fr.kp F5 k6
  dsimp only
  refine wpAny_BinOp (nameX_L F6 rfl (wpAny_Constant_int (add_int (mod_int many1 (args_nil ⟨rfl, by simp, fun h7 k7 => ?_⟩)))))
  have F7 := Fr.kp F6 k7
  obtain ⟨a0, a1⟩ := modS x1 hM
  generalize x1.fmod ((M : Int) + 1) = start at a0 a1 ⊢
  generalize x2.fmod ((M : Int) + 1) = goal
  dsimp only
  refine assignInOrder_cons (bindName_ (stG F7 fun h8 F8 g8 => assignInOrder_cons (bindName_ (stG F8 fun h9 F9 g9 => assignInOrder_nil ?_))))
  dsimp only
  have k47 := k5.trans (k6.trans k7)
  have W9 := (W4.keeps k47).dkp ((DKp.gr g8 F7.ns (x := "script") hsc).trans (DKp.gr g9 F8.ns (x := "script") hsc))
  have O9 := O4.gr ((k47.gr L).trans (g8.trans g9))
  refine wpAny_execs_cons (swapAsg hh (args_cons (Call_ (nameG F9 C e6 (callWithG g6 (args_cons (ldCellG O9 hco rfl (args_cons (nameX_L F9 rfl (args_nil ⟨F9.keep, callB (steps_call (g := g) hh hroom' hu (big F9) (C.keeps F9.keep) B (g6.keeps F9.keep) W9 hg a0 a1) ?_⟩))))))))))
  rintro _ h10 tk10 k10 ⟨dS, kvsS, D, rfl, hdS, hfl, hD, loS⟩
  have F10 := Fr.kp F9 k10
  have O10 := O9.gr (k10.gr L)
  have W10 := W9.keeps k10
  dsimp only
  refine args_cons (Call_ (nameG F10 C e1 (callWithG g1 (args_cons (ldCellG O10 hco rfl (args_cons (nameX_L F10 rfl (args_cons (nameX_L F10 rfl (args_nil ⟨F10.keep, callB (fsp_call (g := g) hh hroom' (big F10) (C.nolimit.keeps F10.keep) (g1.keeps F10.keep) W10 hg a0 a1) ?_⟩))))))))))
  intro v h11 tk11 k11 hP
  have F11 := Fr.kp F10 k11
  dsimp only
  refine args_nil ⟨rfl, by simp, fun h12 k12 => ?_⟩
  have F12 := Fr.kp F11 k12
  dsimp only
  refine assignInOrder_cons (bindName_ (stG F12 fun h13 F13 g13 => assignInOrder_cons (bindName_ (stG F13 fun h14 F14 g14 => assignInOrder_nil ?_))))
  dsimp only
  have k1012 := k11.trans k12
  have dk := ((DKp.kp k1012).trans ((DKp.gr g13 F12.ns (x := "script") hsc).trans (DKp.gr g14 F13.ns (x := "script") hsc)) : DKp prog w h10 h14)
  have hP14 := ((hP.kp k12).gr F12.ns g13).gr F13.ns g14
  refine wpAny_mono (law_mid (g := g) (s := { s with heap := h14, toks := _ }) hh hroom' (by omega) C B F14 hbig g2 e2 (O10.gr ((k1012.gr L).trans (g13.trans g14))) hco (W10.dkp dk) hg rfl rfl a0 a1 rfl (dk _ _ hdS) loS hfl hD rfl hP14) (fun fl s' hb => ?_) fun _ _ x => x
  obtain ⟨h', tk', m', rfl, rfl, F'⟩ := hb
  exact ⟨h', tk', m', rfl, rfl, F'⟩
end
end FE

namespace FE
theorem boots : bootBuiltins "abs" = some (.builtin "abs") ∧ bootBuiltins "int" = some (.type "int") ∧ bootBuiltins "len" = some (.builtin "len") ∧ bootBuiltins "range" = some (.type "range") ∧ bootBuiltins "list" = some (.type "list") ∧ bootBuiltins "zip" = some (.type "zip") ∧ bootBuiltins "sorted" = some (.builtin "sorted") := by decide +kernel
theorem blOf {p : Program} {loose : List Str} {mean : ExcName → Option Value} {mg mb : Str → Option Value} {h : Heap} {K : Frag} (T : Top p loose mean mg mb h) (KX : K.In h)
    (e1 : nsIn K mainGlobals "abs" = some none) (e2 : nsIn K mainGlobals "int" = some none) (e3 : nsIn K mainGlobals "len" = some none) (e4 : nsIn K mainGlobals "range" = some none) (e5 : nsIn K mainGlobals "list" = some none)
    (e6 : nsIn K mainGlobals "zip" = some none) (e7 : nsIn K mainGlobals "sorted" = some none) : Bl mg mb :=
  ⟨⟨mg_none_of KX T.g e1, (T.builtins _ (by decide)).trans boots.1⟩, ⟨mg_none_of KX T.g e2, (T.builtins _ (by decide)).trans boots.2.1⟩, ⟨mg_none_of KX T.g e3, (T.builtins _ (by decide)).trans boots.2.2.1⟩,
    ⟨mg_none_of KX T.g e4, (T.builtins _ (by decide)).trans boots.2.2.2.1⟩, ⟨mg_none_of KX T.g e5, (T.builtins _ (by decide)).trans boots.2.2.2.2.1⟩, ⟨mg_none_of KX T.g e6, (T.builtins _ (by decide)).trans boots.2.2.2.2.2.1⟩, ⟨mg_none_of KX T.g e7, (T.builtins _ (by decide)).trans boots.2.2.2.2.2.2⟩⟩
end FE
set_option maxHeartbeats 8000000 in
open_top FE.hd for PySem.Challenge.rw_fe0209_01
set_option maxHeartbeats 8000000 in
theorem PySem.Challenge.cw_fe0209_01_holds : PySem.Challenge.rw_fe0209_01.Holds :=
  FE.hd (by (w_strict (k_go0; (
  rename_i w s₀ s₁ mg mb G Y fa o pm doc ho hg KX X V GL T B TE TW w10 w9 M w8 w7 hcd ns hs hlay0 hL1 hr1 hl2 w5 w4 sl vs w1' hL ra w1 r0 hI hr hc1 hcond' K0 hD h1 tk1 F co right N0 X0
  clear hcd
  have hbl : FE.Bl mg mb := FE.blOf T KX (by k_is) (by k_is) (by k_is) (by k_is) (by k_is) (by k_is) (by k_is)
  have g1 : FE.FnAt s₁.heap 19 1 := ⟨_, _, _, _, KX _ _ (by k_is), rfl, codeRec_of KX (by k_is)⟩
  have e1 : mg "find_shortest_path" = some (.ref 19) := mg_of KX T.g (by k_is)
  have g4 : FE.FnAt s₁.heap 32 4 := ⟨_, _, _, _, KX _ _ (by k_is), rfl, codeRec_of KX (by k_is)⟩
  have e4 : mg "_law_cell" = some (.ref 32) := mg_of KX T.g (by k_is)
  have g5 : FE.FnAt s₁.heap 39 5 := ⟨_, _, _, _, KX _ _ (by k_is), rfl, codeRec_of KX (by k_is)⟩
  have e5 : mg "_law_web" = some (.ref 39) := mg_of KX T.g (by k_is)
  have g6 : FE.FnAt s₁.heap 46 6 := ⟨_, _, _, _, KX _ _ (by k_is), rfl, codeRec_of KX (by k_is)⟩
  have e6 : mg "_law_steps" = some (.ref 46) := mg_of KX T.g (by k_is)
  have g2 : FE.FnAtD s₁.heap 25 2 := ⟨_, _, _, _, 20, _, _, KX _ _ (by k_is), rfl, codeRec_of KX (by k_is), KX _ _ (by k_is), rfl⟩
  have e2 : mg "find_connected_nodes" = some (.ref 25) := mg_of KX T.g (by k_is)
  refine wpAny_mono (Q := FE.lawOut { s₁ with heap := h1, toks := tk1 } s₁.heap s₁.heap.objs.size) (E := fun _ _ => False) (s := { s₁ with heap := h1, toks := tk1 }) ?_ ?_ (fun _ _ x => x.elim)
  rotate_left
  · rintro fl s' ⟨h', tk', m', rfl, rfl, F'⟩
    dsimp only
    exact goodW_bool F' hg (raisesW_false (by wrow_none_raised)) (by wrow_post)
  have hc0 : co.data = .cell none := right.trans rfl
  have Oc : FE.Own s₁.heap s₁.heap.objs.size h1 (s₁.heap.objs.size + 1) co := N0 _ (List.mem_cons_self ..)
  exact FE.law_body (vs := vs) (ns := ns) rfl (by show 1 + claimMargin + 1 + 1 < recursionLimit; decide) (by show 4 + 3 + 110 < cLine; decide) ⟨T.g, T.b, T.nolimit⟩ hbl F (modules_low T.nolimit) g1 e1 g2 e2 g4 e4 g5 e5 g6 e6 rfl hL hI (by omega) Oc hc0))))
