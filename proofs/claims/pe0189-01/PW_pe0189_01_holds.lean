import PyProof.Rows.All
import Wide.All
import OpenK.AllK
import Wide.FinOn
import PySem.Challenge.RW_pe0189_01
open PySem PySem.W PyProof.Rows
set_option Elab.async false
set_option linter.unusedVariables false
set_option linter.unnecessarySimpa false
set_option linter.unusedSimpArgs false

/- pe0189-01: the judgement W and its rules (A), the defs of the program (C), Gale and Shapley in plain Lean (PL), the join (J) -/

namespace Mine
namespace GS
/-- a stable way: f from askers to asked, g back -/
structure Stable (R S : Nat → Nat → Int) (f g : Nat → Nat) : Prop where
  fl : ∀ m, m < 4 → f m < 4
  gl : ∀ w, w < 4 → g w < 4
  gf : ∀ m, m < 4 → g (f m) = m
  fg : ∀ w, w < 4 → f (g w) = w
  nb : ∀ m w, m < 4 → w < 4 → R m w < R m (f m) → S w m < S w (g w) → False

structure Inv (R S : Nat → Nat → Int) (left : Nat → List Nat) (held : Nat → Option Nat) (free : List Nat) : Prop where
  hm : ∀ w m, held w = some m → w < 4 ∧ m < 4
  inj : ∀ w w' m, held w = some m → held w' = some m → w = w'
  fr : ∀ m, m ∈ free → m < 4
  nd : free.Nodup
  cov : ∀ m, m < 4 → (m ∈ free ↔ ∀ w, held w ≠ some m)
  lf : ∀ m w, m < 4 → w ∈ left m → w < 4
  ln : ∀ m, m < 4 → (left m).Nodup
  out : ∀ m w, m < 4 → w < 4 → w ∉ left m → ∃ m', held w = some m' ∧ S w m' ≤ S w m
  ord : ∀ m w w', m < 4 → w < 4 → w ∉ left m → w' ∈ left m → R m w < R m w'
  own : ∀ w m, held w = some m → w ∉ left m
  rej : ∀ m w, m < 4 → w < 4 → w ∉ left m → held w ≠ some m → ∀ f g, Stable R S f g → f m ≠ w

variable {R S : Nat → Nat → Int} {left left' : Nat → List Nat} {held : Nat → Option Nat} {free free' : List Nat}

theorem Inv.start : Inv R S (fun _ => [0, 1, 2, 3]) (fun _ => none) [0, 1, 2, 3] where
  hm := fun w m h => by cases h
  inj := fun w w' m h => by cases h
  fr := by decide
  nd := by decide
  cov := fun m hm => by
    have : m = 0 ∨ m = 1 ∨ m = 2 ∨ m = 3 := by omega
    refine ⟨fun _ w h => (by cases h), fun _ => ?_⟩
    rcases this with rfl | rfl | rfl | rfl <;> simp
  lf := fun m w _ h => by simp at h; omega
  ln := fun _ _ => by decide
  out := fun m w _ hw h => by
    exfalso; apply h
    have : w = 0 ∨ w = 1 ∨ w = 2 ∨ w = 3 := by omega
    rcases this with rfl | rfl | rfl | rfl <;> simp
  ord := fun m w w' _ hw h => by
    exfalso; apply h
    have : w = 0 ∨ w = 1 ∨ w = 2 ∨ w = 3 := by omega
    rcases this with rfl | rfl | rfl | rfl <;> simp
  own := fun w m h => by cases h
  rej := fun m w _ hw h => by
    exfalso; apply h
    have : w = 0 ∨ w = 1 ∨ w = 2 ∨ w = 3 := by omega
    rcases this with rfl | rfl | rfl | rfl <;> simp

theorem five : ∀ a ∈ List.range 4, ∀ b ∈ List.range 4, ∀ c ∈ List.range 4, ∀ d ∈ List.range 4, ∀ m ∈ List.range 4, (a == b || a == c || a == d || b == c || b == d || c == d || a == m || b == m || c == m || d == m) = true := by decide +kernel
theorem pig {a b c d m : Nat} (ha : a < 4) (hb : b < 4) (hc : c < 4) (hd : d < 4) (hm : m < 4) (h1 : a ≠ b) (h2 : a ≠ c) (h3 : a ≠ d) (h4 : b ≠ c) (h5 : b ≠ d) (h6 : c ≠ d) (k1 : a ≠ m) (k2 : b ≠ m) (k3 : c ≠ m) (k4 : d ≠ m) : False := by
  have key := five a (List.mem_range.mpr ha) b (List.mem_range.mpr hb) c (List.mem_range.mpr hc) d (List.mem_range.mpr hd) m (List.mem_range.mpr hm)
  simp only [Bool.or_eq_true, beq_iff_eq, h1, h2, h3, h4, h5, h6, k1, k2, k3, k4, false_or] at key

/-- someone free has someone to ask -/
theorem Inv.more (I : Inv R S left held free) {m : Nat} (hm : m ∈ free) : left m ≠ [] := by
  intro he
  have m4 := I.fr m hm
  have no := (I.cov m m4).mp hm
  have key : ∀ w, w < 4 → ∃ m', held w = some m' := fun w hw => let ⟨m', h, _⟩ := I.out m w m4 hw (by rw [he]; simp); ⟨m', h⟩
  obtain ⟨a, ha⟩ := key 0 (by decide)
  obtain ⟨b, hb⟩ := key 1 (by decide)
  obtain ⟨c, hc⟩ := key 2 (by decide)
  obtain ⟨d, hd⟩ := key 3 (by decide)
  refine pig (I.hm _ _ ha).2 (I.hm _ _ hb).2 (I.hm _ _ hc).2 (I.hm _ _ hd).2 m4 ?_ ?_ ?_ ?_ ?_ ?_ ?_ ?_ ?_ ?_
  · intro e; subst e; exact absurd (I.inj _ _ _ ha hb) (by decide)
  · intro e; subst e; exact absurd (I.inj _ _ _ ha hc) (by decide)
  · intro e; subst e; exact absurd (I.inj _ _ _ ha hd) (by decide)
  · intro e; subst e; exact absurd (I.inj _ _ _ hb hc) (by decide)
  · intro e; subst e; exact absurd (I.inj _ _ _ hb hd) (by decide)
  · intro e; subst e; exact absurd (I.inj _ _ _ hc hd) (by decide)
  · intro e; subst e; exact no _ ha
  · intro e; subst e; exact no _ hb
  · intro e; subst e; exact no _ hc
  · intro e; subst e; exact no _ hd

/-- what a turn does to the lists -/
structure Step (left left' : Nat → List Nat) (free : List Nat) (m w : Nat) : Prop where
  mf : m ∈ free
  wl : w ∈ left m
  same : ∀ k, k < 4 → k ≠ m → left' k = left k
  gone : ∀ x, x ∈ left' m ↔ x ∈ left m ∧ x ≠ w
  nd : (left' m).Nodup

theorem Step.notMem {m w k x : Nat} (T : Step left left' free m w) (hk : k < 4) (h : x ∉ left' k) : x ∉ left k ∨ (k = m ∧ x = w) := by
  by_cases e : k = m
  · subst e
    by_cases ex : x = w
    · exact .inr ⟨rfl, ex⟩
    · exact .inl fun h' => h ((T.gone x).mpr ⟨h', ex⟩)
  · rw [T.same k hk e] at h; exact .inl h
theorem Step.mem {m w k x : Nat} (T : Step left left' free m w) (hk : k < 4) (h : x ∈ left' k) : x ∈ left k ∧ (k = m → x ≠ w) := by
  by_cases e : k = m
  · subst e
    exact ⟨((T.gone x).mp h).1, fun _ => ((T.gone x).mp h).2⟩
  · rw [T.same k hk e] at h; exact ⟨h, fun z => absurd z e⟩

theorem Inv.lf' (I : Inv R S left held free) {m w : Nat} (T : Step left left' free m w) : ∀ k x, k < 4 → x ∈ left' k → x < 4 := fun k x hk h => I.lf k x hk (T.mem hk h).1
theorem Inv.ln' (I : Inv R S left held free) {m w : Nat} (T : Step left left' free m w) : ∀ k, k < 4 → (left' k).Nodup := fun k hk => by
  by_cases e : k = m
  · subst e; exact T.nd
  · rw [T.same k hk e]; exact I.ln k hk
theorem Inv.ord' (I : Inv R S left held free) {m w : Nat} (T : Step left left' free m w) (hb : ∀ x, x ∈ left m → x ≠ w → R m w < R m x) :
    ∀ k x y, k < 4 → x < 4 → x ∉ left' k → y ∈ left' k → R k x < R k y := fun k x y hk hx h1 h2 => by
  obtain ⟨h3, h4⟩ := T.mem hk h2
  rcases T.notMem hk h1 with h | ⟨rfl, rfl⟩
  · exact I.ord k x y hk hx h h3
  · exact hb y h3 (h4 rfl)

/-- nobody holds: taken -/
theorem Inv.take (I : Inv R S left held free) {m w : Nat} (T : Step left left' free m w) (hb : ∀ x, x ∈ left m → x ≠ w → R m w < R m x) (hw : held w = none)
    (hf : ∀ x, x ∈ free' ↔ x ∈ free ∧ x ≠ m) (hn : free'.Nodup) : Inv R S left' (fun x => if x = w then some m else held x) free' := by
  have m4 := I.fr m T.mf
  have w4 := I.lf m w m4 T.wl
  have no := (I.cov m m4).mp T.mf
  refine ⟨?_, ?_, ?_, hn, ?_, I.lf' T, I.ln' T, ?_, I.ord' T hb, ?_, ?_⟩
  · intro x k h
    by_cases e : x = w
    · rw [if_pos e] at h; cases h; exact ⟨e ▸ w4, m4⟩
    · rw [if_neg e] at h; exact I.hm x k h
  · intro x y k h1 h2
    by_cases e1 : x = w <;> by_cases e2 : y = w
    · rw [e1, e2]
    · rw [if_pos e1] at h1; rw [if_neg e2] at h2; cases h1; exact absurd h2 (no y)
    · rw [if_neg e1] at h1; rw [if_pos e2] at h2; cases h2; exact absurd h1 (no x)
    · rw [if_neg e1] at h1; rw [if_neg e2] at h2; exact I.inj x y k h1 h2
  · intro k hk; exact I.fr k ((hf k).mp hk).1
  · intro k hk
    rw [hf, I.cov k hk]
    constructor
    · rintro ⟨h1, h2⟩ x
      by_cases e : x = w
      · rw [if_pos e]; exact fun z => h2 (Option.some.inj z).symm
      · rw [if_neg e]; exact h1 x
    · intro h
      refine ⟨fun x hx => ?_, fun e => ?_⟩
      · have := h x
        by_cases e : x = w
        · rw [e, hw] at hx; cases hx
        · rw [if_neg e] at this; exact this hx
      · have := h w; rw [if_pos rfl] at this; exact this (by rw [e])
  · intro k x hk hx h
    by_cases e : x = w
    · subst e
      rcases T.notMem hk h with h | ⟨rfl, _⟩
      · obtain ⟨m', h1, _⟩ := I.out k x hk hx h
        rw [hw] at h1; cases h1
      · exact ⟨k, if_pos rfl, Int.le_refl _⟩
    · rw [if_neg e]
      rcases T.notMem hk h with h | ⟨_, h2⟩
      · exact I.out k x hk hx h
      · exact absurd h2 e
  · intro x k h
    by_cases e : x = w
    · rw [if_pos e] at h; cases h; subst e
      exact fun z => ((T.gone x).mp z).2 rfl
    · rw [if_neg e] at h
      exact fun z => I.own x k h (T.mem (I.hm x k h).2 z).1
  · intro k x hk hx h1 h2 f g F
    by_cases e : x = w
    · subst e
      rw [if_pos rfl] at h2
      rcases T.notMem hk h1 with h | ⟨rfl, _⟩
      · obtain ⟨m', h3, _⟩ := I.out k x hk hx h
        rw [hw] at h3; cases h3
      · exact absurd rfl h2
    · rw [if_neg e] at h2
      rcases T.notMem hk h1 with h | ⟨_, h3⟩
      · exact I.rej k x hk hx h h2 f g F
      · exact absurd h3 e

/-- the rival is sent away -/
theorem Inv.swap (I : Inv R S left held free) {m w v : Nat} (T : Step left left' free m w) (hb : ∀ x, x ∈ left m → x ≠ w → R m w < R m x) (hw : held w = some v) (hs : S w m < S w v)
    (hf : ∀ x, x ∈ free' ↔ (x ∈ free ∧ x ≠ m) ∨ x = v) (hn : free'.Nodup) : Inv R S left' (fun x => if x = w then some m else held x) free' := by
  have m4 := I.fr m T.mf
  have w4 := I.lf m w m4 T.wl
  have no := (I.cov m m4).mp T.mf
  have v4 := (I.hm w v hw).2
  have hvm : v ≠ m := fun e => no w (e ▸ hw)
  have hvf : v ∉ free := fun h => (I.cov v v4).mp h w hw
  refine ⟨?_, ?_, ?_, hn, ?_, I.lf' T, I.ln' T, ?_, I.ord' T hb, ?_, ?_⟩
  · intro x k h
    by_cases e : x = w
    · rw [if_pos e] at h; cases h; exact ⟨e ▸ w4, m4⟩
    · rw [if_neg e] at h; exact I.hm x k h
  · intro x y k h1 h2
    by_cases e1 : x = w <;> by_cases e2 : y = w
    · rw [e1, e2]
    · rw [if_pos e1] at h1; rw [if_neg e2] at h2; cases h1; exact absurd h2 (no y)
    · rw [if_neg e1] at h1; rw [if_pos e2] at h2; cases h2; exact absurd h1 (no x)
    · rw [if_neg e1] at h1; rw [if_neg e2] at h2; exact I.inj x y k h1 h2
  · intro k hk
    rcases (hf k).mp hk with h | rfl
    · exact I.fr k h.1
    · exact v4
  · intro k hk
    rw [hf, I.cov k hk]
    constructor
    · rintro (⟨h1, h2⟩ | rfl) x
      · by_cases e : x = w
        · rw [if_pos e]; exact fun z => h2 (Option.some.inj z).symm
        · rw [if_neg e]; exact h1 x
      · by_cases e : x = w
        · rw [if_pos e]; exact fun z => hvm (Option.some.inj z).symm
        · rw [if_neg e]; exact fun z => e (I.inj x w k z hw)
    · intro h
      by_cases ev : k = v
      · exact .inr ev
      refine .inl ⟨fun x hx => ?_, fun e => ?_⟩
      · have := h x
        by_cases e : x = w
        · rw [e, hw] at hx; exact ev (Option.some.inj hx).symm
        · rw [if_neg e] at this; exact this hx
      · have := h w; rw [if_pos rfl] at this; exact this (by rw [e])
  · intro k x hk hx h
    by_cases e : x = w
    · subst e
      refine ⟨m, if_pos rfl, ?_⟩
      rcases T.notMem hk h with h | ⟨rfl, _⟩
      · obtain ⟨m', h1, h2⟩ := I.out k x hk hx h
        rw [hw] at h1; cases h1; omega
      · exact Int.le_refl _
    · rw [if_neg e]
      rcases T.notMem hk h with h | ⟨_, h2⟩
      · exact I.out k x hk hx h
      · exact absurd h2 e
  · intro x k h
    by_cases e : x = w
    · rw [if_pos e] at h; cases h; subst e
      exact fun z => ((T.gone x).mp z).2 rfl
    · rw [if_neg e] at h
      exact fun z => I.own x k h (T.mem (I.hm x k h).2 z).1
  · intro k x hk hx h1 h2 f g F
    by_cases e : x = w
    · subst e
      rw [if_pos rfl] at h2
      rcases T.notMem hk h1 with h | ⟨rfl, _⟩
      · by_cases ev : k = v
        · subst ev
          intro hfk
          have hfm : f m ≠ x := fun z => hvm (by rw [← F.gf k hk, ← F.gf m m4, hfk, z])
          by_cases hin : f m ∈ left m
          · refine F.nb m x m4 hx (hb _ hin hfm) ?_
            rw [← hfk, F.gf k hk, hfk]; exact hs
          · exact I.rej m (f m) m4 (F.fl m m4) hin (no _) f g F rfl
        · exact I.rej k x hk hx h (fun z => ev (by rw [hw] at z; exact (Option.some.inj z).symm)) f g F
      · exact absurd rfl h2
    · rw [if_neg e] at h2
      rcases T.notMem hk h1 with h | ⟨_, h3⟩
      · exact I.rej k x hk hx h h2 f g F
      · exact absurd h3 e

/-- the asker is sent away -/
theorem Inv.stay (I : Inv R S left held free) {m w v : Nat} (T : Step left left' free m w) (hb : ∀ x, x ∈ left m → x ≠ w → R m w < R m x) (hw : held w = some v) (hs : S w v < S w m)
    (hf : ∀ x, x ∈ free' ↔ x ∈ free) (hn : free'.Nodup) : Inv R S left' held free' := by
  have m4 := I.fr m T.mf
  have w4 := I.lf m w m4 T.wl
  have no := (I.cov m m4).mp T.mf
  have v4 := (I.hm w v hw).2
  have hvm : v ≠ m := fun e => no w (e ▸ hw)
  refine ⟨I.hm, I.inj, fun k hk => I.fr k ((hf k).mp hk), hn, fun k hk => by rw [hf]; exact I.cov k hk, I.lf' T, I.ln' T, ?_, I.ord' T hb, fun x k h z => I.own x k h (T.mem (I.hm x k h).2 z).1, ?_⟩
  · intro k x hk hx h
    rcases T.notMem hk h with h | ⟨rfl, rfl⟩
    · exact I.out k x hk hx h
    · exact ⟨v, hw, Int.le_of_lt hs⟩
  · intro k x hk hx h1 h2 f g F
    rcases T.notMem hk h1 with h | ⟨rfl, rfl⟩
    · exact I.rej k x hk hx h h2 f g F
    · intro hfk
      have hfv : f v ≠ x := fun z => hvm (by rw [← F.gf v v4, ← F.gf k hk, hfk, z])
      by_cases hin : f v ∈ left v
      · refine F.nb v x v4 hx (I.ord v x (f v) v4 hx (I.own x v hw) hin) ?_
        rw [← hfk, F.gf k hk, hfk]; exact hs
      · exact I.rej v (f v) v4 (F.fl v v4) hin (fun z => hfv (I.inj _ _ _ z hw)) f g F rfl

theorem four_of_inj {a b c d m : Nat} (ha : a < 4) (hb : b < 4) (hc : c < 4) (hd : d < 4) (hm : m < 4) (h1 : a ≠ b) (h2 : a ≠ c) (h3 : a ≠ d) (h4 : b ≠ c) (h5 : b ≠ d) (h6 : c ≠ d) : m = a ∨ m = b ∨ m = c ∨ m = d := by
  by_cases e1 : m = a
  · exact .inl e1
  by_cases e2 : m = b
  · exact .inr (.inl e2)
  by_cases e3 : m = c
  · exact .inr (.inr (.inl e3))
  by_cases e4 : m = d
  · exact .inr (.inr (.inr e4))
  exact (pig ha hb hc hd hm h1 h2 h3 h4 h5 h6 (fun e => e1 e.symm) (fun e => e2 e.symm) (fun e => e3 e.symm) fun e => e4 e.symm).elim

/-- the end -/
theorem Inv.done (I : Inv R S left held []) : ∃ f g, Stable R S f g ∧ (∀ w, w < 4 → held w = some (g w)) ∧ (∀ w m, held w = some m → m = g w) ∧ ∀ f' g', Stable R S f' g' → ∀ m, m < 4 → R m (f m) ≤ R m (f' m) := by
  have key : ∀ m, m < 4 → ∃ w, held w = some m := by
    intro m hm
    have := I.cov m hm
    by_cases h : ∃ w, held w = some m
    · exact h
    · exact absurd (this.mpr fun w e => h ⟨w, e⟩) (by simp)
  obtain ⟨f, hf⟩ : ∃ f : Nat → Nat, ∀ m, m < 4 → held (f m) = some m := by
    refine ⟨fun m => if h : m < 4 then (key m h).choose else 0, fun m hm => ?_⟩
    simp only [hm, dif_pos]
    exact (key m hm).choose_spec
  have finj : ∀ m m', m < 4 → m' < 4 → f m = f m' → m = m' := fun m m' h1 h2 e => by
    have a := hf m h1; have b := hf m' h2; rw [e, b] at a; exact (Option.some.inj a).symm
  have fl : ∀ m, m < 4 → f m < 4 := fun m hm => (I.hm _ _ (hf m hm)).1
  have all : ∀ w, w < 4 → ∃ m, m < 4 ∧ f m = w := by
    intro w hw
    have := four_of_inj (fl 0 (by decide)) (fl 1 (by decide)) (fl 2 (by decide)) (fl 3 (by decide)) hw
      (fun e => absurd (finj _ _ (by decide) (by decide) e) (by decide)) (fun e => absurd (finj _ _ (by decide) (by decide) e) (by decide)) (fun e => absurd (finj _ _ (by decide) (by decide) e) (by decide))
      (fun e => absurd (finj _ _ (by decide) (by decide) e) (by decide)) (fun e => absurd (finj _ _ (by decide) (by decide) e) (by decide)) (fun e => absurd (finj _ _ (by decide) (by decide) e) (by decide))
    rcases this with e | e | e | e
    · exact ⟨0, by decide, e.symm⟩
    · exact ⟨1, by decide, e.symm⟩
    · exact ⟨2, by decide, e.symm⟩
    · exact ⟨3, by decide, e.symm⟩
  have hg : ∀ w, w < 4 → ∃ m, held w = some m := fun w hw => let ⟨m, hm, e⟩ := all w hw; ⟨m, e ▸ hf m hm⟩
  have hgw : ∀ w, w < 4 → held w = some ((held w).getD 0) := fun w hw => by obtain ⟨m, e⟩ := hg w hw; rw [e]; rfl
  refine ⟨f, fun w => (held w).getD 0, ⟨fl, fun w hw => (I.hm _ _ (hgw w hw)).2, fun m hm => ?_, fun w hw => ?_, ?_⟩, hgw, fun w m e => by simp only [e]; rfl, ?_⟩
  · simp only [hf m hm]; rfl
  · exact I.inj _ _ _ (hf _ (I.hm _ _ (hgw w hw)).2) (hgw w hw)
  · intro m w hm hw h1 h2
    have hout : w ∉ left m := fun h => by
      have := I.ord m (f m) w hm (fl m hm) (I.own _ _ (hf m hm)) h
      omega
    obtain ⟨m', h3, h4⟩ := I.out m w hm hw hout
    simp only [h3] at h2
    have : S w m < S w m' := h2
    omega
  · intro f' g' F m hm
    by_cases hin : f' m ∈ left m
    · exact Int.le_of_lt (I.ord m (f m) (f' m) hm (fl m hm) (I.own _ _ (hf m hm)) hin)
    · by_cases e : held (f' m) = some m
      · rw [I.inj _ _ _ (hf m hm) e]; exact Int.le_refl _
      · exact absurd rfl (I.rej m (f' m) hm (F.fl m hm) hin e f' g' F)
end GS
namespace GS
variable {R S : Nat → Nat → Int}
theorem Stable.swap {f g : Nat → Nat} (x : Stable R S f g) : Stable S R g f :=
  ⟨x.gl, x.fl, x.fg, x.gf, fun w m hw hm h1 h2 => x.nb m w hm hw h2 h1⟩

theorem least (r : Nat → Int) : ∀ (l : List Nat), l ≠ [] → ∃ b ∈ l, ∀ x ∈ l, r b ≤ r x
  | [], h => absurd rfl h
  | [a], _ => ⟨a, .head _, fun x hx => by simp at hx; subst hx; exact Int.le_refl _⟩
  | a :: b :: l, _ => by
    obtain ⟨c, hc, h⟩ := least r (b :: l) (by simp)
    by_cases e : r a ≤ r c
    · refine ⟨a, .head _, fun x hx => ?_⟩
      rcases List.mem_cons.mp hx with rfl | hx
      · exact Int.le_refl _
      · exact Int.le_trans e (h x hx)
    · refine ⟨c, .tail _ hc, fun x hx => ?_⟩
      rcases List.mem_cons.mp hx with rfl | hx
      · omega
      · exact h x hx

theorem run (hRi : ∀ m a c, m < 4 → a < 4 → c < 4 → R m a = R m c → a = c) (hSi : ∀ w a c, w < 4 → a < 4 → c < 4 → S w a = S w c → a = c) :
    ∀ (n : Nat) (left : Nat → List Nat) (held : Nat → Option Nat) (free : List Nat), Inv R S left held free → n = (left 0).length + (left 1).length + (left 2).length + (left 3).length →
      ∃ left' held', Inv R S left' held' [] := by
  intro n
  induction n using Nat.strongRecOn with
  | ind n ih =>
  intro left held free I hn
  cases free with
  | nil => exact ⟨left, held, I⟩
  | cons m rest =>
    have hm : m ∈ m :: rest := .head _
    have m4 := I.fr m hm
    obtain ⟨b, hb, hbest⟩ := least (R m) (left m) (I.more hm)
    have b4 := I.lf m b m4 hb
    have hbest' : ∀ x, x ∈ left m → x ≠ b → R m b < R m x := by
      intro x hx hne
      have h1 := hbest x hx
      have h2 : R m b ≠ R m x := fun z => hne (hRi m b x m4 b4 (I.lf m x m4 hx) z).symm
      omega
    have T : Step left (fun j => if j = m then (left m).erase b else left j) (m :: rest) m b := by
      refine ⟨hm, hb, fun k _ hk => if_neg hk, fun x => ?_, ?_⟩
      · simp only [if_true]
        rw [(I.ln m m4).mem_erase_iff]; exact And.comm
      · simp only [if_true]; exact (I.ln m m4).erase b
    have hl : ((left m).erase b).length + 1 = (left m).length := by
      rw [List.length_erase_of_mem hb]; have := List.length_pos_of_mem hb; omega
    have hn' : ((fun j => if j = m then (left m).erase b else left j) 0).length + ((fun j => if j = m then (left m).erase b else left j) 1).length + ((fun j => if j = m then (left m).erase b else left j) 2).length + ((fun j => if j = m then (left m).erase b else left j) 3).length < n := by
      have : m = 0 ∨ m = 1 ∨ m = 2 ∨ m = 3 := by omega
      rcases this with rfl | rfl | rfl | rfl <;> simp <;> omega
    generalize (fun j => if j = m then (left m).erase b else left j) = left' at T hn'
    have hnd := List.nodup_cons.mp I.nd
    cases hw : held b with
    | none =>
      refine ih _ hn' left' _ rest (I.take T hbest' hw (fun x => ?_) hnd.2) rfl
      rw [List.mem_cons]
      constructor
      · intro h; exact ⟨.inr h, fun e => hnd.1 (e ▸ h)⟩
      · rintro ⟨h | h, hne⟩
        · exact absurd h hne
        · exact h
    | some v =>
      have v4 := (I.hm b v hw).2
      have hvf : v ∉ m :: rest := fun h => (I.cov v v4).mp h b hw
      by_cases hs : S b m < S b v
      · refine ih _ hn' left' _ (v :: rest) (I.swap T hbest' hw hs (fun x => ?_) (List.nodup_cons.mpr ⟨fun h => hvf (.tail _ h), hnd.2⟩)) rfl
        rw [List.mem_cons, List.mem_cons]
        constructor
        · rintro (h | h)
          · exact .inr h
          · exact .inl ⟨.inr h, fun e => hnd.1 (e ▸ h)⟩
        · rintro (⟨h | h, hne⟩ | h)
          · exact absurd h hne
          · exact .inr h
          · exact .inl h
      · have hs' : S b v < S b m := by
          have h2 : S b m ≠ S b v := fun z => hvf ((hSi b m v b4 m4 v4 z) ▸ hm)
          omega
        exact ih _ hn' left' _ (m :: rest) (I.stay T hbest' hw hs' (fun x => Iff.rfl) I.nd) rfl

/-- the best stable way -/
theorem best (hRi : ∀ m a c, m < 4 → a < 4 → c < 4 → R m a = R m c → a = c) (hSi : ∀ w a c, w < 4 → a < 4 → c < 4 → S w a = S w c → a = c) :
    ∃ f g, Stable R S f g ∧ ∀ f' g', Stable R S f' g' → ∀ m, m < 4 → R m (f m) ≤ R m (f' m) := by
  obtain ⟨l, hd, I⟩ := run hRi hSi _ _ _ _ (Inv.start (R := R) (S := S)) rfl
  obtain ⟨f, g, h1, _, _, h2⟩ := I.done
  exact ⟨f, g, h1, h2⟩
/-- two best ways are one -/
theorem same (hRi : ∀ m a c, m < 4 → a < 4 → c < 4 → R m a = R m c → a = c) {f g f' g' : Nat → Nat} (h : Stable R S f g) (h' : Stable R S f' g')
    (b : ∀ f₁ g₁, Stable R S f₁ g₁ → ∀ m, m < 4 → R m (f m) ≤ R m (f₁ m)) (b' : ∀ f₁ g₁, Stable R S f₁ g₁ → ∀ m, m < 4 → R m (f' m) ≤ R m (f₁ m)) : (∀ m, m < 4 → f m = f' m) ∧ ∀ w, w < 4 → g w = g' w := by
  have e : ∀ m, m < 4 → f m = f' m := fun m hm => hRi m _ _ hm (h.fl m hm) (h'.fl m hm) (Int.le_antisymm (b _ _ h' m hm) (b' _ _ h m hm))
  refine ⟨e, fun w hw => ?_⟩
  have := h.fg w hw
  have h1 : g' (f (g w)) = g w := by rw [e _ (h.gl w hw)]; exact h'.gf _ (h.gl w hw)
  rw [this] at h1; exact h1.symm
end GS
end Mine

set_option maxRecDepth 100000

namespace Mine

-- A1

/-- the run of t from heap h: no exception, all but heap and token counter as before -/
def W {α : Type} (prog : Program) (w : World) (A : Around) (t : Sem α) (h : Heap) (Q : α → Heap → Prop) : Prop :=
  ∀ g d tk os, wpAny (model prog w) A t (fun a s' => ∃ h' tk', s' = ⟨h', g, d, tk', os⟩ ∧ Q a h') (fun _ _ => False) ⟨h, g, d, tk, os⟩

section
variable {prog : Program} {w : World} {A : Around} {α β : Type} {h : Heap} {env : Env}

theorem W.use {t : Sem α} {Q : α → Heap → Prop} {Q' : α → Shared → Prop} {E : Value → Shared → Prop} {g d tk os} (x : W prog w A t h Q)
    (y : ∀ a h' tk', Q a h' → Q' a ⟨h', g, d, tk', os⟩) : wpAny (model prog w) A t Q' E ⟨h, g, d, tk, os⟩ :=
  wpAny_mono (x g d tk os) (fun a _ ⟨h', tk', e, q⟩ => e ▸ y a h' tk' q) fun _ _ z => z.elim

/-- wpAny with the hidden post -/
abbrev Post {α : Type} (g : Array GenState) (d : Drawn) (os : OsState) (Q : α → Heap → Prop) : α → Shared → Prop := fun a s' => ∃ h' tk', s' = ⟨h', g, d, tk', os⟩ ∧ Q a h'

theorem W.mono {t : Sem α} {Q Q' : α → Heap → Prop} (x : W prog w A t h Q) (y : ∀ a h', Q a h' → Q' a h') : W prog w A t h Q' :=
  fun _ _ _ _ => x.use fun a h' tk' q => ⟨h', tk', rfl, y a h' q⟩

theorem W.pure {a : α} {Q : α → Heap → Prop} (q : Q a h) : W prog w A (Pure.pure a) h Q := fun _ _ tk _ => wpAny_pure ⟨h, tk, rfl, q⟩
theorem W.bind {m : Sem α} {f : α → Sem β} {Q : β → Heap → Prop} (x : W prog w A m h fun a h' => W prog w A (f a) h' Q) : W prog w A (m >>= f) h Q :=
  fun _ _ _ _ => wpAny_bind (x.use fun _ _ tk' q => q _ _ tk' _)

theorem W.execs_nil {Q : Flow → Heap → Prop} (q : Q .next h) : W prog w A (execs [] env) h Q := fun _ _ tk _ => wpAny_execs_nil ⟨h, tk, rfl, q⟩
theorem W.execs_cons {st : Stmt} {rest : List Stmt} {Q : Flow → Heap → Prop}
    (x : W prog w A (exec st env) h fun f h' => match f with | .next => W prog w A (execs rest env) h' Q | f => Q f h') : W prog w A (execs (st :: rest) env) h Q :=
  fun _ _ _ _ => wpAny_execs_cons (x.use fun f h' tk' q => match f, q with
    | .next, q => q _ _ tk' _
    | .brk, q => ⟨h', tk', rfl, q⟩
    | .cont, q => ⟨h', tk', rfl, q⟩
    | .ret _, q => ⟨h', tk', rfl, q⟩)
theorem W.const_int {i : Int} {k : Nat} {pos : Pos} {Q : Value → Heap → Prop} (q : ∀ t, Q (.int i t) h) : W prog w A (eval (.Constant (.int i) k pos) env) h Q :=
  fun _ _ tk _ => wpAny_Constant_int ⟨h, tk + 1, rfl, q tk⟩
theorem W.const_str {x : Str} {k : Nat} {pos : Pos} {Q : Value → Heap → Prop} (q : ∀ t, Q (.str x t) h) : W prog w A (eval (.Constant (.str x) k pos) env) h Q :=
  fun _ _ tk _ => wpAny_Constant_str ⟨h, tk + 1, rfl, q tk⟩
theorem W.const_none {k : Nat} {pos : Pos} {Q : Value → Heap → Prop} (q : Q .none h) : W prog w A (eval (.Constant .none k pos) env) h Q :=
  fun _ _ tk _ => wpAny_Constant_none ⟨h, tk, rfl, q⟩
theorem W.const_bool {b : Bool} {k : Nat} {pos : Pos} {Q : Value → Heap → Prop} (q : Q (.bool b) h) : W prog w A (eval (.Constant (.bool b) k pos) env) h Q :=
  fun _ _ tk _ => wpAny_Constant_bool ⟨h, tk, rfl, q⟩
theorem W.binop {l r : Expr} {op : Operator} {pos : Pos} {Q : Value → Heap → Prop}
    (x : W prog w A (eval l env) h fun a h₁ => W prog w A (eval r env) h₁ fun b h₂ => W prog w A (binaryOp op a b) h₂ Q) : W prog w A (eval (.BinOp l op r pos) env) h Q :=
  fun _ _ _ _ => wpAny_BinOp (x.use fun _ _ tk₁ y => y.use (tk := tk₁) fun _ _ tk₂ z => z _ _ tk₂ _)
theorem W.unary {op : UnaryOp} {x : Expr} {pos : Pos} {Q : Value → Heap → Prop} (y : W prog w A (eval x env) h fun v h₁ => W prog w A (unaryOp op v) h₁ Q) : W prog w A (eval (.UnaryOp op x pos) env) h Q :=
  fun _ _ _ _ => wpAny_UnaryOp (y.use fun _ _ tk₁ z => z _ _ tk₁ _)
theorem W.compare {l r : Expr} {op : CmpOp} {pos : Pos} {Q : Value → Heap → Prop}
    (x : W prog w A (eval l env) h fun a h₁ => W prog w A (eval r env) h₁ fun b h₂ => W prog w A (compareOp op a b) h₂ Q) (hm : behindInMarks op r = false := by with_unfolding_all rfl) : W prog w A (eval (.Compare l [op] [r] pos) env) h Q :=
  fun _ _ _ _ => wpAny_Compare1 (x.use fun _ _ tk₁ y => y.use (tk := tk₁) fun _ _ tk₂ z => z _ _ tk₂ _) hm
theorem W.isTrue_compare {l r : Expr} {op : CmpOp} {pos : Pos} {whole : Sem Value} {Q : Bool → Heap → Prop}
    (x : W prog w A (eval l env) h fun a h₁ => W prog w A (eval r env) h₁ fun b h₂ => W prog w A (compareOp op a b) h₂ fun c h₃ => W prog w A (truthy c) h₃ Q) (hm : behindInMarks op r = false := by with_unfolding_all rfl) :
    W prog w A (isTrue (.Compare l [op] [r] pos) env whole) h Q :=
  fun _ _ _ _ => wpAny_isTrue_Compare1 (x.use fun _ _ tk₁ y => y.use (tk := tk₁) fun _ _ tk₂ z => z.use (tk := tk₂) fun _ _ tk₃ u => u _ _ tk₃ _) hm
theorem W.isTrue_val {e : Expr} {whole : Sem Value} {Q : Bool → Heap → Prop} (x : W prog w A whole h fun v h₁ => W prog w A (truthy v) h₁ Q)
    (he : isTrue e env whole = (do let v ← whole; standAt e.pos; holding [v] (truthy v)) := by rfl) : W prog w A (isTrue e env whole) h Q :=
  fun _ _ _ _ => wpAny_isTrue_value (x.use fun _ _ tk₁ z => z _ _ tk₁ _) he
theorem W.truthy_bool {b : Bool} {Q : Bool → Heap → Prop} (q : Q b h) : W prog w A (truthy (.bool b)) h Q := fun _ _ tk _ => wpAny_truthy_bool ⟨h, tk, rfl, q⟩
theorem W.if_ {test : Expr} {body orelse : List Stmt} {pos : Pos} {Q : Flow → Heap → Prop}
    (x : W prog w A (isTrue test env (eval test env)) h fun b h₁ => if b then W prog w A (execs body env) h₁ Q else W prog w A (execs orelse env) h₁ Q) : W prog w A (exec (.If test body orelse pos) env) h Q :=
  fun _ _ _ _ => wpAny_If (x.use fun b _ tk₁ z => by
    cases b
    · exact z _ _ tk₁ _
    · exact z _ _ tk₁ _)
theorem W.ifExp {test body orelse : Expr} {pos : Pos} {Q : Value → Heap → Prop}
    (x : W prog w A (isTrue test env (eval test env)) h fun b h₁ => if b then W prog w A (eval body env) h₁ Q else W prog w A (eval orelse env) h₁ Q) : W prog w A (eval (.IfExp test body orelse pos) env) h Q :=
  fun _ _ _ _ => wpAny_IfExp (x.use fun b _ tk₁ z => by
    cases b
    · exact z _ _ tk₁ _
    · exact z _ _ tk₁ _)
theorem W.isTrue_and2 {x y : Expr} {pos : Pos} {whole : Sem Value} {Q : Bool → Heap → Prop}
    (hx : W prog w A (isTrue x env (eval x env)) h fun b h₁ => if b then W prog w A (isTrue y env (eval y env)) h₁ Q else Q false h₁) : W prog w A (isTrue (.BoolOp .And [x, y] pos) env whole) h Q :=
  fun _ _ _ _ => wpAny_isTrue_BoolOp (wpAny_allTrue_And_cons (hx.use fun b h₁ tk₁ z => by
    cases b
    · exact ⟨h₁, tk₁, rfl, z⟩
    · refine wpAny_allTrue_And_cons (W.use (tk := tk₁) z fun b h₂ tk₂ z => ?_)
      cases b
      · exact ⟨h₂, tk₂, rfl, z⟩
      · exact wpAny_allTrue_And_nil ⟨h₂, tk₂, rfl, z⟩))
theorem W.and2 {x y : Expr} {pos : Pos} {Q : Value → Heap → Prop}
    (hx : W prog w A (eval x env) h fun v h₁ => W prog w A (truthy v) h₁ fun t h₂ => if t then W prog w A (eval y env) h₂ Q else Q v h₂) : W prog w A (eval (.BoolOp .And [x, y] pos) env) h Q :=
  fun _ _ _ _ => wpAny_And2 (hx.use fun _ _ tk₁ z => z.use (tk := tk₁) fun t h₂ tk₂ z => by
    cases t
    · exact ⟨h₂, tk₂, rfl, z⟩
    · exact z _ _ tk₂ _)
theorem W.ret {e : Expr} {pos : Pos} {Q : Flow → Heap → Prop} (x : W prog w A (eval e env) h fun v => Q (.ret v)) : W prog w A (exec (.Return (some e) pos) env) h Q :=
  fun _ _ _ _ => wpAny_Return_some (x.use fun _ h' tk' q => ⟨h', tk', rfl, q⟩)
theorem W.cont {pos : Pos} {Q : Flow → Heap → Prop} (q : Q .cont h) : W prog w A (exec (.Continue pos) env) h Q := fun _ _ tk _ => wpAny_Continue ⟨h, tk, rfl, q⟩
theorem W.expr {e : Expr} {pos : Pos} {Q : Flow → Heap → Prop} (x : W prog w A (eval e env) h fun v h' => match v with | .ref _ => False | _ => Q .next h')
    (hi : interactive env = false := by rfl) (hs : swapsWith e none pos.line env = Pure.pure false := by rfl) : W prog w A (exec (.Expr e pos) env) h Q :=
  fun _ _ _ _ => wpAny_Expr (x.use fun v h' tk' q => by cases v <;> first | exact q.elim | exact ⟨h', tk', rfl, q⟩) hi hs
theorem W.assign {x : Str} {pos' pos : Pos} {value : Expr} {Q : Flow → Heap → Prop} (y : W prog w A (eval value env) h fun v h₁ => W prog w A (storeName env x v) h₁ fun _ => Q .next)
    (hs : swapsWith value (some (.Name x pos')) pos.line env = Pure.pure false := by rfl) : W prog w A (exec (.Assign [.Name x pos'] value pos) env) h Q :=
  fun _ _ _ _ => wpAny_Assign_Name (y.use fun _ _ tk₁ z => z.use (tk := tk₁) fun _ h₂ tk₂ q => ⟨h₂, tk₂, rfl, q⟩) hs
theorem W.augassign {x : Str} {op : Operator} {pos' pos : Pos} {value : Expr} {Q : Flow → Heap → Prop}
    (y : W prog w A (loadName env x) h fun old h₁ => W prog w A (eval value env) h₁ fun v h₂ => W prog w A (inplaceOp op old v) h₂ fun r h₃ => W prog w A (storeName env x r) h₃ fun _ => Q .next) :
    W prog w A (exec (.AugAssign (.Name x pos') op value pos) env) h Q :=
  fun _ _ _ _ => wpAny_AugAssign_Name (y.use fun _ _ tk₁ z => z.use (tk := tk₁) fun _ _ tk₂ z => z.use (tk := tk₂) fun _ _ tk₃ z => z.use (tk := tk₃) fun _ h₄ tk₄ q => ⟨h₄, tk₄, rfl, q⟩)
theorem W.items_nil {pos : Pos} {Q : List Value → Heap → Prop} (q : Q [] h) : W prog w A (spliced (backTo pos (starEach [] env))) h Q := fun _ _ tk _ => wpAny_items_nil ⟨h, tk, rfl, q⟩
theorem W.items_cons {pos : Pos} {e : Expr} {rest : List Expr} {Q : List Value → Heap → Prop}
    (x : W prog w A (eval e env) h fun v h₁ => W prog w A (spliced (backTo pos (starEach rest env))) h₁ fun vs h₂ => Q (v :: vs) h₂) (he : starEach (e :: rest) env = (false, eval e env) :: starEach rest env := by rfl) :
    W prog w A (spliced (backTo pos (starEach (e :: rest) env))) h Q :=
  fun _ _ _ _ => wpAny_items_cons (x.use fun _ _ tk₁ z => z.use (tk := tk₁) fun _ h₂ tk₂ q => ⟨h₂, tk₂, rfl, q⟩) he
end

-- A2

/-- all of h lies in h' -/
abbrev Sub (h h' : Heap) : Prop := ∀ b o, h.get? b = some o → h'.get? b = some o
/-- all of h from lo on lies in h' -/
abbrev SubFrom (lo : Nat) (h h' : Heap) : Prop := ∀ b o, lo ≤ b → h.get? b = some o → h'.get? b = some o

/-- a plain tuple -/
def TAt (h : Heap) (a : Addr) (vs : List Value) : Prop := ∃ n, h.get? a = some { cls := .type "tuple", data := .seq vs.toArray n }
/-- a plain list -/
abbrev LAt (h : Heap) (a : Addr) (vs : List Value) : Prop := h.PlainList a vs.toArray
theorem TAt.isTup {h : Heap} {a : Addr} {vs : List Value} (x : TAt h a vs) : IsTup h a vs.toArray := let ⟨n, e⟩ := x; ⟨_, e, rfl, n, rfl⟩
theorem TAt.sub {h h' : Heap} {a : Addr} {vs : List Value} (x : TAt h a vs) (hs : Sub h h') : TAt h' a vs := let ⟨n, e⟩ := x; ⟨n, hs _ _ e⟩
theorem TAt.from {lo : Nat} {h h' : Heap} {a : Addr} {vs : List Value} (x : TAt h a vs) (hs : SubFrom lo h h') (hl : lo ≤ a) : TAt h' a vs := let ⟨n, e⟩ := x; ⟨n, hs _ _ hl e⟩
theorem LAt.sub {h h' : Heap} {a : Addr} {vs : List Value} (x : LAt h a vs) (hs : Sub h h') : LAt h' a vs := let ⟨n, e⟩ := x; ⟨n, hs _ _ e⟩
theorem LAt.from {lo : Nat} {h h' : Heap} {a : Addr} {vs : List Value} (x : LAt h a vs) (hs : SubFrom lo h h') (hl : lo ≤ a) : LAt h' a vs := let ⟨n, e⟩ := x; ⟨n, hs _ _ hl e⟩

inductive Ob where
  | lst (vs : List Value)
  | tup (vs : List Value)
  | cell (v : Option Value)
  | liter (l : Addr) (i : Nat)
  | riter (x left step : Int)
  | raw (o : Obj)

def Ob.At (h : Heap) (a : Addr) : Ob → Prop
  | .lst vs => LAt h a vs
  | .tup vs => TAt h a vs
  | .cell v => h.IsCell a v
  | .liter l i => h.IsListIter a l i
  | .riter x left step => IsRangeIter h a x left step
  | .raw o => h.get? a = some o

theorem Ob.At.same {h h' : Heap} {a : Addr} {x : Ob} (y : x.At h a) (e : ∀ o, h.get? a = some o → h'.get? a = some o) : x.At h' a := by
  cases x with
  | lst vs => obtain ⟨n, ho⟩ := y; exact ⟨n, e _ ho⟩
  | tup vs => obtain ⟨n, ho⟩ := y; exact ⟨n, e _ ho⟩
  | cell v => obtain ⟨o, ho, r⟩ := y; exact ⟨o, e o ho, r⟩
  | liter l i => obtain ⟨o, ho, r⟩ := y; exact ⟨o, e o ho, r⟩
  | riter x l s => exact e _ y
  | raw o => exact e o y
theorem Ob.At.some {h : Heap} {a : Addr} {x : Ob} (y : x.At h a) : ∃ o, h.get? a = some o := by
  cases x with
  | lst vs => obtain ⟨n, ho⟩ := y; exact ⟨_, ho⟩
  | tup vs => obtain ⟨n, ho⟩ := y; exact ⟨_, ho⟩
  | cell v => obtain ⟨o, ho, _⟩ := y; exact ⟨o, ho⟩
  | liter l i => obtain ⟨o, ho, _⟩ := y; exact ⟨o, ho⟩
  | riter x l s => exact ⟨_, y⟩
  | raw o => exact ⟨o, y⟩

abbrev Led := List (Addr × Ob)

/-- the view of a heap: frozen part F, ledger of objects that may turn -/
structure View (F : Heap) (news : Led) (h : Heap) : Prop where
  keep : Sub F h
  nw : ∀ p ∈ news, p.2.At h p.1
  off : ∀ p ∈ news, F.get? p.1 = none
  nd : (news.map (·.1)).Nodup

/-- a frame: locals L with map m -/
structure St (O F : Heap) (L : Addr) (m : Str → Option Value) (news : Led) (h : Heap) : Prop where
  v : View F news h
  ns : h.Ns L m
  offL : F.get? L = none
  ne : ∀ p ∈ news, p.1 ≠ L
  org : Sub O F
  le : O.objs.size ≤ L

theorem nodup_addr : ∀ {l : Led}, (l.map (·.1)).Nodup → ∀ {i j : Nat} {p q : Addr × Ob}, l[i]? = some p → l[j]? = some q → p.1 = q.1 → i = j := by
  intro l hn i j p q hi hj e
  obtain ⟨li, ei⟩ := List.getElem?_eq_some_iff.mp hi
  obtain ⟨lj, ej⟩ := List.getElem?_eq_some_iff.mp hj
  have key := List.pairwise_iff_getElem.mp hn
  rcases Nat.lt_trichotomy i j with h | h | h
  · have := key i j (by simpa using li) (by simpa using lj) h
    rw [List.getElem_map, List.getElem_map, ei, ej] at this
    exact absurd e this
  · exact h
  · have := key j i (by simpa using lj) (by simpa using li) h
    rw [List.getElem_map, List.getElem_map, ei, ej] at this
    exact absurd e.symm this

theorem set_map_fst {l : Led} {i : Nat} {a : Addr} {x y : Ob} (hi : l[i]? = some (a, x)) : (l.set i (a, y)).map (·.1) = l.map (·.1) := by
  rw [List.map_set]
  apply List.ext_getElem?
  intro j
  rw [List.getElem?_set]
  split
  · rename_i e
    subst e
    split
    · rw [List.getElem?_map, hi]; rfl
    · rename_i hl
      have := (List.getElem?_eq_some_iff.mp hi).1
      rw [List.length_map] at hl
      exact absurd this hl
  · rfl

theorem mem_set_of {l : Led} {i : Nat} {q p : Addr × Ob} (hp : p ∈ l.set i q) : p = q ∨ ∃ j, j ≠ i ∧ l[j]? = some p := by
  obtain ⟨j, hj⟩ := List.mem_iff_getElem?.mp hp
  rw [List.getElem?_set] at hj
  split at hj
  · split at hj
    · left; exact (Option.some.inj hj).symm
    · cases hj
  · rename_i hne
    exact .inr ⟨j, fun e => hne e.symm, hj⟩

section
variable {O F F' h h' : Heap} {L : Addr} {m m' : Str → Option Value} {news news' : Led}

theorem View.get (V : View F news h) {i : Nat} {a : Addr} {x : Ob} (hi : news[i]? = some (a, x)) : x.At h a := V.nw _ (List.mem_of_getElem? hi)
theorem View.ext (V : View F news h) (hs : Sub h h') : View F news h' :=
  ⟨fun b o e => hs b o (V.keep b o e), fun p hp => (V.nw p hp).same (hs p.1), V.off, V.nd⟩
theorem View.upd (V : View F news h) {i : Nat} {a : Addr} {x y : Ob} (hi : news[i]? = some (a, x)) (hs : Heap.ExtBut a h h') (hy : y.At h' a) : View F (news.set i (a, y)) h' := by
  have hm := List.mem_of_getElem? hi
  have ha := V.off _ hm
  refine ⟨fun b o e => hs b o (fun z => by subst z; rw [e] at ha; cases ha) (V.keep b o e), fun p hp => ?_, fun p hp => ?_, ?_⟩
  · rcases mem_set_of hp with rfl | ⟨j, hj, e⟩
    · exact hy
    · refine (V.nw p (List.mem_of_getElem? e)).same fun o ho => hs _ o (fun z => hj (nodup_addr V.nd e hi z)) ho
  · rcases mem_set_of hp with rfl | ⟨j, hj, e⟩
    · exact ha
    · exact V.off p (List.mem_of_getElem? e)
  · rw [set_map_fst hi]; exact V.nd
theorem View.sub (V : View F news h) (hs : news'.Sublist news) : View F news' h :=
  ⟨V.keep, fun p hp => V.nw p (hs.subset hp), fun p hp => V.off p (hs.subset hp), V.nd.sublist (hs.map _)⟩
theorem View.alloc (V : View F news h) (o : Obj) {x : Ob} (hx : x.At (h.push o) h.objs.size) : View F ((h.objs.size, x) :: news) (h.push o) := by
  have V' := V.ext (fun b o' e => Heap.get?_push_of_some o e)
  have fresh : F.get? h.objs.size = none := by
    cases q : F.get? h.objs.size with
    | none => rfl
    | some o' => exact absurd (Heap.lt_size (V.keep _ _ q)) (Nat.lt_irrefl _)
  refine ⟨V'.keep, fun p hp => ?_, fun p hp => ?_, ?_⟩
  · rcases List.mem_cons.mp hp with rfl | hp
    · exact hx
    · exact V'.nw p hp
  · rcases List.mem_cons.mp hp with rfl | hp
    · exact fresh
    · exact V.off p hp
  · rw [List.map_cons, List.nodup_cons]
    refine ⟨fun hm => ?_, V.nd⟩
    obtain ⟨p, hp, e⟩ := List.mem_map.mp hm
    obtain ⟨o', ho⟩ := (V.nw p hp).some
    exact absurd (Heap.lt_size ho) (e ▸ Nat.lt_irrefl _)

theorem St.get (S : St O F L m news h) {i : Nat} {a : Addr} {x : Ob} (hi : news[i]? = some (a, x)) : x.At h a := S.v.get hi
theorem St.lt (S : St O F L m news h) : L < h.objs.size := S.ns.lt
theorem St.ext (S : St O F L m news h) (hs : Sub h h') : St O F L m news h' := ⟨S.v.ext hs, S.ns.keeps hs, S.offL, S.ne, S.org, S.le⟩
theorem St.upd (S : St O F L m news h) {i : Nat} {a : Addr} {x y : Ob} (hi : news[i]? = some (a, x)) (hs : Heap.ExtBut a h h') (hy : y.At h' a) : St O F L m (news.set i (a, y)) h' :=
  ⟨S.v.upd hi hs hy, S.ns.extBut hs (fun z => S.ne _ (List.mem_of_getElem? hi) z.symm), S.offL, fun p hp => by
    rcases mem_set_of hp with rfl | ⟨j, hj, e⟩
    · exact S.ne (a, x) (List.mem_of_getElem? hi)
    · exact S.ne p (List.mem_of_getElem? e), S.org, S.le⟩
theorem St.sub (S : St O F L m news h) (hs : news'.Sublist news) : St O F L m news' h := ⟨S.v.sub hs, S.ns, S.offL, fun p hp => S.ne p (hs.subset hp), S.org, S.le⟩
theorem St.alloc (S : St O F L m news h) (o : Obj) {x : Ob} (hx : x.At (h.push o) h.objs.size) : St O F L m ((h.objs.size, x) :: news) (h.push o) :=
  ⟨S.v.alloc o hx, S.ns.push o, S.offL, fun p hp => by
    rcases List.mem_cons.mp hp with rfl | hp
    · exact Nat.ne_of_gt S.lt
    · exact S.ne p hp, S.org, S.le⟩
theorem St.set (S : St O F L m news h) (hn : h'.Ns L m') (hs : Heap.SameBut L h h') : St O F L m' news h' :=
  ⟨⟨fun b o e => (hs.2 b fun z => by subst z; have := S.offL; rw [e] at this; cases this).trans (S.v.keep b o e), fun p hp => (S.v.nw p hp).same fun o ho => (hs.2 _ (S.ne p hp)).trans ho, S.v.off, S.v.nd⟩, hn, S.offL, S.ne, S.org, S.le⟩

/-- the first of the ledger is dropped, whatever it has become -/
theorem St.dropBut {a : Addr} {x : Ob} (S : St O F L m ((a, x) :: news) h) (hs : Heap.ExtBut a h h') : St O F L m news h' := by
  have hnd := List.nodup_cons.mp S.v.nd
  refine ⟨⟨fun b o e => hs b o (fun z => ?_) (S.v.keep b o e), fun p hp => (S.v.nw p (.tail _ hp)).same fun o ho => hs _ o (fun z => ?_) ho, fun p hp => S.v.off p (.tail _ hp), hnd.2⟩, S.ns.extBut hs (fun z => S.ne _ (.head _) z.symm), S.offL, fun p hp => S.ne p (.tail _ hp), S.org, S.le⟩
  · subst z; have := S.v.off _ (.head _); rw [e] at this; cases this
  · exact hnd.1 (List.mem_map.mpr ⟨p, hp, z⟩)
theorem St.fr (S : St O F L m news h) : Fr O L h m := ⟨S.ns, fun b o e => S.v.keep b o (S.org b o e), S.le⟩
theorem St.sO (S : St O F L m news h) : Sub O h := fun b o e => S.v.keep b o (S.org b o e)
theorem hide_mem {l : List Addr} {b : Addr} {o : Obj} (e : (hideAll h l).get? b = some o) : b ∉ l := fun hb => by rw [hideAll_none l hb] at e; cases e

/-- freeze anew: all that lies in the heap but the locals and the ledger -/
theorem St.freeze (S : St O F L m news h) : ∃ F', Sub F F' ∧ St O F' L m news h ∧ (∀ b o, h.get? b = some o → b ≠ L → b ∉ news.map (·.1) → F'.get? b = some o) ∧ Sub F' h := by
  have key : Sub F (hideAll h (L :: news.map (·.1))) := by
    intro b o e
    refine hideAll_get _ (S.v.keep b o e) ?_
    intro hb
    rcases List.mem_cons.mp hb with rfl | hb
    · have := S.offL; rw [e] at this; cases this
    · obtain ⟨p, hp, rfl⟩ := List.mem_map.mp hb
      have := S.v.off p hp; rw [e] at this; cases this
  refine ⟨hideAll h (L :: news.map (·.1)), key, ⟨⟨fun b o e => of_hideAll _ e, S.v.nw, fun p hp => hideAll_none _ (.tail _ (List.mem_map_of_mem hp)), S.v.nd⟩, S.ns, hideAll_none _ (.head _), S.ne, fun b o e => key b o (S.org b o e), S.le⟩, fun b o e h1 h2 => hideAll_get _ e ?_, fun b o e => of_hideAll _ e⟩
  · intro hb
    rcases List.mem_cons.mp hb with rfl | hb
    · exact h1 rfl
    · exact h2 hb

/-- a callee has come back: the heap has grown -/
theorem St.back (S : St O F L m news h) (hs : Sub h h') : ∃ F', Sub F F' ∧ St O F' L m news h' ∧ SubFrom h.objs.size h' F' ∧ Sub F' h' := by
  obtain ⟨F', h1, h2, h3, h4⟩ := (S.ext hs).freeze
  refine ⟨F', h1, h2, fun b o hb e => h3 b o e (fun z => ?_) (fun z => ?_), h4⟩
  · subst z; exact absurd S.lt (Nat.not_lt.mpr hb)
  · obtain ⟨p, hp, rfl⟩ := List.mem_map.mp z
    obtain ⟨o', ho⟩ := (S.v.nw p hp).some
    exact absurd (Heap.lt_size ho) (Nat.not_lt.mpr hb)
end

-- A3

/-- what the top of the program has laid -/
structure Good (K : Frag) (p : Program) (loose : List Str) (mg mb : Str → Option Value) (O : Heap) : Prop where
  X : K.In O
  T : TopRead p loose mg mb O

/-- room for n more frames -/
structure Room (A : Around) (n : Nat) : Prop where
  hh : A.handled = none
  hd : A.depth + n < recursionLimit
  hu : A.units + 8 * n < cLine
theorem Room.le {A : Around} {n k : Nat} (R : Room A n) (h : k ≤ n) : Room A k := ⟨R.hh, by have := R.hd; omega, by have := R.hu; omega⟩
theorem Room.deeper {A : Around} {n : Nat} {env : Env} (R : Room A (n + 1)) : Room (A.deeper env) n :=
  ⟨R.hh, by show A.depth + 1 + n < _; have := R.hd; omega, by show A.units + 3 + 8 * n < _; have := R.hu; omega⟩
theorem Room.in1 {A : Around} {n : Nat} (R : Room A (n + 1)) : Room A.in1 n :=
  ⟨R.hh, by show A.depth + n < _; have := R.hd; omega, by show A.units + 1 + 8 * n < _; have := R.hu; omega⟩
theorem Room.u {A : Around} {n : Nat} (R : Room A n) : A.units < cLine := by have := R.hu; omega
theorem Room.d {A : Around} {n : Nat} (R : Room A n) : A.depth < recursionLimit := by have := R.hd; omega

section
variable {prog : Program} {w : World} {A : Around} {α β : Type} {O F h : Heap} {L : Addr} {m : Str → Option Value} {news : Led} {env : Env} {K : Frag} {p : Program} {loose : List Str} {mg mb : Str → Option Value}

theorem Good.at (G : Good K p loose mg mb O) {h : Heap} (hs : Sub O h) : Good K p loose mg mb h := ⟨G.X.keeps hs, G.T.keeps hs⟩

-- names
theorem W.load {x : Str} {v : Value} {Q : Value → Heap → Prop} (S : St O F L m news h) (hv : m x = some v) (q : Q v h)
    (hk : env.scope.kind = .function := by rfl) (hl : env.kindOf x = some .local := by rfl) (hL : env.locals = L := by rfl) : W prog w A (loadName env x) h Q :=
  fun _ _ tk _ => wpAny_loadName_local hk hl (by rw [hL]; exact S.ns) hv ⟨h, tk, rfl, q⟩
theorem W.name {x : Str} {pos : Pos} {v : Value} {Q : Value → Heap → Prop} (S : St O F L m news h) (hv : m x = some v) (q : Q v h)
    (hk : env.scope.kind = .function := by rfl) (hl : env.kindOf x = some .local := by rfl) (hL : env.locals = L := by rfl) (hd : (x == ("__debug__" : Str)) = false := by decide) : W prog w A (eval (.Name x pos) env) h Q :=
  fun _ _ tk _ => wpAny_Name (wpAny_loadName_local hk hl (by rw [hL]; exact S.ns) hv ⟨h, tk, rfl, q⟩) hd
theorem W.store {x : Str} {v : Value} {Q : Unit → Heap → Prop} (S : St O F L m news h) (q : ∀ h', St O F L (fun y => if y = x then some v else m y) news h' → Q () h')
    (hk : env.scope.kind = .function := by rfl) (hl : env.kindOf x = some .local := by rfl) (hL : env.locals = L := by rfl) : W prog w A (storeName env x v) h Q :=
  fun _ _ tk _ => wpAny_storeName_local hl (m := m) (by rw [hL]; exact S.ns) (fun h' hn hs => ⟨h', tk + 1, rfl, q h' (S.set (by rw [hL] at hn; exact hn) (by rw [hL] at hs; exact hs))⟩) (by rw [hk]; rfl)
theorem W.cell {x : Str} {pos : Pos} {c : Addr} {i : Nat} {v : Value} {Q : Value → Heap → Prop} (S : St O F L m news h) (hc : env.cells.lookup x = some c) (hi : news[i]? = some (c, .cell (some v))) (q : Q v h)
    (hk : env.scope.kind = .function := by rfl) (hl : env.kindOf x = some .cell := by rfl) (hd : (x == ("__debug__" : Str)) = false := by decide) : W prog w A (eval (.Name x pos) env) h Q :=
  fun _ _ tk _ => wpAny_Name (wpAny_loadName_cell hk hl hc (S.get hi) ⟨h, tk, rfl, q⟩) hd
theorem W.free {x : Str} {pos : Pos} {c : Addr} {i : Nat} {v : Value} {Q : Value → Heap → Prop} (S : St O F L m news h) (hc : env.cells.lookup x = some c) (hi : news[i]? = some (c, .cell (some v))) (q : Q v h)
    (hk : env.scope.kind = .function := by rfl) (hl : env.kindOf x = some .free := by rfl) (hd : (x == ("__debug__" : Str)) = false := by decide) (hn : (x == ("__classdict__" : Str)) = false := by decide) : W prog w A (eval (.Name x pos) env) h Q :=
  fun _ _ tk _ => wpAny_Name (wpAny_loadName_free hk hl hc (S.get hi) ⟨h, tk, rfl, q⟩ hn) hd
theorem W.storeCell {x : Str} {c : Addr} {i : Nat} {v₀ : Option Value} {v : Value} {Q : Unit → Heap → Prop} (S : St O F L m news h) (hc : env.cells.lookup x = some c) (hi : news[i]? = some (c, .cell v₀))
    (q : ∀ h', St O F L m (news.set i (c, .cell (some v))) h' → Q () h')
    (hk : env.scope.kind = .function := by rfl) (hl : env.kindOf x = some .cell := by rfl) : W prog w A (storeName env x v) h Q :=
  fun _ _ tk _ => wpAny_storeName_cell hk hl hc (S.get hi) fun h' hv hs => ⟨h', tk, rfl, q h' (S.upd hi hs.extBut hv)⟩
theorem W.glob {x : Str} {pos : Pos} {v : Value} {Q : Value → Heap → Prop} (G : Good K p loose mg mb O) (hs : Sub O h) (e : nsIn K mainGlobals x = some (some v)) (q : Q v h)
    (hk : env.scope.kind = .function := by rfl) (hx : env.kindOf x = some .globalImplicit := by rfl) (hg : env.globals = mainGlobals := by rfl) (hd : (x == ("__debug__" : Str)) = false := by decide) : W prog w A (eval (.Name x pos) env) h Q :=
  fun _ _ tk _ => Calls.Name_function_global hk hx (Calls.loadGlobal_global (by rw [hg]; exact G.T.g.keeps hs) (mg_of G.X G.T.g e) ⟨h, tk, rfl, q⟩) hd
theorem W.bltn {x : Str} {pos : Pos} {v : Value} {Q : Value → Heap → Prop} (G : Good K p loose mg mb O) (hs : Sub O h) (e : nsIn K mainGlobals x = some none) (hv : bootBuiltins x = some v) (q : Q v h)
    (hn : x ≠ "__name__" := by decide) (hk : env.scope.kind = .function := by rfl) (hx : env.kindOf x = some .globalImplicit := by rfl) (hg : env.globals = mainGlobals := by rfl) (hb : env.builtins = builtinsNs := by rfl) (hd : (x == ("__debug__" : Str)) = false := by decide) :
    W prog w A (eval (.Name x pos) env) h Q :=
  fun _ _ tk _ => Calls.Name_function_global hk hx (Calls.loadGlobal_builtin (by rw [hg]; exact G.T.g.keeps hs) (mg_none_of G.X G.T.g e) (by rw [hb]; exact G.T.b.keeps hs) ((G.T.builtins x hn).trans hv) ⟨h, tk, rfl, q⟩) hd

-- displays
theorem W.list {elts : List Expr} {pos : Pos} {Q : Value → Heap → Prop} (x : W prog w A (spliced (backTo pos (starEach elts env))) h fun vs h₁ => W prog w A (newList vs) h₁ Q) : W prog w A (eval (.List elts pos) env) h Q :=
  fun _ _ _ _ => List_ (x.use fun _ _ tk₁ z => z _ _ tk₁ _)
theorem W.tuple {elts : List Expr} {k : Nat} {pos : Pos} {Q : Value → Heap → Prop} (x : W prog w A (spliced (backTo pos (starEach elts env))) h fun vs h₁ => W prog w A (newTuple vs) h₁ Q) : W prog w A (eval (.Tuple elts k pos) env) h Q :=
  fun _ _ _ _ => Tuple_ (x.use fun _ _ tk₁ z => z _ _ tk₁ _)
theorem W.newList {vs : List Value} {Q : Value → Heap → Prop} (S : St O F L m news h) (q : ∀ a h', L < a → Sub h h' → St O F L m ((a, .lst vs) :: news) h' → Q (.ref a) h') (hsz : vs.length ≤ sizeLine := by size_fits) : W prog w A (newList vs) h Q :=
  fun _ _ tk _ => wpAny_newObj_type (⟨_, tk, rfl, q _ _ S.lt (fun b o e => Heap.get?_push_of_some _ e) (S.alloc _ ⟨0, Heap.get?_push_size _ rfl⟩)⟩) (by show vs.toArray.size ≤ sizeLine; rw [List.size_toArray]; exact hsz)
theorem W.newTuple {vs : List Value} {Q : Value → Heap → Prop} (S : St O F L m news h) (q : ∀ a h', L < a → Sub h h' → St O F L m ((a, .tup vs) :: news) h' → Q (.ref a) h') (hsz : vs.length ≤ sizeLine := by size_fits) : W prog w A (newTuple vs) h Q :=
  fun _ _ tk _ => wpAny_newObj_type (⟨_, tk, rfl, q _ _ S.lt (fun b o e => Heap.get?_push_of_some _ e) (S.alloc _ ⟨0, Heap.get?_push_size _ rfl⟩)⟩) (by show vs.toArray.size ≤ sizeLine; rw [List.size_toArray]; exact hsz)

-- items
theorem W.sub {value slice : Expr} {pos : Pos} {Q : Value → Heap → Prop} (x : W prog w A (eval value env) h fun o h₁ => W prog w A (eval slice env) h₁ fun i h₂ => W prog w A (subscriptTail value slice o i) h₂ Q) : W prog w A (eval (.Subscript value slice pos) env) h Q :=
  fun _ _ _ _ => Subscript_ (x.use fun _ _ tk₁ y => y.use (tk := tk₁) fun _ _ tk₂ z => z _ _ tk₂ _)
theorem W.item_list {value slice : Expr} {a : Addr} {vs : List Value} {k : Int} {u : Tok} {v : Value} {Q : Value → Heap → Prop} (hl : LAt h a vs) (h0 : 0 ≤ k) (hx : vs[k.toNat]? = some v) (q : Q v h) (hf : k < 2 ^ 63)
    (hs : subscripted slice false (.ref a) (.int k u) = operate [.ref a, .int k u] (getItem (.ref a) (.int k u)) := by with_unfolding_all rfl) : W prog w A (subscriptTail value slice (.ref a) (.int k u)) h Q :=
  fun _ _ tk _ => tail_any hl.isList.typeIs slot_list_getitem.lookup (wpAny_getItem_list hl.isList h0 hf (by simpa using hx) ⟨h, tk, rfl, q⟩) hs
theorem W.item_tup {value slice : Expr} {a : Addr} {vs : List Value} {k : Int} {u : Tok} {v : Value} {Q : Value → Heap → Prop} (hl : TAt h a vs) (h0 : 0 ≤ k) (hx : vs[k.toNat]? = some v) (q : Q v h) (hf : k < 2 ^ 63)
    (hs : subscripted slice false (.ref a) (.int k u) = operate [.ref a, .int k u] (getItem (.ref a) (.int k u)) := by with_unfolding_all rfl) : W prog w A (subscriptTail value slice (.ref a) (.int k u)) h Q :=
  fun _ _ tk _ => item_tupleT (l := vs) hl.isTup (by omega) hf (j := k.toNat) (by
    have hlt : k.toNat < vs.length := (List.getElem?_eq_some_iff.mp hx).1
    unfold seqIndex?
    have h1 : ¬ k < 0 := by omega
    simp only [h1, if_false]
    have : k < (vs.length : Int) := by omega
    simp [this, h0]) hx ⟨h, tk, rfl, q⟩ hs

-- ints
theorem W.add_int {a b : Int} {t u : Tok} {Q : Value → Heap → Prop} (q : ∀ t, Q (.int (a + b) t) h) : W prog w A (binaryOp .Add (.int a t) (.int b u)) h Q := fun _ _ tk _ => PyProof.Rows.add_int ⟨h, tk + 1, rfl, q tk⟩
theorem W.iadd_int {a b : Int} {t u : Tok} {Q : Value → Heap → Prop} (q : ∀ t, Q (.int (a + b) t) h) : W prog w A (inplaceOp .Add (.int a t) (.int b u)) h Q := fun _ _ tk _ => PyProof.Rows.iadd_int ⟨h, tk + 1, rfl, q tk⟩
theorem W.sub_int {a b : Int} {t u : Tok} {Q : Value → Heap → Prop} (q : ∀ t, Q (.int (a - b) t) h) : W prog w A (binaryOp .Sub (.int a t) (.int b u)) h Q := fun _ _ tk _ => PyProof.Rows.sub_int ⟨h, tk + 1, rfl, q tk⟩
theorem W.mul_int {a b : Int} {t u : Tok} {Q : Value → Heap → Prop} (hm : IntMulOk a b) (q : ∀ t, Q (.int (a * b) t) h) : W prog w A (binaryOp .Mult (.int a t) (.int b u)) h Q := fun _ _ tk _ => PyProof.Rows.mul_int ⟨h, tk + 1, rfl, q tk⟩ hm
theorem W.mod_int {a b : Int} {t u : Tok} {Q : Value → Heap → Prop} (hb : b ≠ 0) (q : ∀ t, Q (.int (a.fmod b) t) h) : W prog w A (binaryOp .Mod (.int a t) (.int b u)) h Q := fun _ _ tk _ => PyProof.Rows.mod_int' hb ⟨h, tk + 1, rfl, q tk⟩
theorem W.neg_int {a : Int} {t : Tok} {Q : Value → Heap → Prop} (q : ∀ t, Q (.int (-a) t) h) : W prog w A (unaryOp .USub (.int a t)) h Q := fun _ _ tk _ => PyProof.Rows.neg_int ⟨h, tk + 1, rfl, q tk⟩
theorem W.pow_int {a n : Int} {t u : Tok} {Q : Value → Heap → Prop} (hn : 0 ≤ n) (hsz : (Builtin.Int.intBits a : Int) * n ≤ 2 ^ 27) (q : ∀ t, Q (.int (a ^ n.toNat) t) h) : W prog w A (binaryOp .Pow (.int a t) (.int n u)) h Q := fun _ _ tk _ => PyProof.Rows.pow_int hn hsz ⟨h, tk + 1, rfl, q tk⟩
theorem W.lt_int {a b : Int} {t u : Tok} {Q : Value → Heap → Prop} (q : Q (.bool (decide (a < b))) h) : W prog w A (compareOp .Lt (.int a t) (.int b u)) h Q := fun _ _ tk _ => PyProof.Rows.lt_int ⟨h, tk, rfl, q⟩
theorem W.gt_int {a b : Int} {t u : Tok} {Q : Value → Heap → Prop} (q : Q (.bool (decide (b < a))) h) : W prog w A (compareOp .Gt (.int a t) (.int b u)) h Q := fun _ _ tk _ => PyProof.Rows.gt_int ⟨h, tk, rfl, q⟩
theorem W.eq_int {a b : Int} {t u : Tok} {Q : Value → Heap → Prop} (q : Q (.bool (a == b)) h) : W prog w A (compareOp .Eq (.int a t) (.int b u)) h Q := fun _ _ tk _ => PyProof.Rows.eq_int ⟨h, tk, rfl, q⟩
theorem W.lt_str {a b : Str} {t u : Tok} {Q : Value → Heap → Prop} (q : Q (.bool (decide (a.cps.toList < b.cps.toList))) h) : W prog w A (compareOp .Lt (.str a t) (.str b u)) h Q := fun _ _ tk _ => PyProof.Rows.lt_str ⟨h, tk, rfl, q⟩
theorem W.is_none {v : Value} {Q : Value → Heap → Prop} (q : Q (.bool (v == .none)) h) : W prog w A (compareOp .Is v .none) h Q := fun _ _ tk _ => PySem.is_none ⟨h, tk, rfl, q⟩
theorem W.isNot_none {v : Value} {Q : Value → Heap → Prop} (q : Q (.bool (!(v == .none))) h) : W prog w A (compareOp .IsNot v .none) h Q := fun _ _ tk _ => PySem.isNot_none ⟨h, tk, rfl, q⟩
end

-- A4

structure Org (O h : Heap) : Prop where
  sub : Sub O h
  le : O.objs.size ≤ h.objs.size

/-- cells as a ledger -/
def cellLed (cs : List (Str × Addr)) (cm : Str → Option Value) : Led := cs.map fun p => (p.2, .cell (cm p.1))

section
variable {prog : Program} {w : World} {A : Around} {α β : Type} {O F h h' : Heap} {L : Addr} {m : Str → Option Value} {news : Led} {env : Env} {K : Frag} {p : Program} {loose : List Str} {mg mb : Str → Option Value}

theorem St.orgH (S : St O F L m news h) : Org O h := ⟨S.sO, Nat.le_of_lt (Nat.lt_of_le_of_lt S.le S.lt)⟩
theorem View.all (h : Heap) : View h [] h := ⟨fun _ _ e => e, (fun _ hp => nomatch hp), (fun _ hp => nomatch hp), List.nodup_nil⟩

/-- a call as code, the state hidden -/
def CGo (prog : Program) (w : World) (A : Around) (c : Code) (h : Heap) (Q : Value → Heap → Prop) : Prop :=
  ∀ g d tk os, codeAny (model prog w) A c (fun r s' => match r with | .ok (.ret v) => Post g d os Q v s' | _ => False) ⟨h, g, d, tk, os⟩
theorem W.of_code {f : Value} {pos : List Value} {kw : List (Str × Value)} {Q : Value → Heap → Prop} (x : CGo prog w A (.call f ⟨pos, kw⟩) h Q) : W prog w A (call f pos kw) h Q :=
  fun g d tk os => wpAny_call (codeAny_mono (x g d tk os) fun r s' y => by
    cases r with
    | ok fl => cases fl <;> first | exact y | exact y.elim
    | error e => exact y.elim)

theorem CGo.call_def {n : Nat} {f : Addr} {o : Obj} {fd : FuncData} {body : List Stmt} {pos : List Value} {kw : List (Str × Value)} {binds : List (Str × Value)} {Q : Value → Heap → Prop}
    (R : Room A (n + 1)) (G : Good K p loose mg mb O) (hO : Org O h) (V : View F news h) (hOF : Sub O F)
    (ho : K.lookup f = some o) (hdata : o.data = .func fd) (hcd : codeIn K fd.code fd.qualname = true) (hbody : fd.body = .stmts body) (hbind : ∀ s : Shared, s.heap = h → BindsTo s fd ⟨pos, kw⟩ binds)
    (hkind : ∀ L, ∀ x ∈ binds, fd.scope.names.lookup x.1 = some .local ∨ (fd.scope.names.lookup x.1 = some .cell ∧ ((cellsFrom L fd.scope.names []).lookup x.1).isSome = true))
    (hlk : ∀ L, ∀ q ∈ cellsFrom L fd.scope.names [], (cellsFrom L fd.scope.names []).lookup q.1 = some q.2)
    (x : ∀ L h₁, h.objs.size = L → Sub h h₁ → St O F L (bindL (callEnvC fd L f).kindOf binds fun _ => none) (cellLed (cellsFrom (L + 1) fd.scope.names []) (bindC (callEnvC fd L f).kindOf binds fun _ => none) ++ news) h₁ →
      W prog w (A.deeper (callEnvC fd L f)) (execs body (callEnvC fd L f)) h₁ fun fl h' => Q (match fl with | .ret v => v | _ => .none) h')
    (hclo : fd.closure = [] := by rfl) (hco : fd.scope.isCoroutine = false := by rfl) (hgen : fd.scope.isGenerator = false := by rfl) (hk : fd.scope.kind = .function := by rfl) :
    CGo prog w A (.call (.ref f) ⟨pos, kw⟩) h Q := by
  intro g d tk os
  have X := G.X.keeps hO.sub
  refine codeAny_call_function R.d (X _ _ ho) hdata hco hgen hbody (codeRec_of X hcd) ?_
  refine hbind _ rfl _ _ _ _ ?_
  rw [hclo]
  refine wpAny_newFunctionEnv_cells hk (hkind _) fun env he s' y => ?_
  subst he
  have hkeep := y.toInCall.keep
  obtain ⟨h₁, tk₁, es⟩ := y.toInCall.same
  subst es
  refine ⟨(G.T.nolimit.keeps hO.sub).keeps hkeep, codeAny_func ?_⟩
  have S : St O F h.objs.size (bindL (callEnvC fd h.objs.size f).kindOf binds fun _ => none) (cellLed (cellsFrom (h.objs.size + 1) fd.scope.names []) (bindC (callEnvC fd h.objs.size f).kindOf binds fun _ => none) ++ news) h₁ := by
    have lt_of : ∀ p ∈ news, p.1 < h.objs.size := fun p hp => let ⟨o, e⟩ := (V.nw p hp).some; Heap.lt_size e
    have ab : ∀ q ∈ cellLed (cellsFrom (h.objs.size + 1) fd.scope.names []) (bindC (callEnvC fd h.objs.size f).kindOf binds fun _ => none), h.objs.size < q.1 := by
      intro q hq
      obtain ⟨z, hz, rfl⟩ := List.mem_map.mp hq
      exact y.above z.1 z.2 hz
    have noF : ∀ b, h.objs.size ≤ b → F.get? b = none := by
      intro b hb
      cases q : F.get? b with
      | none => rfl
      | some o => exact absurd (Heap.lt_size (V.keep b o q)) (Nat.not_lt.mpr hb)
    refine ⟨⟨fun b o e => hkeep b o (V.keep b o e), ?_, ?_, ?_⟩, y.toInCall.ns, noF _ (Nat.le_refl _), ?_, hOF, hO.le⟩
    · intro q hq
      rcases List.mem_append.mp hq with hq | hq
      · obtain ⟨z, hz, rfl⟩ := List.mem_map.mp hq
        exact y.cell z.1 z.2 (hlk _ z hz)
      · exact (V.nw q hq).same (hkeep q.1)
    · intro q hq
      rcases List.mem_append.mp hq with hq | hq
      · exact noF _ (Nat.le_of_lt (ab q hq))
      · exact V.off q hq
    · rw [List.map_append]
      refine List.nodup_append.mpr ⟨?_, V.nd, ?_⟩
      · unfold cellLed
        rw [List.map_map]
        exact List.Pairwise.map _ (fun _ _ e => e) y.apart
      · intro a ha b hb e
        subst e
        obtain ⟨q, hq, rfl⟩ := List.mem_map.mp ha
        obtain ⟨r, hr, e⟩ := List.mem_map.mp hb
        have h1 := ab q hq
        have h2 := lt_of r hr
        have e' : r.1 = q.1 := e
        rw [e'] at h2
        exact absurd h2 (Nat.not_lt.mpr (Nat.le_of_lt h1))
    · intro q hq
      rcases List.mem_append.mp hq with hq | hq
      · exact Nat.ne_of_gt (ab q hq)
      · exact Nat.ne_of_lt (lt_of q hq)
  exact W.use (x h.objs.size h₁ rfl hkeep S) fun fl h' tk' q => ⟨h', tk', rfl, q⟩

theorem W.call_def {n : Nat} {f : Addr} {o : Obj} {fd : FuncData} {body : List Stmt} {pos : List Value} {kw : List (Str × Value)} {binds : List (Str × Value)} {Q : Value → Heap → Prop}
    (R : Room A (n + 1)) (G : Good K p loose mg mb O) (hO : Org O h) (V : View F news h) (hOF : Sub O F)
    (ho : K.lookup f = some o) (hdata : o.data = .func fd) (hcd : codeIn K fd.code fd.qualname = true) (hbody : fd.body = .stmts body) (hbind : ∀ s : Shared, s.heap = h → BindsTo s fd ⟨pos, kw⟩ binds)
    (hkind : ∀ L, ∀ x ∈ binds, fd.scope.names.lookup x.1 = some .local ∨ (fd.scope.names.lookup x.1 = some .cell ∧ ((cellsFrom L fd.scope.names []).lookup x.1).isSome = true))
    (hlk : ∀ L, ∀ q ∈ cellsFrom L fd.scope.names [], (cellsFrom L fd.scope.names []).lookup q.1 = some q.2)
    (x : ∀ L h₁, h.objs.size = L → Sub h h₁ → St O F L (bindL (callEnvC fd L f).kindOf binds fun _ => none) (cellLed (cellsFrom (L + 1) fd.scope.names []) (bindC (callEnvC fd L f).kindOf binds fun _ => none) ++ news) h₁ →
      W prog w (A.deeper (callEnvC fd L f)) (execs body (callEnvC fd L f)) h₁ fun fl h' => Q (match fl with | .ret v => v | _ => .none) h')
    (hclo : fd.closure = [] := by rfl) (hco : fd.scope.isCoroutine = false := by rfl) (hgen : fd.scope.isGenerator = false := by rfl) (hk : fd.scope.kind = .function := by rfl) :
    W prog w A (call (.ref f) pos kw) h Q := W.of_code (CGo.call_def R G hO V hOF ho hdata hcd hbody hbind hkind hlk x hclo hco hgen hk)
end

-- A5
section
variable {prog : Program} {w : World} {A : Around} {α β : Type} {O F h h' : Heap} {L : Addr} {m : Str → Option Value} {news : Led} {env : Env} {K : Frag} {p : Program} {loose : List Str} {mg mb : Str → Option Value}

/-- the end of a turn -/
def TurnEnd (O : Heap) (L : Addr) (it : Addr) (x : Ob) (Inv : Heap → (Str → Option Value) → Led → Prop) (Q : Flow → Heap → Prop) (fl : Flow) (h' : Heap) : Prop :=
  match fl with
  | .next | .cont => ∃ F' m' news', Inv F' m' news' ∧ St O F' L m' ((it, x) :: news') h'
  | .brk => Q .next h'
  | .ret v => Q (.ret v) h'

theorem W.run_codeX {c : Code} {Q : Flow → Heap → Prop} {g d os} {R : Result → Shared → Prop} (hR : R = fun r s' => match r with | .ok f => Post g d os Q f s' | .error _ => False)
    {s : Shared} (x : codeAny (model prog w) A c R s) (E : Value → Shared → Prop) : codeAny (model prog w) A c (fun r s' => match r with | .ok f => Post g d os Q f s' | .error e => E e s') s :=
  codeAny_mono x fun r s' y => by
    subst hR
    cases r with
    | ok f => exact y
    | error e => exact y.elim

/-- for over an iterator whose steps are known -/
theorem W.forLoop {it : Addr} {ob : Nat → Ob} {n : Nat} {P : Nat → Value → Prop} {target : Expr} {body : List Stmt} {Q : Flow → Heap → Prop} (Inv : Nat → Heap → (Str → Option Value) → Led → Prop)
    (next : ∀ i F m news h, i < n → Inv i F m news → St O F L m ((it, ob i) :: news) h → ∀ Q' : Option Value → Heap → Prop, (∀ v h', P i v → St O F L m ((it, ob (i + 1)) :: news) h' → Q' (some v) h') → W prog w A (pyNext (.ref it)) h Q')
    (stop : ∀ F m news h, Inv n F m news → St O F L m ((it, ob n) :: news) h → ∀ Q' : Option Value → Heap → Prop, (∀ h', St O F L m news h' → Q' none h') → W prog w A (pyNext (.ref it)) h Q')
    (own : ∀ i F m news h v, St O F L m ((it, ob i) :: news) h → W prog w A (letOwnedTupleGo target (.ref it) v) h fun _ h' => h' = h)
    (turn : ∀ i v F m news h, i < n → P i v → Inv i F m news → St O F L m ((it, ob (i + 1)) :: news) h →
      W prog w A (PySem.assign target env v) h fun _ h₁ => W prog w A (execs body env) h₁ (TurnEnd O L it (ob (i + 1)) (Inv (i + 1)) Q))
    (done : ∀ F m news h, Inv n F m news → St O F L m news h → Q .next h)
    (S : St O F L m ((it, ob 0) :: news) h) (hI : Inv 0 F m news) (g : Array GenState) (d : Drawn) (tk : Nat) (os : OsState) :
    codeAny (model prog w) A (.forLoop target (.ref it) body [] env) (fun r s' => match r with | .ok f => Post g d os Q f s' | .error _ => False) ⟨h, g, d, tk, os⟩ := by
  refine codeAny_loop' rfl (fun k s => ∃ i F m news h tk, s = ⟨h, g, d, tk, os⟩ ∧ i ≤ n ∧ k = n - i ∧ Inv i F m news ∧ St O F L m ((it, ob i) :: news) h) ?_ n ⟨0, F, m, news, h, tk, rfl, Nat.zero_le _, rfl, hI, S⟩
  rintro k s ⟨i, F, m, news, h, tk, rfl, hi, rfl, hI, S⟩
  show wpAny _ A ((forTurn target (.ref it) body [] env).onRaise (fun x => do noteFrame x env; theTreesLotGoes x)) _ _ _
  refine wpAny_onRaise ?_
  simp only [forTurn]
  refine wpAny_bind (wpAny_standAt (wpAny_bind (wpAny_onRaise ?_)))
  by_cases hin : i < n
  · refine W.use (next i F m news h hin hI S (fun r h' => ∃ v, r = some v ∧ P i v ∧ St O F L m ((it, ob (i + 1)) :: news) h') fun v h' hp S' => ⟨v, rfl, hp, S'⟩) ?_
    rintro r h₁ tk₁ ⟨v, rfl, hp, S₁⟩
    dsimp only
    refine wpAny_bind (W.use (own _ _ _ _ _ v S₁) ?_)
    rintro _ h₁' tk₂ rfl
    refine wpAny_bind (W.use (turn i v F m news h₁' hin hp hI S₁) ?_)
    intro _ h₂ tk₃ y
    refine wpAny_bind (W.use (tk := tk₃) y ?_)
    intro fl h₃ tk₄ z
    cases fl with
    | next =>
      obtain ⟨F', m', news', hI', S'⟩ := z
      exact wpAny_pure (.inl ⟨rfl, n - (i + 1), by omega, i + 1, F', m', news', h₃, tk₄, rfl, hin, rfl, hI', S'⟩)
    | cont =>
      obtain ⟨F', m', news', hI', S'⟩ := z
      exact wpAny_pure (.inl ⟨rfl, n - (i + 1), by omega, i + 1, F', m', news', h₃, tk₄, rfl, hin, rfl, hI', S'⟩)
    | brk => exact wpAny_pure ⟨h₃, tk₄, rfl, z⟩
    | ret v => exact wpAny_pure ⟨h₃, tk₄, rfl, z⟩
  · have : i = n := by omega
    subst this
    refine W.use (stop F m news h hI S (fun r h' => r = none ∧ St O F L m news h') fun h' S' => ⟨rfl, S'⟩) ?_
    rintro r h₁ tk₁ ⟨rfl, S₁⟩
    dsimp only
    refine wpAny_pure (.inr ⟨rfl, codeAny_block (wpAny_execs_nil ⟨h₁, tk₁, rfl, done F m news h₁ hI S₁⟩)⟩)

theorem own_name {it : Addr} {x : Str} {pos : Pos} {v : Value} : W prog w A (letOwnedTupleGo (.Name x pos) (.ref it) v) h fun _ h' => h' = h := W.pure rfl
theorem own_list {it l : Addr} {i : Nat} {elts : List Expr} {k : Nat} {pos : Pos} {v : Value} (hit : h.IsListIter it l i) : W prog w A (letOwnedTupleGo (.Tuple elts k pos) (.ref it) v) h fun _ h' => h' = h := by
  obtain ⟨o, ho, hc, hd⟩ := hit
  intro g d tk os
  cases v <;> first | exact wpAny_pure ⟨h, tk, rfl, rfl⟩ | skip
  unfold letOwnedTupleGo
  dsimp only
  refine wpAny_bind (wpAny_load ho ?_)
  rw [hc, hd]
  exact wpAny_pure ⟨h, tk, rfl, rfl⟩
end

-- A6
section
variable {prog : Program} {w : World} {A : Around} {α β : Type} {O F h h' : Heap} {L : Addr} {m : Str → Option Value} {news : Led} {env : Env} {K : Frag} {p : Program} {loose : List Str} {mg mb : Str → Option Value}

/-- a code run with the state hidden -/
def Go (prog : Program) (w : World) (A : Around) (c : Code) (h : Heap) (Q : Flow → Heap → Prop) : Prop :=
  ∀ g d tk os, codeAny (model prog w) A c (fun r s' => match r with | .ok f => Post g d os Q f s' | .error _ => False) ⟨h, g, d, tk, os⟩

theorem W.for_ {target iter : Expr} {body : List Stmt} {pos : Pos} {Q : Flow → Heap → Prop}
    (x : W prog w A (eval iter env) h fun xv h₁ => W prog w A (pyIter xv) h₁ fun it h₂ => Go prog w A (.forLoop target it body [] env) h₂ Q) (hs : ∀ x, foldedSetIterable iter env x = Pure.pure x := by intro _; rfl) :
    W prog w A (exec (.For target iter body [] pos) env) h Q :=
  fun g d _ os => wpAny_For (x.use fun _ _ tk₁ y => y.use (tk := tk₁) fun _ _ tk₂ z => codeAny_mono (z g d tk₂ os) fun r s' u => by
    cases r with
    | ok f => exact u
    | error e => exact u.elim) hs

theorem W.pyIter_list {a : Addr} {items : Array Value} {Q : Value → Heap → Prop} (S : St O F L m news h) (hl : h.IsList a items) (q : ∀ it h', L < it → Sub h h' → St O F L m ((it, .liter a 0) :: news) h' → Q (.ref it) h') : W prog w A (pyIter (.ref a)) h Q :=
  fun _ _ tk _ => wpAny_pyIter_list hl ⟨_, tk, rfl, q _ _ S.lt (fun b o e => Heap.get?_push_of_some _ e) (S.alloc _ ⟨_, Heap.get?_push_size _ rfl, rfl, rfl⟩)⟩

theorem next_list {it a : Addr} {items : Array Value} {i : Nat} {v : Value} {Q : Option Value → Heap → Prop} (S : St O F L m ((it, .liter a i) :: news) h) (hl : h.IsList a items) (hv : items[i]? = some v)
    (q : ∀ h', St O F L m ((it, .liter a (i + 1)) :: news) h' → Q (some v) h') : W prog w A (pyNext (.ref it)) h Q :=
  fun _ _ tk _ => wpAny_pyNext_list_item (S.get (i := 0) rfl) hl hv fun h' hi hs => ⟨h', tk, rfl, q h' (S.upd (i := 0) rfl hs.extBut hi)⟩
theorem stop_list {it a : Addr} {items : Array Value} {i : Nat} {Q : Option Value → Heap → Prop} (hh : A.handled = none) (S : St O F L m ((it, .liter a i) :: news) h) (hl : h.IsList a items) (hv : items[i]? = none)
    (q : ∀ h', St O F L m news h' → Q none h') : W prog w A (pyNext (.ref it)) h Q :=
  fun _ _ tk _ => wpAny_pyNext_list_end hh (S.get (i := 0) rfl) hl hv fun h' hs => ⟨h', tk, rfl, q h' (S.dropBut hs)⟩
theorem next_range {it : Addr} {x left : Int} {Q : Option Value → Heap → Prop} (S : St O F L m ((it, .riter x left 1) :: news) h) (hl : 0 < left)
    (q : ∀ t h', St O F L m ((it, .riter (x + 1) (left - 1) 1) :: news) h' → Q (some (.int x t)) h') : W prog w A (pyNext (.ref it)) h Q :=
  fun _ _ tk _ => wpAny_pyNext_range_item (S.get (i := 0) rfl) hl fun h' hi hs => ⟨h', tk + 1, rfl, q _ h' (S.upd (i := 0) (y := .riter (x + 1) (left - 1) 1) rfl hs.extBut hi)⟩
theorem stop_range {it : Addr} {x left : Int} {Q : Option Value → Heap → Prop} (hh : A.handled = none) (S : St O F L m ((it, .riter x left 1) :: news) h) (hl : left ≤ 0)
    (q : ∀ h', St O F L m news h' → Q none h') : W prog w A (pyNext (.ref it)) h Q :=
  fun _ _ tk _ => wpAny_pyNext_range_end hh (S.get (i := 0) rfl) hl fun h' hs => ⟨h', tk, rfl, q h' (S.dropBut hs)⟩

/-- for over a list -/
theorem Go.list {it a : Addr} {items : List Value} {target : Expr} {body : List Stmt} {Q : Flow → Heap → Prop} (Inv : Nat → Heap → (Str → Option Value) → Led → Prop) (hh : A.handled = none)
    (hl : ∀ i F m news h x, Inv i F m news → St O F L m ((it, x) :: news) h → h.IsList a items.toArray)
    (turn : ∀ i v F m news h, items[i]? = some v → Inv i F m news → St O F L m ((it, .liter a (i + 1)) :: news) h →
      W prog w A (PySem.assign target env v) h fun _ h₁ => W prog w A (execs body env) h₁ (TurnEnd O L it (.liter a (i + 1)) (Inv (i + 1)) Q))
    (done : ∀ F m news h, Inv items.length F m news → St O F L m news h → Q .next h)
    (S : St O F L m ((it, .liter a 0) :: news) h) (hI : Inv 0 F m news) (ht : (∃ x pos, target = .Name x pos) ∨ (∃ e k pos, target = .Tuple e k pos)) : Go prog w A (.forLoop target (.ref it) body [] env) h Q := by
  intro g d tk os
  refine W.forLoop (n := items.length) (ob := fun i => .liter a i) (P := fun i v => items[i]? = some v) Inv ?_ ?_ ?_ (fun i v F m news h _ hv hI S => turn i v F m news h hv hI S) done S hI g d tk os
  · intro i F m news h hi hI S Q' q
    have : items[i]? = some items[i] := List.getElem?_eq_getElem hi
    exact next_list S (hl _ _ _ _ _ _ hI S) (by simpa using this) fun h' S' => q _ h' this S'
  · intro F m news h hI S Q' q
    exact stop_list hh S (hl _ _ _ _ _ _ hI S) (by simp) q
  · intro i F m news h v S
    rcases ht with ⟨x, pos, rfl⟩ | ⟨e, k, pos, rfl⟩
    · exact own_name
    · exact own_list (S.get (i := 0) rfl)
/-- for over a range -/
theorem Go.range {it : Addr} {n : Nat} {x : Str} {px : Pos} {body : List Stmt} {Q : Flow → Heap → Prop} (Inv : Nat → Heap → (Str → Option Value) → Led → Prop) (hh : A.handled = none)
    (turn : ∀ i t F m news h, i < n → Inv i F m news → St O F L m ((it, .riter (i + 1) (n - (i + 1)) 1) :: news) h →
      W prog w A (storeName env x (.int i t)) h fun _ h₁ => W prog w A (execs body env) h₁ (TurnEnd O L it (.riter (i + 1) (n - (i + 1)) 1) (Inv (i + 1)) Q))
    (done : ∀ F m news h, Inv n F m news → St O F L m news h → Q .next h)
    (S : St O F L m ((it, .riter 0 n 1) :: news) h) (hI : Inv 0 F m news) : Go prog w A (.forLoop (.Name x px) (.ref it) body [] env) h Q := by
  intro g d tk os
  refine W.forLoop (n := n) (ob := fun i => .riter i (n - i) 1) (P := fun i v => ∃ t, v = .int i t) Inv ?_ ?_ (fun i F m news h v _ => own_name) ?_ done (by simpa using S) hI g d tk os
  · intro i F m news h hi hI S Q' q
    refine next_range S (by omega) fun t h' S' => q _ h' ⟨t, rfl⟩ ?_
    have e1 : ((i + 1 : Nat) : Int) = (i : Int) + 1 := by omega
    have e2 : (n : Int) - ((i + 1 : Nat) : Int) = (n : Int) - (i : Int) - 1 := by omega
    rw [e1, ← e1, e2, e1]; exact S'
  · intro F m news h hI S Q' q
    exact stop_range hh S (by omega) q
  · rintro i v F m news h hi ⟨t, rfl⟩ hI S
    intro g d tk os
    have e1 : ((i + 1 : Nat) : Int) = (i : Int) + 1 := by omega
    have S' : St O F L m ((it, .riter ((i : Int) + 1) ((n : Int) - ((i : Int) + 1)) 1) :: news) h := by rw [← e1]; exact S
    refine wpAny_assign_Name ((turn i t F m news h hi hI S').use fun _ h₁ tk₁ y => ⟨h₁, tk₁, rfl, ?_⟩)
    rw [e1]; exact y

theorem W.call_range {n : Int} {t : Tok} {Q : Value → Heap → Prop} (S : St O F L m news h) (q : ∀ r h' t u v, Sub h h' → St O F L m news h' → IsRange h' r 0 n 1 t u v → Q (.ref r) h') : W prog w A (call (.type "range") [.int n t]) h Q :=
  fun _ _ tk _ => call_range_1 ⟨_, tk + 1 + 1, rfl, q _ _ _ _ _ (fun b o e => Heap.get?_push_of_some _ e) (S.ext fun b o e => Heap.get?_push_of_some _ e) (IsRange.new ..)⟩
theorem W.pyIter_range {r : Addr} {n : Nat} {t u v : Tok} {Q : Value → Heap → Prop} (S : St O F L m news h) (hr : IsRange h r 0 n 1 t u v) (hn : n < 2 ^ 62) (q : ∀ it h', L < it → Sub h h' → St O F L m ((it, .riter 0 n 1) :: news) h' → Q (.ref it) h') : W prog w A (pyIter (.ref r)) h Q :=
  fun _ _ tk _ => wpAny_pyIter_range hr (small_one (by omega) (by omega) (by omega) (by omega)) ⟨_, tk, rfl, q _ _ S.lt (fun b o e => Heap.get?_push_of_some _ e) (S.alloc _ (by
    have : Builtin.Range.rangeSize 0 (n : Int) 1 = (n : Int) := by rw [rangeSize_one]; split <;> omega
    rw [this]; exact Heap.get?_push_size _ rfl))⟩
end

-- A7
section
variable {prog : Program} {w : World} {A : Around} {α β : Type} {O F h h' : Heap} {L : Addr} {m : Str → Option Value} {news : Led} {env : Env} {K : Frag} {p : Program} {loose : List Str} {mg mb : Str → Option Value}

theorem W.call {func : Expr} {args : List Expr} {pos : Pos} {Q : Value → Heap → Prop} (x : W prog w A (eval func env) h fun f h₁ => W prog w A (callWith pos f [] (backTo pos (starEach args env)) []) h₁ Q)
    (he : eval (.Call func args [] pos) env = (do callWith pos (← eval func env) [] (backTo pos (starEach args env)) (backToKw pos (keywordEach [] env))) := by rfl) : W prog w A (eval (.Call func args [] pos) env) h Q :=
  fun _ _ _ _ => Call_ (x.use fun _ _ tk₁ y => y _ _ tk₁ _) he
theorem W.callK {f : Value} {first : List Value} {e : Expr} {rest : List Expr} {pos : Pos} {Q : Value → Heap → Prop} (G : Good K p loose mg mb O) (hk : keepIn K f = true)
    (x : W prog w A (spliced (backTo pos (starEach (e :: rest) env))) h fun vs h₁ => Sub O h₁ ∧ W prog w A (PySem.call f (first ++ vs)) h₁ Q)
    (he : starEach (e :: rest) env = (false, eval e env) :: starEach rest env := by rfl) (hplain : (backTo pos (starEach rest env)).any (·.1) = false := by rfl) :
    W prog w A (callWith pos f first (backTo pos (starEach (e :: rest) env)) []) h Q :=
  fun _ _ _ _ => callWith_K G.X hk (x.use fun _ _ tk₁ y => ⟨G.X.keeps y.1, y.2 _ _ tk₁ _⟩) he hplain
theorem W.callK0 {f : Value} {first : List Value} {pos : Pos} {Q : Value → Heap → Prop} (G : Good K p loose mg mb O) (hs : Sub O h) (hk : keepIn K f = true) (x : W prog w A (PySem.call f (first ++ [])) h Q) : W prog w A (callWith pos f first (backTo pos (starEach [] env)) []) h Q :=
  fun _ _ tk _ => callWith_K0 (G.X.keeps hs) hk (x _ _ tk _)
theorem W.callKW {f : Value} {first : List Value} {e : Expr} {rest : List Expr} {kws : List Keyword} {pos : Pos} {Q : Value → Heap → Prop} (G : Good K p loose mg mb O) (hk : keepIn K f = true) (hall : (backToKw pos (keywordEach kws env)).all (·.1.isSome) = true)
    (x : W prog w A (spliced (backTo pos (starEach (e :: rest) env))) h fun vs h₁ => W prog w A (evalAll ((backToKw pos (keywordEach kws env)).map (·.2))) h₁ fun ks h₂ => Sub O h₂ ∧ W prog w A (PySem.call f (first ++ vs) (((backToKw pos (keywordEach kws env)).filterMap (·.1)).zip ks)) h₂ Q)
    (hplain : ((backTo pos (starEach (e :: rest) env)).any (·.1) || (backToKw pos (keywordEach kws env)).any (·.1.isNone)) = false := by rfl) (he : starEach (e :: rest) env = (false, eval e env) :: starEach rest env := by rfl) :
    W prog w A (callWith pos f first (backTo pos (starEach (e :: rest) env)) (backToKw pos (keywordEach kws env))) h Q :=
  fun _ _ _ _ => callWith_KW G.X hk hall (x.use fun _ _ tk₁ y => y.use (tk := tk₁) fun _ _ tk₂ z => ⟨G.X.keeps z.1, z.2 _ _ tk₂ _⟩) hplain he
theorem W.callB {id : String} {first : List Value} {e : Expr} {rest : List Expr} {pos : Pos} {Q : Value → Heap → Prop} (x : W prog w A (spliced (backTo pos (starEach (e :: rest) env))) h fun vs h₁ => W prog w A (PySem.call (.builtin id) (first ++ vs)) h₁ Q)
    (he : starEach (e :: rest) env = (false, eval e env) :: starEach rest env := by rfl) (hplain : (backTo pos (starEach rest env)).any (·.1) = false := by rfl) : W prog w A (callWith pos (.builtin id) first (backTo pos (starEach (e :: rest) env)) []) h Q :=
  fun _ _ _ _ => callWith_method1 (x.use fun _ _ tk₁ y => y _ _ tk₁ _) he hplain
theorem W.callB0 {id : String} {first : List Value} {pos : Pos} {Q : Value → Heap → Prop} (x : W prog w A (PySem.call (.builtin id) first) h Q) : W prog w A (callWith pos (.builtin id) first (backTo pos (starEach [] env)) []) h Q :=
  fun _ _ tk _ => callWith_method0 (x _ _ tk _)
theorem W.callT {T : String} {e : Expr} {rest : List Expr} {pos : Pos} {Q : Value → Heap → Prop} (x : W prog w A (spliced (backTo pos (starEach (e :: rest) env))) h fun vs h₁ => W prog w A (PySem.call (.type T) vs) h₁ Q)
    (he : starEach (e :: rest) env = (false, eval e env) :: starEach rest env := by rfl) (hplain : (backTo pos (starEach rest env)).any (·.1) = false := by rfl) : W prog w A (callWith pos (.type T) [] (backTo pos (starEach (e :: rest) env)) []) h Q :=
  fun _ _ _ _ => PyProof.Rows.callWith_type1 (x.use fun _ _ tk₁ y => y _ _ tk₁ _) he hplain
theorem W.meth {o : Expr} {name : Str} {apos pos : Pos} {args : List Expr} {kws : List Keyword} {pl : Sem Bool} {Q : Value → Heap → Prop}
    (x : W prog w A (eval o env) h fun ov h₁ => W prog w A (getMethod ov name pl) h₁ fun fx h₂ => W prog w A (callWith pos fx.1 fx.2 (backTo pos (starEach args env)) (backToKw pos (keywordEach kws env))) h₂ Q)
    (he : eval (.Call (.Attribute o name apos) args kws pos) env = (do
      let ov ← eval o env
      standAt apos.atName
      let (f, first) ← holding [ov] (getMethod ov name pl)
      callWith pos f first (backTo pos (starEach args env)) (backToKw pos (keywordEach kws env))) := by rfl) : W prog w A (eval (.Call (.Attribute o name apos) args kws pos) env) h Q :=
  fun _ _ _ _ => methodCall_KW (x.use fun _ _ tk₁ y => y.use (tk := tk₁) fun _ _ tk₂ z => z _ _ tk₂ _) he
theorem W.attr {value : Expr} {attr : Str} {pos : Pos} {Q : Value → Heap → Prop} (x : W prog w A (eval value env) h fun o h₁ => W prog w A (getAttr o attr true) h₁ Q)
    (he : eval (.Attribute value attr pos) env = (do
      let o ← eval value env
      standAt pos.atName
      let r ← holding [o] (getAttr o attr true)
      letTemporaryGo value o r
      Pure.pure r) := by with_unfolding_all rfl) : W prog w A (eval (.Attribute value attr pos) env) h Q :=
  fun _ _ _ _ => Attribute_any_ (x.use fun _ _ tk₁ y => y _ _ tk₁ _) he
theorem W.evalAll_nil {Q : List Value → Heap → Prop} (q : Q [] h) : W prog w A (evalAll []) h Q := W.pure q
theorem W.evalAll_cons {x : Sem Value} {rest : List (Sem Value)} {Q : List Value → Heap → Prop} (y : W prog w A x h fun v h₁ => W prog w A (evalAll rest) h₁ fun vs h₂ => Q (v :: vs) h₂) : W prog w A (evalAll (x :: rest)) h Q := by
  intro g d tk os
  show wpAny _ _ (x >>= fun v => holding [v] (evalAll rest) >>= fun vs => Pure.pure (v :: vs)) _ _ _
  exact wpAny_bind (y.use fun v h₁ tk₁ z => wpAny_bind (wpAny_holding (z.use (tk := tk₁) fun vs h₂ tk₂ q => wpAny_pure ⟨h₂, tk₂, rfl, q⟩)))

-- instances
theorem W.getAttr_own {x : Addr} {ox : Obj} {C : Addr} {es : List DictEntry} {n : Nat} {name : Str} {expr : Bool} {attr : Option Value} {v : Value} {Q : Value → Heap → Prop} (G : Good K p loose mg mb O) (S : St O F L m news h) (I : W.InstAt h x ox C (some (dictOf es n)))
    (hg : plainGet K C name = true) (hh : hasDictIn K C = true) (ha : findIn K (.ref C) name = some attr) (hn : noGet K attr = true) (hl : getL name es = some (some v)) (hv : handedIn v = true) (q : Q v h) : W prog w A (getAttr (.ref x) name expr) h Q :=
  fun _ _ tk _ => get_own (S.fr) G.X I hg hh ha hn hl hv ⟨h, tk + 1, rfl, q⟩
theorem W.method_inst {x : Addr} {ox : Obj} {C f : Addr} {es : List DictEntry} {n : Nat} {name : Str} {pl : Sem Bool} {Q : Value × List Value → Heap → Prop} (G : Good K p loose mg mb O) (S : St O F L m news h) (I : W.InstAt h x ox C (some (dictOf es n)))
    (hg : plainGet K C name = true) (hf : findIn K (.ref C) name = some (some (.ref f))) (ht : isFn K (.ref f) = true) (hl : getL name es = some none) (q : Q (.ref f, [.ref x]) h) : W prog w A (getMethod (.ref x) name pl) h Q :=
  fun _ _ tk _ => PySem.W.method_inst (S.fr) G.X I hg hf ht hl ⟨h, tk, rfl, q⟩
-- methods of built-in types
theorem W.method_list {l : Addr} {vs : List Value} {name : Str} {id : String} {pl : Sem Bool} {Q : Value × List Value → Heap → Prop} (hl : LAt h l vs) (pa : PlainAttrs "list") (slot : Slot "list" name id) (hty : typeOf (.builtin id) = Pure.pure (.type "method_descriptor")) (q : Q (.builtin id, [.ref l]) h) : W prog w A (getMethod (.ref l) name pl) h Q :=
  fun _ _ tk _ => getMethod_builtin (hl.isList.typeIs) pa slot hty (fun a e => by cases e; obtain ⟨n, e⟩ := hl; exact ⟨_, e, rfl⟩) ⟨h, tk, rfl, q⟩
end

-- A8
theorem rc_lt_int {prog : Program} {w : World} {A : Around} {E : Value → Shared → Prop} {s : Shared} {a b : Int} {t u : Tok} {Q : Value → Shared → Prop} (h : Q (.bool (decide (a < b))) s) : wpAny (model prog w) A (richCompare .Lt (.int a t) (.int b u)) Q E s := PyProof.Rows.lt_int h
theorem rc_gt_int {prog : Program} {w : World} {A : Around} {E : Value → Shared → Prop} {s : Shared} {a b : Int} {t u : Tok} {Q : Value → Shared → Prop} (h : Q (.bool (decide (b < a))) s) : wpAny (model prog w) A (richCompare .Gt (.int a t) (.int b u)) Q E s := PyProof.Rows.gt_int h
set_option maxHeartbeats 1000000 in
theorem t_lt2 (l b : Addr) (n n2 : Nat) (a1 a2 b1 b2 : Int) (t1 t2 u1 u2 : Tok) :
    Meets (Builtin.«tuple.__lt__» ⟨[.ref l, .ref b], []⟩)
      (fun A R s => s.heap.get? l = some { cls := .type "tuple", dict := none, data := .seq #[.int a1 t1, .int a2 t2] n, slots := #[] } ∧ s.heap.get? b = some { cls := .type "tuple", dict := none, data := .seq #[.int b1 u1, .int b2 u2] n2, slots := #[] } ∧
        R (.ok (.ret (.bool (if a1 == b1 then (if a2 == b2 then false else decide (a2 < b2)) else decide (a1 < b1))))) s) :=
  .of_wp fun prog w A R s h => by
    obtain ⟨hp, g, d, tk, os⟩ := s; obtain ⟨hl, hb, h⟩ := h
    have f2 := AutoSeq1.sub_tuple_tuple
    wp_walk using wpAny_loadPart' hl, wpAny_loadPart' hb
    refine wpAny_eqBool_int ?_
    cases h1 : a1 == b1 with
    | true =>
      rw [h1] at h
      simp only [if_true] at h
      wp_walk
      refine wpAny_eqBool_int ?_
      cases h2 : a2 == b2 with
      | true =>
        rw [h2] at h
        wp_walk
        exact ⟨_, rfl, h⟩
      | false =>
        rw [h2] at h
        wp_walk using rc_lt_int
        exact ⟨_, rfl, h⟩
    | false =>
      rw [h1] at h
      wp_walk using rc_lt_int
      exact ⟨_, rfl, h⟩
set_option maxHeartbeats 1000000 in
theorem t_gt2 (l b : Addr) (n n2 : Nat) (a1 a2 b1 b2 : Int) (t1 t2 u1 u2 : Tok) :
    Meets (Builtin.«tuple.__gt__» ⟨[.ref l, .ref b], []⟩)
      (fun A R s => s.heap.get? l = some { cls := .type "tuple", dict := none, data := .seq #[.int a1 t1, .int a2 t2] n, slots := #[] } ∧ s.heap.get? b = some { cls := .type "tuple", dict := none, data := .seq #[.int b1 u1, .int b2 u2] n2, slots := #[] } ∧
        R (.ok (.ret (.bool (if a1 == b1 then (if a2 == b2 then false else decide (b2 < a2)) else decide (b1 < a1))))) s) :=
  .of_wp fun prog w A R s h => by
    obtain ⟨hp, g, d, tk, os⟩ := s; obtain ⟨hl, hb, h⟩ := h
    have f2 := AutoSeq1.sub_tuple_tuple
    wp_walk using wpAny_loadPart' hl, wpAny_loadPart' hb
    refine wpAny_eqBool_int ?_
    cases h1 : a1 == b1 with
    | true =>
      rw [h1] at h
      simp only [if_true] at h
      wp_walk
      refine wpAny_eqBool_int ?_
      cases h2 : a2 == b2 with
      | true =>
        rw [h2] at h
        wp_walk
        exact ⟨_, rfl, h⟩
      | false =>
        rw [h2] at h
        wp_walk using rc_gt_int
        exact ⟨_, rfl, h⟩
    | false =>
      rw [h1] at h
      wp_walk using rc_gt_int
      exact ⟨_, rfl, h⟩

section
variable {prog : Program} {w : World} {A : Around} {h : Heap}
theorem W.lt_tup2 {a b : Addr} {a1 a2 b1 b2 : Int} {t1 t2 u1 u2 : Tok} {Q : Value → Heap → Prop} (hu : A.units < cLine) (ha : TAt h a [.int a1 t1, .int a2 t2]) (hb : TAt h b [.int b1 u1, .int b2 u2])
    (q : Q (.bool (if a1 == b1 then (if a2 == b2 then false else decide (a2 < b2)) else decide (a1 < b1))) h) : W prog w A (compareOp .Lt (.ref a) (.ref b)) h Q := by
  obtain ⟨n, ha⟩ := ha
  obtain ⟨n2, hb⟩ := hb
  intro g d tk os
  exact richCompare_meets_room (op := .Lt) ⟨_, ha, rfl⟩ ⟨_, hb, rfl⟩ F.slot_tuple_lt F.entry_tuple_lt (F.args_tuple_lt_2 _ _) (t_lt2 a b n n2 a1 a2 b1 b2 t1 t2 u1 u2)
    ⟨ha, hb, (fun x => nomatch x), h, tk, rfl, q⟩ hu
theorem W.gt_tup2 {a b : Addr} {a1 a2 b1 b2 : Int} {t1 t2 u1 u2 : Tok} {Q : Value → Heap → Prop} (hu : A.units < cLine) (ha : TAt h a [.int a1 t1, .int a2 t2]) (hb : TAt h b [.int b1 u1, .int b2 u2])
    (q : Q (.bool (if a1 == b1 then (if a2 == b2 then false else decide (b2 < a2)) else decide (b1 < a1))) h) : W prog w A (compareOp .Gt (.ref a) (.ref b)) h Q := by
  obtain ⟨n, ha⟩ := ha
  obtain ⟨n2, hb⟩ := hb
  intro g d tk os
  exact richCompare_meets_room (op := .Gt) ⟨_, ha, rfl⟩ ⟨_, hb, rfl⟩ F.slot_tuple_gt F.entry_tuple_gt (F.args_tuple_gt_2 _ _) (t_gt2 a b n n2 a1 a2 b1 b2 t1 t2 u1 u2)
    ⟨ha, hb, (fun x => nomatch x), h, tk, rfl, q⟩ hu
theorem W.gt_str {a b : Str} {t u : Tok} {Q : Value → Heap → Prop} (q : Q (.bool (decide (b.cps.toList < a.cps.toList))) h) : W prog w A (compareOp .Gt (.str a t) (.str b u)) h Q := fun _ _ tk _ => P.gt_str ⟨h, tk, rfl, q⟩
end

-- A9
section
variable {prog : Program} {w : World} {A : Around} {α β : Type} {O F h h' : Heap} {L : Addr} {m : Str → Option Value} {news : Led} {env : Env} {K : Frag} {p : Program} {loose : List Str} {mg mb : Str → Option Value}
theorem sub_of_ext {h h' : Heap} (hx : Heap.ExtBut h.objs.size h h') : Sub h h' := fun b o e => hx b o (Nat.ne_of_lt (Heap.lt_size e)) e
theorem W.assign_name {x : Str} {pos : Pos} {v : Value} {Q : Unit → Heap → Prop} (y : W prog w A (storeName env x v) h Q) : W prog w A (PySem.assign (.Name x pos) env v) h Q :=
  fun _ _ _ _ => wpAny_assign_Name (y.use fun _ h₁ tk₁ q => ⟨h₁, tk₁, rfl, q⟩)
theorem W.assign_tup2 {x y : Str} {px py pos : Pos} {k : Nat} {a : Addr} {v₁ v₂ : Value} {Q : Unit → Heap → Prop} (hh : A.handled = none) (S : St O F L m news h) (hT : TAt h a [v₁, v₂])
    (q : ∀ h', St O F L (fun z => if z = y then some v₂ else if z = x then some v₁ else m z) news h' → Q () h')
    (hk : env.scope.kind = .function := by rfl) (hl : env.kindOf x = some .local := by rfl) (hl2 : env.kindOf y = some .local := by rfl) (hL : env.locals = L := by rfl) :
    W prog w A (PySem.assign (.Tuple [.Name x px, .Name y py] k pos) env (.ref a)) h Q := by
  intro g d tk os
  refine assign_Tuple_tuple hh hT.isTup rfl rfl fun h₁ hx => ?_
  have S₁ := S.ext (sub_of_ext hx)
  show wpAny _ _ (holding [v₂] (PySem.assign (.Name x px) env v₁) >>= fun _ => holding [] (PySem.assign (.Name y py) env v₂) >>= fun _ => Pure.pure ()) _ _ _
  refine wpAny_bind (wpAny_holding (W.use (W.assign_name (W.store (Q := fun _ h' => St O F L (fun z => if z = x then some v₁ else m z) news h') S₁ (fun h' S' => S') hk hl hL)) fun _ h₂ tk₂ S₂ => ?_))
  refine wpAny_bind (wpAny_holding (W.use (W.assign_name (W.store (Q := Q) S₂ (fun h' S' => q h' S') hk hl2 hL)) fun _ h₃ tk₃ q₃ => ?_))
  exact wpAny_pure ⟨h₃, tk₃, rfl, q₃⟩
end

-- A10
section
variable {prog : Program} {w : World} {A : Around} {α β : Type} {O F h h' : Heap} {L : Addr} {m : Str → Option Value} {news : Led} {env : Env} {K : Frag} {p : Program} {loose : List Str} {mg mb : Str → Option Value}

theorem W.assign_attr {o value : Expr} {attr : Str} {pos' pos : Pos} {Q : Flow → Heap → Prop} (x : W prog w A (eval value env) h fun v h₁ => W prog w A (eval o env) h₁ fun ov h₂ => W prog w A (setAttr ov attr v) h₂ fun _ => Q .next)
    (hs : swapsWith value (some (.Attribute o attr pos')) pos.line env = Pure.pure false := by rfl) : W prog w A (exec (.Assign [.Attribute o attr pos'] value pos) env) h Q :=
  fun _ _ _ _ => plainObj_wpAny_Assign_Attribute (x.use fun _ _ tk₁ y => y.use (tk := tk₁) fun _ _ tk₂ z => z.use (tk := tk₂) fun _ h₃ tk₃ q => ⟨h₃, tk₃, rfl, q⟩) hs
theorem W.assign_sub {o i value : Expr} {pos' pos : Pos} {Q : Flow → Heap → Prop} (x : W prog w A (eval value env) h fun v h₁ => W prog w A (eval o env) h₁ fun ov h₂ => W prog w A (eval i env) h₂ fun iv h₃ => W prog w A (setItem ov iv v) h₃ fun _ => Q .next)
    (hs : swapsWith value (some (.Subscript o i pos')) pos.line env = Pure.pure false := by rfl) : W prog w A (exec (.Assign [.Subscript o i pos'] value pos) env) h Q :=
  fun _ _ _ _ => wpAny_Assign_Subscript (x.use fun _ _ tk₁ y => y.use (tk := tk₁) fun _ _ tk₂ z => z.use (tk := tk₂) fun _ _ tk₃ u => u.use (tk := tk₃) fun _ h₄ tk₄ q => ⟨h₄, tk₄, rfl, q⟩) hs
theorem W.del_sub {o i : Expr} {pos' pos : Pos} {Q : Flow → Heap → Prop} (x : W prog w A (eval o env) h fun ov h₁ => W prog w A (eval i env) h₁ fun iv h₂ => W prog w A (delItem ov iv) h₂ fun _ => Q .next) : W prog w A (exec (.Delete [.Subscript o i pos'] pos) env) h Q := by
  intro g d tk os
  refine wpAny_Delete ?_
  show wpAny _ _ ((do
      let ov ← eval o env
      let iv ← holding [ov] (eval i env)
      standAt pos'
      holding [ov, iv] (delItem ov iv)
      release [ov, iv] []) >>= fun _ => Pure.pure ()) _ _ _
  refine wpAny_bind (wpAny_bind (x.use fun ov h₁ tk₁ y => wpAny_bind (wpAny_holding (y.use (tk := tk₁) fun iv h₂ tk₂ z => wpAny_bind (wpAny_standAt (wpAny_bind (wpAny_holding (z.use (tk := tk₂) fun _ h₃ tk₃ q => ?_))))))))
  exact PySem.wpAny_release (wpAny_pure ⟨h₃, tk₃, rfl, q⟩)

theorem W.sub_inst {value slice : Expr} {x C f : Addr} {ox : Obj} {od : Option Obj} {i : Value} {Q : Value → Heap → Prop} (G : Good K p loose mg mb O) (S : St O F L m news h) (I : W.InstAt h x ox C od) (hs : findIn K (.ref C) "__getitem__" = some (some (.ref f))) (hf : fnIn K f = true) (hfn : isFn K (.ref f) = true)
    (y : W prog w A.in1 (PySem.call (.ref f) [.ref x, i]) h Q) (hsl : subscripted slice true (.ref x) i = runValue (.builtin "lifetime.subscript" ⟨[.ref x, i], []⟩) := by with_unfolding_all rfl) : W prog w A (subscriptTail value slice (.ref x) i) h Q :=
  fun _ _ tk _ => sub_K S.fr G.X I hs hf hfn (y _ _ tk _) hsl
theorem W.setItem_inst {x C f : Addr} {ox : Obj} {od : Option Obj} {i v : Value} {Q : Unit → Heap → Prop} (G : Good K p loose mg mb O) (S : St O F L m news h) (I : W.InstAt h x ox C od) (hq : noSeq K C = true) (hs : findIn K (.ref C) "__setitem__" = some (some (.ref f))) (hf : isFn K (.ref f) = true)
    (y : W prog w A (PySem.call (.ref f) [.ref x, i, v]) h fun _ h' => Q () h') : W prog w A (setItem (.ref x) i v) h Q :=
  fun _ _ tk _ => ksp_setItem S.fr G.X I hq hs hf (y.use fun _ h₁ tk₁ q => ⟨h₁, tk₁, rfl, q⟩)
theorem W.delItem_inst {x C f : Addr} {ox : Obj} {od : Option Obj} {i : Value} {Q : Unit → Heap → Prop} (G : Good K p loose mg mb O) (S : St O F L m news h) (I : W.InstAt h x ox C od) (hq : noSeq K C = true) (hs : findIn K (.ref C) "__delitem__" = some (some (.ref f))) (hf : isFn K (.ref f) = true)
    (y : W prog w A (PySem.call (.ref f) [.ref x, i]) h fun _ h' => Q () h') : W prog w A (delItem (.ref x) i) h Q := by
  intro g d tk os
  have X := G.X.keeps S.sO
  unfold delItem sequenceKey
  refine wpAny_holding (wpAny_bind (wpAny_bind (I.type.here ?_)))
  refine wpAny_bind ((anyM_none X hq).here ?_)
  rw [if_pos (show (!false) = true from rfl)]
  exact wpAny_pure (wpAny_bind (special_fn X I hs (beq_iff_eq.mp hf) (y.use fun _ h₁ tk₁ q => wpAny_pure ⟨h₁, tk₁, rfl, q⟩)))

theorem W.setAttr {x C dx : Addr} {ox : Obj} {es : List DictEntry} {n : Nat} {name : Str} {v : Value} {Q : Unit → Heap → Prop} (G : Good K p loose mg mb O) (S : St O F L m [(dx, .raw (dictOf es n))] h) (hF : F.objs.size ≤ L) (I : W.InstAt h x ox C (some (dictOf es n))) (hd : ox.dict = some dx)
    (hs : findIn K (.ref C) "__setattr__" = some (some (.builtin "object.__setattr__"))) (hp : plainOver K C = true) (ht : takerIn K C name = some none) (hh : hasDictIn K C = true) (hl : (getL name es).isSome = true)
    (hz : ∀ tk, (putL name (PyData.keyHash w.params name) (.str name tk) v es).length ≤ 1000)
    (q : ∀ tk h', St O F L m [(dx, .raw (dictOf (putL name (PyData.keyHash w.params name) (.str name tk) v es) (putN name es n)))] h' → Q () h') : W prog w A (PySem.setAttr (.ref x) name v) h Q := by
  intro g d tk os
  have Fr0 : Fr F L h m := ⟨S.ns, S.v.keep, hF⟩
  have hx0 := S.get (i := 0) rfl
  have hne := S.ne _ (.head _)
  have hoff := S.v.off _ (.head _)
  have N0 : News F L h [(dx, dictOf es n)] := by
    intro p hp
    rw [List.mem_singleton] at hp
    subst hp
    exact ⟨hx0, hne, hoff⟩
  refine set_dict Fr0 (G.X.keeps S.org) N0 I hd hs hp ht hh hl rfl (U := ?_) (hz _) (news' := [(dx, dictOf (putL name (PyData.keyHash w.params name) (.str name (tk + 1)) v es) (putN name es n))]) fun h₁ F₁ N₁ => ⟨h₁, tk + 2, rfl, q (tk + 1) h₁ ?_⟩
  · exact Upd.head (by intro p hp; cases hp)
  · refine ⟨⟨F₁.keep, ?_, ?_, ?_⟩, F₁.ns, S.offL, ?_, S.org, S.le⟩
    · intro p hp
      rw [List.mem_singleton] at hp
      subst hp
      exact N₁.get (.head _)
    · intro p hp
      rw [List.mem_singleton] at hp
      subst hp
      exact hoff
    · exact List.nodup_cons.mpr ⟨by simp, List.nodup_nil⟩
    · intro p hp
      rw [List.mem_singleton] at hp
      subst hp
      exact hne

theorem Room.under {C : Addr} {n : Nat} {rest : List Value} {kw : List (Str × Value)} (R : Room A (n + 1)) : Room (A.under (.builtin "type.__call__" ⟨.ref C :: rest, kw⟩)) n := by
  refine ⟨R.hh, ?_, ?_⟩
  · show A.depth + 1 + n < _
    have := R.hd; omega
  · show A.units + _ + 8 * n < _
    have := R.hu
    have e : Code.cUnits (.builtin "type.__call__" ⟨.ref C :: rest, kw⟩) = 1 := rfl
    omega
theorem CGo.make {C fI : Addr} {rest : List Value} {kw : List (Str × Value)} {Q : Value → Heap → Prop} (G : Good K p loose mg mb O) (hO : Sub O h) (hm : makesIn K C = true) (hi : findIn K (.ref C) "__init__" = some (some (.ref fI))) (hf : typeIn K (.ref fI) = some (.type "function"))
    (x : CGo prog w (A.under (.builtin "type.__call__" ⟨.ref C :: rest, kw⟩)) (.call (.ref fI) ⟨.ref (h.objs.size + 1) :: rest, kw⟩) ((h.push emptyDict).push (instObj C h.objs.size)) fun v h' => v = .none ∧ Q (.ref (h.objs.size + 1)) h') :
    CGo prog w A (.call (.ref C) ⟨rest, kw⟩) h Q := by
  intro g d tk os
  have X := G.X.keeps hO
  refine make_core (makes_of X hm) (looks_findIn X hi) (fun self => bind_fn X self hf) (.inl rfl) (codeAny_mono (x g d tk os) fun r s' y => ?_)
  cases r with
  | error e => exact y.elim
  | ok fl =>
    cases fl with
    | ret v =>
      obtain ⟨h', tk', e, hv, q⟩ := y
      exact ⟨hv, h', tk', e, q⟩
    | next => exact y.elim
    | brk => exact y.elim
    | cont => exact y.elim
end

-- A11
theorem if_ff {a b : Prop} (h : b) : if false = true then a else b := h
theorem if_tt {a b : Prop} (h : a) : if true = true then a else b := h
/-- a tree of marks alone -/
noncomputable def strip {α : Type} : Nat → Sem α → Option α
  | 0, _ => none
  | n + 1, t => match t with
    | .pure a => some a
    | .rule _ k => strip n (k ())
    | _ => none
theorem strip_wp {α : Type} {M : Model} {A : Around} {E : Value → Shared → Prop} {s : Shared} {a : α} {Q : α → Shared → Prop} : ∀ (n : Nat) (t : Sem α), strip n t = some a → Q a s → wpAny M A t Q E s
  | 0, _, e, _ => by cases e
  | n + 1, t, e, q => by
    unfold strip at e
    cases t with
    | pure b => cases e; exact wpAny_pure q
    | rule t k => exact fun Γ p hΓ => strip_wp n (k ()) e q Γ p hΓ
    | _ => cases e

theorem plainAttrs_pat : PlainAttrs "re.Pattern" :=
  ⟨⟨"object.__getattribute__", by rw [typeLookup_type, builtinLookup_eq_fast]; kernel_rfl, by decide +kernel⟩, by rw [typeLookup_type, builtinLookup_eq_fast]; kernel_rfl⟩
theorem slot_search : Slot "re.Pattern" "search" "re.Pattern.search" :=
  .of (owner := "re.Pattern") (n := "search") (by rw [typeLookup_type, builtinLookup_eq_fast]; kernel_rfl) (by decide +kernel) (by decide +kernel) (by decide +kernel)
    (by first | exact .inl (by decide +kernel) | exact .inr (by decide +kernel)) (by rw [isSubtype_type]; kernel_rfl)
theorem type_search : typeOf (.builtin "re.Pattern.search") = pure (.type "method_descriptor") := by show builtinType _ = _; rw [builtinType_eq_fast]; kernel_rfl
theorem entry_search : entryFor table "re.Pattern.search" = some Builtin.«re.Pattern.search» := entryFor_of_tree (by kernel_rfl)
theorem args_search (a b : Value) : argsOk "re.Pattern.search" ⟨[a, b], []⟩ := by unfold argsOk; kernel_rfl
theorem named_search (v : Value) : Builtin.Re.reNamed "re.Pattern.search" "search" ["string", "pos", "endpos"] 1 [v] [] = pure [some v, none, none] := by kernel_rfl

theorem wp_ff {α : Type} {M : Model} {A : Around} {E : Value → Shared → Prop} {s : Shared} {b : Bool} {x y : Sem α} {Q : α → Shared → Prop} (hb : b = false) (h : wpAny M A y Q E s) : wpAny M A (if b = true then x else y) Q E s := by
  subst hb; exact h
theorem m_search (a c : Addr) (x : Str) (t : Tok) (pat fl : Value) (gs : List Value) (n : Nat) (hm : strip 4000 (Builtin.Re.reRunToEnd (Sre.forSearch ((gs.toArray.map Builtin.Re.reRawOf).map (·.toNat)) x.cps 0 (min (0 : Int).toNat x.cps.size) (min (2 ^ 63 - 1 : Int).toNat x.cps.size) false)) = some none) :
    Meets (Builtin.«re.Pattern.search» ⟨[.ref a, .str x t], []⟩)
      (fun _ R s => s.heap.get? a = some { cls := .type "re.Pattern", data := .fields #[pat, fl, .int 0 0, .none, .none, .ref c, .int 0 0] } ∧ s.heap.get? c = some { cls := .type "tuple", data := .seq gs.toArray n } ∧ R (.ok (.ret .none)) s) :=
  .of_wp fun prog w A R s h => by
    obtain ⟨hp, g, d, tk, os⟩ := s
    obtain ⟨ha, hc, hR⟩ := h
    unfold Builtin.«re.Pattern.search»
    refine wpAny_bind ?_
    unfold Builtin.Re.reTarget
    dsimp only
    rw [named_search]
    refine wpAny_bind (wpAny_pure ?_)
    dsimp only
    refine wpAny_bind (wpAny_pure (wpAny_bind (wpAny_pure (wpAny_bind (wpAny_fieldsOf ha rfl ?_)))))
    refine wpAny_bind (m := Builtin.Re.reTextOf (.str x t)) (wpAny_of_eq (a := (x.cps, 0)) rfl ?_)
    dsimp only
    refine wp_ff rfl (wp_ff rfl ?_)
    refine wpAny_bind (m := Builtin.Re.reNoCollectionInside (.str x t) 0) (wpAny_of_eq (a := ()) rfl ?_)
    refine wpAny_bind (m := Builtin.Re.reRawItems (.ref c)) ?_
    unfold Builtin.Re.reRawItems
    refine wpAny_bind (wpAny_seqItems hc rfl (wpAny_pure (wpAny_pure ?_)))
    unfold Builtin.Re.reAnswer
    refine wpAny_bind (strip_wp 4000 _ hm (wpAny_pure ⟨_, rfl, hR⟩))

section
variable {prog : Program} {w : World} {A : Around} {h : Heap}
theorem W.search {a c : Addr} {x : Str} {t : Tok} {pat fl : Value} {gs : List Value} {n : Nat} {Q : Value → Heap → Prop} (ha : h.get? a = some { cls := .type "re.Pattern", data := .fields #[pat, fl, .int 0 0, .none, .none, .ref c, .int 0 0] }) (hc : h.get? c = some { cls := .type "tuple", data := .seq gs.toArray n })
    (hm : strip 4000 (Builtin.Re.reRunToEnd (Sre.forSearch ((gs.toArray.map Builtin.Re.reRawOf).map (·.toNat)) x.cps 0 (min (0 : Int).toNat x.cps.size) (min (2 ^ 63 - 1 : Int).toNat x.cps.size) false)) = some none)
    (q : Q .none h) : W prog w A (PySem.call (.builtin "re.Pattern.search") [.ref a, .str x t]) h Q :=
  fun _ _ tk _ => call_meets slot_search ⟨_, ha, rfl⟩ entry_search (args_search _ _) (m_search a c x t pat fl gs n hm) ⟨ha, hc, h, tk, rfl, q⟩
theorem W.method_pat {a : Addr} {dt : Data} {pl : Sem Bool} {Q : Value × List Value → Heap → Prop} (ha : h.get? a = some { cls := .type "re.Pattern", data := dt }) (q : Q (.builtin "re.Pattern.search", [.ref a]) h) : W prog w A (getMethod (.ref a) "search" pl) h Q :=
  fun _ _ tk _ => getMethod_builtin (T := "re.Pattern") ⟨_, ha, rfl⟩ plainAttrs_pat slot_search type_search (fun b e => by cases e; exact ⟨_, ha, rfl⟩) ⟨h, tk, rfl, q⟩
theorem W.type_of {x : Value} {T : String} {Q : Value → Heap → Prop} (hx : ∀ g d tk os, Shared.TypeIs ⟨h, g, d, tk, os⟩ x T) (hnb : (Value.type T == Value.type "builtin_function_or_method") = false) (q : Q (.type T) h) : W prog w A (PySem.call (.type "type") [x]) h Q :=
  fun g d tk os => call_type_of (hx g d tk os) hnb ⟨h, tk, rfl, q⟩
theorem W.is_type {X Y : String} {Q : Value → Heap → Prop} (q : Q (.bool (Value.type X == Value.type Y)) h) : W prog w A (compareOp .Is (.type X) (.type Y)) h Q :=
  fun g d tk os => by
    show wpAny _ _ (do let b ← isSame (.type X) (.type Y); Pure.pure (Value.bool b)) _ _ _
    exact wpAny_bind (m := isSame (.type X) (.type Y)) (wpAny_of_eq (a := (Value.type X == Value.type Y)) rfl (wpAny_pure ⟨h, tk, rfl, q⟩))
theorem W.is_type_same {X : String} {Q : Value → Heap → Prop} (q : Q (.bool true) h) : W prog w A (compareOp .Is (.type X) (.type X)) h Q := W.is_type (by rw [show (Value.type X == Value.type X) = true from beq_self_eq_true _]; exact q)
theorem W.isNot_type_same {X : String} {Q : Value → Heap → Prop} (q : Q (.bool false) h) : W prog w A (compareOp .IsNot (.type X) (.type X)) h Q := fun g d tk os => isnot_type_same ⟨h, tk, rfl, q⟩
theorem W.isNot_type {X Y : String} {Q : Value → Heap → Prop} (q : Q (.bool (!(Value.type X == Value.type Y))) h) : W prog w A (compareOp .IsNot (.type X) (.type Y)) h Q := fun g d tk os => isnot_type ⟨h, tk, rfl, q⟩
theorem W.truthy_none {Q : Bool → Heap → Prop} (q : Q false h) : W prog w A (truthy .none) h Q := fun _ _ tk _ => wpAny_pure ⟨h, tk, rfl, q⟩
end

-- A12
/-- the names and values that occur -/
def nm (u : Bool) (d : Nat) : Str := if u then (["0-NAME", "1-NAME", "2-NAME", "3-NAME"] : List Str).getD d "" else (["0-name", "1-name", "2-name", "3-name"] : List Str).getD d ""
def vl (d : Nat) : Str := (["0", "1", "2", "3"] : List Str).getD d ""
theorem four {P : Nat → Prop} (h0 : P 0) (h1 : P 1) (h2 : P 2) (h3 : P 3) (d : Nat) (hd : d < 4) : P d := by
  match d, hd with
  | 0, _ => exact h0
  | 1, _ => exact h1
  | 2, _ => exact h2
  | 3, _ => exact h3
theorem lower_nm (u : Bool) (d : Nat) (hd : d < 4) : Txt.lower (nm u d) = nm false d := by
  cases u <;> exact four (P := fun d => Txt.lower (nm _ d) = nm false d) (by decide +kernel) (by decide +kernel) (by decide +kernel) (by decide +kernel) d hd
theorem fit_nm (u : Bool) (d : Nat) (hd : d < 4) : Builtin.Str.tooLong (Txt.lower (nm u d)).length = false := by
  cases u <;> exact four (P := fun d => Builtin.Str.tooLong (Txt.lower (nm _ d)).length = false) (by decide +kernel) (by decide +kernel) (by decide +kernel) (by decide +kernel) d hd
theorem nm_eq (d e : Nat) (hd : d < 4) (he : e < 4) : (nm false d == nm false e) = decide (d = e) := by
  revert e
  exact four (P := fun d => ∀ e, e < 4 → (nm false d == nm false e) = decide (d = e))
    (four (P := fun e => (nm false 0 == nm false e) = decide (0 = e)) (by decide +kernel) (by decide +kernel) (by decide +kernel) (by decide +kernel))
    (four (P := fun e => (nm false 1 == nm false e) = decide (1 = e)) (by decide +kernel) (by decide +kernel) (by decide +kernel) (by decide +kernel))
    (four (P := fun e => (nm false 2 == nm false e) = decide (2 = e)) (by decide +kernel) (by decide +kernel) (by decide +kernel) (by decide +kernel))
    (four (P := fun e => (nm false 3 == nm false e) = decide (3 = e)) (by decide +kernel) (by decide +kernel) (by decide +kernel) (by decide +kernel)) d hd
section
variable {prog : Program} {w : World} {A : Around} {h : Heap}
theorem W.method_lower {x : Str} {t : Tok} {pl : Sem Bool} {Q : Value × List Value → Heap → Prop} (q : Q (.builtin "str.lower", [.str x t]) h) : W prog w A (getMethod (.str x t) "lower" pl) h Q := fun _ _ tk _ => GM.lower ⟨h, tk, rfl, q⟩
theorem W.lower_nm {u : Bool} {d : Nat} {t : Tok} {Q : Value → Heap → Prop} (hd : d < 4) (q : ∀ t, Q (.str (nm false d) t) h) : W prog w A (PySem.call (.builtin "str.lower") [.str (nm u d) t]) h Q :=
  fun _ _ tk _ => SC.lower (fit_nm u d hd) ⟨h, tk + 1, rfl, by rw [Mine.lower_nm u d hd]; exact q tk⟩
theorem W.eq_str {x y : Str} {t u : Tok} {Q : Value → Heap → Prop} (q : Q (.bool (x == y)) h) : W prog w A (compareOp .Eq (.str x t) (.str y u)) h Q := fun _ _ tk _ => PyProof.Rows.eq_str ⟨h, tk, rfl, q⟩
end
end Mine
namespace Mine
section
variable {prog : Program} {w : World} {A : Around} {h : Heap} {env : Env}
theorem W.kw1 {pos p : Pos} {n : Str} {e : Expr} {Q : List Value → Heap → Prop} (x : W prog w A (eval e env) h fun v h' => Q [v] h') : W prog w A (evalAll ((backToKw pos (keywordEach [⟨some n, e, p⟩] env)).map (·.2))) h Q :=
  fun _ _ _ _ => kwAll_cons (x.use fun v h₁ tk₁ q => kwAll_nil ⟨h₁, tk₁, rfl, q⟩)
end

-- A13
section
variable {prog : Program} {w : World} {A : Around} {α β : Type} {O F h h' : Heap} {L : Addr} {m : Str → Option Value} {news : Led} {env : Env}

-- slices
theorem W.part_none {Q : Value → Heap → Prop} (q : Q .none h) : W prog w A (evalPart none env) h Q := W.pure q
theorem W.part_some {e : Expr} {Q : Value → Heap → Prop} (x : W prog w A (eval e env) h Q) : W prog w A (evalPart (some e) env) h Q := x
theorem W.sliceE {lower upper step : Option Expr} {p : Pos} {Q : Value → Heap → Prop}
    (x : W prog w A (evalPart lower env) h fun l h₁ => W prog w A (evalPart upper env) h₁ fun u h₂ => W prog w A (evalPart step env) h₂ fun st h₃ => W prog w A (newFields "slice" [l, u, st]) h₃ Q) : W prog w A (eval (.Slice lower upper step p) env) h Q := by
  intro g d tk os
  rw [arm_eval_Slice]
  exact wpAny_bind (x.use fun l h₁ tk₁ y => wpAny_bind (wpAny_holding (y.use (tk := tk₁) fun u h₂ tk₂ z => wpAny_bind (wpAny_holding (z.use (tk := tk₂) fun st h₃ tk₃ y => y.use (tk := tk₃) fun v h₄ tk₄ q => ⟨h₄, tk₄, rfl, q⟩)))))
theorem W.newSlice {l u st : Value} {Q : Value → Heap → Prop} (S : St O F L m news h) (q : ∀ sl h', Sub h h' → St O F L m news h' → h'.IsSliceOf sl l u st → Q (.ref sl) h') : W prog w A (newFields "slice" [l, u, st]) h Q :=
  fun _ _ tk _ => wpAny_newObj_type ⟨_, tk, rfl, q _ _ (fun b o e => Heap.get?_push_of_some _ e) (S.ext fun b o e => Heap.get?_push_of_some _ e) (Heap.IsSliceOf.new ..)⟩
theorem W.slice_tail {value slice : Expr} {l sl : Addr} {items : Array Value} {vl vu vs : Value} {lo hi st : Option Int} {ops : List Value} {Q : Value → Heap → Prop} (S : St O F L m news h) (hl : h.IsList l items) (hsl : h.IsSliceOf sl vl vu vs) (pl : IsPart vl lo) (pu : IsPart vu hi) (ps : IsPart vs st) (h0 : st ≠ some 0) (hsz : items.size ≤ sizeLine)
    (q : ∀ a h', L < a → Sub h h' → St O F L m ((a, .lst (slicePick items lo hi st).toList) :: news) h' → Q (.ref a) h')
    (hs : subscripted slice false (.ref l) (.ref sl) = operate ops (getItem (.ref l) (.ref sl)) := by with_unfolding_all rfl) : W prog w A (subscriptTail value slice (.ref l) (.ref sl)) h Q :=
  fun _ _ tk _ => tail_any hl.typeIs slot_list_getitem.lookup (wpAny_getItem_list_slice hl hsl pl pu ps h0 ⟨_, tk, rfl, q _ _ S.lt (fun b o e => Heap.get?_push_of_some _ e) (S.alloc _ ⟨0, by rw [Array.toArray_toList]; exact Heap.get?_push_size _ rfl⟩)⟩ hsz) hs

-- methods of list
theorem mapSeq_at {l : Addr} {vs : List Value} {f : Array Value → Array Value} (hl : LAt h l vs) : LAt (h.update l (Obj.mapSeq f)) l (f vs.toArray).toList := by
  obtain ⟨n, e⟩ := hl
  refine ⟨if (f vs.toArray).size == vs.toArray.size then n else n + 1, (Heap.get?_update_self _ e rfl).trans ?_⟩
  rw [Array.toArray_toList]; rfl
theorem W.append {i : Nat} {l : Addr} {vs : List Value} {x : Value} {Q : Value → Heap → Prop} (S : St O F L m news h) (hi : news[i]? = some (l, .lst vs)) (hsz : vs.length ≤ sizeLine) (q : ∀ h', St O F L m (news.set i (l, .lst (vs ++ [x]))) h' → Q .none h') : W prog w A (PySem.call (.builtin "list.append") [.ref l, x]) h Q :=
  fun _ _ tk _ => wpAny_list_append_plain (S.get hi) (fun h' hl' hs => ⟨h', tk, rfl, q h' (S.upd hi hs.extBut (by
    show LAt h' l (vs ++ [x])
    have : (vs ++ [x]).toArray = vs.toArray.push x := by simp
    show h'.PlainList l _
    rw [this]; exact hl'))⟩) (by simpa using hsz)
theorem W.pop {i : Nat} {l : Addr} {vs : List Value} {k : Int} {u : Tok} {v : Value} {Q : Value → Heap → Prop} (S : St O F L m news h) (hi : news[i]? = some (l, .lst vs)) (hsz : vs.length ≤ sizeLine) (h0 : 0 ≤ k) (hk : vs[k.toNat]? = some v) (hf : k < 2 ^ 62) (q : ∀ h', St O F L m (news.set i (l, .lst (vs.eraseIdx k.toNat))) h' → Q v h') : W prog w A (PySem.call (.builtin "list.pop") [.ref l, .int k u]) h Q := by
  intro g d tk os
  have hl := S.get hi
  obtain ⟨n, e⟩ := id (show LAt h l vs from hl)
  have hlt : k.toNat < vs.length := (List.getElem?_eq_some_iff.mp hk).1
  have hfit : Builtin.List.listFitsIndex k = true := by
    unfold Builtin.List.listFitsIndex
    rw [Bool.and_eq_true]
    exact ⟨decide_eq_true (by omega), decide_eq_true (by omega)⟩
  have hsi : seqIndex? k vs.toArray.size = some k.toNat := by
    have h1 : ¬ k < 0 := by omega
    have h3 : k < (vs.toArray.size : Int) := by rw [List.size_toArray]; omega
    unfold seqIndex?
    simp only [if_neg h1]
    rw [if_pos (by rw [Bool.and_eq_true]; exact ⟨decide_eq_true h0, decide_eq_true h3⟩)]
  have hz : vs.toArray.size ≤ sizeLine := by rw [List.size_toArray]; exact hsz
  have hkk : vs.toArray[k.toNat]? = some v := by rw [List.getElem?_toArray]; exact hk
  refine call_meets PySem.F.slot_list_pop ⟨_, e, rfl⟩ PySem.F.entry_list_pop (PySem.F.args_list_pop_2 _ _) (@PySem.MeetsSeq.list_pop_at l vs.toArray n k u k.toNat v hfit hsi hkk hz) ⟨e, h.update l (Obj.mapSeq fun xs => xs.eraseIdxIfInBounds k.toNat), tk, rfl, q _ ?_⟩
  refine S.upd hi (Heap.SameBut.update ..).extBut ?_
  have := mapSeq_at (f := fun xs => xs.eraseIdxIfInBounds k.toNat) hl
  show LAt _ l (vs.eraseIdx k.toNat)
  have e2 : (vs.toArray.eraseIdxIfInBounds k.toNat).toList = vs.eraseIdx k.toNat := by simp
  rw [← e2]; exact this
def isInt (b : Int) : Value → Bool | .int a _ => a == b | _ => false
theorem W.remove {i : Nat} {l : Addr} {vs : List Value} {ns : List Int} {b : Int} {j : Nat} {u : Tok} {Q : Value → Heap → Prop} (S : St O F L m news h) (hi : news[i]? = some (l, .lst vs)) (hI : IntsAre vs ns) (hsz : vs.length ≤ sizeLine) (hj : ns[j]? = some b) (hno : ∀ k, k < j → ns[k]? ≠ some b)
    (q : ∀ h', St O F L m (news.set i (l, .lst (vs.eraseIdx j))) h' → Q .none h') : W prog w A (PySem.call (.builtin "list.remove") [.ref l, .int b u]) h Q := by
  intro g d tk os
  have hl := S.get hi
  obtain ⟨n, e⟩ := id (show LAt h l vs from hl)
  have hlt : j < ns.length := (List.getElem?_eq_some_iff.mp hj).1
  have hlen := hI.length
  have key : ∀ k (hk : k < vs.toArray.size), isInt b vs.toArray[k] = decide (ns[k]? = some b) := by
    intro k hk
    have hk' : k < vs.length := by simpa using hk
    obtain ⟨a, t, e1, e2⟩ := hI.at k vs[k] (List.getElem?_eq_getElem hk')
    have e3 : vs.toArray[k] = vs[k] := by simp
    rw [e3, e1, e2]
    show (a == b) = _
    by_cases hab : a = b <;> simp [hab]
  refine call_meets PySem.F.slot_list_remove ⟨_, e, rfl⟩ PySem.F.entry_list_remove (PySem.F.args_list_remove_2 _ _) (PySem.MeetsSeq.list_remove l vs.toArray n (.int b u) (isInt b) ?_ j (by simp; omega) ?_ ?_ (by simpa using hsz)) ⟨e, h.update l (Obj.mapSeq fun xs => xs.eraseIdxIfInBounds j), tk, rfl, q _ ?_⟩
  · intro y hy
    obtain ⟨a, t, rfl⟩ := hI.all y (by simpa using hy)
    exact PySem.MeetsSeq.EqGives.int a b t u
  · rw [key]; simpa using hj
  · intro k hk hlt'
    rw [key]; simpa using hno k hlt'
  · refine S.upd hi (Heap.SameBut.update ..).extBut ?_
    have := mapSeq_at (f := fun xs => xs.eraseIdxIfInBounds j) hl
    show LAt _ l (vs.eraseIdx j)
    have e2 : (vs.toArray.eraseIdxIfInBounds j).toList = vs.eraseIdx j := by simp
    rw [← e2]; exact this
theorem W.index {l : Addr} {vs : List Value} {ns : List Int} {b : Int} {j : Nat} {u : Tok} {Q : Value → Heap → Prop} (hl : LAt h l vs) (hI : IntsAre vs ns) (hj : ns[j]? = some b) (hno : ∀ k, k < j → ns[k]? ≠ some b) (hs : j < 2 ^ 62)
    (q : ∀ t, Q (.int j t) h) : W prog w A (PySem.call (.builtin "list.index") [.ref l, .int b u]) h Q := by
  intro g d tk os
  obtain ⟨n, e⟩ := hl
  have hlt : j < ns.length := (List.getElem?_eq_some_iff.mp hj).1
  have hlen := hI.length
  have key : ∀ k (hk : k < vs.toArray.size), isInt b vs.toArray[k] = decide (ns[k]? = some b) := by
    intro k hk
    have hk' : k < vs.length := by simpa using hk
    obtain ⟨a, t, e1, e2⟩ := hI.at k vs[k] (List.getElem?_eq_getElem hk')
    have e3 : vs.toArray[k] = vs[k] := by simp
    rw [e3, e1, e2]
    show (a == b) = _
    by_cases hab : a = b <;> simp [hab]
  refine call_meets PySem.F.slot_list_index ⟨_, e, rfl⟩ PySem.F.entry_list_index (PySem.F.args_list_index_2 _ _) (PySem.MeetsSeq.list_index l vs.toArray n (.int b u) (isInt b) ?_ j (by simp; omega) (by omega) ?_ ?_) ⟨e, h, tk + 1, rfl, q tk⟩
  · intro y hy
    obtain ⟨a, t, rfl⟩ := hI.all y (by simpa using hy)
    exact PySem.MeetsSeq.EqGives.int a b t u
  · rw [key]; simpa using hj
  · intro k hk hlt'
    rw [key]; simpa using hno k hlt'
theorem W.len {l : Addr} {vs : List Value} {Q : Value → Heap → Prop} (hl : LAt h l vs) (hs : vs.length < 2 ^ 62) (q : ∀ t, Q (.int vs.length t) h) : W prog w A (PySem.call (.builtin "len") [.ref l]) h Q :=
  fun _ _ tk _ => PyProof.Rows.len_list hl.isList (by simp; omega) ⟨h, tk + 1 + 1, rfl, by simpa using q (tk + 1)⟩
theorem W.m_append {l : Addr} {vs : List Value} {pl : Sem Bool} {Q : Value × List Value → Heap → Prop} (hl : LAt h l vs) (q : Q (.builtin "list.append", [.ref l]) h) : W prog w A (getMethod (.ref l) "append" pl) h Q := W.method_list hl PySem.F.plainAttrs_list PySem.F.slot_list_append PySem.F.type_list_append q
theorem W.m_pop {l : Addr} {vs : List Value} {pl : Sem Bool} {Q : Value × List Value → Heap → Prop} (hl : LAt h l vs) (q : Q (.builtin "list.pop", [.ref l]) h) : W prog w A (getMethod (.ref l) "pop" pl) h Q := W.method_list hl PySem.F.plainAttrs_list PySem.F.slot_list_pop PySem.F.type_list_pop q
theorem W.m_remove {l : Addr} {vs : List Value} {pl : Sem Bool} {Q : Value × List Value → Heap → Prop} (hl : LAt h l vs) (q : Q (.builtin "list.remove", [.ref l]) h) : W prog w A (getMethod (.ref l) "remove" pl) h Q := W.method_list hl PySem.F.plainAttrs_list PySem.F.slot_list_remove PySem.F.type_list_remove q
theorem W.m_index {l : Addr} {vs : List Value} {pl : Sem Bool} {Q : Value × List Value → Heap → Prop} (hl : LAt h l vs) (q : Q (.builtin "list.index", [.ref l]) h) : W prog w A (getMethod (.ref l) "index" pl) h Q := W.method_list hl PySem.F.plainAttrs_list PySem.F.slot_list_index PySem.F.type_list_index q
end

-- A14

/-- what a turn of a comprehension does: its tree, and what the tail asks -/
structure CompTree (prog : Program) (w : World) (A : Around) (elt : Expr) (gens : List Comprehension) (scope : Scope) (pos : Pos) (depth : Nat) (it : Addr) (acc : Value) (cenv : Env) (target : Expr) (T : (Heap → Prop) → Heap → Prop) : Prop where
  ok : ∃ (p : Pos) (tt : Sem Fin), compTurn (.ListComp elt gens scope pos) depth (.ref it) acc cenv = (standAt p >>= fun _ => pyNext (.ref it) >>= fun r => match r with
      | none => pure (.done .next)
      | some v => letOwnedTupleGo target (.ref it) v >>= fun _ => assign target cenv v >>= fun _ => tt) ∧
    ∀ (Qh : Heap → Prop) h tk g d os (E : Value → Shared → Prop) (Q : Fin → Shared → Prop), T Qh h → (∀ h' tk', Qh h' → Q (.again (.compLoop (.ListComp elt gens scope pos) depth (.ref it) acc cenv)) ⟨h', g, d, tk', os⟩) → wpAny (model prog w) A tt Q E ⟨h, g, d, tk, os⟩

section
variable {prog : Program} {w : World} {A : Around} {α β : Type} {O F h h' : Heap} {L : Addr} {m : Str → Option Value} {news : Led} {env : Env}

theorem compTree_plain {elt target iter : Expr} {scope : Scope} {pos : Pos} {it : Addr} {acc : Value} {cenv : Env} :
    CompTree prog w A elt [⟨target, iter, [], 0⟩] scope pos 0 it acc cenv target (fun Qh h => W prog w A (eval elt cenv) h fun x h₁ => W prog w A (call (.builtin "list.append") [acc, x]) h₁ fun _ h₂ => Qh h₂) := by
  refine ⟨iter.pos, _, compTurn_list1 elt target iter scope pos (.ref it) acc cenv, ?_⟩
  intro Qh h tk g d os E Q x q
  refine wpAny_bind (wpAny_bind (x.use fun v h₁ tk₁ y => wpAny_bind (y.use (tk := tk₁) fun _ h₂ tk₂ z => wpAny_pure ?_)))
  exact wpAny_pure (q h₂ tk₂ z)

theorem compTurn_if1 (elt target iter c : Expr) (scope : Scope) (pos : Pos) (it acc : Value) (env : Env) :
    compTurn (.ListComp elt [⟨target, iter, [c], 0⟩] scope pos) 0 it acc env = (standAt iter.pos >>= fun _ => pyNext it >>= fun r => match r with
      | none => pure (.done .next)
      | some v => letOwnedTupleGo target it v >>= fun _ => assign target env v >>= fun _ =>
        (forIn [c] true fun c r => if r = true then isTrue c env (eval c env) >>= fun ok => pure (ForInStep.yield ok) else pure (ForInStep.yield r)) >>= fun ok =>
          if ok = true then (eval elt env >>= fun x => call (.builtin "list.append") [acc, x] >>= fun _ => pure ()) >>= fun _ => again (.compLoop (.ListComp elt [⟨target, iter, [c], 0⟩] scope pos) 0 it acc env)
          else again (.compLoop (.ListComp elt [⟨target, iter, [c], 0⟩] scope pos) 0 it acc env)) := by rfl

theorem wp_forIn1 {M : Model} {E : Value → Shared → Prop} {s : Shared} {c : Expr} {cenv : Env} {Q : Bool → Shared → Prop} (x : wpAny M A (isTrue c cenv (eval c cenv)) Q E s) :
    wpAny M A (forIn [c] true fun c r => if r = true then isTrue c cenv (eval c cenv) >>= fun ok => pure (ForInStep.yield ok) else pure (ForInStep.yield r)) Q E s := by
  rw [List.forIn_cons]
  refine wpAny_bind ?_
  rw [if_pos rfl]
  refine wpAny_bind (wpAny_mono x (fun b s₁ y => wpAny_pure ?_) fun _ _ e => e)
  show wpAny _ _ (forIn [] b _) _ _ _
  rw [List.forIn_nil]
  exact wpAny_pure y

/-- the tail of a comprehension with one test -/
def ifTail (prog : Program) (w : World) (A : Around) (c elt : Expr) (acc : Value) (cenv : Env) (Qh : Heap → Prop) (h : Heap) : Prop :=
  W prog w A (isTrue c cenv (eval c cenv)) h fun b h₁ => if b = true then W prog w A (eval elt cenv) h₁ fun x h₂ => W prog w A (call (.builtin "list.append") [acc, x]) h₂ fun _ h₃ => Qh h₃ else Qh h₁

theorem compTree_if {elt target iter c : Expr} {scope : Scope} {pos : Pos} {it : Addr} {acc : Value} {cenv : Env} :
    CompTree prog w A elt [⟨target, iter, [c], 0⟩] scope pos 0 it acc cenv target (ifTail prog w A c elt acc cenv) := by
  refine ⟨iter.pos, _, compTurn_if1 elt target iter c scope pos (.ref it) acc cenv, ?_⟩
  intro Qh h tk g d os E Q x q
  refine wpAny_bind (wp_forIn1 (W.use x fun b h₁ tk₁ y => ?_))
  cases b with
  | true =>
    refine wpAny_bind (wpAny_bind (W.use (tk := tk₁) y fun v h₂ tk₂ z => wpAny_bind (z.use (tk := tk₂) fun _ h₃ tk₃ u => wpAny_pure ?_)))
    exact wpAny_pure (q h₃ tk₃ u)
  | false => exact wpAny_pure (q h₁ tk₁ y)

-- two clauses
theorem compTurn_two0 (elt t1 i1 t2 i2 c : Expr) (scope : Scope) (pos : Pos) (it acc : Value) (env : Env) :
    compTurn (.ListComp elt [⟨t1, i1, [], 0⟩, ⟨t2, i2, [c], 0⟩] scope pos) 0 it acc env = (standAt i1.pos >>= fun _ => pyNext it >>= fun r => match r with
      | none => pure (.done .next)
      | some v => letOwnedTupleGo t1 it v >>= fun _ => assign t1 env v >>= fun _ =>
        (eval i2 env >>= fun x => standAt i2.pos >>= fun _ => foldedSetIterable i2 env x >>= fun x => holding [x] (pyIter x) >>= fun it2 => runOwn (.compStart (.ListComp elt [⟨t1, i1, [], 0⟩, ⟨t2, i2, [c], 0⟩] scope pos) 1 it2 acc env) env >>= fun _ =>
          again (.compLoop (.ListComp elt [⟨t1, i1, [], 0⟩, ⟨t2, i2, [c], 0⟩] scope pos) 0 it acc env))) := by rfl
theorem compTurn_two1 (elt t1 i1 t2 i2 c : Expr) (scope : Scope) (pos : Pos) (it acc : Value) (env : Env) :
    compTurn (.ListComp elt [⟨t1, i1, [], 0⟩, ⟨t2, i2, [c], 0⟩] scope pos) 1 it acc env = (standAt i2.pos >>= fun _ => pyNext it >>= fun r => match r with
      | none => pure (.done .next)
      | some v => letOwnedTupleGo t2 it v >>= fun _ => assign t2 env v >>= fun _ =>
        (forIn [c] true fun c r => if r = true then isTrue c env (eval c env) >>= fun ok => pure (ForInStep.yield ok) else pure (ForInStep.yield r)) >>= fun ok =>
          if ok = true then (eval elt env >>= fun x => call (.builtin "list.append") [acc, x] >>= fun _ => pure ()) >>= fun _ => again (.compLoop (.ListComp elt [⟨t1, i1, [], 0⟩, ⟨t2, i2, [c], 0⟩] scope pos) 1 it acc env)
          else again (.compLoop (.ListComp elt [⟨t1, i1, [], 0⟩, ⟨t2, i2, [c], 0⟩] scope pos) 1 it acc env)) := by rfl
theorem compTree_two1 {elt t1 i1 t2 i2 c : Expr} {scope : Scope} {pos : Pos} {it : Addr} {acc : Value} {cenv : Env} :
    CompTree prog w A elt [⟨t1, i1, [], 0⟩, ⟨t2, i2, [c], 0⟩] scope pos 1 it acc cenv t2 (ifTail prog w A c elt acc cenv) := by
  refine ⟨i2.pos, _, compTurn_two1 elt t1 i1 t2 i2 c scope pos (.ref it) acc cenv, ?_⟩
  intro Qh h tk g d os E Q x q
  refine wpAny_bind (wp_forIn1 (W.use x fun b h₁ tk₁ y => ?_))
  cases b with
  | true =>
    refine wpAny_bind (wpAny_bind (W.use (tk := tk₁) y fun v h₂ tk₂ z => wpAny_bind (z.use (tk := tk₂) fun _ h₃ tk₃ u => wpAny_pure ?_)))
    exact wpAny_pure (q h₃ tk₃ u)
  | false => exact wpAny_pure (q h₁ tk₁ y)
theorem compTree_two0 {elt t1 i1 t2 i2 c : Expr} {scope : Scope} {pos : Pos} {it : Addr} {acc : Value} {cenv : Env} (hs : ∀ x, foldedSetIterable i2 cenv x = pure x) :
    CompTree prog w A elt [⟨t1, i1, [], 0⟩, ⟨t2, i2, [c], 0⟩] scope pos 0 it acc cenv t1
      (fun Qh h => W prog w A (eval i2 cenv) h fun x h₁ => W prog w A (pyIter x) h₁ fun it2 h₂ => Go prog w A (.compStart (.ListComp elt [⟨t1, i1, [], 0⟩, ⟨t2, i2, [c], 0⟩] scope pos) 1 it2 acc cenv) h₂ fun _ h₃ => Qh h₃) := by
  refine ⟨i1.pos, _, compTurn_two0 elt t1 i1 t2 i2 c scope pos (.ref it) acc cenv, ?_⟩
  intro Qh h tk g d os E Q x q
  refine wpAny_bind (x.use fun v h₁ tk₁ y => ?_)
  refine wpAny_bind (wpAny_standAt (wpAny_bind (wpAny_of_eq (hs v) (wpAny_bind (wpAny_holding (y.use (tk := tk₁) fun it2 h₂ tk₂ z => ?_))))))
  refine wpAny_bind (wpAny_runOwn (h := none) (codeAny_mono (A := A) (z g d tk₂ os) fun r s' u => ?_))
  cases r with
  | ok f =>
    obtain ⟨h₃, tk₃, rfl, u⟩ := u
    exact wpAny_pure (q h₃ tk₃ u)
  | error e => exact u.elim

/-- the loop of a comprehension -/
theorem Go.compLoop {it C : Addr} {ob : Nat → Ob} {n : Nat} {P : Nat → Value → Prop} {elt : Expr} {gens : List Comprehension} {scope : Scope} {pos : Pos} {depth : Nat} {acc : Value} {cenv : Env} {target : Expr} {T : (Heap → Prop) → Heap → Prop} {Q : Flow → Heap → Prop}
    (Inv : Nat → Heap → (Str → Option Value) → Led → Prop) (hct : CompTree prog w A elt gens scope pos depth it acc cenv target T)
    (next : ∀ i F m news h, i < n → Inv i F m news → St O F C m ((it, ob i) :: news) h → ∀ Q' : Option Value → Heap → Prop, (∀ v h', P i v → St O F C m ((it, ob (i + 1)) :: news) h' → Q' (some v) h') → W prog w A (pyNext (.ref it)) h Q')
    (stop : ∀ F m news h, Inv n F m news → St O F C m ((it, ob n) :: news) h → ∀ Q' : Option Value → Heap → Prop, (∀ h', St O F C m news h' → Q' none h') → W prog w A (pyNext (.ref it)) h Q')
    (own : ∀ i F m news h v, St O F C m ((it, ob i) :: news) h → W prog w A (letOwnedTupleGo target (.ref it) v) h fun _ h' => h' = h)
    (turn : ∀ i v F m news h, i < n → P i v → Inv i F m news → St O F C m ((it, ob (i + 1)) :: news) h →
      W prog w A (PySem.assign target cenv v) h fun _ h₁ => T (fun h₂ => ∃ F' m' news', Inv (i + 1) F' m' news' ∧ St O F' C m' ((it, ob (i + 1)) :: news') h₂) h₁)
    (done : ∀ F m news h, Inv n F m news → St O F C m news h → Q .next h)
    (S : St O F C m ((it, ob 0) :: news) h) (hI : Inv 0 F m news) : Go prog w A (.compLoop (.ListComp elt gens scope pos) depth (.ref it) acc cenv) h Q := by
  intro g d tk os
  obtain ⟨p', tt, htree, htail⟩ := hct.ok
  refine codeAny_loop' rfl (fun k s => ∃ i F m news h tk, s = ⟨h, g, d, tk, os⟩ ∧ i ≤ n ∧ k = n - i ∧ Inv i F m news ∧ St O F C m ((it, ob i) :: news) h) ?_ n ⟨0, F, m, news, h, tk, rfl, Nat.zero_le _, rfl, hI, S⟩
  rintro k s ⟨i, F, m, news, h, tk, rfl, hi, rfl, hI, S⟩
  show wpAny _ A ((compTurn (.ListComp elt gens scope pos) depth (.ref it) acc cenv).onRaise (fun x => do noteFrame x cenv; theTreesLotGoes x)) _ _ _
  rw [htree]
  refine wpAny_onRaise (wpAny_bind (wpAny_standAt (wpAny_bind ?_)))
  by_cases hin : i < n
  · refine W.use (next i F m news h hin hI S (fun r h' => ∃ v, r = some v ∧ P i v ∧ St O F C m ((it, ob (i + 1)) :: news) h') fun v h' hp S' => ⟨v, rfl, hp, S'⟩) ?_
    rintro r h₁ tk₁ ⟨v, rfl, hp, S₁⟩
    dsimp only
    refine wpAny_bind (W.use (own _ _ _ _ _ v S₁) ?_)
    rintro _ h₁' tk₂ rfl
    refine wpAny_bind (W.use (turn i v F m news h₁' hin hp hI S₁) ?_)
    intro _ h₂ tk₃ y
    refine htail _ h₂ tk₃ g d os _ _ y ?_
    rintro h₃ tk₄ ⟨F', m', news', hI', S'⟩
    exact .inl ⟨rfl, n - (i + 1), by omega, i + 1, F', m', news', h₃, tk₄, rfl, hin, rfl, hI', S'⟩
  · have : i = n := by omega
    subst this
    refine W.use (stop F m news h hI S (fun r h' => r = none ∧ St O F C m news h') fun h' S' => ⟨rfl, S'⟩) ?_
    rintro r h₁ tk₁ ⟨rfl, S₁⟩
    exact wpAny_pure ⟨h₁, tk₁, rfl, done F m news h₁ hI S₁⟩
end

-- A15
section
variable {prog : Program} {w : World} {A : Around} {α β : Type} {O F F' F₂ h h' h₂ h₅ : Heap} {L C D it : Addr} {m mC : Str → Option Value} {news : Led} {env : Env} {ob0 : Ob} {ys : List Value}

theorem St.but (S : St O F L m news h) (hs : Heap.ExtBut C h h') (hL : C ≠ L) (hn : ∀ p ∈ news, p.1 ≠ C) (hF : F.get? C = none) : St O F L m news h' :=
  ⟨⟨fun b o e => hs b o (fun z => by subst z; rw [e] at hF; cases hF) (S.v.keep b o e), fun p hp => (S.v.nw p hp).same fun o ho => hs _ o (hn p hp) ho, S.v.off, S.v.nd⟩, S.ns.extBut hs hL.symm, S.offL, S.ne, S.org, S.le⟩

theorem comp_exit (S₃ : St O F L m ((it, ob0) :: news) h₂) (hD : h₂.objs.size ≤ D) (hDC : D < C) (hF₂ : ∀ b o, h₂.get? b = some o → b ≠ it → F₂.get? b = some o) (hF' : Sub F₂ F') (S₅ : St O F' C mC [(D, .lst ys)] h₅) :
    St O F L m ((D, .lst ys) :: news) h₅ ∧ F.get? C = none ∧ C ≠ L ∧ (∀ p ∈ (D, Ob.lst ys) :: news, p.1 ≠ C) := by
  have old : ∀ b o, h₂.get? b = some o → b ≠ it → h₅.get? b = some o := fun b o e hb => S₅.v.keep b o (hF' b o (hF₂ b o e hb))
  have noF : ∀ b, h₂.objs.size ≤ b → F.get? b = none := by
    intro b hb
    cases q : F.get? b with
    | none => rfl
    | some o => exact absurd (Heap.lt_size (S₃.v.keep b o q)) (Nat.not_lt.mpr hb)
  have nit : ∀ p ∈ news, p.1 ≠ it := fun p hp e => (List.nodup_cons.mp S₃.v.nd).1 (List.mem_map.mpr ⟨p, hp, e⟩)
  have ltn : ∀ p ∈ news, p.1 < h₂.objs.size := fun p hp => let ⟨o, e⟩ := (S₃.v.nw p (.tail _ hp)).some; Heap.lt_size e
  have hLD : L < D := Nat.lt_of_lt_of_le S₃.lt hD
  refine ⟨⟨⟨fun b o e => old b o (S₃.v.keep b o e) (fun z => by subst z; have := S₃.v.off _ (.head _); rw [e] at this; cases this), ?_, ?_, ?_⟩, ?_, S₃.offL, ?_, S₃.org, S₃.le⟩, noF C (Nat.le_trans hD (Nat.le_of_lt hDC)), Nat.ne_of_gt (Nat.lt_trans hLD hDC), ?_⟩
  · intro p hp
    rcases List.mem_cons.mp hp with rfl | hp
    · exact S₅.get (i := 0) rfl
    · exact (S₃.v.nw p (.tail _ hp)).same fun o e => old _ o e (nit p hp)
  · intro p hp
    rcases List.mem_cons.mp hp with rfl | hp
    · exact noF D hD
    · exact S₃.v.off p (.tail _ hp)
  · rw [List.map_cons, List.nodup_cons]
    refine ⟨fun hm => ?_, (List.nodup_cons.mp S₃.v.nd).2⟩
    obtain ⟨p, hp, e⟩ := List.mem_map.mp hm
    have h1 := ltn p hp
    have e' : p.1 = D := e
    rw [e'] at h1
    exact absurd h1 (Nat.not_lt.mpr hD)
  · obtain ⟨o, es, ep, ho, r⟩ := S₃.ns
    exact ⟨o, es, ep, old _ _ ho (fun z => S₃.ne _ (.head _) z.symm), r⟩
  · intro p hp
    rcases List.mem_cons.mp hp with rfl | hp
    · exact Nat.ne_of_gt hLD
    · exact S₃.ne p (.tail _ hp)
  · intro p hp
    rcases List.mem_cons.mp hp with rfl | hp
    · exact Nat.ne_of_lt hDC
    · exact Nat.ne_of_lt (Nat.lt_of_lt_of_le (ltn p hp) (Nat.le_trans hD (Nat.le_of_lt hDC)))

/-- the last freeze -/
theorem comp_freeze (S : St O F L m ((D, .lst ys) :: news) h') (hF' : ∀ b o, F'.get? b = some o → h'.get? b = some o) (hn : ∀ p ∈ news, p.1 < C) (hL : L < C) (hD : D < C) :
    ∃ F'', Sub F F'' ∧ SubFrom C F' F'' ∧ St O F'' L m ((D, .lst ys) :: news) h' := by
  obtain ⟨F'', h1, h2, h3, _⟩ := S.freeze
  refine ⟨F'', h1, fun b o hb e => h3 b o (hF' b o e) (fun z => ?_) (fun z => ?_), h2⟩
  · subst z; exact absurd hL (Nat.not_lt.mpr hb)
  · obtain ⟨p, hp, rfl⟩ := List.mem_map.mp z
    rcases List.mem_cons.mp hp with rfl | hp
    · exact absurd hD (Nat.not_lt.mpr hb)
    · exact absurd (hn p hp) (Nat.not_lt.mpr hb)

/-- what stands behind the iterator of a comprehension -/
structure CompIn (prog : Program) (w : World) (A : Around) (elt : Expr) (gens : List Comprehension) (scope : Scope) (pos : Pos) (cl : List (Str × Addr)) (env : Env) (O F : Heap) (L : Addr) (m : Str → Option Value) (news : Led) (Fin : Addr → Addr → Heap → List Value → Prop) (itv : Value) (h₂ : Heap) : Prop where
  ok : ∃ it ob0, itv = .ref it ∧ St O F L m ((it, ob0) :: news) h₂ ∧ (∀ h, Ob.At h it ob0 → W prog w A (pyIter (.ref it)) h fun v h' => v = .ref it ∧ h' = h) ∧
    ∀ D C F₂ h₄, L < D → D < C → h₂.objs.size ≤ D → (∀ b o, h₂.get? b = some o → b ≠ it → F₂.get? b = some o) → Sub F F₂ → St O F₂ C (fun _ => none) [(it, ob0), (D, .lst [])] h₄ →
      Go prog w A (.compLoop (.ListComp elt gens scope pos) 0 (.ref it) (.ref D) (compEnvC scope cl C env)) h₄ fun _ h₅ => ∃ F' mC ys, Sub F₂ F' ∧ St O F' C mC [(D, .lst ys)] h₅ ∧ Fin D C F' ys

theorem comp_core {elt : Expr} {gens : List Comprehension} {scope : Scope} {pos : Pos} {cl : List (Str × Addr)} {itv : Value} {Fin : Addr → Addr → Heap → List Value → Prop} {E : Value → Shared → Prop} {RR : Value → Addr → Result → Shared → Prop} {g : Array GenState} {d : Drawn} {tk : Nat} {os : OsState}
    (hne : ∃ t i fs r, gens = ⟨t, i, fs, 0⟩ :: r) (hcell : ∀ y ∈ scope.names, y.2 ≠ .cell) (hkind : scope.kind = .function)
    (x : CompIn prog w A elt gens scope pos cl env O F L m news Fin itv h₂)
    (hRR : ∀ D C F' mC ys h₅ tk₅ f, Fin D C F' ys → L < C → D < C → (∀ p ∈ news, p.1 < C) → h₅.Ns C mC → F'.get? C = none → Sub F' h₅ → St O F L m ((D, .lst ys) :: news) h₅ → F'.get? L = none ∨ True → F.get? C = none → C ≠ L → (∀ p ∈ (D, Ob.lst ys) :: news, p.1 ≠ C) → RR (.ref D) C (.ok f) ⟨h₅, g, d, tk₅, os⟩) :
    wpAny (model prog w) A (newList []) (fun acc s₃ => wpAny (model prog w) A (newFunctionEnv scope env.globals cl [] env.qual none .none (some env)) (fun cenv s₄ =>
      codeAny (model prog w) A (.compStart (.ListComp elt gens scope pos) 0 itv acc { cenv with scope := relabel scope env }) (RR acc cenv.locals) s₄) E s₃) E ⟨h₂, g, d, tk, os⟩ := by
  obtain ⟨it, ob0, rfl, S₃, hself, hgo⟩ := x.ok
  obtain ⟨t, i, fs, r, rfl⟩ := hne
  refine wpAny_newObj_type (wpAny_newFunctionEnv hcell (by intro y hy; simp at hy) (fun h₁ hns₁ hsb₁ => ?_) hkind)
  dsimp only at hns₁ hsb₁ ⊢
  generalize hH2 : h₂.push { cls := .type "list", dict := none, data := .seq ([] : List Value).toArray } = H2 at hns₁ hsb₁ ⊢
  have hC : H2.objs.size = h₂.objs.size + 1 := by rw [← hH2, Heap.size_push]
  have hDC : h₂.objs.size < H2.objs.size := by rw [hC]; exact Nat.lt_succ_self _
  have old : ∀ b o, h₂.get? b = some o → h₁.get? b = some o := fun b o e => hsb₁.extBut b o (Nat.ne_of_lt (Nat.lt_trans (Heap.lt_size e) hDC)) (Heap.get?_push_of_some _ (hH2 ▸ Heap.get?_push_of_some _ e))
  have hacc : LAt h₁ h₂.objs.size [] := ⟨0, hsb₁.extBut _ _ (Nat.ne_of_lt hDC) (Heap.get?_push_of_some _ (hH2 ▸ Heap.get?_push_size _ rfl))⟩
  have hL : L < h₂.objs.size := S₃.lt
  have hit : Ob.At h₁ it ob0 := (S₃.get (i := 0) rfl).same (old it)
  have hitlt : it < h₂.objs.size := let ⟨o, e⟩ := (S₃.get (i := 0) rfl).some; Heap.lt_size e
  have hF2 : ∀ b o, h₂.get? b = some o → b ≠ it → (hideAll h₁ [it, h₂.objs.size, H2.objs.size]).get? b = some o := by
    intro b o e hb
    refine hideAll_get _ (old b o e) ?_
    have h1 := Heap.lt_size e
    simp only [List.mem_cons, List.not_mem_nil, or_false, not_or]
    exact ⟨hb, Nat.ne_of_lt h1, Nat.ne_of_lt (Nat.lt_trans h1 hDC)⟩
  have hFF2 : Sub F (hideAll h₁ [it, h₂.objs.size, H2.objs.size]) := fun b o e => hF2 b o (S₃.v.keep b o e) (fun z => by subst z; have := S₃.v.off _ (.head _); rw [e] at this; cases this)
  have S₄ : St O (hideAll h₁ [it, h₂.objs.size, H2.objs.size]) H2.objs.size (fun _ => none) [(it, ob0), (h₂.objs.size, .lst [])] h₁ := by
    refine ⟨⟨fun b o e => of_hideAll _ e, ?_, ?_, ?_⟩, hns₁, hideAll_none _ (by simp), ?_, fun b o e => hFF2 b o (S₃.org b o e), Nat.le_trans S₃.le (Nat.le_of_lt (Nat.lt_trans hL hDC))⟩
    · intro p hp
      simp only [List.mem_cons, List.not_mem_nil, or_false] at hp
      rcases hp with rfl | rfl
      · exact hit
      · exact hacc
    · intro p hp
      simp only [List.mem_cons, List.not_mem_nil, or_false] at hp
      rcases hp with rfl | rfl <;> exact hideAll_none _ (by simp)
    · refine List.nodup_cons.mpr ⟨?_, List.nodup_cons.mpr ⟨by simp, List.nodup_nil⟩⟩
      simp only [List.map_cons, List.map_nil, List.mem_singleton]
      exact Nat.ne_of_lt hitlt
    · intro p hp
      simp only [List.mem_cons, List.not_mem_nil, or_false] at hp
      rcases hp with rfl | rfl
      · exact Nat.ne_of_lt (Nat.lt_trans hitlt hDC)
      · exact Nat.ne_of_lt hDC
  have loop : ∀ tk', codeAny (model prog w) A (.compLoop (.ListComp elt (⟨t, i, fs, 0⟩ :: r) scope pos) 0 (.ref it) (.ref h₂.objs.size) (compEnvC scope cl H2.objs.size env)) (RR (.ref h₂.objs.size) H2.objs.size) ⟨h₁, g, d, tk', os⟩ := by
    intro tk'
    refine codeAny_mono (hgo h₂.objs.size H2.objs.size _ h₁ hL hDC (Nat.le_refl _) hF2 hFF2 S₄ g d tk' os) fun r s' y => ?_
    cases r with
    | error e => exact y.elim
    | ok f =>
      obtain ⟨h₅, tk₅, rfl, F', mC, ys, hF', S₅, fin⟩ := y
      obtain ⟨S₆, hC1, hC2, hC3⟩ := comp_exit S₃ (Nat.le_refl _) hDC hF2 hF' S₅
      refine hRR _ _ F' mC ys h₅ tk₅ f fin (Nat.lt_trans hL hDC) hDC (fun p hp => ?_) S₅.ns S₅.offL S₅.v.keep S₆ (.inr trivial) hC1 hC2 hC3
      obtain ⟨o, e⟩ := (S₃.v.nw p (.tail _ hp)).some
      exact Nat.lt_trans (Heap.lt_size e) hDC
  refine codeAny_compStart_list (loop _) ?_
  refine W.use (hself h₁ hit) ?_
  rintro v h' tk' ⟨rfl, rfl⟩
  exact loop tk'

theorem comp_out {Q : Heap → Prop} {ys : List Value} (S : St O F L m ((D, .lst ys) :: news) h₅) (hn : h₅.Ns C mC) (hLC : L < C) (hDC : D < C) (hlt : ∀ p ∈ news, p.1 < C) (hF'C : F'.get? C = none) (hF' : Sub F' h₅) (hFC : F.get? C = none) (hnC : ∀ p ∈ (D, Ob.lst ys) :: news, p.1 ≠ C)
    (q : ∀ F'' h', Sub F F'' → SubFrom C F' F'' → St O F'' L m ((D, .lst ys) :: news) h' → Q h') (hs : Heap.SameBut C h₅ h') : Q h' := by
  have S' := S.but hs.extBut (Nat.ne_of_gt hLC) hnC hFC
  obtain ⟨F'', h1, h2, h3⟩ := comp_freeze (F' := F') S' (fun b o e => hs.extBut b o (fun z => by subst z; rw [e] at hF'C; cases hF'C) (hF' b o e)) hlt hLC hDC
  exact q F'' h' h1 h2 h3

theorem W.comp {elt target iter : Expr} {ifs : List Expr} {rest : List Comprehension} {scope : Scope} {pos : Pos} {cl : List (Str × Addr)} {Q : Value → Heap → Prop}
    (hclos : closureFor scope env = Pure.pure cl) (hcell : ∀ y ∈ scope.names, y.2 ≠ .cell) (hkind : scope.kind = .function) (hnames : ∀ y ∈ scope.names, y.2 = .local → scope.names.lookup y.1 = some .local)
    (x : W prog w A (eval iter env) h fun xv h₁ => W prog w A (pyIter xv) h₁ fun itv h₂ => ∃ F m news, CompIn prog w A elt (⟨target, iter, ifs, 0⟩ :: rest) scope pos cl env O F L m news (fun D C F' ys => L < C → ∀ F'' h', Sub F F'' → SubFrom C F' F'' → St O F'' L m ((D, .lst ys) :: news) h' → Q (.ref D) h') itv h₂)
    (hs : ∀ x, foldedSetIterable iter env x = Pure.pure x := by intro _; rfl) : W prog w A (eval (.ListComp elt (⟨target, iter, ifs, 0⟩ :: rest) scope pos) env) h Q := by
  intro g d tk os
  rw [eval_ListComp]
  refine wpAny_comprehension_free (use := none) rfl hs hclos hkind hnames (x.use fun xv h₁ tk₁ y => y.use (tk := tk₁) fun itv h₂ tk₂ z => ?_)
  obtain ⟨F, m, news, z⟩ := z
  refine comp_core ⟨_, _, _, _, rfl⟩ hcell hkind z ?_
  intro D C F' mC ys h₅ tk₅ f fin hLC hDC hlt hn hF'C hF' S _ hFC hCL hnC
  exact ⟨mC, hn, fun h' hs' => ⟨h', tk₅, rfl, comp_out (Q := Q (.ref D)) S hn hLC hDC hlt hF'C hF' hFC hnC (fin hLC) hs'⟩⟩

theorem W.assign_comp {elt target iter : Expr} {ifs : List Expr} {rest : List Comprehension} {scope : Scope} {pos spos py : Pos} {y : Str} {cl : List (Str × Addr)} {Q : Flow → Heap → Prop} (hL : env.locals = L)
    (hsw : swapsWith (.ListComp elt (⟨target, iter, ifs, 0⟩ :: rest) scope pos) (some (.Name y py)) spos.line env = Pure.pure true)
    (hclos : closureFor scope env = Pure.pure cl) (hcell : ∀ y ∈ scope.names, y.2 ≠ .cell) (hkind : scope.kind = .function) (hnames : ∀ y ∈ scope.names, y.2 = .local → scope.names.lookup y.1 = some .local)
    (hy : env.kindOf y = some .local) (hk : env.scope.kind = .function)
    (x : W prog w A (eval iter env) h fun xv h₁ => W prog w A (pyIter xv) h₁ fun itv h₂ => ∃ F m news, CompIn prog w A elt (⟨target, iter, ifs, 0⟩ :: rest) scope pos cl env O F L m news (fun D C F' ys => L < C → ∀ F'' h', Sub F F'' → SubFrom C F' F'' → St O F'' L (fun z => if z = y then some (.ref D) else m z) ((D, .lst ys) :: news) h' → Q .next h') itv h₂)
    (hs : ∀ x, foldedSetIterable iter env x = Pure.pure x := by intro _; rfl) : W prog w A (exec (.Assign [.Name y py] (.ListComp elt (⟨target, iter, ifs, 0⟩ :: rest) scope pos) spos) env) h Q := by
  intro g d tk os
  rw [exec_Assign_Name_used _ _ _ _ hsw]
  refine wpAny_bind (wpAny_standAt (wpAny_bind ?_))
  show wpAny _ A (do let _ ← comprehension (.ListComp elt (⟨target, iter, ifs, 0⟩ :: rest) scope pos) scope env _ (PySem.newList []) false (eval iter env) (some (PySem.assign (.Name y py) env))) _ _ _
  refine wpAny_bind (wpAny_mono (wpAny_comprehension_free (use := some (PySem.assign (.Name y py) env)) (Q := fun _ s' => Post g d os Q .next s') rfl hs hclos hkind hnames
    (x.use fun xv h₁ tk₁ yy => yy.use (tk := tk₁) fun itv h₂ tk₂ z => ?_)) (fun _ s' hq => wpAny_pure (wpAny_pure hq)) fun _ _ e => e)
  obtain ⟨F, m, news, z⟩ := z
  refine comp_core ⟨_, _, _, _, rfl⟩ hcell hkind z ?_
  intro D C F' mC ys h₅ tk₅ f fin hLC hDC hlt hn hF'C hF' S _ hFC hCL hnC
  show wpAny _ A (PySem.assign (.Name y py) env (.ref D)) _ _ _
  subst hL
  refine wpAny_assign_Name (wpAny_storeName_local hy S.ns (fun h₂ hn₂ hs₂ => ?_) (by rw [hk]; rfl))
  have S₂ := S.set hn₂ hs₂
  obtain ⟨F₆, hFF₆, hS₆, hall, hF₆h⟩ := S.freeze
  have hNs : h₂.Ns C mC := hn.sameBut hs₂ hCL
  refine ⟨mC, hNs, fun h' hs' => ⟨h', tk₅ + 1, rfl, ?_⟩⟩
  have S' := S₂.but hs'.extBut (Nat.ne_of_gt hLC) hnC hFC
  obtain ⟨F'', k1, _, k3, k4⟩ : ∃ F'', Sub F F'' ∧ True ∧ St O F'' env.locals (fun z => if z = y then some (.ref D) else m z) ((D, .lst ys) :: news) h' ∧ (∀ b o, h'.get? b = some o → b ≠ env.locals → b ∉ ((D, Ob.lst ys) :: news).map (·.1) → F''.get? b = some o) := by
    obtain ⟨F'', a1, a2, a3, _⟩ := S'.freeze
    exact ⟨F'', a1, trivial, a2, a3⟩
  refine fin hLC F'' h' k1 (fun b o hb e => k4 b o (hs'.extBut b o (fun z => by subst z; rw [e] at hF'C; cases hF'C) (hs₂.extBut b o (fun z => ?_) (hF' b o e))) (fun z => ?_) (fun z => ?_)) k3
  · subst z; exact absurd hLC (Nat.not_lt.mpr hb)
  · subst z; exact absurd hLC (Nat.not_lt.mpr hb)
  · obtain ⟨p, hp, rfl⟩ := List.mem_map.mp z
    rcases List.mem_cons.mp hp with rfl | hp
    · exact absurd hDC (Nat.not_lt.mpr hb)
    · exact absurd (hlt p hp) (Nat.not_lt.mpr hb)
theorem self_list {l it : Addr} {i : Nat} : ∀ h, Ob.At h it (.liter l i) → W prog w A (pyIter (.ref it)) h fun v h' => v = .ref it ∧ h' = h :=
  fun h hit _ _ tk _ => wpAny_pyIter_listiter hit ⟨h, tk, rfl, rfl, rfl⟩
theorem self_range {it : Addr} {x l s : Int} : ∀ h, Ob.At h it (.riter x l s) → W prog w A (pyIter (.ref it)) h fun v h' => v = .ref it ∧ h' = h :=
  fun h hit _ _ tk _ => wpAny_pyIter_rangeiter hit ⟨h, tk, rfl, rfl, rfl⟩
theorem W.cellAt {x : Str} {pos : Pos} {c : Addr} {v : Value} {Q : Value → Heap → Prop} (hi : h.IsCell c (some v)) (hc : env.cells.lookup x = some c) (q : Q v h)
    (hk : env.scope.kind = .function := by rfl) (hl : env.kindOf x = some .cell := by rfl) (hd : (x == ("__debug__" : Str)) = false := by decide) : W prog w A (eval (.Name x pos) env) h Q :=
  fun _ _ tk _ => wpAny_Name (wpAny_loadName_cell hk hl hc hi ⟨h, tk, rfl, q⟩) hd
end

-- A16
/-- all of h but the iterator lies in F -/
abbrev Old (h : Heap) (it : Addr) (F : Heap) : Prop := ∀ b o, h.get? b = some o → b ≠ it → F.get? b = some o
theorem Old.sub {h F F' : Heap} {it : Addr} (x : Old h it F) (hs : Sub F F') : Old h it F' := fun b o e hb => hs b o (x b o e hb)
theorem LAt.old {h F : Heap} {it a : Addr} {vs : List Value} (x : LAt h a vs) (y : Old h it F) (hne : a ≠ it) : LAt F a vs := let ⟨n, e⟩ := x; ⟨n, y _ _ e hne⟩
theorem TAt.old {h F : Heap} {it a : Addr} {vs : List Value} (x : TAt h a vs) (y : Old h it F) (hne : a ≠ it) : TAt F a vs := let ⟨n, e⟩ := x; ⟨n, y _ _ e hne⟩
theorem IsCell.old {h F : Heap} {it a : Addr} {v : Option Value} (x : h.IsCell a v) (y : Old h it F) (hne : a ≠ it) : F.IsCell a v := let ⟨o, e, r⟩ := x; ⟨o, y _ _ e hne, r⟩
theorem IsCell.sub {h h' : Heap} {a : Addr} {v : Option Value} (x : h.IsCell a v) (y : Sub h h') : h'.IsCell a v := let ⟨o, e, r⟩ := x; ⟨o, y _ _ e, r⟩
section
variable {prog : Program} {w : World} {A : Around} {α β : Type} {O F F' F₂ h h' h₂ h₅ : Heap} {L C D it : Addr} {m mC : Str → Option Value} {news : Led} {env : Env} {ob0 : Ob} {ys : List Value}

theorem CompIn.of {elt target : Expr} {gens : List Comprehension} {scope : Scope} {pos : Pos} {cl : List (Str × Addr)} {Fin : Addr → Addr → Heap → List Value → Prop} {ob : Nat → Ob} {n : Nat} {P : Nat → Value → Prop} {T : Addr → Addr → (Heap → Prop) → Heap → Prop}
    (S₃ : St O F L m ((it, ob 0) :: news) h₂) (self : ∀ h, Ob.At h it (ob 0) → W prog w A (pyIter (.ref it)) h fun v h' => v = .ref it ∧ h' = h)
    (hct : ∀ D C, CompTree prog w A elt gens scope pos 0 it (.ref D) (compEnvC scope cl C env) target (T D C))
    (next : ∀ i C F m news h, i < n → Old h₂ it F → St O F C m ((it, ob i) :: news) h → ∀ Q' : Option Value → Heap → Prop, (∀ v h', P i v → St O F C m ((it, ob (i + 1)) :: news) h' → Q' (some v) h') → W prog w A (pyNext (.ref it)) h Q')
    (stop : ∀ C F m news h, Old h₂ it F → St O F C m ((it, ob n) :: news) h → ∀ Q' : Option Value → Heap → Prop, (∀ h', St O F C m news h' → Q' none h') → W prog w A (pyNext (.ref it)) h Q')
    (own : ∀ i C F m news h v, St O F C m ((it, ob i) :: news) h → W prog w A (letOwnedTupleGo target (.ref it) v) h fun _ h' => h' = h)
    (Inv : Addr → Nat → Heap → List Value → Prop)
    (h0 : ∀ C F₂, L < C → h₂.objs.size < C → Old h₂ it F₂ → Inv C 0 F₂ [])
    (turn : ∀ C D i v F' m ys h, L < D → D < C → h₂.objs.size ≤ D → i < n → P i v → Old h₂ it F' → Inv C i F' ys → ys.length ≤ i → St O F' C m [(it, ob (i + 1)), (D, .lst ys)] h →
      ∀ Qh : Heap → Prop, (∀ F'' m' ys' h', Sub F' F'' → Inv C (i + 1) F'' ys' → ys'.length ≤ i + 1 → St O F'' C m' [(it, ob (i + 1)), (D, .lst ys')] h' → Qh h') →
      W prog w A (PySem.assign target (compEnvC scope cl C env) v) h fun _ h₁ => T D C Qh h₁)
    (done : ∀ D C F' ys, L < D → D < C → h₂.objs.size ≤ D → Old h₂ it F' → Inv C n F' ys → Fin D C F' ys) : CompIn prog w A elt gens scope pos cl env O F L m news Fin (.ref it) h₂ := by
  refine ⟨it, ob 0, rfl, S₃, self, fun D C F₂ h₄ hLD hDC hsz hF₂ hFF₂ S₄ => ?_⟩
  refine Go.compLoop (n := n) (P := P) (ob := ob) (fun i F' m news => ∃ ys, news = [(D, .lst ys)] ∧ Sub F₂ F' ∧ Inv C i F' ys ∧ ys.length ≤ i) (hct D C) ?_ ?_ ?_ ?_ ?_ S₄ ⟨[], rfl, fun _ _ e => e, h0 C F₂ (Nat.lt_trans hLD hDC) (Nat.lt_of_le_of_lt hsz hDC) hF₂, Nat.le_refl _⟩
  · rintro i F' m news h hi ⟨ys, rfl, hs, hI, _⟩ S Q' q
    exact next i C F' m _ h hi (Old.sub hF₂ hs) S Q' q
  · rintro F' m news h ⟨ys, rfl, hs, hI, _⟩ S Q' q
    exact stop C F' m _ h (Old.sub hF₂ hs) S Q' q
  · intro i F m news h v S
    exact own i C F m news h v S
  · rintro i v F' m news h hi hv ⟨ys, rfl, hs, hI, hy⟩ S
    refine turn C D i v F' m ys h hLD hDC hsz hi hv (Old.sub hF₂ hs) hI hy S _ fun F'' m' ys' h' k1 k2 k3 k4 => ?_
    exact ⟨F'', m', [(D, .lst ys')], ⟨ys', rfl, fun b o e => k1 b o (hs b o e), k2, k3⟩, k4⟩
  · rintro F' m news h ⟨ys, rfl, hs, hI, _⟩ S
    exact ⟨F', m, ys, hs, S, done D C F' ys hLD hDC hsz (Old.sub hF₂ hs) hI⟩

/-- over a list -/
theorem CompIn.list {elt target : Expr} {gens : List Comprehension} {scope : Scope} {pos : Pos} {cl : List (Str × Addr)} {Fin : Addr → Addr → Heap → List Value → Prop} {a : Addr} {items : List Value} {T : Addr → Addr → (Heap → Prop) → Heap → Prop}
    (hh : A.handled = none) (S₃ : St O F L m ((it, .liter a 0) :: news) h₂) (hl : LAt h₂ a items) (hne : a ≠ it)
    (ht : (∃ x pos, target = .Name x pos) ∨ (∃ e k pos, target = .Tuple e k pos))
    (hct : ∀ D C, CompTree prog w A elt gens scope pos 0 it (.ref D) (compEnvC scope cl C env) target (T D C))
    (Inv : Addr → Nat → Heap → List Value → Prop)
    (h0 : ∀ C F₂, L < C → h₂.objs.size < C → Old h₂ it F₂ → Inv C 0 F₂ [])
    (turn : ∀ C D i v F' m ys h, L < D → D < C → h₂.objs.size ≤ D → items[i]? = some v → Old h₂ it F' → Inv C i F' ys → ys.length ≤ i → St O F' C m [(it, .liter a (i + 1)), (D, .lst ys)] h →
      ∀ Qh : Heap → Prop, (∀ F'' m' ys' h', Sub F' F'' → Inv C (i + 1) F'' ys' → ys'.length ≤ i + 1 → St O F'' C m' [(it, .liter a (i + 1)), (D, .lst ys')] h' → Qh h') →
      W prog w A (PySem.assign target (compEnvC scope cl C env) v) h fun _ h₁ => T D C Qh h₁)
    (done : ∀ D C F' ys, L < D → D < C → h₂.objs.size ≤ D → Old h₂ it F' → Inv C items.length F' ys → Fin D C F' ys) : CompIn prog w A elt gens scope pos cl env O F L m news Fin (.ref it) h₂ := by
  refine CompIn.of (ob := fun i => .liter a i) (n := items.length) (P := fun i v => items[i]? = some v) S₃ self_list hct ?_ ?_ ?_ Inv h0 (fun C D i v F' m ys h a1 a2 a3 _ => turn C D i v F' m ys h a1 a2 a3) done
  · intro i C F' m news h hi ho S Q' q
    have : items[i]? = some items[i] := List.getElem?_eq_getElem hi
    exact next_list S ((hl.old ho hne).sub S.v.keep).isList (by simpa using this) fun h' S' => q _ h' this S'
  · intro C F' m news h ho S Q' q
    exact stop_list hh S ((hl.old ho hne).sub S.v.keep).isList (by simp) q
  · intro i C F m news h v S
    rcases ht with ⟨x, pos, rfl⟩ | ⟨e, k, pos, rfl⟩
    · exact own_name
    · exact own_list (S.get (i := 0) rfl)
/-- over a range -/
theorem CompIn.range {elt : Expr} {gens : List Comprehension} {scope : Scope} {pos px : Pos} {x : Str} {cl : List (Str × Addr)} {Fin : Addr → Addr → Heap → List Value → Prop} {n : Nat} {T : Addr → Addr → (Heap → Prop) → Heap → Prop}
    (hh : A.handled = none) (S₃ : St O F L m ((it, .riter 0 n 1) :: news) h₂)
    (hct : ∀ D C, CompTree prog w A elt gens scope pos 0 it (.ref D) (compEnvC scope cl C env) (.Name x px) (T D C))
    (Inv : Addr → Nat → Heap → List Value → Prop)
    (h0 : ∀ C F₂, L < C → h₂.objs.size < C → Old h₂ it F₂ → Inv C 0 F₂ [])
    (turn : ∀ C D i t F' m ys h ob, L < D → D < C → h₂.objs.size ≤ D → i < n → Old h₂ it F' → Inv C i F' ys → ys.length ≤ i → St O F' C m [(it, ob), (D, .lst ys)] h →
      ∀ Qh : Heap → Prop, (∀ F'' m' ys' h', Sub F' F'' → Inv C (i + 1) F'' ys' → ys'.length ≤ i + 1 → St O F'' C m' [(it, ob), (D, .lst ys')] h' → Qh h') →
      W prog w A (PySem.assign (.Name x px) (compEnvC scope cl C env) (.int i t)) h fun _ h₁ => T D C Qh h₁)
    (done : ∀ D C F' ys, L < D → D < C → h₂.objs.size ≤ D → Old h₂ it F' → Inv C n F' ys → Fin D C F' ys) : CompIn prog w A elt gens scope pos cl env O F L m news Fin (.ref it) h₂ := by
  refine CompIn.of (ob := fun i => .riter i (n - i) 1) (n := n) (P := fun i v => ∃ t, v = .int i t) (by simpa using S₃) self_range hct ?_ ?_ (fun _ _ _ _ _ _ _ _ => own_name) Inv h0 ?_ done
  · intro i C F' m news h hi ho S Q' q
    refine next_range S (by omega) fun t h' S' => q _ h' ⟨t, rfl⟩ ?_
    have e1 : ((i + 1 : Nat) : Int) = (i : Int) + 1 := by omega
    have e2 : (n : Int) - ((i + 1 : Nat) : Int) = (n : Int) - (i : Int) - 1 := by omega
    rw [e1, ← e1, e2, e1]; exact S'
  · intro C F' m news h ho S Q' q
    exact stop_range hh S (by omega) q
  · rintro C D i v F' m ys h a1 a2 a3 hi ⟨t, rfl⟩ ho hI hy S Qh q
    exact turn C D i t F' m ys h _ a1 a2 a3 hi ho hI hy S Qh q
end

-- A17
section
variable {prog : Program} {w : World} {A : Around} {E : Value → Shared → Prop} {s : Shared}

theorem wp_setAll {l sl v : Addr} {items new : Array Value} {Q : Unit → Shared → Prop} (hl : s.heap.IsList l items)
    (hs : s.heap.IsSliceOf sl .none .none .none) (hv : s.heap.IsList v new) (hne : l ≠ v) (hsz : items.size + new.size ≤ sizeLine)
    (h : Q () { s with heap := s.heap.update l (Obj.mapSeq fun xs => xs.extract 0 (0 : Int).toNat ++ new ++ xs.extract (max (0 : Int) (items.size : Int)).toNat) }) : wpAny (model prog w) A (setItem (.ref l) (.ref sl) (.ref v)) Q E s := by
  obtain ⟨o, ho, hc, ne, hd⟩ := id hl
  obtain ⟨ov, hov, hcv, nv, hdv⟩ := id hv
  obtain ⟨os, hos, hcs, hds⟩ := id hs
  have hTs : s.TypeIs (.ref sl) "slice" := ⟨os, hos, hcs⟩
  unfold setItem
  try with_reducible refine wpAny_holding ?_
  first | refine wpAny_bind (wpAny_pure ?_) | skip
  refine wpAny_bind (wpAny_sequenceKey hl.typeIs (by decide) ?_)
  refine wpAny_bind (wpAny_callSpecial?_slot (name := Str.ofString "__setitem__") hl.typeIs slot_list_setitem
    (wpAny_call_entry slot_list_setitem hl.typeIs entry_list_setitem ?_ (args_list_setitem _ _ _)))
  show wpAny _ _ (Builtin.List.listSubscript? (.ref sl) >>= _) _ _ s
  refine wpAny_bind ?_
  unfold Builtin.List.listSubscript?
  refine wpAny_bind (wpAny_specialOf hTs slice_no_index ?_)
  simp only [Option.isNone_none, if_true]
  refine wpAny_pure ?_
  show wpAny _ _ (typeOf (.ref sl) >>= _) _ _ s
  refine wpAny_bind (wpAny_typeOf hTs ?_)
  rw [if_neg (by decide)]
  rw [listSliceParts_eq]
  refine wpAny_bind (wpAny_bind (wpAny_field hos hds (x := .none) rfl (wpAny_bind (wpAny_listPart .none ?_))))
  rw [if_neg (by decide)]
  refine wpAny_bind (wpAny_field hos hds (x := .none) rfl (wpAny_bind (wpAny_listPart .none ?_)))
  refine wpAny_bind (wpAny_field hos hds (x := .none) rfl (wpAny_bind (wpAny_listPart .none (wpAny_pure ?_))))
  have hsame : Builtin.List.listSameRef (.ref l) (.ref v) = false := by
    show (l == v) = false
    exact beq_eq_false_iff_ne.mpr hne
  dsimp only
  rw [hsame]
  simp only [Bool.false_eq_true, if_false]
  refine wpAny_bind ?_
  unfold Builtin.List.listAllItems
  refine wpAny_bind (wpAny_typeOf (T := "list") hv.typeIs ?_)
  rw [if_pos (by decide)]
  unfold Builtin.List.listItems
  refine wpAny_bind (m := seqItems? (.ref v)) (wpAny_seqItems hov hdv (wpAny_pure ?_))
  refine wpAny_bind (wpAny_bind (m := seqItems? (.ref l)) (wpAny_seqItems ho hd (wpAny_pure ?_)))
  refine wpAny_bind (wpAny_of_eq (sliceIndices_raw none none none items.size (by decide)) ?_)
  rw [if_pos (show ((sliceBounds none none none items.size).2.snd == 1) = true from rfl)]
  refine wpAny_bind (wpAny_rule ?_)
  rw [if_neg (by unfold Builtin.List.listTooLong; simpa using hsz)]
  refine wpAny_bind (wpAny_updateSeq ho hd ?_)
  exact wpAny_bind (wpAny_letGo (wpAny_pure ⟨.none, rfl, wpAny_pure h⟩))
end
section
variable {prog : Program} {w : World} {A : Around} {O F h : Heap} {L : Addr} {m : Str → Option Value} {news : Led}
theorem W.setAll {i : Nat} {l sl v : Addr} {vs new : List Value} {Q : Unit → Heap → Prop} (S : St O F L m news h) (hi : news[i]? = some (l, .lst vs)) (hs : h.IsSliceOf sl .none .none .none) (hv : LAt h v new) (hne : l ≠ v) (hsz : vs.length + new.length ≤ sizeLine)
    (q : ∀ h', St O F L m (news.set i (l, .lst new)) h' → Q () h') : W prog w A (setItem (.ref l) (.ref sl) (.ref v)) h Q := by
  intro g d tk os
  have hl : LAt h l vs := S.get hi
  refine wp_setAll (s := ⟨h, g, d, tk, os⟩) hl.isList hs hv.isList hne (by simpa using hsz) ⟨_, tk, rfl, q _ ?_⟩
  refine S.upd hi (Heap.SameBut.update ..).extBut ?_
  have := mapSeq_at (f := fun xs => xs.extract 0 (0 : Int).toNat ++ new.toArray ++ xs.extract (max (0 : Int) (vs.toArray.size : Int)).toNat) hl
  have e : (vs.toArray.extract 0 (0 : Int).toNat ++ new.toArray ++ vs.toArray.extract (max (0 : Int) (vs.toArray.size : Int)).toNat).toList = new := by
    have e1 : (max (0 : Int) (vs.toArray.size : Int)).toNat = vs.length := by simp
    rw [e1]
    simp
  rw [e] at this
  exact this
theorem W.ne_str {x y : Str} {t u : Tok} {Q : Value → Heap → Prop} (q : Q (.bool (x != y)) h) : W prog w A (compareOp .NotEq (.str x t) (.str y u)) h Q := fun _ _ tk _ => PyProof.Rows.ne_str ⟨h, tk, rfl, q⟩
theorem W.fdiv_int {a b : Int} {t u : Tok} {Q : Value → Heap → Prop} (hb : 0 < b) (hb2 : b < 1073741824) (q : ∀ t, Q (.int (a.fdiv b) t) h) : W prog w A (binaryOp .FloorDiv (.int a t) (.int b u)) h Q := fun _ _ tk _ => PyProof.Rows.floordiv_int (by omega) ⟨h, tk + 1, rfl, q tk⟩ (.inl (PyProof.noPylong_small (by omega)))
end

-- A18
section
variable {prog : Program} {w : World} {A : Around} {O F h h' : Heap} {L : Addr} {m : Str → Option Value} {news : Led} {env : Env} {K : Frag} {p : Program} {loose : List Str} {mg mb : Str → Option Value}

theorem W.setAttr1 {x C dx l : Addr} {vs : List Value} {ox : Obj} {es : List DictEntry} {n : Nat} {name : Str} {v : Value} {Q : Unit → Heap → Prop} (G : Good K p loose mg mb O) (S : St O F L m [(l, .lst vs), (dx, .raw (dictOf es n))] h) (hF : F.objs.size ≤ L) (I : W.InstAt h x ox C (some (dictOf es n))) (hd : ox.dict = some dx)
    (hs : findIn K (.ref C) "__setattr__" = some (some (.builtin "object.__setattr__"))) (hp : plainOver K C = true) (ht : takerIn K C name = some none) (hh : hasDictIn K C = true) (hl : (getL name es).isSome = true)
    (hz : ∀ tk, (putL name (PyData.keyHash w.params name) (.str name tk) v es).length ≤ 1000)
    (q : ∀ tk h', St O F L m [(l, .lst vs), (dx, .raw (dictOf (putL name (PyData.keyHash w.params name) (.str name tk) v es) (putN name es n)))] h' → Q () h') : W prog w A (PySem.setAttr (.ref x) name v) h Q := by
  intro g d tk os
  have Fr0 : Fr F L h m := ⟨S.ns, S.v.keep, hF⟩
  obtain ⟨nl, hll⟩ : LAt h l vs := S.get (i := 0) rfl
  have hx0 : h.get? dx = some (dictOf es n) := S.get (i := 1) rfl
  have hndx : l ≠ dx := by
    have := S.v.nd
    simp only [List.map_cons, List.map_nil, List.nodup_cons, List.mem_singleton] at this
    exact this.1
  have N0 : News F L h [(l, { cls := .type "list", dict := none, data := .seq vs.toArray nl, slots := #[] }), (dx, dictOf es n)] := by
    intro p hp
    simp only [List.mem_cons, List.not_mem_nil, or_false] at hp
    rcases hp with rfl | rfl
    · exact ⟨hll, S.ne _ (.head _), S.v.off _ (.head _)⟩
    · exact ⟨hx0, S.ne _ (.tail _ (.head _)), S.v.off _ (.tail _ (.head _))⟩
  refine set_dict Fr0 (G.X.keeps S.org) N0 I hd hs hp ht hh hl rfl (U := ?_) (hz _) (news' := [(l, { cls := .type "list", dict := none, data := .seq vs.toArray nl, slots := #[] }), (dx, dictOf (putL name (PyData.keyHash w.params name) (.str name (tk + 1)) v es) (putN name es n))]) fun h₁ F₁ N₁ => ⟨h₁, tk + 2, rfl, q (tk + 1) h₁ ?_⟩
  · exact Upd.tail hndx (Upd.head (by intro p hp; cases hp))
  · refine ⟨⟨F₁.keep, ?_, ?_, ?_⟩, F₁.ns, S.offL, ?_, S.org, S.le⟩
    · intro p hp
      simp only [List.mem_cons, List.not_mem_nil, or_false] at hp
      rcases hp with rfl | rfl
      · exact ⟨nl, N₁.get (.head _)⟩
      · exact N₁.get (.tail _ (.head _))
    · intro p hp
      simp only [List.mem_cons, List.not_mem_nil, or_false] at hp
      rcases hp with rfl | rfl
      · exact S.v.off _ (.head _)
      · exact S.v.off (dx, .raw (dictOf es n)) (.tail _ (.head _))
    · exact List.nodup_cons.mpr ⟨by simpa using hndx, List.nodup_cons.mpr ⟨by simp, List.nodup_nil⟩⟩
    · intro p hp
      simp only [List.mem_cons, List.not_mem_nil, or_false] at hp
      rcases hp with rfl | rfl
      · exact S.ne _ (.head _)
      · exact S.ne (dx, .raw (dictOf es n)) (.tail _ (.head _))

theorem W.debug {pos : Pos} {Q : Value → Heap → Prop} (q : Q (.bool true) h) : W prog w A (eval (.Name "__debug__" pos) env) h Q := by
  intro g d tk os
  rw [arm_eval_Name]
  refine wpAny_bind (wpAny_standAt ?_)
  rw [if_pos (by decide)]
  exact wpAny_bind (wpAny_rule (wpAny_pure ⟨h, tk, rfl, q⟩))

/-- a callee has turned one object of the ledger -/
theorem St.backBut {i : Nat} {a : Addr} {x y : Ob} (S : St O F L m news h) (hi : news[i]? = some (a, x)) (hs : Sub (h.hide a) h') (hy : y.At h' a) : ∃ F', Sub F F' ∧ St O F' L m (news.set i (a, y)) h' ∧ SubFrom h.objs.size h' F' ∧ Sub F' h' := by
  have hx : Heap.ExtBut a h h' := fun b o hb e => hs b o ((Heap.hide_ne h hb).trans e)
  have S' := S.upd hi hx hy
  obtain ⟨F', h1, h2, h3, h4⟩ := S'.freeze
  refine ⟨F', h1, h2, fun b o hb e => h3 b o e (fun z => ?_) (fun z => ?_), h4⟩
  · subst z; exact absurd S.lt (Nat.not_lt.mpr hb)
  · rw [set_map_fst hi] at z
    obtain ⟨p, hp, rfl⟩ := List.mem_map.mp z
    obtain ⟨o', ho⟩ := (S.v.nw p hp).some
    exact absurd (Heap.lt_size ho) (Nat.not_lt.mpr hb)
theorem sub_hide {F h : Heap} {a : Addr} (hs : Sub F h) (ha : F.get? a = none) : Sub F (h.hide a) := fun b o e => (Heap.hide_ne h (fun z => by subst z; rw [e] at ha; cases ha)).trans (hs b o e)
end

-- A19
section
variable {prog : Program} {w : World} {A : Around} {O F h h' : Heap} {L : Addr} {m : Str → Option Value} {news : Led} {env : Env} {K : Frag} {p : Program} {loose : List Str} {mg mb : Str → Option Value}

theorem W.sum {l : Addr} {vs : List Value} {ns : List Int} {Q : Value → Heap → Prop} (hh : A.handled = none) (hl : LAt h l vs) (hi : IntsAre vs ns) (q : ∀ t h', Sub h h' → Q (.int ns.sum t) h') : W prog w A (PySem.call (.builtin "sum") [.ref l]) h Q := by
  intro g d tk os
  obtain ⟨xs, hx⟩ := hi.allInts.items
  have hl' : h.IsList l (intItems xs) := hx ▸ hl.isList
  refine sum_intListG (s := ⟨h, g, d, tk, os⟩) hh hl' fun h' tk t' hk => ?_
  have e1 : ns = xs.toList.map (·.1) := by
    rw [← nums_intItems, ← hx]
    exact (show numsOf vs.toArray.toList = ns from hi.numsOf).symm
  have e2 : preSum (numAt xs) xs.size = ns.sum := by
    rw [preSum_eq, List.take_of_length_le (by simp), e1]
  rw [e2]
  exact ⟨h', tk, rfl, q t' h' hk⟩
theorem W.notIn_ints {l : Addr} {vs : List Value} {ns : List Int} {b : Int} {u : Tok} {Q : Value → Heap → Prop} (hl : LAt h l vs) (hi : IntsAre vs ns) (q : Q (.bool (!decide (b ∈ ns))) h) : W prog w A (compareOp .NotIn (.int b u) (.ref l)) h Q := by
  intro g d tk os
  refine PySem.SeqAt.notIn_listAt (s := ⟨h, g, d, tk, os⟩) (isInt b) hl.isList (fun y hy => ?_) ⟨h, tk, rfl, ?_⟩
  · obtain ⟨a, t, rfl⟩ := hi.all y (by simpa using hy)
    exact PySem.SeqAt.EqAt.int_int a t b u
  · have : vs.toArray.any (isInt b) = decide (b ∈ ns) := by
      rw [List.any_toArray]
      rw [Bool.eq_iff_iff, List.any_eq_true, decide_eq_true_eq]
      constructor
      · rintro ⟨y, hy, e⟩
        obtain ⟨j, hj⟩ := List.mem_iff_getElem?.mp hy
        obtain ⟨a, t, rfl, e2⟩ := hi.at j y hj
        have : a = b := by simpa [isInt] using e
        subst this
        exact List.mem_of_getElem? e2
      · intro hb
        obtain ⟨j, hj⟩ := List.mem_iff_getElem?.mp hb
        have hjl : j < vs.length := by rw [hi.length]; exact (List.getElem?_eq_some_iff.mp hj).1
        obtain ⟨a, t, e1, e2⟩ := hi.at j vs[j] (List.getElem?_eq_getElem hjl)
        rw [hj] at e2
        cases e2
        exact ⟨vs[j], List.getElem_mem hjl, by rw [e1]; simp [isInt]⟩
    rw [this]; exact q
theorem W.add_list {a b : Addr} {vs us : List Value} {Q : Value → Heap → Prop} (S : St O F L m news h) (hl : LAt h a vs) (hb : LAt h b us) (hsz : vs.length + us.length ≤ sizeLine)
    (q : ∀ c h', L < c → Sub h h' → St O F L m ((c, .lst (vs ++ us)) :: news) h' → Q (.ref c) h') : W prog w A (binaryOp .Add (.ref a) (.ref b)) h Q := by
  intro g d tk os
  obtain ⟨n, ha⟩ := hl
  obtain ⟨n2, hb⟩ := hb
  refine PySem.P.add_list (s := ⟨h, g, d, tk, os⟩) ha hb ⟨_, tk, rfl, q _ _ S.lt (fun b o e => Heap.get?_push_of_some _ e) (S.alloc _ ⟨0, ?_⟩)⟩ (by simpa using hsz)
  have : vs.toArray ++ us.toArray = (vs ++ us).toArray := by simp
  rw [this]; exact Heap.get?_push_size _ rfl
theorem W.str_vl {k : Int} {t : Tok} {Q : Value → Heap → Prop} (h0 : 0 ≤ k) (h1 : k < 4) (q : ∀ t, Q (.str (vl k.toNat) t) h) : W prog w A (PySem.call (.type "str") [.int k t]) h Q := by
  intro g d tk os
  have hk : k = 0 ∨ k = 1 ∨ k = 2 ∨ k = 3 := by omega
  have e : Str.ofString (toString k) = vl k.toNat := by
    rcases hk with rfl | rfl | rfl | rfl <;> decide +kernel
  refine PySem.P.str_of_int (s := ⟨h, g, d, tk, os⟩) (by rcases hk with rfl | rfl | rfl | rfl <;> decide) ⟨h, tk + 1, rfl, ?_⟩
  rw [e]; exact q tk
theorem W.int_vl {d : Nat} {t : Tok} {Q : Value → Heap → Prop} (hd : d < 4) (q : ∀ t, Q (.int d t) h) : W prog w A (PySem.call (.type "int") [.str (vl d) t]) h Q := by
  intro g dd tk os
  have e : PySem.intText? (vl d) = some (d : Int) ∧ (vl d).length ≤ 640 := by
    exact four (P := fun d => PySem.intText? (vl d) = some (d : Int) ∧ (vl d).length ≤ 640) (by decide +kernel) (by decide +kernel) (by decide +kernel) (by decide +kernel) d hd
  exact PySem.W.KIN.call_text (s := ⟨h, g, dd, tk, os⟩) e.1 e.2 ⟨h, tk + 1, rfl, q tk⟩
theorem W.mod_lo {k : Int} {t u : Tok} {Q : Value → Heap → Prop} (h0 : 0 ≤ k) (h1 : k < 4) (q : ∀ t, Q (.str (nm false k.toNat) t) h) : W prog w A (binaryOp .Mod (.str "%d-name" t) (.int k u)) h Q := by
  intro g d tk os
  have hk : k = 0 ∨ k = 1 ∨ k = 2 ∨ k = 3 := by omega
  refine' KPc.mod_int ?kpcF h0 (by omega) ?kpcm fun t' j => ?_; (case kpcF => kpc_eq); (case kpcm => kpc_run)
  refine ⟨h, j, rfl, ?_⟩
  have key : ∀ s : Str, s = nm false k.toNat → Q (.str s t') h := fun s e => e ▸ q t'
  refine key _ ?_
  rcases hk with rfl | rfl | rfl | rfl <;> decide +kernel
theorem W.mod_up {k : Int} {t u : Tok} {Q : Value → Heap → Prop} (h0 : 0 ≤ k) (h1 : k < 4) (q : ∀ t, Q (.str (nm true k.toNat) t) h) : W prog w A (binaryOp .Mod (.str "%d-NAME" t) (.int k u)) h Q := by
  intro g d tk os
  have hk : k = 0 ∨ k = 1 ∨ k = 2 ∨ k = 3 := by omega
  refine' KPc.mod_int ?kpcF h0 (by omega) ?kpcm fun t' j => ?_; (case kpcF => kpc_eq); (case kpcm => kpc_run)
  refine ⟨h, j, rfl, ?_⟩
  have key : ∀ s : Str, s = nm true k.toNat → Q (.str s t') h := fun s e => e ▸ q t'
  refine key _ ?_
  rcases hk with rfl | rfl | rfl | rfl <;> decide +kernel
def fmtOf (u : Bool) : Str := if u then "%d-NAME" else "%d-name"
theorem W.mod_nm {u : Bool} {k : Int} {t v : Tok} {Q : Value → Heap → Prop} (h0 : 0 ≤ k) (h1 : k < 4) (q : ∀ t, Q (.str (nm u k.toNat) t) h) : W prog w A (binaryOp .Mod (.str (fmtOf u) t) (.int k v)) h Q := by
  cases u
  · exact W.mod_lo h0 h1 q
  · exact W.mod_up h0 h1 q
end

-- A20
def plt (p q : Int × Int) : Bool := if p.1 == q.1 then (if p.2 == q.2 then false else decide (p.2 < q.2)) else decide (p.1 < q.1)
def PairInts (h : Heap) (as : List Addr) (ps : List (Int × Int)) : Prop := as.length = ps.length ∧ ∀ (i : Nat) (a : Addr) (p : Int × Int), as[i]? = some a → ps[i]? = some p → ∃ t u, TAt h a [.int p.1 t, .int p.2 u]
theorem PairInts.sub {h h' : Heap} {as : List Addr} {ps : List (Int × Int)} (x : PairInts h as ps) (hs : Sub h h') : PairInts h' as ps := ⟨x.1, fun i a p h1 h2 => let ⟨t, u, T⟩ := x.2 i a p h1 h2; ⟨t, u, T.sub hs⟩⟩
noncomputable def pbest (ps : List (Int × Int)) : Nat → Nat
  | 0 => 0
  | k + 1 => if plt (ps.getD (k + 1) (0, 0)) (ps.getD (pbest ps k) (0, 0)) then k + 1 else pbest ps k
theorem pbest_le (ps : List (Int × Int)) : ∀ k, pbest ps k ≤ k
  | 0 => Nat.le_refl _
  | k + 1 => by
    unfold pbest
    have := pbest_le ps k
    split <;> omega
section
variable {prog : Program} {w : World} {A : Around} {R : Result → Shared → Prop} {g : Array GenState} {d : Drawn} {os : OsState} {h₀ : Heap} {I l S : Addr} {as : List Addr} {ps : List (Int × Int)}

theorem rc_pair {A : Around} {h : Heap} {Q : Value → Shared → Prop} {E : Value → Shared → Prop} {tk : Nat} {i j : Nat} {a b : Addr} (hu : A.units < cLine) (hp : PairInts h as ps) (ha : as[i]? = some a) (hb : as[j]? = some b)
    (q : ∀ tk', Q (.bool (plt (ps.getD i (0, 0)) (ps.getD j (0, 0)))) ⟨h, g, d, tk', os⟩) : wpAny (model prog w) A (richCompare .Lt (.ref a) (.ref b)) Q E ⟨h, g, d, tk, os⟩ := by
  have hi : i < ps.length := hp.1 ▸ (List.getElem?_eq_some_iff.mp ha).1
  have hj : j < ps.length := hp.1 ▸ (List.getElem?_eq_some_iff.mp hb).1
  obtain ⟨t, u, Ta⟩ := hp.2 i a _ ha (List.getElem?_eq_getElem hi)
  obtain ⟨t', u', Tb⟩ := hp.2 j b _ hb (List.getElem?_eq_getElem hj)
  have e1 : ps.getD i (0, 0) = ps[i] := by simp [hi]
  have e2 : ps.getD j (0, 0) = ps[j] := by simp [hj]
  rw [e1, e2] at q
  refine W.use (Q := fun v h' => v = .bool (plt ps[i] ps[j]) ∧ h' = h) (W.lt_tup2 hu Ta Tb ⟨rfl, rfl⟩) ?_
  rintro v h' tk' ⟨rfl, rfl⟩
  exact q tk'

theorem min_loop (hh : A.handled = none) (hu : A.units + 2 < cLine) (hl : LAt h₀ l (as.map .ref)) (hp : PairInts h₀ as ps) (hIn : h₀.objs.size ≤ I) (hSn : h₀.objs.size ≤ S) (hIS : I ≠ S)
    (hR : ∀ v h' tk, as[pbest ps (as.length - 1)]? = some v → Sub h₀ h' → R (.ok (.ret (.ref v))) ⟨h', g, d, tk, os⟩) :
    ∀ (k j : Nat) (h : Heap) (tk : Nat) (vb : Addr) (c : Nat), as.length - (j + 1) = k → j + 1 ≤ as.length → Sub h₀ h → h.IsListIter I l (j + 1) → as[pbest ps j]? = some vb →
    h.get? S = some { cls := .type "list", dict := none, data := .seq #[.ref vb, .ref vb] c, slots := #[] } →
    codeAny (model prog w) A (.builtin "min.loop" ⟨[.ref I, .none, .ref S], []⟩) R ⟨h, g, d, tk, os⟩ := by
  have hname : (toString "min" ++ toString ".loop" : String) = "min.loop" := by decide
  have hu1 : A.in1.units < cLine := by show A.units + 1 < _; omega
  intro k
  induction k with
  | zero =>
    intro j h tk vb c hk hj hs hit hb hS
    have hin : j + 1 = as.length := by omega
    refine codeAny_builtin PySem.F.entry_min_loop ?_
    rw [Around.under_plainId PySem.F.plain_min_loop _]
    show wpAny _ A.in1 (seqItems? (.ref S) >>= _) _ _ _
    refine wpAny_bind (wpAny_seqItems hS rfl ?_)
    show wpAny _ A.in1 (tryCatch (pyNext (.ref I)) _ >>= _) _ _ _
    refine wpAny_bind (wpAny_tryCatch (wpAny_pyNext_list_end (A := A.in1) hh hit (hl.sub hs).isList (by simp [hin]) fun h' hk' => ?_))
    have hS' := hk' S _ (Ne.symm hIS) hS
    show wpAny _ A.in1 (updateSeq S (fun _ => #[]) >>= _) _ _ _
    refine wpAny_bind ?_
    refine wpAny_updateSeq hS' rfl (wpAny_bind (wpAny_letGo (wpAny_pure ?_)))
    refine hR vb _ tk (by rw [← hin]; exact hb) fun b o e => ?_
    have hlt := Heap.lt_size e
    exact (Heap.get?_update_other _ _ (Ne.symm (Nat.ne_of_lt (Nat.lt_of_lt_of_le hlt hSn)))).trans (hk' b o (Nat.ne_of_lt (Nat.lt_of_lt_of_le hlt hIn)) (hs b o e))
  | succ k ih =>
    intro j h tk vb c hk hj hs hit hb hS
    have hlt : j + 1 < as.length := by omega
    have ha : as[j + 1]? = some as[j + 1] := List.getElem?_eq_getElem hlt
    refine codeAny_builtin PySem.F.entry_min_loop ?_
    rw [Around.under_plainId PySem.F.plain_min_loop _]
    show wpAny _ A.in1 (seqItems? (.ref S) >>= _) _ _ _
    refine wpAny_bind (wpAny_seqItems hS rfl ?_)
    show wpAny _ A.in1 (tryCatch (pyNext (.ref I)) _ >>= _) _ _ _
    refine wpAny_bind (wpAny_tryCatch (wpAny_pyNext_list_item hit (hl.sub hs).isList (x := .ref as[j + 1]) (by simp [hlt]) fun h' hit' hk' => ?_))
    have hS' := hk'.extBut S _ (Ne.symm hIS) hS
    have hs' : Sub h₀ h' := fun b o e => hk'.extBut b o (Nat.ne_of_lt (Nat.lt_of_lt_of_le (Heap.lt_size e) hIn)) (hs b o e)
    show wpAny _ A.in1 (tryCatch (holding [.ref as[j + 1], .ref as[j + 1]] (richCompare .Lt (.ref as[j + 1]) (.ref vb) >>= _)) _ >>= _) _ _ _
    refine wpAny_bind (wpAny_tryCatch (wpAny_holding (wpAny_bind (rc_pair hu1 (hp.sub hs') ha hb fun tk' => ?_))))
    refine wpAny_bind (wpAny_holding (wpAny_truthy_bool ?_))
    refine wpAny_bind (wpAny_letGo (wpAny_pure ?_))
    cases hq : plt (ps.getD (j + 1) (0, 0)) (ps.getD (pbest ps j) (0, 0)) with
    | true =>
      simp only [if_true]
      refine wpAny_bind ?_
      refine wpAny_updateSeq hS' rfl (wpAny_bind (wpAny_letGo ?_))
      rw [hname]
      have hup := Heap.SameBut.update h' S (Obj.mapSeq fun _ => #[Value.ref as[j + 1], .ref as[j + 1]])
      refine wpAny_pure ⟨plainId_quiet PySem.F.plain_min_loop _, ih (j + 1) _ _ as[j + 1] _ (by omega) hlt (fun b o e => hup.extBut b o (Nat.ne_of_lt (Nat.lt_of_lt_of_le (Heap.lt_size e) hSn)) (hs' b o e)) ?_ (by simp only [pbest, hq, if_true]; exact ha) (Heap.get?_update_self _ hS' rfl)⟩
      obtain ⟨o, ho, r⟩ := hit'
      exact ⟨o, hup.extBut _ _ hIS ho, r⟩
    | false =>
      simp only [Bool.false_eq_true, if_false]
      refine wpAny_bind (wpAny_letGo ?_)
      rw [hname]
      exact wpAny_pure ⟨plainId_quiet PySem.F.plain_min_loop _, ih (j + 1) _ _ vb c (by omega) hlt hs' hit' (by simp only [pbest, hq, Bool.false_eq_true, if_false]; exact hb) hS'⟩

theorem min_first (hh : A.handled = none) (hu : A.units + 2 < cLine) (hl : LAt h₀ l (as.map .ref)) (hp : PairInts h₀ as ps) (hIn : h₀.objs.size ≤ I) (hSn : h₀.objs.size ≤ S) (hIS : I ≠ S) (hne : 0 < as.length) {h : Heap} {tk c : Nat}
    (hs : Sub h₀ h) (hit : h.IsListIter I l 0) (hS : h.get? S = some { cls := .type "list", dict := none, data := .seq #[] c, slots := #[] })
    (hR : ∀ v h' tk, as[pbest ps (as.length - 1)]? = some v → Sub h₀ h' → R (.ok (.ret (.ref v))) ⟨h', g, d, tk, os⟩) :
    codeAny (model prog w) A (.builtin "min.loop" ⟨[.ref I, .none, .ref S], []⟩) R ⟨h, g, d, tk, os⟩ := by
  have hname : (toString "min" ++ toString ".loop" : String) = "min.loop" := by decide
  refine codeAny_builtin PySem.F.entry_min_loop ?_
  rw [Around.under_plainId PySem.F.plain_min_loop _]
  show wpAny _ A.in1 (seqItems? (.ref S) >>= _) _ _ _
  refine wpAny_bind (wpAny_seqItems hS rfl ?_)
  show wpAny _ A.in1 (tryCatch (pyNext (.ref I)) _ >>= _) _ _ _
  refine wpAny_bind (wpAny_tryCatch (wpAny_pyNext_list_item hit (hl.sub hs).isList (x := .ref as[0]) (by simp [hne]) fun h' hit' hk' => ?_))
  have hS' := hk'.extBut S _ (Ne.symm hIS) hS
  have hs' : Sub h₀ h' := fun b o e => hk'.extBut b o (Nat.ne_of_lt (Nat.lt_of_lt_of_le (Heap.lt_size e) hIn)) (hs b o e)
  show wpAny _ A.in1 (updateSeq S (fun _ => #[.ref as[0], .ref as[0]]) >>= _) _ _ _
  refine wpAny_bind ?_
  refine wpAny_updateSeq hS' rfl ?_
  rw [hname]
  have hup := Heap.SameBut.update h' S (Obj.mapSeq fun _ => #[Value.ref as[0], .ref as[0]])
  refine wpAny_pure ⟨plainId_quiet PySem.F.plain_min_loop _, min_loop hh hu hl hp hIn hSn hIS hR _ 0 _ _ as[0] _ rfl hne (fun b o e => hup.extBut b o (Nat.ne_of_lt (Nat.lt_of_lt_of_le (Heap.lt_size e) hSn)) (hs' b o e)) ?_ (List.getElem?_eq_getElem hne) (Heap.get?_update_self _ hS' rfl)⟩
  obtain ⟨o, ho, r⟩ := hit'
  exact ⟨o, hup.extBut _ _ hIS ho, r⟩
end
section
variable {prog : Program} {w : World} {A : Around} {h : Heap} {l : Addr} {as : List Addr} {ps : List (Int × Int)}
theorem W.min_pairs {Q : Value → Heap → Prop} (hh : A.handled = none) (hu : A.units + 4 < cLine) (hl : LAt h l (as.map .ref)) (hp : PairInts h as ps) (hne : 0 < as.length)
    (q : ∀ v h', as[pbest ps (as.length - 1)]? = some v → Sub h h' → Q (.ref v) h') : W prog w A (PySem.call (.builtin "min") [.ref l]) h Q := by
  intro g d tk os
  have hname : (toString "min" ++ toString ".loop" : String) = "min.loop" := by decide
  refine call_function_tree PySem.F.kind_min PySem.F.plain_min PySem.F.entry_min (PySem.F.args_min1 _) ?_
  show wpAny _ A.in1 (Builtin.Builtins.bindParams "min" ["key", "default"] 0 ⟨[], []⟩ >>= _) _ _ _
  refine wpAny_bind (wpAny_of_eq (show Builtin.Builtins.bindParams "min" ["key", "default"] 0 ⟨[], []⟩ = Pure.pure [none, none] from rfl) ?_)
  refine wpAny_bind (wpAny_pure ?_)
  refine wpAny_bind (wpAny_pyIter_list hl.isList ?_)
  refine wpAny_bind (wpAny_newObj_type ?_)
  rw [hname]
  refine wpAny_pure ⟨plainId_quiet PySem.F.plain_min_loop _, ?_⟩
  have hsz : (h.push { cls := .type "list_iterator", data := .fields #[.ref l, rawInt 0] }).objs.size = h.objs.size + 1 := Heap.size_push ..
  refine min_first (h₀ := h) (I := h.objs.size) (S := (h.push { cls := .type "list_iterator", data := .fields #[.ref l, rawInt 0] }).objs.size) hh (by omega) hl hp (Nat.le_refl _) (by rw [hsz]; exact Nat.le_succ _) (by rw [hsz]; exact Nat.ne_of_lt (Nat.lt_succ_self _)) hne (fun b o e => Heap.get?_push_of_some _ (Heap.get?_push_of_some _ e)) ⟨_, Heap.get?_push_of_some _ (Heap.get?_push_size _ rfl), rfl, rfl⟩ (Heap.get?_push_size _ rfl) ?_
  intro v h' tk hv hs
  exact ⟨h', tk, rfl, q v h' hv hs⟩
end
theorem plt_trans {p q r : Int × Int} (h1 : plt q p = false) (h2 : plt r q = false) : plt r p = false := by
  unfold plt at *
  simp only [beq_iff_eq] at *
  split at h1 <;> split at h2 <;> split <;> simp_all <;> omega
theorem plt_refl (p : Int × Int) : plt p p = false := by unfold plt; simp
theorem plt_asymm {p q : Int × Int} (h : plt p q = true) : plt q p = false := by
  unfold plt at *
  simp only [beq_iff_eq] at *
  split at h <;> split <;> simp_all <;> omega
/-- the best is below all -/
theorem pbest_min (ps : List (Int × Int)) : ∀ k j, j ≤ k → plt (ps.getD j (0, 0)) (ps.getD (pbest ps k) (0, 0)) = false
  | 0, j, hj => by
    have : j = 0 := by omega
    subst this; exact plt_refl _
  | k + 1, j, hj => by
    unfold pbest
    split
    · rename_i h
      rcases Nat.lt_or_ge j (k + 1) with hlt | hge
      · exact plt_trans (plt_asymm h) (pbest_min ps k j (by omega))
      · have : j = k + 1 := by omega
        subst this; exact plt_refl _
    · rename_i h
      rcases Nat.lt_or_ge j (k + 1) with hlt | hge
      · exact pbest_min ps k j (by omega)
      · have : j = k + 1 := by omega
        subst this; simpa using h

-- A21
/-- a sort's asks with the answers of f -/
noncomputable def runT {α : Type} (f : Nat → Nat → Bool) : KasT α → α
  | .ret a => a
  | .ask i j k => runT f (k (f i j))
noncomputable def askOk {α : Type} (n : Nat) (f : Nat → Nat → Bool) : KasT α → Bool
  | .ret a => true
  | .ask i j k => decide (i < n) && decide (j < n) && askOk n f (k (f i j))
theorem runT_wp {α : Type} {n : Nat} {cmp : Nat → Nat → (Bool → Shared → Prop) → Shared → Prop} {f : Nat → Nat → Bool} {I : Shared → Prop} (hc : ∀ i j (C : Bool → Shared → Prop) s, i < n → j < n → I s → (∀ s', I s' → C (f i j) s') → cmp i j C s) :
    ∀ (t : KasT α) (Q : α → Shared → Prop) (s : Shared), askOk n f t = true → I s → (∀ s', I s' → Q (runT f t) s') → t.kasWp cmp Q s
  | .ret a, Q, s, _, hI, q => q s hI
  | .ask i j k, Q, s, ho, hI, q => by
    unfold askOk at ho
    simp only [Bool.and_eq_true, decide_eq_true_eq] at ho
    exact hc i j _ s ho.1.1 ho.1.2 hI fun s' hI' => runT_wp hc (k (f i j)) Q s' ho.2 hI' q
def dlt (ds : List Nat) (i j : Nat) : Bool := decide (ds.getD i 0 < ds.getD j 0)
noncomputable def sortP (ds : List Nat) : List Nat := (runT (dlt ds) (kas_sort 4)).toList
def perms4 : List (List Nat) := [[0,1,2,3],[0,1,3,2],[0,2,1,3],[0,2,3,1],[0,3,1,2],[0,3,2,1],[1,0,2,3],[1,0,3,2],[1,2,0,3],[1,2,3,0],[1,3,0,2],[1,3,2,0],[2,0,1,3],[2,0,3,1],[2,1,0,3],[2,1,3,0],[2,3,0,1],[2,3,1,0],[3,0,1,2],[3,0,2,1],[3,1,0,2],[3,1,2,0],[3,2,0,1],[3,2,1,0]]
theorem sortP_ok : ∀ ds ∈ perms4, (sortP ds).map (fun i => ds.getD i 0) = [0, 1, 2, 3] ∧ (∀ i ∈ sortP ds, i < 4) ∧ askOk 4 (dlt ds) (kas_sort 4) = true ∧ (∀ i, i < 4 → ∀ j, j < 4 → (ds.getD i 0 = ds.getD j 0 ↔ i = j)) ∧ ds.length = 4 ∧ (∀ d ∈ ds, d < 4) := by decide +kernel
theorem nm_lt (d e : Nat) (hd : d < 4) (he : e < 4) : decide ((nm false d).cps.toList < (nm false e).cps.toList) = decide (d < e) := by
  revert e
  exact four (P := fun d => ∀ e, e < 4 → decide ((nm false d).cps.toList < (nm false e).cps.toList) = decide (d < e))
    (four (P := fun e => decide ((nm false 0).cps.toList < (nm false e).cps.toList) = decide (0 < e)) (by decide +kernel) (by decide +kernel) (by decide +kernel) (by decide +kernel))
    (four (P := fun e => decide ((nm false 1).cps.toList < (nm false e).cps.toList) = decide (1 < e)) (by decide +kernel) (by decide +kernel) (by decide +kernel) (by decide +kernel))
    (four (P := fun e => decide ((nm false 2).cps.toList < (nm false e).cps.toList) = decide (2 < e)) (by decide +kernel) (by decide +kernel) (by decide +kernel) (by decide +kernel))
    (four (P := fun e => decide ((nm false 3).cps.toList < (nm false e).cps.toList) = decide (3 < e)) (by decide +kernel) (by decide +kernel) (by decide +kernel) (by decide +kernel)) d hd
/-- tuples of a name and a value -/
def NVAt (h : Heap) (as : List Addr) (es : List (Nat × Nat)) : Prop := as.length = es.length ∧ ∀ (i : Nat) (a : Addr) (e : Nat × Nat), as[i]? = some a → es[i]? = some e → e.1 < 4 ∧ e.2 < 4 ∧ ∃ t u, TAt h a [.str (nm false e.1) t, .str (vl e.2) u]
theorem NVAt.sub {h h' : Heap} {as : List Addr} {es : List (Nat × Nat)} (x : NVAt h as es) (hs : Sub h h') : NVAt h' as es := ⟨x.1, fun i a p h1 h2 => let ⟨a1, a2, t, u, T⟩ := x.2 i a p h1 h2; ⟨a1, a2, t, u, T.sub hs⟩⟩
def allOf (h : Heap) (L : Addr) : List (Addr × Obj) := (List.range h.objs.size).filterMap fun b => if b = L then none else (h.get? b).map (b, ·)
theorem mem_allOf {h : Heap} {L b : Addr} {o : Obj} : (b, o) ∈ allOf h L ↔ h.get? b = some o ∧ b ≠ L := by
  unfold allOf
  rw [List.mem_filterMap]
  constructor
  · rintro ⟨c, hc, e⟩
    split at e
    · cases e
    · rename_i hne
      rw [Option.map_eq_some_iff] at e
      obtain ⟨o', ho, e⟩ := e
      cases e
      exact ⟨ho, hne⟩
  · rintro ⟨ho, hne⟩
    refine ⟨b, List.mem_range.mpr (Heap.lt_size ho), ?_⟩
    rw [if_neg hne, ho]; rfl
section
variable {prog : Program} {w : World} {A : Around} {O F h : Heap} {L l : Addr} {m : Str → Option Value} {news : Led} {as : List Addr} {es : List (Nat × Nat)}

theorem key_lt {A : Around} {s : Shared} {i j : Nat} {C : Bool → Shared → Prop} {E : Value → Shared → Prop} (hp : NVAt s.heap as es) (hds : es.map (·.1) ∈ perms4) (hi : i < 4) (hj : j < 4) (q : C (dlt (es.map (·.1)) i j) s) :
    wpAny (model prog w) A (keyLt' (tuples' true) ((as.map Value.ref).getD i Value.none) ((as.map Value.ref).getD j Value.none)) C E s := by
  obtain ⟨_, _, _, hinj, hlen, _⟩ := sortP_ok _ hds
  rw [List.length_map] at hlen
  have hi' : i < es.length := by omega
  have hj' : j < es.length := by omega
  have hia : i < as.length := by rw [hp.1]; exact hi'
  have hja : j < as.length := by rw [hp.1]; exact hj'
  obtain ⟨d1, v1, t1, u1, n1, T1⟩ := hp.2 i _ _ (List.getElem?_eq_getElem hia) (List.getElem?_eq_getElem hi')
  obtain ⟨d2, v2, t2, u2, n2, T2⟩ := hp.2 j _ _ (List.getElem?_eq_getElem hja) (List.getElem?_eq_getElem hj')
  have e1 : (as.map Value.ref).getD i Value.none = .ref as[i] := by simp [hia]
  have e2 : (as.map Value.ref).getD j Value.none = .ref as[j] := by simp [hja]
  have f1 : (es.map (·.1)).getD i 0 = es[i].1 := by simp [hi']
  have f2 : (es.map (·.1)).getD j 0 = es[j].1 := by simp [hj']
  have hij := hinj i hi j hj
  rw [f1, f2] at hij
  unfold dlt at q
  rw [f1, f2] at q
  rw [e1, e2]
  refine kat_lt T1 rfl T2 rfl ?_
  refine kat_cons (eqBool_str ?_)
  rw [nm_eq _ _ d1 d2]
  by_cases hd : es[i].1 = es[j].1
  · rw [decide_eq_true hd]
    have : i = j := hij.mp hd
    subst this
    have q' : C false s := by
      have : decide (es[i].1 < es[i].1) = false := by simp
      rw [this] at q; exact q
    refine kat_yes (kat_cons (eqBool_str ?_))
    rw [beq_self_eq_true]
    exact kat_yes (kat_nil q')
  · rw [decide_eq_false hd]
    refine kat_no ?_
    refine oneLt_str ?_
    rw [nm_lt _ _ d1 d2]
    exact q

theorem tups_of : ∀ {as : List Addr}, (∀ a ∈ as, ∃ x t y u, TAt h a [.str x t, .str y u]) → ∃ fs, KatTups h (as.map .ref) fs ∧ fs.length = as.length ∧ ∀ v ∈ fs, ∃ x t, v = .str x t
  | [], _ => ⟨[], trivial, rfl, fun v hv => nomatch hv⟩
  | a :: as, H => by
    obtain ⟨fs, h1, h2, h3⟩ := tups_of (as := as) fun b hb => H b (.tail _ hb)
    obtain ⟨x, t, y, u, n, T⟩ := H a (.head _)
    refine ⟨.str x t :: fs, KatTups.cons T rfl rfl rfl h1, by simp [h2], fun v hv => ?_⟩
    rcases List.mem_cons.mp hv with rfl | hv
    · exact ⟨x, t, rfl⟩
    · exact h3 v hv
theorem W.sorted4 {Q : Value → Heap → Prop} (S : St O F L m news h) (hLl : L < l) (hl : LAt h l (as.map .ref)) (hp : NVAt h as es) (hds : es.map (·.1) ∈ perms4)
    (q : ∀ D h', L < D → St O F L m ((D, .lst (((sortP (es.map (·.1))).map fun i => as.getD i 0).map .ref)) :: news) h' → NVAt h' ((sortP (es.map (·.1))).map fun i => as.getD i 0) ((sortP (es.map (·.1))).map fun i => es.getD i (0, 0)) → Q (.ref D) h') :
    W prog w A (PySem.call (.builtin "sorted") [.ref l]) h Q := by
  intro g d tk os
  obtain ⟨hs1, hs2, hs3, hs4, hs5, hs6⟩ := sortP_ok _ hds
  rw [List.length_map] at hs5
  have Fr0 : Fr {} L h m := ⟨S.ns, fun b o e => by simp [Heap.get?] at e, Nat.zero_le _⟩
  have N0 : News {} L h (allOf h L) := by
    rintro ⟨b, o⟩ hp
    obtain ⟨h1, h2⟩ := mem_allOf.mp hp
    exact ⟨h1, h2, by simp [Heap.get?]⟩
  have hlen : (as.map Value.ref).length = 4 := by rw [List.length_map, hp.1, hs5]
  refine kat_sorted (s := ⟨h, g, d, tk, os⟩) (vs := as.map Value.ref) Fr0 N0 hl.isList (by omega) (by omega) ?_
  intro D e1 h' F' N' hD
  have keep : ∀ b o, h.get? b = some o → b ≠ L → h'.get? b = some o := fun b o e hb => (N' (b, o) (.tail _ (mem_allOf.mpr ⟨e, hb⟩))).1
  have tne : ∀ a ∈ as, a ≠ L := by
    intro a ha z
    obtain ⟨j, hj⟩ := List.mem_iff_getElem?.mp ha
    have hje : j < es.length := hp.1 ▸ (List.getElem?_eq_some_iff.mp hj).1
    obtain ⟨_, _, t, u, n, T⟩ := hp.2 j a _ hj (List.getElem?_eq_getElem hje)
    obtain ⟨o, ess, ep, ho, hdd, _⟩ := S.ns
    subst z
    rw [T] at ho
    cases ho
    cases hdd
  have NV : ∀ hx : Heap, (∀ b o, h.get? b = some o → b ≠ L → hx.get? b = some o) → NVAt hx as es := fun hx kx => ⟨hp.1, fun i a e h1 h2 => by
    obtain ⟨a1, a2, t, u, n, T⟩ := hp.2 i a e h1 h2
    exact ⟨a1, a2, t, u, n, kx _ _ T (tne a (List.mem_of_getElem? h1))⟩⟩
  have hp' : NVAt h' as es := NV h' keep
  obtain ⟨fs, k1, k2, k3⟩ := tups_of (h := h') (as := as) fun a ha => by
    obtain ⟨j, hj⟩ := List.mem_iff_getElem?.mp ha
    have hje : j < es.length := hp.1 ▸ (List.getElem?_eq_some_iff.mp hj).1
    obtain ⟨_, _, t, u, T⟩ := hp'.2 j a _ hj (List.getElem?_eq_getElem hje)
    exact ⟨_, t, _, u, T⟩
  refine kat_kind (T := .type "str") k1 (by rw [k2, hp.1]; omega) (fun v hv => ?_) (by decide) ?_
  · obtain ⟨x, t, rfl⟩ := k3 v hv
    exact .now
  rw [hlen]
  refine runT_wp (n := 4) (f := dlt (es.map (·.1))) (I := fun s => s = ⟨h', g, d, tk, os⟩) ?_ _ _ _ hs3 rfl ?_
  · rintro i j C s hi hj rfl qC
    exact key_lt (s := ⟨h', g, d, tk, os⟩) hp' hds hi hj (qC _ rfl)
  · rintro s rfl
    refine KasFin.intro F' N' (UpdF.head fun p hp => Nat.ne_of_lt (hD p hp)) fun h₂ c F₂ N₂ => ?_
    have keep2 : ∀ b o, h.get? b = some o → b ≠ L → h₂.get? b = some o := fun b o e hb => (N₂ (b, o) (.tail _ (mem_allOf.mpr ⟨e, hb⟩))).1
    have hDh : h.get? D = none := by
      cases qq : h.get? D with
      | none => rfl
      | some o =>
        by_cases hDL : D = L
        · exact absurd hDL (N₂ _ (.head _)).2.1
        · exact absurd (hD (D, o) (mem_allOf.mpr ⟨qq, hDL⟩)) (Nat.lt_irrefl _)
    have eout : ((runT (dlt (es.map (·.1))) (kas_sort 4)).toList.map fun i => (as.map Value.ref).getD i Value.none) = ((sortP (es.map (·.1))).map fun i => as.getD i 0).map .ref := by
      rw [List.map_map]
      refine List.map_congr_left fun i hi => ?_
      have hi4 := hs2 i hi
      have : i < as.length := by rw [hp.1]; omega
      simp [this]
    refine ⟨h₂, tk, rfl, q D h₂ ?_ ?_ ?_⟩
    · obtain ⟨nl, hll⟩ := hl
      exact Nat.lt_trans hLl (hD (l, _) (mem_allOf.mpr ⟨hll, Nat.ne_of_gt hLl⟩))
    · refine ⟨⟨fun b o e => keep2 b o (S.v.keep b o e) (fun z => by subst z; have := S.offL; rw [e] at this; cases this), ?_, ?_, ?_⟩, F₂.ns, S.offL, ?_, S.org, S.le⟩
      · intro p hp
        rcases List.mem_cons.mp hp with rfl | hp
        · exact ⟨c, by rw [← eout]; exact (N₂ _ (.head _)).1⟩
        · exact (S.v.nw p hp).same fun o e => keep2 _ o e (S.ne p hp)
      · intro p hp
        rcases List.mem_cons.mp hp with rfl | hp
        · cases qq : F.get? D with
          | none => rfl
          | some o => rw [S.v.keep D o qq] at hDh; cases hDh
        · exact S.v.off p hp
      · rw [List.map_cons, List.nodup_cons]
        refine ⟨fun hm => ?_, S.v.nd⟩
        obtain ⟨p, hp, e⟩ := List.mem_map.mp hm
        obtain ⟨o, ho⟩ := (S.v.nw p hp).some
        have e' : p.1 = D := e
        rw [e'] at ho; rw [ho] at hDh; cases hDh
      · intro p hp
        rcases List.mem_cons.mp hp with rfl | hp
        · exact (N₂ _ (.head _)).2.1
        · exact S.ne p hp
    · have nv := NV h₂ keep2
      refine ⟨by simp, fun i a e h1 h2 => ?_⟩
      rw [List.getElem?_map] at h1 h2
      cases hx : (sortP (es.map (·.1)))[i]? with
      | none => rw [hx] at h1; cases h1
      | some k =>
        rw [hx] at h1 h2
        have hk4 := hs2 k (List.mem_of_getElem? hx)
        have hka : k < as.length := by rw [hp.1]; omega
        have hke : k < es.length := by omega
        have g1 : as[k]? = some a := by
          have : as.getD k 0 = a := Option.some.inj h1
          rw [← this]; simp [hka]
        have g2 : es[k]? = some e := by
          have : es.getD k (0, 0) = e := Option.some.inj h2
          rw [← this]; simp [hke]
        exact nv.2 k a e g1 g2
end

-- A22
section
variable {prog : Program} {w : World} {A : Around} {O F h h' : Heap} {L : Addr} {m : Str → Option Value} {news : Led} {env : Env}

theorem W.while_ {test : Expr} {body : List Stmt} {pos : Pos} {n : Nat} {Q : Flow → Heap → Prop} (Inv : Nat → Heap → (Str → Option Value) → Led → Prop)
    (turn : ∀ n F m news h, Inv n F m news → St O F L m news h → W prog w A (isTrue test env (eval test env)) h fun b h₁ => if b = true then
      W prog w A (execs body env) h₁ (fun fl h' => match fl with
        | .next | .cont => ∃ n' F' m' news', n' < n ∧ Inv n' F' m' news' ∧ St O F' L m' news' h'
        | .brk => Q .next h'
        | .ret v => Q (.ret v) h') else Q .next h₁)
    (S : St O F L m news h) (hI : Inv n F m news) : W prog w A (exec (.While test body [] pos) env) h Q := by
  intro g d tk os
  refine wpAny_While ?_
  refine codeAny_mono (R := fun r s' => match r with | .ok f => Post g d os Q f s' | .error _ => False) ?_ fun r s' u => by
    cases r with
    | ok f => exact u
    | error e => exact u.elim
  refine codeAny_whileLoop (fun n s => ∃ F m news h tk, s = ⟨h, g, d, tk, os⟩ ∧ Inv n F m news ∧ St O F L m news h) ?_ n ⟨F, m, news, h, tk, rfl, hI, S⟩
  rintro n s ⟨F, m, news, h, tk, rfl, hI, S⟩
  refine W.use (turn n F m news h hI S) fun b h₁ tk₁ y => ?_
  cases b with
  | true =>
    simp only [if_true] at y ⊢
    refine W.use (tk := tk₁) y fun fl h₂ tk₂ z => ?_
    cases fl with
    | next =>
      obtain ⟨n', F', m', news', hn, hI', S'⟩ := z
      exact ⟨n', hn, F', m', news', h₂, tk₂, rfl, hI', S'⟩
    | cont =>
      obtain ⟨n', F', m', news', hn, hI', S'⟩ := z
      exact ⟨n', hn, F', m', news', h₂, tk₂, rfl, hI', S'⟩
    | brk => exact ⟨h₂, tk₂, rfl, z⟩
    | ret v => exact ⟨h₂, tk₂, rfl, z⟩
  | false =>
    simp only [Bool.false_eq_true, if_false] at y ⊢
    exact wpAny_execs_nil ⟨h₁, tk₁, rfl, y⟩
theorem W.ne_ints {a b : Addr} {vs us : List Value} {ns ms : List Int} {Q : Value → Heap → Prop} (hl : LAt h a vs) (hi : IntsAre vs ns) (hl' : LAt h b us) (hi' : IntsAre us ms) (hu : A.units + 64 < cLine) (q : Q (.bool (!decide (ns = ms))) h) : W prog w A (compareOp .NotEq (.ref a) (.ref b)) h Q :=
  fun _ _ tk _ => ne_intsK hl.isList hi hl'.isList hi' hu ⟨h, tk, rfl, q⟩
theorem vl_eq (d e : Nat) (hd : d < 4) (he : e < 4) : (vl d == vl e) = decide (d = e) := by
  revert e
  exact four (P := fun d => ∀ e, e < 4 → (vl d == vl e) = decide (d = e))
    (four (P := fun e => (vl 0 == vl e) = decide (0 = e)) (by decide +kernel) (by decide +kernel) (by decide +kernel) (by decide +kernel))
    (four (P := fun e => (vl 1 == vl e) = decide (1 = e)) (by decide +kernel) (by decide +kernel) (by decide +kernel) (by decide +kernel))
    (four (P := fun e => (vl 2 == vl e) = decide (2 = e)) (by decide +kernel) (by decide +kernel) (by decide +kernel) (by decide +kernel))
    (four (P := fun e => (vl 3 == vl e) = decide (3 = e)) (by decide +kernel) (by decide +kernel) (by decide +kernel) (by decide +kernel)) d hd
theorem eqAt_nv {A : Around} {s : Shared} {a b : Addr} {e f : Nat × Nat} {t u t' u' : Tok} (hu : A.units < cLine) (he1 : e.1 < 4) (he2 : e.2 < 4) (hf1 : f.1 < 4) (hf2 : f.2 < 4) (ha : TAt s.heap a [.str (nm false e.1) t, .str (vl e.2) u]) (hb : TAt s.heap b [.str (nm false f.1) t', .str (vl f.2) u']) :
    PySem.SeqAt.EqAt A s (.ref a) (.ref b) (decide (e = f)) := by
  by_cases hab : a = b
  · subst hab
    obtain ⟨n, x⟩ := ha
    obtain ⟨n', y⟩ := hb
    rw [x] at y
    have y' := Option.some.inj y
    have e1 : nm false e.1 = nm false f.1 ∧ vl e.2 = vl f.2 := by
      have := congrArg Obj.data y'
      have h3 := congrArg Array.toList (Data.seq.inj this).1
      simp only [List.cons.injEq, Value.str.injEq] at h3
      exact ⟨h3.1.1, h3.2.1.1⟩
    have h1 := nm_eq e.1 f.1 he1 hf1
    have h2 := vl_eq e.2 f.2 he2 hf2
    rw [e1.1, beq_self_eq_true] at h1
    rw [e1.2, beq_self_eq_true] at h2
    have : e = f := Prod.ext (of_decide_eq_true h1.symm) (of_decide_eq_true h2.symm)
    rw [decide_eq_true this]
    exact PySem.SeqAt.EqAt.same _
  · have key := PySem.SeqAt.RcAt.tuples (A := A) (s := s) (e := fun j => if j = 0 then decide (e.1 = f.1) else decide (e.2 = f.2)) ha.isTup hb.isTup hu (fun j h1 h2 => by
      match j, h1 with
      | 0, _ => rw [← nm_eq _ _ he1 hf1]; exact PySem.SeqAt.EqAt.str_str _ _ _ _
      | 1, _ => rw [← vl_eq _ _ he2 hf2]; exact PySem.SeqAt.EqAt.str_str _ _ _ _)
    refine PySem.SeqAt.EqAt.of_refs hab ?_
    have e0 : (((List.range 2).all fun j => if j = 0 then decide (e.1 = f.1) else decide (e.2 = f.2)) && true) = decide (e = f) := by
      rw [Bool.and_true]
      obtain ⟨a, b⟩ := e
      obtain ⟨c, d⟩ := f
      simp only [List.range_succ, List.range_zero, List.all_append, List.all_cons, List.all_nil, Prod.mk.injEq]
      by_cases p : a = c <;> by_cases q : b = d <;> simp [p, q]
    rw [← e0]; exact key
theorem W.eq_nv {a b : Addr} {as bs : List Addr} {es fs : List (Nat × Nat)} {Q : Value → Heap → Prop} (hu : A.units + 2 < cLine) (hl : LAt h a (as.map .ref)) (hb : LAt h b (bs.map .ref)) (hp : NVAt h as es) (hq : NVAt h bs fs) (hlen : es.length = fs.length)
    (q : Q (.bool (decide (es = fs))) h) : W prog w A (compareOp .Eq (.ref a) (.ref b)) h Q := by
  intro g d tk os
  refine PySem.SeqAt.eq_listAt (s := ⟨h, g, d, tk, os⟩) (e := fun j => decide (es.getD j (0, 0) = fs.getD j (0, 0))) hl.isList hb.isList (by simp [hp.1, hq.1, hlen]) (by omega) (fun j h1 h2 => ?_) ⟨h, tk, rfl, ?_⟩
  · have j1 : j < as.length := by simpa using h1
    have j2 : j < bs.length := by simpa using h2
    have k1 : j < es.length := hp.1 ▸ j1
    have k2 : j < fs.length := hq.1 ▸ j2
    obtain ⟨a1, a2, t, u, T⟩ := hp.2 j _ _ (List.getElem?_eq_getElem j1) (List.getElem?_eq_getElem k1)
    obtain ⟨b1, b2, t', u', T'⟩ := hq.2 j _ _ (List.getElem?_eq_getElem j2) (List.getElem?_eq_getElem k2)
    have e1 : (as.map Value.ref).toArray[j] = .ref as[j] := by simp
    have e2 : (bs.map Value.ref).toArray[j] = .ref bs[j] := by simp
    have e3 : es.getD j (0, 0) = es[j] := by simp [k1]
    have e4 : fs.getD j (0, 0) = fs[j] := by simp [k2]
    rw [e1, e2, e3, e4]
    exact eqAt_nv (s := ⟨h, g, d, tk, os⟩) (show A.units + 1 < cLine by omega) a1 a2 b1 b2 T T'
  · have : ((List.range (as.map Value.ref).toArray.size).all fun j => decide (es.getD j (0, 0) = fs.getD j (0, 0))) = decide (es = fs) := by
      rw [Bool.eq_iff_iff, List.all_eq_true, decide_eq_true_eq]
      constructor
      · intro H
        apply List.ext_getElem hlen
        intro j h1 h2
        have := H j (List.mem_range.mpr (by simp [hp.1]; exact h1))
        simpa [h1, h2] using this
      · rintro rfl j _; simp
    rw [this]; exact q
end

-- A23
/-- the heap from lo on -/
abbrev cut (lo : Nat) (h : Heap) : Heap := hideAll h (List.range lo)
theorem cut_get {lo : Nat} {h : Heap} {b : Addr} {o : Obj} (e : h.get? b = some o) (hb : lo ≤ b) : (cut lo h).get? b = some o := hideAll_get _ e fun hm => absurd (List.mem_range.mp hm) (Nat.not_lt.mpr hb)
theorem of_cut {lo : Nat} {h : Heap} {b : Addr} {o : Obj} (e : (cut lo h).get? b = some o) : h.get? b = some o ∧ lo ≤ b :=
  ⟨of_hideAll _ e, Nat.le_of_not_lt fun hlt => hide_mem e (List.mem_range.mpr hlt)⟩
theorem cut_sub {lo : Nat} {h h' : Heap} (hs : SubFrom lo h h') : Sub (cut lo h) h' := fun b o e => hs b o (of_cut e).2 (of_cut e).1
theorem cut_mono {lo lo' : Nat} {h h' : Heap} (hs : Sub h h') (hl : lo' ≤ lo) : Sub (cut lo h) (cut lo' h') := fun b o e => cut_get (hs b o (of_cut e).1) (Nat.le_trans hl (of_cut e).2)
theorem cut_le (lo : Nat) (h : Heap) : Sub (cut lo h) h := fun b o e => (of_cut e).1
section
variable {O F h : Heap} {L a : Addr} {m : Str → Option Value} {news news' : Led} {x : Ob}
theorem View.perm (V : View F news h) (hp : news'.Perm news) : View F news' h := ⟨V.keep, fun p hm => V.nw p (hp.mem_iff.mp hm), fun p hm => V.off p (hp.mem_iff.mp hm), ((hp.map _).nodup_iff).mpr V.nd⟩
theorem St.perm (S : St O F L m news h) (hp : news'.Perm news) : St O F L m news' h := ⟨S.v.perm hp, S.ns, S.offL, fun p hm => S.ne p (hp.mem_iff.mp hm), S.org, S.le⟩
/-- the head of the ledger is frozen -/
theorem St.cool (S : St O F L m ((a, x) :: news) h) : ∃ F', Sub F F' ∧ St O F' L m news h ∧ x.At F' a ∧ Sub F' h := by
  obtain ⟨F', h1, h2, h3, h4⟩ := (S.sub (List.sublist_cons_self _ _)).freeze
  refine ⟨F', h1, h2, (S.v.nw _ (.head _)).same fun o e => h3 a o e (S.ne _ (.head _)) (List.nodup_cons.mp S.v.nd).1, h4⟩
end

-- A24
theorem IntsAre.eraseIdx : ∀ {vs : List Value} {ns : List Int} (i : Nat), IntsAre vs ns → IntsAre (vs.eraseIdx i) (ns.eraseIdx i)
  | _, _, _, .nil => by simpa using IntsAre.nil
  | _, _, 0, .cons n t r => r
  | _, _, i + 1, .cons n t r => .cons n t (IntsAre.eraseIdx i r)
section
variable {prog : Program} {w : World} {A : Around} {O F h : Heap} {L : Addr} {m : Str → Option Value} {news : Led}
theorem W.pop_ints {i : Nat} {l : Addr} {vs : List Value} {ns : List Int} {k v : Int} {u : Tok} {Q : Value → Heap → Prop} (S : St O F L m news h) (hi : news[i]? = some (l, .lst vs)) (hI : IntsAre vs ns) (hsz : vs.length ≤ sizeLine) (h0 : 0 ≤ k) (hk : ns[k.toNat]? = some v) (hf : k < 2 ^ 62)
    (q : ∀ t h', IntsAre (vs.eraseIdx k.toNat) (ns.eraseIdx k.toNat) → St O F L m (news.set i (l, .lst (vs.eraseIdx k.toNat))) h' → Q (.int v t) h') : W prog w A (PySem.call (.builtin "list.pop") [.ref l, .int k u]) h Q := by
  have hlt : k.toNat < vs.length := by rw [hI.length]; exact (List.getElem?_eq_some_iff.mp hk).1
  obtain ⟨b, t, e1, e2⟩ := hI.at k.toNat vs[k.toNat] (List.getElem?_eq_getElem hlt)
  rw [hk] at e2
  cases e2
  exact W.pop S hi hsz h0 ((List.getElem?_eq_getElem hlt).trans (congrArg some e1)) hf fun h' S' => q t h' (IntsAre.eraseIdx _ hI) S'
end

-- A25
section
variable {prog : Program} {w : World} {A : Around} {O F h : Heap} {C it : Addr} {m : Str → Option Value} {news : Led}
theorem code_start1 {elt t1 i1 t2 i2 c : Expr} {scope : Scope} {pos : Pos} {itv acc : Value} {env : Env} {R : Result → Shared → Prop} {s : Shared}
    (h0 : codeAny (model prog w) A (.compLoop (.ListComp elt [⟨t1, i1, [], 0⟩, ⟨t2, i2, [c], 0⟩] scope pos) 1 itv acc env) R s)
    (h : wpAny (model prog w) A (pyIter itv) (fun it' s' => codeAny (model prog w) A (.compLoop (.ListComp elt [⟨t1, i1, [], 0⟩, ⟨t2, i2, [c], 0⟩] scope pos) 1 it' acc env) R s')
      (notedBy (model prog w) A env fun x s' => R (.error x) s') s) :
    codeAny (model prog w) A (.compStart (.ListComp elt [⟨t1, i1, [], 0⟩, ⟨t2, i2, [c], 0⟩] scope pos) 1 itv acc env) R s := by
  refine codeAny_of_tree ?_
  show wpAny _ _ ((compStart (.ListComp elt [⟨t1, i1, [], 0⟩, ⟨t2, i2, [c], 0⟩] scope pos) 1 itv acc env).onRaise (fun x => do noteFrame x env; standAt theWindowsPlace)) _ _ s
  refine wpAny_notedAt ?_
  unfold compStart
  show wpAny _ _ (ask >>= _) _ _ s
  refine wpAny_bind (wpAny_askSetting (wpAny_ite ?_))
  split
  · first
      | exact wpAny_bind (wpAny_pure (wpAny_pure (And.intro rfl h0)))
      | exact wpAny_pure (And.intro rfl h0)
  · first
      | exact wpAny_bind (wpAny_rule (wpAny_bind (wpAny_standAt (wpAny_bind (wpAny_mono h (fun it' s' h' => wpAny_pure (And.intro rfl h')) fun _ _ x => x)))))
      | (refine wpAny_bind (wpAny_rule ?_); show wpAny _ _ (standAt i2.pos >>= _) _ _ s; exact wpAny_bind (wpAny_standAt (wpAny_bind (wpAny_mono h (fun it' s' h' => wpAny_pure (And.intro rfl h')) fun _ _ x => x))))
/-- the inner clause of two, over a range -/
theorem Go.inner {elt t1 i1 i2 c : Expr} {scope : Scope} {pos px : Pos} {x : Str} {n : Nat} {acc : Value} {cenv : Env} {Q : Flow → Heap → Prop} (Inv : Nat → Heap → (Str → Option Value) → Led → Prop) (hh : A.handled = none)
    (turn : ∀ i t F m news h, i < n → Inv i F m news → St O F C m ((it, .riter (i + 1) (n - (i + 1)) 1) :: news) h →
      W prog w A (storeName cenv x (.int i t)) h fun _ h₁ => ifTail prog w A c elt acc cenv (fun h₂ => ∃ F' m' news', Inv (i + 1) F' m' news' ∧ St O F' C m' ((it, .riter (i + 1) (n - (i + 1)) 1) :: news') h₂) h₁)
    (done : ∀ F m news h, Inv n F m news → St O F C m news h → Q .next h)
    (S : St O F C m ((it, .riter 0 n 1) :: news) h) (hI : Inv 0 F m news) : Go prog w A (.compStart (.ListComp elt [⟨t1, i1, [], 0⟩, ⟨.Name x px, i2, [c], 0⟩] scope pos) 1 (.ref it) acc cenv) h Q := by
  have key : Go prog w A (.compLoop (.ListComp elt [⟨t1, i1, [], 0⟩, ⟨.Name x px, i2, [c], 0⟩] scope pos) 1 (.ref it) acc cenv) h Q := by
    refine Go.compLoop (n := n) (ob := fun i => .riter i (n - i) 1) (P := fun i v => ∃ t, v = .int i t) Inv compTree_two1 ?_ ?_ (fun i F m news h v _ => own_name) ?_ done (by simpa using S) hI
    · intro i F m news h hi hI S Q' q
      refine next_range S (by omega) fun t h' S' => q _ h' ⟨t, rfl⟩ ?_
      have e1 : ((i + 1 : Nat) : Int) = (i : Int) + 1 := by omega
      have e2 : (n : Int) - ((i + 1 : Nat) : Int) = (n : Int) - (i : Int) - 1 := by omega
      rw [e1, ← e1, e2, e1]; exact S'
    · intro F m news h hI S Q' q
      exact stop_range hh S (by omega) q
    · rintro i v F m news h hi ⟨t, rfl⟩ hI S
      have e1 : ((i + 1 : Nat) : Int) = (i : Int) + 1 := by omega
      have S' : St O F C m ((it, .riter ((i : Int) + 1) ((n : Int) - ((i : Int) + 1)) 1) :: news) h := by rw [← e1]; exact S
      refine W.assign_name ((turn i t F m news h hi hI S').mono fun _ h₁ y => ?_)
      rw [e1]; exact y
  intro g d tk os
  have hat : Ob.At h it (.riter 0 n 1) := S.get (i := 0) rfl
  refine code_start1 (key g d tk os) ?_
  refine W.use (self_range h hat) ?_
  rintro v h' tk' ⟨rfl, rfl⟩
  exact key g d tk' os
theorem small_size {n : Nat} (h : n ≤ 1000) : n ≤ sizeLine := Nat.le_trans h (by decide)
theorem W.pop_ints2 {L : Addr} {i : Nat} {l : Addr} {vs : List Value} {ns : List Int} {k v : Int} {u : Tok} {Q : Value → Heap → Prop} (S : St O F L m news h) (hi : news[i]? = some (l, .lst vs)) (hI : IntsAre vs ns) (hsz : ns.length ≤ 1000) (h0 : 0 ≤ k) (hk : ns[k.toNat]? = some v) (hf : k < 2 ^ 62)
    (q : ∀ t vs' h', IntsAre vs' (ns.eraseIdx k.toNat) → St O F L m (news.set i (l, .lst vs')) h' → Q (.int v t) h') : W prog w A (PySem.call (.builtin "list.pop") [.ref l, .int k u]) h Q :=
  W.pop_ints S hi hI (by rw [hI.length]; exact small_size hsz) h0 hk hf fun t h' => q t _ h'
theorem St.thaw {L a : Addr} {x : Ob} (S : St O F L m news h) (hx : x.At F a) (hL : L < a) : St O (F.hide a) L m ((a, x) :: news) h := by
  have sub : Sub (F.hide a) F := fun b o e => Heap.of_hide e
  have ha : ∃ o, F.get? a = some o := hx.some
  obtain ⟨oa, ha⟩ := ha
  refine ⟨⟨fun b o e => S.v.keep b o (sub b o e), ?_, ?_, ?_⟩, S.ns, ?_, ?_, ?_, S.le⟩
  · intro p hp
    rcases List.mem_cons.mp hp with rfl | hp
    · exact hx.same (S.v.keep a)
    · exact S.v.nw p hp
  · intro p hp
    rcases List.mem_cons.mp hp with rfl | hp
    · exact Heap.hide_self _ _
    · cases q : (F.hide a).get? p.1 with
      | none => rfl
      | some o => have := sub _ _ q; rw [S.v.off p hp] at this; cases this
  · rw [List.map_cons, List.nodup_cons]
    refine ⟨fun hm => ?_, S.v.nd⟩
    obtain ⟨p, hp, e⟩ := List.mem_map.mp hm
    have := S.v.off p hp
    have e' : p.1 = a := e
    rw [e', ha] at this; cases this
  · cases q : (F.hide a).get? L with
    | none => rfl
    | some o => have := sub _ _ q; rw [S.offL] at this; cases this
  · intro p hp
    rcases List.mem_cons.mp hp with rfl | hp
    · exact Nat.ne_of_gt hL
    · exact S.ne p hp
  · intro b o e
    have hb : b ≠ a := fun z => by
      subst z
      exact absurd (Heap.lt_size e) (Nat.not_lt.mpr (Nat.le_of_lt (Nat.lt_of_le_of_lt S.le hL)))
    exact (Heap.hide_ne F hb).trans (S.org b o e)
end

-- A26
section
variable {prog : Program} {w : World} {A : Around} {O F F' F₂ h h' h₂ h₅ : Heap} {L C D it : Addr} {m mC : Str → Option Value} {news : Led} {env : Env} {ob0 : Ob} {ys : List Value}
/-- over a list, the length of what is made told by the invariant -/
theorem CompIn.listN {elt target : Expr} {gens : List Comprehension} {scope : Scope} {pos : Pos} {cl : List (Str × Addr)} {Fin : Addr → Addr → Heap → List Value → Prop} {a : Addr} {items : List Value} {T : Addr → Addr → (Heap → Prop) → Heap → Prop}
    (hh : A.handled = none) (S₃ : St O F L m ((it, .liter a 0) :: news) h₂) (hl : LAt h₂ a items) (hne : a ≠ it)
    (ht : (∃ x pos, target = .Name x pos) ∨ (∃ e k pos, target = .Tuple e k pos))
    (hct : ∀ D C, CompTree prog w A elt gens scope pos 0 it (.ref D) (compEnvC scope cl C env) target (T D C))
    (Inv : Addr → Nat → Heap → List Value → Prop)
    (h0 : ∀ C F₂, L < C → h₂.objs.size < C → Old h₂ it F₂ → Inv C 0 F₂ [])
    (turn : ∀ C D i v F' m ys h, L < D → D < C → h₂.objs.size ≤ D → items[i]? = some v → Old h₂ it F' → Inv C i F' ys → St O F' C m [(it, .liter a (i + 1)), (D, .lst ys)] h →
      ∀ Qh : Heap → Prop, (∀ F'' m' ys' h', Sub F' F'' → Inv C (i + 1) F'' ys' → St O F'' C m' [(it, .liter a (i + 1)), (D, .lst ys')] h' → Qh h') →
      W prog w A (PySem.assign target (compEnvC scope cl C env) v) h fun _ h₁ => T D C Qh h₁)
    (done : ∀ D C F' ys, L < D → D < C → h₂.objs.size ≤ D → Old h₂ it F' → Inv C items.length F' ys → Fin D C F' ys) : CompIn prog w A elt gens scope pos cl env O F L m news Fin (.ref it) h₂ := by
  refine ⟨it, .liter a 0, rfl, S₃, self_list, fun D C F₂ h₄ hLD hDC hsz hF₂ hFF₂ S₄ => ?_⟩
  refine Go.compLoop (n := items.length) (P := fun i v => items[i]? = some v) (ob := fun i => .liter a i) (fun i F' m news => ∃ ys, news = [(D, .lst ys)] ∧ Sub F₂ F' ∧ Inv C i F' ys) (hct D C) ?_ ?_ ?_ ?_ ?_ S₄ ⟨[], rfl, fun _ _ e => e, h0 C F₂ (Nat.lt_trans hLD hDC) (Nat.lt_of_le_of_lt hsz hDC) hF₂⟩
  · rintro i F' m news h hi ⟨ys, rfl, hs, hI⟩ S Q' q
    have : items[i]? = some items[i] := List.getElem?_eq_getElem hi
    exact next_list S ((hl.old (Old.sub hF₂ hs) hne).sub S.v.keep).isList (by simpa using this) fun h' S' => q _ h' this S'
  · rintro F' m news h ⟨ys, rfl, hs, hI⟩ S Q' q
    exact stop_list hh S ((hl.old (Old.sub hF₂ hs) hne).sub S.v.keep).isList (by simp) q
  · intro i F m news h v S
    rcases ht with ⟨x, pos, rfl⟩ | ⟨e, k, pos, rfl⟩
    · exact own_name
    · exact own_list (S.get (i := 0) rfl)
  · rintro i v F' m news h hi hv ⟨ys, rfl, hs, hI⟩ S
    refine turn C D i v F' m ys h hLD hDC hsz hv (Old.sub hF₂ hs) hI S _ fun F'' m' ys' h' k1 k2 k4 => ?_
    exact ⟨F'', m', [(D, .lst ys')], ⟨ys', rfl, fun b o e => k1 b o (hs b o e), k2⟩, k4⟩
  · rintro F' m news h ⟨ys, rfl, hs, hI⟩ S
    exact ⟨F', m, ys, hs, S, done D C F' ys hLD hDC hsz (Old.sub hF₂ hs) hI⟩
end

end Mine

namespace Mine
set_option maxHeartbeats 8000000
open_top hd for PySem.Challenge.rw_pe0189_01
end Mine

namespace Mine
-- C1
noncomputable abbrev KK := hd.heap_39
noncomputable section
def o52 : { o : Obj // ∀ P, (KK P).lookup 52 = some o } := ⟨_, fun P => rfl⟩
def fd52 : { fd : FuncData // o52.1.data = .func fd } := ⟨_, rfl⟩
def b52 : { b : List Stmt // fd52.1.body = .stmts b } := ⟨_, rfl⟩
theorem c52 (P) : codeIn (KK P) fd52.1.code fd52.1.qualname = true := by kernel_rfl
def o59 : { o : Obj // ∀ P, (KK P).lookup 59 = some o } := ⟨_, fun P => rfl⟩
def fd59 : { fd : FuncData // o59.1.data = .func fd } := ⟨_, rfl⟩
def b59 : { b : List Stmt // fd59.1.body = .stmts b } := ⟨_, rfl⟩
theorem c59 (P) : codeIn (KK P) fd59.1.code fd59.1.qualname = true := by kernel_rfl
end

theorem k62_get (P) : plainGet (KK P) 62 "comp_select_list" = true := by kernel_rfl
theorem k62_dict (P) : hasDictIn (KK P) 62 = true := by kernel_rfl
theorem k62_find (P) : findIn (KK P) (.ref 62) "comp_select_list" = some none := by kernel_rfl

theorem k62_makes (P) : makesIn (KK P) 62 = true := by kernel_rfl
theorem k62_init (P) : findIn (KK P) (.ref 62) "__init__" = some (some (.ref 52)) := by kernel_rfl
theorem k52_type (P) : typeIn (KK P) (.ref 52) = some (.type "function") := by kernel_rfl
theorem k62_setattr (P) : findIn (KK P) (.ref 62) "__setattr__" = some (some (.builtin "object.__setattr__")) := by kernel_rfl
theorem k62_over (P) : plainOver (KK P) 62 = true := by kernel_rfl
theorem k62_taker (P) : takerIn (KK P) 62 "comp_select_list" = some none := by kernel_rfl

/-- a row -/
structure PRow where
  a : Int
  s : Str
  p : Int
  q : Int
  d : Int
def RowAt (h : Heap) (r : Addr) (x : PRow) : Prop := ∃ t1 t2 t3 t4 t5 pr, TAt h r [.int x.a t1, .str x.s t2, .ref pr, .int x.d t3] ∧ TAt h pr [.int x.p t4, .int x.q t5]
def PRow.lt (c : Int) (l r : PRow) : Bool :=
  if c = 0 then decide (l.a < r.a) else if c = 1 then decide (l.s.cps.toList < r.s.cps.toList) else if c = 2 then (if l.p == r.p then (if l.q == r.q then false else decide (l.q < r.q)) else decide (l.p < r.p)) else decide (l.d < r.d)
noncomputable def cmpVal : List (Int × Int) → PRow → PRow → Int
  | [], _, _ => 0
  | (c, d) :: ks, l, r => if l.lt c r then -d else if r.lt c l then d else cmpVal ks l r
def KeysAt (h : Heap) (kl : Addr) (ks : List (Int × Int)) : Prop := ∃ as : List Addr, as.length = ks.length ∧ LAt h kl (as.map .ref) ∧ ∀ (i : Nat) (a : Addr) (k : Int × Int), as[i]? = some a → ks[i]? = some k → ∃ t u, TAt h a [.int k.1 t, .int k.2 u]
def CompAt (lo : Nat) (h : Heap) (x kl : Addr) : Prop := ∃ dx hsh tk n, lo ≤ dx ∧ lo ≤ x ∧ W.InstAt h x (instObj 62 dx) 62 (some (dictOf [⟨hsh, .str "comp_select_list" tk, .ref kl⟩] n))

theorem CompAt.mono {lo lo' : Nat} {h h' : Heap} {x kl : Addr} (y : CompAt lo h x kl) (hs : SubFrom lo h h') (hl : lo' ≤ lo) : CompAt lo' h' x kl :=
  let ⟨dx, hsh, tk, n, h1, h2, I⟩ := y
  ⟨dx, hsh, tk, n, Nat.le_trans hl h1, Nat.le_trans hl h2, ⟨hs _ _ h2 I.1, I.2, I.3, hs _ _ h1 I.4⟩⟩
section
variable {prog : Program} {w : World} {A : Around} {O h : Heap} {p : Program} {loose : List Str} {mg mb : Str → Option Value}
set_option maxHeartbeats 2000000 in
theorem compare_W {x l r kl : Addr} {ks : List (Int × Int)} {lr rr : PRow} {lo : Nat} {Q : Value → Heap → Prop} (G : Good (KK w.params) p loose mg mb O) (R : Room A 2) (hO : Org O h)
    (hx : CompAt lo h x kl) (hk : KeysAt h kl ks) (hc : ∀ k ∈ ks, 0 ≤ k.1 ∧ k.1 < 4) (hl : RowAt h l lr) (hr : RowAt h r rr)
    (q : ∀ t h', Sub h h' → Q (.int (cmpVal ks lr rr) t) h') : W prog w A (call (.ref 59) [.ref x, .ref l, .ref r]) h Q := by
  refine W.call_def (n := 1) (fd := fd59.1) (body := b59.1) (binds := [("self", .ref x), ("left", .ref l), ("right", .ref r)]) R G hO (View.all h) hO.sub (o59.2 w.params) fd59.2 (c59 _) b59.2 (fun s _ => BindsTo.of_eq rfl) ?_ ?_ ?_
  · intro L
    exact fun y hy => .inl (by
      simp only [List.mem_cons, List.not_mem_nil, or_false] at hy
      rcases hy with rfl | rfl | rfl <;> rfl)
  · intro L; exact fun q hq => nomatch hq
  intro L h₁ hL hs S
  have hh : (A.deeper (callEnvC fd59.val L 59)).handled = none := R.hh
  obtain ⟨dx, hsh, tk, n, _, _, hI⟩ := hx
  obtain ⟨as, hlen, hka, hkt⟩ := hk
  refine W.execs_cons (W.for_ (W.attr (W.name S rfl (W.getAttr_own (C := 62) (attr := none) G S (I := ⟨hs _ _ hI.1, hI.2, hI.3, hs _ _ hI.4⟩) (k62_get _) (k62_dict _) (k62_find _) rfl rfl rfl (W.pyIter_list S (hka.sub hs).isList ?_)))))
  intro it h₂ hit hs₂ S₂
  refine Go.list (items := as.map .ref) (fun i F m news => news = [] ∧ Sub h F ∧ m "left" = some (.ref l) ∧ m "right" = some (.ref r) ∧ cmpVal ks lr rr = cmpVal (ks.drop i) lr rr) hh ?_ ?_ ?_ S₂ ⟨rfl, fun _ _ e => e, rfl, rfl, rfl⟩ (.inr ⟨_, _, _, rfl⟩)
  · rintro i F m news h ob ⟨rfl, hF, _⟩ S
    exact (hka.sub fun b o e => S.v.keep b o (hF b o e)).isList
  · rintro i v F m news h₃ hv ⟨rfl, hF, hml, hmr, hcv⟩ S₃
    have hsF : Sub h h₃ := fun b o e => S₃.v.keep b o (hF b o e)
    obtain ⟨a, ha, rfl⟩ : ∃ a, as[i]? = some a ∧ v = .ref a := by
      rw [List.getElem?_map] at hv
      cases q : as[i]? with
      | none => rw [q] at hv; cases hv
      | some a => rw [q] at hv; exact ⟨a, rfl, (Option.some.inj hv).symm⟩
    have hlt : i < ks.length := hlen ▸ (List.getElem?_eq_some_iff.mp ha).1
    have hki : ks[i]? = some ks[i] := List.getElem?_eq_getElem hlt
    obtain ⟨t, u, hT⟩ := hkt i a _ ha hki
    have hcol := hc _ (List.getElem_mem hlt)
    have hdrop : ks.drop i = ks[i] :: ks.drop (i + 1) := List.drop_eq_getElem_cons hlt
    rw [hdrop] at hcv
    generalize ks[i] = kk at *
    obtain ⟨c, dd⟩ := kk
    dsimp only at hT hcol
    refine W.assign_tup2 hh S₃ (hT.sub hsF) fun h₄ S₄ => ?_
    have hs₄ : Sub h h₄ := fun b o e => S₄.v.keep b o (hF b o e)
    obtain ⟨t1, t2, t3, t4, t5, pr, hlr, hlp⟩ := hl
    obtain ⟨u1, u2, u3, u4, u5, pr', hrr, hrp⟩ := hr
    have hu := R.deeper (env := callEnvC fd59.val L 59)
    obtain ⟨lv, rv, e1, e2, h1, h2⟩ : ∃ lv rv, ([.int lr.a t1, .str lr.s t2, .ref pr, .int lr.d t3] : List Value)[c.toNat]? = some lv ∧ ([.int rr.a u1, .str rr.s u2, .ref pr', .int rr.d u3] : List Value)[c.toNat]? = some rv ∧
        (∀ h' (Q : Value → Heap → Prop), Sub h h' → Q (.bool (lr.lt c rr)) h' → W prog w (A.deeper (callEnvC fd59.val L 59)) (compareOp .Lt lv rv) h' Q) ∧
        (∀ h' (Q : Value → Heap → Prop), Sub h h' → Q (.bool (rr.lt c lr)) h' → W prog w (A.deeper (callEnvC fd59.val L 59)) (compareOp .Gt lv rv) h' Q) := by
      have hr0 : c = 0 ∨ c = 1 ∨ c = 2 ∨ c = 3 := by omega
      rcases hr0 with rfl | rfl | rfl | rfl
      · exact ⟨_, _, rfl, rfl, fun _ _ _ q => W.lt_int q, fun _ _ _ q => W.gt_int q⟩
      · exact ⟨_, _, rfl, rfl, fun _ _ _ q => W.lt_str q, fun _ _ _ q => W.gt_str q⟩
      · refine ⟨_, _, rfl, rfl, fun _ _ hs q => W.lt_tup2 hu.u (hlp.sub hs) (hrp.sub hs) q, fun _ _ hs q => W.gt_tup2 hu.u (hlp.sub hs) (hrp.sub hs) ?_⟩
        have e1 : (lr.p == rr.p) = (rr.p == lr.p) := BEq.comm
        have e2 : (lr.q == rr.q) = (rr.q == lr.q) := BEq.comm
        rw [e1, e2]; exact q
      · exact ⟨_, _, rfl, rfl, fun _ _ _ q => W.lt_int q, fun _ _ _ q => W.gt_int q⟩
    refine W.execs_cons (W.assign (W.sub (W.name S₄ hml (W.name S₄ rfl (W.item_tup (hlr.sub hs₄) hcol.1 e1 (W.store S₄ fun h₅ S₅ => ?_) (by omega))))))
    have hs₅ : Sub h h₅ := fun b o e => S₅.v.keep b o (hF b o e)
    refine W.execs_cons (W.assign (W.sub (W.name S₅ hmr (W.name S₅ rfl (W.item_tup (hrr.sub hs₅) hcol.1 e2 (W.store S₅ fun h₆ S₆ => ?_) (by omega))))))
    have hs₆ : Sub h h₆ := fun b o e => S₆.v.keep b o (hF b o e)
    refine W.execs_cons (W.if_ (W.isTrue_compare (W.name S₆ rfl (W.name S₆ rfl (h1 _ _ hs₆ (W.truthy_bool ?_))))))
    cases q1 : lr.lt c rr with
    | true =>
      refine W.execs_cons (W.ret (W.unary (W.name S₆ rfl (W.neg_int fun t => ?_))))
      have : cmpVal ks lr rr = -dd := by rw [hcv]; unfold cmpVal; rw [q1]; rfl
      rw [← this]; exact q t h₆ hs₆
    | false =>
      refine W.execs_nil ?_
      refine W.execs_cons (W.if_ (W.isTrue_compare (W.name S₆ rfl (W.name S₆ rfl (h2 _ _ hs₆ (W.truthy_bool ?_))))))
      cases q2 : rr.lt c lr with
      | true =>
        refine W.execs_cons (W.ret (W.name S₆ rfl ?_))
        have : cmpVal ks lr rr = dd := by rw [hcv]; unfold cmpVal; rw [q1, q2]; rfl
        rw [← this]; exact q u h₆ hs₆
      | false =>
        refine W.execs_nil (W.execs_nil ⟨F, _, [], ?_, S₆⟩)
        refine ⟨rfl, hF, hml, hmr, ?_⟩
        rw [hcv]; conv => lhs; unfold cmpVal
        rw [q1, q2]; rfl
  · rintro F m news h₃ ⟨rfl, hF, hml, hmr, hcv⟩ S₃
    refine W.execs_cons (W.ret (W.const_int fun t => ?_))
    have : cmpVal ks lr rr = 0 := by rw [hcv, List.length_map, hlen, List.drop_length]; rfl
    rw [← this]
    exact q t h₃ fun b o e => S₃.v.keep b o (hF b o e)

theorem make_W {kl : Addr} {Q : Value → Heap → Prop} (G : Good (KK w.params) p loose mg mb O) (R : Room A 3) (hO : Org O h)
    (q : ∀ x h', Sub h h' → CompAt h.objs.size h' x kl → Q (.ref x) h') : W prog w A (call (.ref 62) [.ref kl]) h Q := by
  have s1 : Sub h (h.push emptyDict) := fun b o e => Heap.get?_push_of_some _ e
  have s2 : Sub (h.push emptyDict) ((h.push emptyDict).push (instObj 62 h.objs.size)) := fun b o e => Heap.get?_push_of_some _ e
  have hD : ((h.push emptyDict).push (instObj 62 h.objs.size)).get? h.objs.size = some (dictOf [] 0) := s2 _ _ (Heap.get?_push_size _ rfl)
  have hX : ((h.push emptyDict).push (instObj 62 h.objs.size)).get? (h.objs.size + 1) = some (instObj 62 h.objs.size) := by
    have := Heap.get?_push_size (h.push emptyDict) (o := instObj 62 h.objs.size) rfl
    rw [Heap.size_push] at this; exact this
  refine W.of_code (CGo.make G hO.sub (k62_makes _) (k62_init _) (k52_type _) ?_)
  generalize hg : (h.push emptyDict).push (instObj 62 h.objs.size) = h₂ at hD hX s2
  have s12 : Sub h h₂ := fun b o e => s2 b o (s1 b o e)
  have hO₂ : Org O h₂ := ⟨fun b o e => s12 b o (hO.sub b o e), by rw [← hg, Heap.size_push, Heap.size_push]; have := hO.le; omega⟩
  have V : View (h₂.hide h.objs.size) [(h.objs.size, .raw (dictOf [] 0))] h₂ := ⟨fun b o e => Heap.of_hide e, fun y hy => by rw [List.mem_singleton] at hy; subst hy; exact hD, fun y hy => by rw [List.mem_singleton] at hy; subst hy; exact Heap.hide_self _ _, List.nodup_cons.mpr ⟨by simp, List.nodup_nil⟩⟩
  have hsF : Sub h (h₂.hide h.objs.size) := fun b o e => (Heap.hide_ne h₂ (Nat.ne_of_lt (Heap.lt_size e))).trans (s12 b o e)
  refine CGo.call_def (n := 1) (fd := fd52.1) (body := b52.1) (binds := [("self", .ref (h.objs.size + 1)), ("comp_select_list", .ref kl)]) R.under G hO₂ V (fun b o e => hsF b o (hO.sub b o e)) (o52.2 w.params) fd52.2 (c52 _) b52.2 (fun s _ => BindsTo.of_eq rfl) ?_ ?_ ?_
  · intro L
    exact fun y hy => .inl (by
      simp only [List.mem_cons, List.not_mem_nil, or_false] at hy
      rcases hy with rfl | rfl <;> rfl)
  · intro L; exact fun q hq => nomatch hq
  intro L h₃ hL hs S
  have hsz : (h₂.hide h.objs.size).objs.size ≤ L := by rw [Heap.hide_size, hL]; exact Nat.le_refl _
  refine W.execs_cons (W.assign_attr (W.name S rfl (W.name S rfl (W.setAttr (C := 62) (ox := instObj 62 h.objs.size) G S hsz ⟨hs _ _ hX, rfl, rfl, S.get (i := 0) rfl⟩ rfl (k62_setattr _) (k62_over _) (k62_taker _) (k62_dict _) rfl ?_ ?_))))
  · intro tk; exact Nat.le_of_ble_eq_true rfl
  intro tk h₄ S₄
  refine W.execs_nil ⟨rfl, ?_⟩
  have hF₄ : Sub (h₂.hide h.objs.size) h₄ := S₄.v.keep
  refine q _ _ (fun b o e => hF₄ b o (hsF b o e)) ⟨h.objs.size, PyData.keyHash w.params "comp_select_list", tk, putN "comp_select_list" [] 0, Nat.le_refl _, Nat.le_succ _, ?_⟩
  exact ⟨hF₄ _ _ ((Heap.hide_ne h₂ (Nat.ne_of_gt (Nat.lt_succ_self _))).trans hX), rfl, rfl, S₄.get (i := 0) rfl⟩
end
end Mine

namespace Mine
local macro_rules | `(tactic| walk_at "w") => `(tactic| first
  | (with_reducible refine W.execs_cons ?_)
  | (with_reducible refine W.execs_nil ?_)
  | (with_reducible refine if_ff ?_)
  | (with_reducible refine if_tt ?_)
  | ((with_reducible show W _ _ _ (exec (Stmt.Assign [Expr.Name _ _] _ _) _) _ _); refine W.assign ?_)
  | ((with_reducible show W _ _ _ (exec (Stmt.Assign [Expr.Attribute _ _ _] _ _) _) _ _); refine W.assign_attr ?_)
  | ((with_reducible show W _ _ _ (exec (Stmt.Assign [Expr.Subscript _ _ _] _ _) _) _ _); refine W.assign_sub ?_)
  | ((with_reducible show W _ _ _ (exec (Stmt.AugAssign (Expr.Name _ _) _ _ _) _) _ _); refine W.augassign ?_)
  | (with_reducible refine W.del_sub ?_)
  | (with_reducible refine W.if_ ?_)
  | (with_reducible refine W.ret ?_)
  | ((with_reducible show W _ _ _ (exec (Stmt.Expr _ _) _) _ _); refine W.expr ?_)
  | (with_reducible refine W.cont ?_)
  | ((with_reducible show W _ _ _ (exec (Stmt.For _ _ _ _ _) _) _ _); refine W.for_ ?_)
  | ((with_reducible show W _ _ _ (isTrue (Expr.Compare _ [_] [_] _) _ _) _ _); refine W.isTrue_compare ?_)
  | (with_reducible refine W.isTrue_and2 ?_)
  | ((with_reducible show W _ _ _ (isTrue _ _ _) _ _); refine W.isTrue_val ?_)
  | (with_reducible refine W.truthy_bool ?_)
  | (with_reducible refine W.truthy_none ?_)
  | ((with_reducible refine W.const_int ?_); intro _)
  | ((with_reducible refine W.const_str ?_); intro _)
  | (with_reducible refine W.const_none ?_)
  | (with_reducible refine W.const_bool ?_)
  | ((with_reducible show W _ _ _ (eval (Expr.Name _ _) _) _ _); refine W.name (by assumption) (by first | rfl | assumption) ?_)
  | ((with_reducible show W _ _ _ (eval (Expr.Name _ _) _) _ _); first | refine W.cell (i := 0) (by assumption) rfl rfl ?_ | refine W.cell (i := 1) (by assumption) rfl rfl ?_ | refine W.cell (i := 2) (by assumption) rfl rfl ?_ | refine W.cell (i := 3) (by assumption) rfl rfl ?_ | refine W.cell (i := 4) (by assumption) rfl rfl ?_ | refine W.cell (i := 5) (by assumption) rfl rfl ?_ | refine W.cell (i := 6) (by assumption) rfl rfl ?_ | refine W.cell (i := 7) (by assumption) rfl rfl ?_)
  | (with_reducible refine W.binop ?_)
  | (with_reducible refine W.unary ?_)
  | ((with_reducible show W _ _ _ (eval (Expr.Compare _ [_] [_] _) _) _ _); refine W.compare ?_)
  | (with_reducible refine W.and2 ?_)
  | (with_reducible refine W.ifExp ?_)
  | (with_reducible refine W.sub ?_)
  | ((with_reducible show W _ _ _ (eval (Expr.Attribute _ _ _) _) _ _); refine W.attr ?_)
  | ((with_reducible show W _ _ _ (eval (Expr.Call (Expr.Attribute _ _ _) _ _ _) _) _ _); refine W.meth ?_)
  | ((with_reducible show W _ _ _ (eval (Expr.Call _ _ [] _) _) _ _); refine W.call ?_)
  | (with_reducible refine W.list ?_)
  | (with_reducible refine W.tuple ?_)
  | ((with_reducible show W _ _ _ (spliced (backTo _ (starEach (_ :: _) _))) _ _); refine W.items_cons ?_)
  | (with_reducible refine W.items_nil ?_)
  | ((with_reducible show W _ _ _ (callWith _ (Value.builtin _) _ (backTo _ (starEach (_ :: _) _)) _) _ _); refine W.callB ?_)
  | ((with_reducible show W _ _ _ (callWith _ (Value.builtin _) _ (backTo _ (starEach [] _)) _) _ _); refine W.callB0 ?_)
  | ((with_reducible show W _ _ _ (callWith _ (Value.type _) _ (backTo _ (starEach (_ :: _) _)) _) _ _); refine W.callT ?_)
  | ((with_reducible refine W.add_int ?_); intro _)
  | ((with_reducible refine W.sub_int ?_); intro _)
  | ((with_reducible show W _ _ _ (binaryOp Operator.Mod (Value.int _ _) (Value.int _ _)) _ _); refine W.mod_int (by decide) ?_; intro _)
  | ((with_reducible show W _ _ _ (binaryOp Operator.FloorDiv (Value.int _ _) (Value.int _ _)) _ _); refine W.fdiv_int (by decide) (by decide) ?_; intro _)
  | ((with_reducible show W _ _ _ (binaryOp Operator.Mult (Value.int _ _) (Value.int _ _)) _ _); refine W.mul_int (IntMulOk.of_right (by decide)) ?_; intro _)
  | ((with_reducible refine W.iadd_int ?_); intro _)
  | ((with_reducible refine W.neg_int ?_); intro _)
  | (with_reducible refine W.lt_int ?_)
  | (with_reducible refine W.eq_int ?_))

-- C2
noncomputable section
def o98 : { o : Obj // ∀ P, (KK P).lookup 98 = some o } := ⟨_, fun P => rfl⟩
def fd98 : { fd : FuncData // o98.1.data = .func fd } := ⟨_, rfl⟩
def b98 : { b : List Stmt // fd98.1.body = .stmts b } := ⟨_, rfl⟩
theorem c98 (P) : codeIn (KK P) fd98.1.code fd98.1.qualname = true := by kernel_rfl
def o112 : { o : Obj // ∀ P, (KK P).lookup 112 = some o } := ⟨_, fun P => rfl⟩
def fd112 : { fd : FuncData // o112.1.data = .func fd } := ⟨_, rfl⟩
def b112 : { b : List Stmt // fd112.1.body = .stmts b } := ⟨_, rfl⟩
theorem c112 (P) : codeIn (KK P) fd112.1.code fd112.1.qualname = true := by kernel_rfl
def o117 : { o : Obj // ∀ P, (KK P).lookup 117 = some o } := ⟨_, fun P => rfl⟩
def fd117 : { fd : FuncData // o117.1.data = .func fd } := ⟨_, rfl⟩
def b117 : { b : List Stmt // fd117.1.body = .stmts b } := ⟨_, rfl⟩
theorem c117 (P) : codeIn (KK P) fd117.1.code fd117.1.qualname = true := by kernel_rfl
def o124 : { o : Obj // ∀ P, (KK P).lookup 124 = some o } := ⟨_, fun P => rfl⟩
def fd124 : { fd : FuncData // o124.1.data = .func fd } := ⟨_, rfl⟩
def b124 : { b : List Stmt // fd124.1.body = .stmts b } := ⟨_, rfl⟩
theorem c124 (P) : codeIn (KK P) fd124.1.code fd124.1.qualname = true := by kernel_rfl
def o146 : { o : Obj // ∀ P, (KK P).lookup 146 = some o } := ⟨_, fun P => rfl⟩
def fd146 : { fd : FuncData // o146.1.data = .func fd } := ⟨_, rfl⟩
def b146 : { b : List Stmt // fd146.1.body = .stmts b } := ⟨_, rfl⟩
theorem c146 (P) : codeIn (KK P) fd146.1.code fd146.1.qualname = true := by kernel_rfl
def o163 : { o : Obj // ∀ P, (KK P).lookup 163 = some o } := ⟨_, fun P => rfl⟩
def fd163 : { fd : FuncData // o163.1.data = .func fd } := ⟨_, rfl⟩
def b163 : { b : List Stmt // fd163.1.body = .stmts b } := ⟨_, rfl⟩
theorem c163 (P) : codeIn (KK P) fd163.1.code fd163.1.qualname = true := by kernel_rfl
def o91 : { o : Obj // ∀ P, (KK P).lookup 91 = some o } := ⟨_, fun P => rfl⟩
def fd91 : { fd : FuncData // o91.1.data = .func fd } := ⟨_, rfl⟩
def b91 : { b : List Stmt // fd91.1.body = .stmts b } := ⟨_, rfl⟩
theorem c91 (P) : codeIn (KK P) fd91.1.code fd91.1.qualname = true := by kernel_rfl
def o70 : { o : Obj // ∀ P, (KK P).lookup 70 = some o } := ⟨_, fun P => rfl⟩
def o71 : { o : Obj // ∀ P, (KK P).lookup 71 = some o } := ⟨_, fun P => rfl⟩
def o75 : { o : Obj // ∀ P, (KK P).lookup 75 = some o } := ⟨_, fun P => rfl⟩
def o76 : { o : Obj // ∀ P, (KK P).lookup 76 = some o } := ⟨_, fun P => rfl⟩
def g70 : { gs : List Value // o70.1 = { cls := .type "tuple", data := .seq gs.toArray } } := ⟨_, rfl⟩
def g75 : { gs : List Value // o75.1 = { cls := .type "tuple", data := .seq gs.toArray } } := ⟨_, rfl⟩
end
def safe (gs : List Value) (x : Str) : Prop := strip 4000 (Builtin.Re.reRunToEnd (Sre.forSearch ((gs.toArray.map Builtin.Re.reRawOf).map (·.toNat)) x.cps 0 (min (0 : Int).toNat x.cps.size) (min (2 ^ 63 - 1 : Int).toNat x.cps.size) false)) = some none
theorem safe71 : safe g70.1 "0-name" ∧ safe g70.1 "1-name" ∧ safe g70.1 "2-name" ∧ safe g70.1 "3-name" ∧ safe g70.1 "0-NAME" ∧ safe g70.1 "1-NAME" ∧ safe g70.1 "2-NAME" ∧ safe g70.1 "3-NAME" := by
  unfold safe
  exact ⟨by kernel_rfl, by kernel_rfl, by kernel_rfl, by kernel_rfl, by kernel_rfl, by kernel_rfl, by kernel_rfl, by kernel_rfl⟩
theorem safe76 : safe g75.1 "0" ∧ safe g75.1 "1" ∧ safe g75.1 "2" ∧ safe g75.1 "3" := by
  unfold safe
  exact ⟨by kernel_rfl, by kernel_rfl, by kernel_rfl, by kernel_rfl⟩
theorem n_type (P) : nsIn (KK P) mainGlobals "type" = some none := by kernel_rfl
theorem n_str (P) : nsIn (KK P) mainGlobals "str" = some none := by kernel_rfl
theorem n_nre (P) : nsIn (KK P) mainGlobals "_name_disallowed_re" = some (some (.ref 71)) := by kernel_rfl
theorem n_vre (P) : nsIn (KK P) mainGlobals "_value_disallowed_re" = some (some (.ref 76)) := by kernel_rfl
theorem bo_type : bootBuiltins "type" = some (.type "type") := by kernel_rfl
theorem bo_str : bootBuiltins "str" = some (.type "str") := by kernel_rfl

section
variable {prog : Program} {w : World} {A : Around} {O h : Heap} {p : Program} {loose : List Str} {mg mb : Str → Option Value}
set_option maxHeartbeats 2000000 in
theorem conv_W {x : Value} {v : Str} {t : Tok} {nm : Bool} {Q : Value → Heap → Prop} (G : Good (KK w.params) p loose mg mb O) (R : Room A 2) (hO : Org O h) (hs : if nm then safe g70.1 v else safe g75.1 v)
    (q : ∀ h', Sub h h' → Q (.str v t) h') : W prog w A (call (.ref 98) [x, .str v t] [("name", .bool nm)]) h Q := by
  refine W.call_def (n := 1) (fd := fd98.1) (body := b98.1) (binds := [("self", x), ("value", .str v t), ("name", .bool nm)]) R G hO (View.all h) hO.sub (o98.2 w.params) fd98.2 (c98 _) b98.2 (fun s _ => BindsTo.of_eq rfl) ?_ ?_ ?_
  · intro L
    exact fun y hy => .inl (by
      simp only [List.mem_cons, List.not_mem_nil, or_false] at hy
      rcases hy with rfl | rfl | rfl <;> rfl)
  · intro L; exact fun q hq => nomatch hq
  intro L h₁ hL hs₁ S
  have R' := R.deeper (env := callEnvC fd98.val L 98)
  refine W.execs_cons ?_
  repeat walk_at "w"
  refine W.bltn G S.sO (n_type _) bo_type ?_
  repeat walk_at "w"
  refine W.type_of (T := "str") (fun _ _ _ _ => rfl) rfl ?_
  refine W.bltn G S.sO (n_str _) bo_str (W.is_type_same ?_)
  repeat walk_at "w"
  cases nm with
  | true =>
    refine if_tt (W.glob G S.sO (n_nre _) (W.store S fun h₂ S₂ => ?_))
    have X₂ := G.X.keeps S₂.sO
    have ha := X₂ _ _ (o71.2 _)
    have hc := X₂ _ _ ((o70.2 _).trans (congrArg some g70.2))
    repeat walk_at "w"
    refine W.method_pat (dt := _) ha ?_
    repeat walk_at "w"
    refine W.search ha hc hs ?_
    repeat walk_at "w"
    exact q _ fun b o e => S₂.v.keep b o e
  | false =>
    refine if_ff (W.glob G S.sO (n_vre _) (W.store S fun h₂ S₂ => ?_))
    have X₂ := G.X.keeps S₂.sO
    have ha := X₂ _ _ (o76.2 _)
    have hc := X₂ _ _ ((o75.2 _).trans (congrArg some g75.2))
    repeat walk_at "w"
    refine W.method_pat (dt := _) ha ?_
    repeat walk_at "w"
    refine W.search ha hc hs ?_
    repeat walk_at "w"
    exact q _ fun b o e => S₂.v.keep b o e
end

-- C3
theorem safe_nm (u : Bool) (d : Nat) (hd : d < 4) : safe g70.1 (nm u d) := by
  obtain ⟨a, b, c, e, a', b', c', e'⟩ := safe71
  cases u
  · exact four (P := fun d => safe g70.1 (nm false d)) a b c e d hd
  · exact four (P := fun d => safe g70.1 (nm true d)) a' b' c' e' d hd
theorem safe_vl (d : Nat) (hd : d < 4) : safe g75.1 (vl d) := by
  obtain ⟨a, b, c, e⟩ := safe76
  exact four (P := fun d => safe g75.1 (vl d)) a b c e d hd

/-- the object of class Headers -/
def HeadAt (lo : Nat) (h : Heap) (x hl : Addr) : Prop := ∃ dx hsh tk n, lo ≤ dx ∧ lo ≤ x ∧ W.InstAt h x (instObj 199 dx) 199 (some (dictOf [⟨hsh, .str "_headers" tk, .ref hl⟩] n))
theorem HeadAt.mono {lo lo' : Nat} {h h' : Heap} {x kl : Addr} (y : HeadAt lo h x kl) (hs : SubFrom lo h h') (hl : lo' ≤ lo) : HeadAt lo' h' x kl :=
  let ⟨dx, hsh, tk, n, h1, h2, I⟩ := y
  ⟨dx, hsh, tk, n, Nat.le_trans hl h1, Nat.le_trans hl h2, ⟨hs _ _ h2 I.1, I.2, I.3, hs _ _ h1 I.4⟩⟩
/-- entries: spelled great?, whose name, held by whom -/
abbrev Ent := Bool × Nat × Nat
def PairsAt (lo : Nat) (h : Heap) (as : List Addr) (es : List Ent) : Prop := as.length = es.length ∧ ∀ (i : Nat) (a : Addr) (e : Ent), as[i]? = some a → es[i]? = some e → lo ≤ a ∧ e.2.1 < 4 ∧ e.2.2 < 4 ∧ ∃ t u, TAt h a [.str (nm e.1 e.2.1) t, .str (vl e.2.2) u]
theorem PairsAt.mono {lo lo' : Nat} {h h' : Heap} {as : List Addr} {es : List Ent} (y : PairsAt lo h as es) (hs : SubFrom lo h h') (hl : lo' ≤ lo) : PairsAt lo' h' as es :=
  ⟨y.1, fun i a e h1 h2 => let ⟨p, q, r, t, u, T⟩ := y.2 i a e h1 h2; ⟨Nat.le_trans hl p, q, r, t, u, T.from hs p⟩⟩

theorem k199_get (P) : plainGet (KK P) 199 "_headers" = true := by kernel_rfl
theorem k199_dict (P) : hasDictIn (KK P) 199 = true := by kernel_rfl
theorem k199_find (P) : findIn (KK P) (.ref 199) "_headers" = some none := by kernel_rfl
theorem k199_getc (P) : plainGet (KK P) 199 "_convert_string_type" = true := by kernel_rfl
theorem k199_conv (P) : findIn (KK P) (.ref 199) "_convert_string_type" = some (some (.ref 98)) := by kernel_rfl
theorem k98_fn (P) : isFn (KK P) (.ref 98) = true := by kernel_rfl
theorem k98_keep (P) : keepIn (KK P) (.ref 98) = true := by kernel_rfl
theorem k199_getg (P) : plainGet (KK P) 199 "get" = true := by kernel_rfl
theorem k199_get_ (P) : findIn (KK P) (.ref 199) "get" = some (some (.ref 146)) := by kernel_rfl
theorem k146_fn (P) : isFn (KK P) (.ref 146) = true := by kernel_rfl
theorem k146_keep (P) : keepIn (KK P) (.ref 146) = true := by kernel_rfl
noncomputable def o139 : { o : Obj // ∀ P, (KK P).lookup 139 = some o } := ⟨_, fun P => rfl⟩

def findE (d : Nat) (es : List Ent) : Option Nat := (es.find? fun e => e.2.1 == d).map (·.2.2)
def valOf (o : Option Nat) (v : Value) : Prop := match o with | none => v = .none | some m => ∃ t, v = .str (vl m) t

section
variable {prog : Program} {w : World} {A : Around} {O h : Heap} {p : Program} {loose : List Str} {mg mb : Str → Option Value}
set_option maxHeartbeats 2000000 in
theorem get_W {x hl : Addr} {lo lo' : Nat} {as : List Addr} {es : List Ent} {u : Bool} {d : Nat} {t : Tok} {Q : Value → Heap → Prop} (G : Good (KK w.params) p loose mg mb O) (R : Room A 4) (hO : Org O h)
    (hx : HeadAt lo h x hl) (hl_ : LAt h hl (as.map .ref)) (hp : PairsAt lo' h as es) (hd : d < 4)
    (q : ∀ v h', valOf (findE d es) v → Sub h h' → Q v h') : W prog w A (call (.ref 146) [.ref x, .str (nm u d) t]) h Q := by
  obtain ⟨dx, hsh, tk, n, _, _, hI⟩ := hx
  refine W.call_def (n := 3) (fd := fd146.1) (body := b146.1) (binds := [("self", .ref x), ("name", .str (nm u d) t), ("default", .none)]) R G hO (View.all h) hO.sub (o146.2 w.params) fd146.2 (c146 _) b146.2 (fun s e => binds_K (by rw [e]; exact G.X.keeps hO.sub) rfl (o139.2 w.params) rfl rfl rfl) ?_ ?_ ?_
  · intro L
    exact fun y hy => .inl (by
      simp only [List.mem_cons, List.not_mem_nil, or_false] at hy
      rcases hy with rfl | rfl | rfl <;> rfl)
  · intro L; exact fun q hq => nomatch hq
  intro L h₁ hL hs S
  have R' := R.deeper (env := callEnvC fd146.val L 146)
  have hh := R'.hh
  have I₁ : W.InstAt h₁ x (instObj 199 dx) 199 (some (dictOf [⟨hsh, .str "_headers" tk, .ref hl⟩] n)) := ⟨hs _ _ hI.1, hI.2, hI.3, hs _ _ hI.4⟩
  refine W.execs_cons ?_
  repeat walk_at "w"
  refine W.method_inst (C := 199) G S I₁ (k199_getc _) (k199_conv _) (k98_fn _) rfl ?_
  refine W.callKW G (k98_keep _) rfl ?_
  repeat walk_at "w"
  refine W.method_lower ?_
  repeat walk_at "w"
  refine W.lower_nm hd fun t₁ => ?_
  repeat walk_at "w"
  refine W.kw1 ?_
  repeat walk_at "w"
  refine ⟨S.sO, ?_⟩
  refine conv_W (nm := true) G (R'.le (by decide)) S.orgH (safe_nm false d hd) fun h₂ hs₂ => ?_
  have S₂ := S.ext hs₂
  refine W.store S₂ fun h₃ S₃ => ?_
  refine W.execs_cons (W.for_ (W.attr (W.name S₃ rfl (W.getAttr_own (C := 199) (attr := none) G S₃ (I := ⟨S₃.v.keep _ _ hI.1, hI.2, hI.3, S₃.v.keep _ _ hI.4⟩) (k199_get _) (k199_dict _) (k199_find _) rfl rfl rfl (W.pyIter_list S₃ (hl_.sub S₃.v.keep).isList ?_)))))
  intro it h₄ hit hs₄ S₄
  refine Go.list (items := as.map .ref) (fun i F m news => news = [] ∧ Sub h F ∧ (∃ t, m "name" = some (.str (nm false d) t)) ∧ m "default" = some .none ∧ findE d es = findE d (es.drop i)) hh ?_ ?_ ?_ S₄ ⟨rfl, fun _ _ e => e, ⟨t₁, rfl⟩, rfl, rfl⟩ (.inr ⟨_, _, _, rfl⟩)
  · rintro i F m news h ob ⟨rfl, hF, _⟩ S
    exact (hl_.sub fun b o e => S.v.keep b o (hF b o e)).isList
  · rintro i v F m news h₃ hv ⟨rfl, hF, ⟨t₂, hmn⟩, hmd, hfe⟩ S₃
    have hsF : Sub h h₃ := fun b o e => S₃.v.keep b o (hF b o e)
    obtain ⟨a, ha, rfl⟩ : ∃ a, as[i]? = some a ∧ v = .ref a := by
      rw [List.getElem?_map] at hv
      cases q : as[i]? with
      | none => rw [q] at hv; cases hv
      | some a => rw [q] at hv; exact ⟨a, rfl, (Option.some.inj hv).symm⟩
    have hlt : i < es.length := hp.1 ▸ (List.getElem?_eq_some_iff.mp ha).1
    have hki : es[i]? = some es[i] := List.getElem?_eq_getElem hlt
    obtain ⟨_, hd1, hd2, t₃, t₄, hT⟩ := hp.2 i a _ ha hki
    have hdrop : es.drop i = es[i] :: es.drop (i + 1) := List.drop_eq_getElem_cons hlt
    rw [hdrop] at hfe
    generalize es[i] = ee at *
    refine W.assign_tup2 hh S₃ (hT.sub hsF) fun h₄ S₄ => ?_
    have hs₄ : Sub h h₄ := fun b o e => S₄.v.keep b o (hF b o e)
    refine W.execs_cons ?_
    repeat walk_at "w"
    refine W.method_lower ?_
    repeat walk_at "w"
    refine W.lower_nm hd1 fun t₅ => W.name S₄ hmn (W.eq_str ?_)
    rw [nm_eq _ _ hd1 hd]
    repeat walk_at "w"
    cases hq : decide (ee.2.1 = d) with
    | true =>
      repeat walk_at "w"
      refine q _ _ ?_ hs₄
      have : findE d es = some ee.2.2 := by
        rw [hfe]; unfold findE
        rw [List.find?_cons_of_pos (by simpa using hq)]; rfl
      rw [this]; exact ⟨t₄, rfl⟩
    | false =>
      repeat walk_at "w"
      refine ⟨F, _, [], ?_, S₄⟩
      refine ⟨rfl, hF, ⟨t₂, hmn⟩, hmd, ?_⟩
      rw [hfe]; unfold findE
      rw [List.find?_cons_of_neg (by simpa using hq)]
  · rintro F m news h₃ ⟨rfl, hF, ⟨t₂, hmn⟩, hmd, hfe⟩ S₃
    refine W.execs_cons (W.ret (W.name S₃ hmd ?_))
    refine q _ _ ?_ fun b o e => S₃.v.keep b o (hF b o e)
    rw [hfe, List.length_map, hp.1, List.drop_length]; exact rfl

theorem getitem_W {x hl : Addr} {lo lo' : Nat} {as : List Addr} {es : List Ent} {u : Bool} {d : Nat} {t : Tok} {Q : Value → Heap → Prop} (G : Good (KK w.params) p loose mg mb O) (R : Room A 5) (hO : Org O h)
    (hx : HeadAt lo h x hl) (hl_ : LAt h hl (as.map .ref)) (hp : PairsAt lo' h as es) (hd : d < 4)
    (q : ∀ v h', valOf (findE d es) v → Sub h h' → Q v h') : W prog w A (call (.ref 124) [.ref x, .str (nm u d) t]) h Q := by
  refine W.call_def (n := 4) (fd := fd124.1) (body := b124.1) (binds := [("self", .ref x), ("name", .str (nm u d) t)]) R G hO (View.all h) hO.sub (o124.2 w.params) fd124.2 (c124 _) b124.2 (fun s e => BindsTo.of_eq rfl) ?_ ?_ ?_
  · intro L
    exact fun y hy => .inl (by
      simp only [List.mem_cons, List.not_mem_nil, or_false] at hy
      rcases hy with rfl | rfl <;> rfl)
  · intro L; exact fun q hq => nomatch hq
  intro L h₁ hL hs S
  have R' := R.deeper (env := callEnvC fd124.val L 124)
  have hx' := hx
  obtain ⟨dx, hsh, tk, n, _, _, hI⟩ := hx'
  refine W.execs_cons ?_
  repeat walk_at "w"
  refine W.method_inst (C := 199) G S ⟨hs _ _ hI.1, hI.2, hI.3, hs _ _ hI.4⟩ (k199_getg _) (k199_get_ _) (k146_fn _) rfl ?_
  refine W.callK G (k146_keep _) ?_
  repeat walk_at "w"
  refine ⟨S.sO, get_W G R' S.orgH (hx.mono (fun b o _ e => hs b o e) (Nat.le_refl _)) (hl_.sub hs) (hp.mono (fun b o _ e => hs b o e) (Nat.le_refl _)) hd fun v h₂ hv hs₂ => ?_⟩
  exact q v h₂ hv fun b o e => hs₂ b o (hs b o e)
end

-- C4
section
variable {prog : Program} {w : World} {A : Around} {O h : Heap} {p : Program} {loose : List Str} {mg mb : Str → Option Value}
def dropE (d : Nat) (es : List Ent) : List Ent := es.filter fun e => !decide (e.2.1 = d)
set_option maxHeartbeats 2000000 in
theorem del_W {x hl : Addr} {F₀ : Heap} {lo : Nat} {as : List Addr} {es : List Ent} {u : Bool} {d : Nat} {t : Tok} {Q : Value → Heap → Prop} (G : Good (KK w.params) p loose mg mb O) (R : Room A 4) (hO : Org O (h.hide hl)) (hhl : hl < h.objs.size)
    (hx : HeadAt lo (h.hide hl) x hl) (hl_ : LAt h hl (as.map .ref)) (hp : PairsAt lo F₀ as es) (hF₀ : Sub F₀ (h.hide hl)) (hd : d < 4) (hlen : es.length ≤ 100)
    (q : ∀ h' as', Sub (h.hide hl) h' → PairsAt lo F₀ as' (dropE d es) → LAt h' hl (as'.map .ref) → Q .none h') : W prog w A (call (.ref 117) [.ref x, .str (nm u d) t]) h Q := by
  obtain ⟨dx, hsh, tk, n, _, _, hI⟩ := hx
  have hsub : Sub (h.hide hl) h := fun b o e => Heap.of_hide e
  have hO' : Org O h := ⟨fun b o e => hsub b o (hO.sub b o e), by have := hO.le; rw [Heap.hide_size] at this; exact this⟩
  have V : View (h.hide hl) [(hl, .lst (as.map .ref))] h := ⟨hsub, fun y hy => by rw [List.mem_singleton] at hy; subst hy; exact hl_, fun y hy => by rw [List.mem_singleton] at hy; subst hy; exact Heap.hide_self _ _, List.nodup_cons.mpr ⟨by simp, List.nodup_nil⟩⟩
  refine W.call_def (n := 3) (fd := fd117.1) (body := b117.1) (binds := [("self", .ref x), ("name", .str (nm u d) t)]) R G hO' V hO.sub (o117.2 w.params) fd117.2 (c117 _) b117.2 (fun s e => BindsTo.of_eq rfl) ?_ ?_ ?_
  · intro L y hy
    simp only [List.mem_cons, List.not_mem_nil, or_false] at hy
    rcases hy with rfl | rfl
    · exact .inl rfl
    · exact .inr ⟨rfl, rfl⟩
  · intro L q hq
    have e : cellsFrom L fd117.1.scope.names [] = [(("name" : Str), L)] := by with_unfolding_all rfl
    rw [e] at hq ⊢
    rw [List.mem_singleton] at hq
    subst hq; with_unfolding_all rfl
  intro L h₁ hL hs S
  have R' := R.deeper (env := callEnvC fd117.val L 117)
  have hh := R'.hh
  replace S : St O (h.hide hl) L (bindL (callEnvC fd117.val L 117).kindOf [("self", .ref x), ("name", .str (nm u d) t)] fun _ => none) [(L + 1, .cell (some (.str (nm u d) t))), (hl, .lst (as.map .ref))] h₁ := S
  refine W.execs_cons ?_
  repeat walk_at "w"
  refine W.method_inst (C := 199) G S ⟨S.v.keep _ _ hI.1, hI.2, hI.3, S.v.keep _ _ hI.4⟩ (k199_getc _) (k199_conv _) (k98_fn _) rfl ?_
  refine W.callKW G (k98_keep _) rfl ?_
  repeat walk_at "w"
  refine W.method_lower ?_
  repeat walk_at "w"
  refine W.lower_nm hd fun t₁ => ?_
  repeat walk_at "w"
  refine W.kw1 ?_
  repeat walk_at "w"
  refine ⟨S.sO, ?_⟩
  refine conv_W (nm := true) G (R'.le (by decide)) S.orgH (safe_nm false d hd) fun h₂ hs₂ => ?_
  have S₂ := S.ext hs₂
  refine W.storeCell (i := 0) S₂ rfl rfl fun h₃ S₃ => ?_
  replace S₃ : St O (h.hide hl) L _ [(L + 1, .cell (some (.str (nm false d) t₁))), (hl, .lst (as.map .ref))] h₃ := S₃
  refine W.execs_cons ?_
  repeat walk_at "w"
  refine W.comp (O := O) (L := L) (cl := [(("name" : Str), L + 1)]) rfl (by decide) rfl (by decide) ?_
  have hlne : hl ≠ L := fun z => by subst z; exact absurd hhl (by rw [hL]; exact Nat.lt_irrefl _)
  have hL₃ : LAt h₃ hl (as.map .ref) := S₃.get (i := 1) rfl
  refine W.attr (W.name S₃ rfl (W.getAttr_own (C := 199) (attr := none) G S₃ (I := ⟨S₃.v.keep _ _ hI.1, hI.2, hI.3, S₃.v.keep _ _ hI.4⟩) (k199_get _) (k199_dict _) (k199_find _) rfl rfl rfl (W.pyIter_list S₃ hL₃.isList ?_)))
  intro it h₄ hit hs₄ S₄
  have hL₄ : LAt h₄ hl (as.map .ref) := S₄.get (i := 2) rfl
  have hitne : hl ≠ it := by
    have := hhl; rw [hL] at this; exact Nat.ne_of_lt (Nat.lt_trans this hit)
  have hcell : h₄.IsCell (L + 1) (some (.str (nm false d) t₁)) := S₄.get (i := 1) rfl
  have hcne : L + 1 ≠ it := by
    have := S₄.v.nd
    simp only [List.map_cons, List.nodup_cons, List.mem_cons, not_or] at this
    exact fun z => this.1.1 z.symm
  refine ⟨_, _, _, CompIn.list hh S₄ hL₄ hitne (.inl ⟨_, _, rfl⟩) (fun D C => compTree_if) (fun C i F' ys => ∃ as', ys = as'.map .ref ∧ PairsAt lo F₀ as' (dropE d (es.take i))) ?_ ?_ ?_⟩
  · intro C F₂ _ _ _
    exact ⟨[], rfl, rfl, fun i a e h => by simp at h⟩
  · rintro C D i v F' m ys h₅ hLD hDC hsz hv hold ⟨as', rfl, hp'⟩ hyl S₅ Qh qh
    obtain ⟨a, ha, rfl⟩ : ∃ a, as[i]? = some a ∧ v = .ref a := by
      rw [List.getElem?_map] at hv
      cases q : as[i]? with
      | none => rw [q] at hv; cases hv
      | some a => rw [q] at hv; exact ⟨a, rfl, (Option.some.inj hv).symm⟩
    have hlt : i < es.length := hp.1 ▸ (List.getElem?_eq_some_iff.mp ha).1
    have hki : es[i]? = some es[i] := List.getElem?_eq_getElem hlt
    have hpi := hp.2 i a _ ha hki
    obtain ⟨hlo, hd1, hd2, t₃, t₄, hT⟩ := hpi
    have htake : es.take (i + 1) = es.take i ++ [es[i]] := by rw [List.take_add_one, hki]; rfl
    have hFF : Sub (h.hide hl) F' := fun b o e => hold b o (S₄.v.keep b o e) (fun z => by
      subst z
      have := S₄.v.off _ (.head _)
      rw [e] at this; cases this)
    refine W.assign_name (W.store S₅ fun h₆ S₆ => ?_)
    have hT₆ : TAt h₆ a _ := hT.sub fun b o e => S₆.v.keep b o (hFF b o (hF₀ b o e))
    show ifTail _ _ _ _ _ _ _ _ _
    unfold ifTail
    repeat walk_at "w"
    refine W.item_tup hT₆ (by decide) rfl ?_ (by decide)
    refine W.method_lower ?_
    repeat walk_at "w"
    refine W.lower_nm hd1 fun t₅ => ?_
    refine W.cellAt (IsCell.sub (IsCell.old hcell hold hcne) S₆.v.keep) rfl (W.ne_str ?_)
    have hne : (nm false es[i].2.1 != nm false d) = !decide (es[i].2.1 = d) := by
      show (!(nm false es[i].2.1 == nm false d)) = _
      rw [nm_eq _ _ hd1 hd]
    rw [hne]
    repeat walk_at "w"
    cases hq : decide (es[i].2.1 = d) with
    | true =>
      show Qh h₆
      refine qh F' _ _ h₆ (fun _ _ e => e) ⟨as', rfl, ?_⟩ (Nat.le_succ_of_le hyl) S₆
      rw [htake]; unfold dropE at hp' ⊢
      rw [List.filter_append, List.filter_cons, hq]; simpa using hp'
    | false =>
      show W _ _ _ _ _ _
      repeat walk_at "w"
      refine W.append (i := 1) S₆ rfl (by have := hyl; simp at this ⊢; exact Nat.le_trans this (Nat.le_trans (Nat.le_of_lt hlt) (Nat.le_trans hlen (by decide)))) fun h₇ S₇ => ?_
      refine qh F' _ (as'.map .ref ++ [.ref a]) h₇ (fun _ _ e => e) ⟨as' ++ [a], by simp, ?_⟩ (by simp at hyl ⊢; exact hyl) S₇
      have e0 : dropE d (es.take (i + 1)) = dropE d (es.take i) ++ [es[i]] := by
        rw [htake]; unfold dropE
        rw [List.filter_append, List.filter_cons, hq]; simp
      rw [e0]
      refine ⟨by simp [hp'.1], fun j b e hb he => ?_⟩
      by_cases hj : j < as'.length
      · rw [List.getElem?_append_left hj] at hb
        rw [List.getElem?_append_left (hp'.1 ▸ hj)] at he
        exact hp'.2 j b e hb he
      · have hj1 : j = as'.length := by
          have := (List.getElem?_eq_some_iff.mp hb).1
          simp at this; omega
        subst hj1
        have hb' : a = b := by simpa using hb
        have he' : es[i] = e := by
          rw [hp'.1, List.getElem?_append_right (Nat.le_refl _)] at he; simpa using he
        subst hb'; subst he'
        exact ⟨hlo, hd1, hd2, t₃, t₄, hT⟩
  · rintro D C F' ys hLD hDC hsz hold ⟨as', rfl, hp'⟩ hLC F'' h₅ hs1 hs2 S₅
    rw [List.length_map, hp.1, List.take_length] at hp'
    refine W.attr (W.name S₅ rfl (W.getAttr_own (C := 199) (attr := none) G S₅ (I := ⟨S₅.v.keep _ _ (hs1 _ _ hI.1), hI.2, hI.3, S₅.v.keep _ _ (hs1 _ _ hI.4)⟩) (k199_get _) (k199_dict _) (k199_find _) rfl rfl rfl ?_))
    refine W.sliceE (W.part_none (W.part_none (W.part_none (W.newSlice S₅ fun sl h₆ hs₆ S₆ hsl => ?_))))
    have hlen' : as'.length ≤ 100 := by
      rw [hp'.1]; exact Nat.le_trans (List.length_filter_le _ _) hlen
    refine W.setAll (i := 2) S₆ rfl hsl (S₆.get (i := 0) rfl) ?_ ?_ fun h₇ S₇ => ?_
    · have := hhl; rw [hL] at this; exact Nat.ne_of_lt (Nat.lt_trans this hLD)
    · rw [List.length_map, List.length_map, hp.1]
      exact Nat.le_trans (Nat.add_le_add hlen hlen') (by decide)
    · refine W.execs_nil ?_
      exact q h₇ as' (fun b o e => S₇.v.keep b o (hs1 b o e)) hp' (S₇.get (i := 2) rfl)
end

-- C5
theorem k199_noSeq (P) : noSeq (KK P) 199 = true := by kernel_rfl
theorem k199_del (P) : findIn (KK P) (.ref 199) "__delitem__" = some (some (.ref 117)) := by kernel_rfl
theorem k117_fn (P) : isFn (KK P) (.ref 117) = true := by kernel_rfl
theorem k199_makes (P) : makesIn (KK P) 199 = true := by kernel_rfl
theorem k199_init (P) : findIn (KK P) (.ref 199) "__init__" = some (some (.ref 91)) := by kernel_rfl
theorem k91_type (P) : typeIn (KK P) (.ref 91) = some (.type "function") := by kernel_rfl
theorem k199_setattr (P) : findIn (KK P) (.ref 199) "__setattr__" = some (some (.builtin "object.__setattr__")) := by kernel_rfl
theorem k199_over (P) : plainOver (KK P) 199 = true := by kernel_rfl
theorem k199_taker (P) : takerIn (KK P) 199 "_headers" = some none := by kernel_rfl
noncomputable def o84 : { o : Obj // ∀ P, (KK P).lookup 84 = some o } := ⟨_, fun P => rfl⟩
theorem n_list (P) : nsIn (KK P) mainGlobals "list" = some none := by kernel_rfl
theorem bo_list : bootBuiltins "list" = some (.type "list") := by kernel_rfl
section
variable {prog : Program} {w : World} {A : Around} {O h : Heap} {p : Program} {loose : List Str} {mg mb : Str → Option Value}
theorem PairsAt.push {lo : Nat} {h : Heap} {as : List Addr} {es : List Ent} {a : Addr} {e : Ent} (x : PairsAt lo h as es) (h1 : lo ≤ a) (h2 : e.2.1 < 4) (h3 : e.2.2 < 4) (t u : Tok) (hT : TAt h a [.str (nm e.1 e.2.1) t, .str (vl e.2.2) u]) : PairsAt lo h (as ++ [a]) (es ++ [e]) := by
  refine ⟨by simp [x.1], fun j b e' hb he => ?_⟩
  by_cases hj : j < as.length
  · rw [List.getElem?_append_left hj] at hb
    rw [List.getElem?_append_left (x.1 ▸ hj)] at he
    exact x.2 j b e' hb he
  · have hj1 : j = as.length := by
      have := (List.getElem?_eq_some_iff.mp hb).1
      simp at this; omega
    subst hj1
    have hb' : a = b := by simpa using hb
    have he' : e = e' := by
      rw [x.1, List.getElem?_append_right (Nat.le_refl _)] at he; simpa using he
    subst hb'; subst he'
    exact ⟨h1, h2, h3, t, u, hT⟩
set_option maxHeartbeats 2000000 in
theorem set_W {x hl : Addr} {F₀ : Heap} {lo : Nat} {as : List Addr} {es : List Ent} {u : Bool} {d v : Nat} {t tv : Tok} {Q : Value → Heap → Prop} (G : Good (KK w.params) p loose mg mb O) (R : Room A 6) (hO : Org O (h.hide hl)) (hhl : hl < h.objs.size)
    (hx : HeadAt lo (h.hide hl) x hl) (hl_ : LAt h hl (as.map .ref)) (hp : PairsAt lo F₀ as es) (hF₀ : Sub F₀ (h.hide hl)) (hd : d < 4) (hv : v < 4) (hlen : es.length ≤ 100)
    (q : ∀ h' as' a, Sub (h.hide hl) h' → PairsAt lo F₀ as' (dropE d es) → h.objs.size ≤ a → TAt h' a [.str (nm u d) t, .str (vl v) tv] → LAt h' hl ((as' ++ [a]).map .ref) → Q .none h') : W prog w A (call (.ref 112) [.ref x, .str (nm u d) t, .str (vl v) tv]) h Q := by
  have hx0 := hx
  obtain ⟨dx, hsh, tk, n, _, _, hI⟩ := hx0
  have hsub : Sub (h.hide hl) h := fun b o e => Heap.of_hide e
  have hO' : Org O h := ⟨fun b o e => hsub b o (hO.sub b o e), by have := hO.le; rw [Heap.hide_size] at this; exact this⟩
  have V : View (h.hide hl) [(hl, .lst (as.map .ref))] h := ⟨hsub, fun y hy => by rw [List.mem_singleton] at hy; subst hy; exact hl_, fun y hy => by rw [List.mem_singleton] at hy; subst hy; exact Heap.hide_self _ _, List.nodup_cons.mpr ⟨by simp, List.nodup_nil⟩⟩
  refine W.call_def (n := 5) (fd := fd112.1) (body := b112.1) (binds := [("self", .ref x), ("name", .str (nm u d) t), ("val", .str (vl v) tv)]) R G hO' V hO.sub (o112.2 w.params) fd112.2 (c112 _) b112.2 (fun s e => BindsTo.of_eq rfl) ?_ ?_ ?_
  · intro L
    exact fun y hy => .inl (by
      simp only [List.mem_cons, List.not_mem_nil, or_false] at hy
      rcases hy with rfl | rfl | rfl <;> rfl)
  · intro L; exact fun q hq => nomatch hq
  intro L h₁ hL hs S
  have R' := R.deeper (env := callEnvC fd112.val L 112)
  have hh := R'.hh
  replace S : St O (h.hide hl) L (bindL (callEnvC fd112.val L 112).kindOf [("self", .ref x), ("name", .str (nm u d) t), ("val", .str (vl v) tv)] fun _ => none) [(hl, .lst (as.map .ref))] h₁ := S
  have hFh : Sub (h.hide hl) (h₁.hide hl) := sub_hide S.v.keep (Heap.hide_self _ _)
  have hsz : h.objs.size ≤ h₁.objs.size := by rw [hL]; exact Nat.le_of_lt S.lt
  refine W.execs_cons ?_
  repeat walk_at "w"
  refine W.delItem_inst (C := 199) (od := some (dictOf [⟨hsh, .str "_headers" tk, .ref hl⟩] n)) G S ⟨S.v.keep _ _ hI.1, hI.2, hI.3, S.v.keep _ _ hI.4⟩ (k199_noSeq _) (k199_del _) (k117_fn _) ?_
  refine del_W (lo := lo) (es := es) G (R'.le (by decide)) ⟨fun b o e => hFh b o (hO.sub b o e), by rw [Heap.hide_size]; exact S.orgH.le⟩ (Nat.lt_of_lt_of_le hhl hsz) (hx.mono (fun b o _ e => hFh b o e) (Nat.le_refl _)) (S.get (i := 0) rfl) hp (fun b o e => hFh b o (hF₀ b o e)) hd hlen fun h₂ as₂ hs₂ hp₂ hl₂ => ?_
  obtain ⟨F₂, hF₂, S₂, _, _⟩ := S.backBut (i := 0) rfl hs₂ (y := .lst (as₂.map .ref)) hl₂
  replace S₂ : St O F₂ L _ [(hl, .lst (as₂.map .ref))] h₂ := S₂
  refine W.execs_cons ?_
  repeat walk_at "w"
  refine W.getAttr_own (C := 199) (attr := none) G S₂ (I := ⟨S₂.v.keep _ _ (hF₂ _ _ hI.1), hI.2, hI.3, S₂.v.keep _ _ (hF₂ _ _ hI.4)⟩) (k199_get _) (k199_dict _) (k199_find _) rfl rfl rfl ?_
  refine W.m_append hl₂ ?_
  repeat walk_at "w"
  refine W.method_inst (C := 199) G S₂ ⟨S₂.v.keep _ _ (hF₂ _ _ hI.1), hI.2, hI.3, S₂.v.keep _ _ (hF₂ _ _ hI.4)⟩ (k199_getc _) (k199_conv _) (k98_fn _) rfl ?_
  refine W.callKW G (k98_keep _) rfl ?_
  repeat walk_at "w"
  refine W.kw1 ?_
  repeat walk_at "w"
  refine ⟨S₂.sO, ?_⟩
  refine conv_W (nm := true) G (R'.le (by decide)) S₂.orgH (safe_nm u d hd) fun h₃ hs₃ => ?_
  have S₃ := S₂.ext hs₃
  repeat walk_at "w"
  refine W.method_inst (C := 199) G S₃ ⟨S₃.v.keep _ _ (hF₂ _ _ hI.1), hI.2, hI.3, S₃.v.keep _ _ (hF₂ _ _ hI.4)⟩ (k199_getc _) (k199_conv _) (k98_fn _) rfl ?_
  refine W.callKW G (k98_keep _) rfl ?_
  repeat walk_at "w"
  refine W.kw1 ?_
  repeat walk_at "w"
  refine ⟨S₃.sO, ?_⟩
  refine conv_W (nm := false) G (R'.le (by decide)) S₃.orgH (safe_vl v hv) fun h₄ hs₄ => ?_
  have S₄ := S₃.ext hs₄
  repeat walk_at "w"
  refine W.newTuple S₄ fun a h₅ hLa hs₅ S₅ => ?_
  repeat walk_at "w"
  have hl100 : as₂.length ≤ 100 := by rw [hp₂.1]; exact Nat.le_trans (List.length_filter_le _ _) hlen
  refine W.append (i := 1) S₅ rfl (by rw [List.length_map]; exact Nat.le_trans hl100 (by decide)) fun h₆ S₆ => ?_
  refine W.execs_nil ?_
  refine q h₆ as₂ a (fun b o e => S₆.v.keep b o (hF₂ b o e)) hp₂ (by rw [hL]; exact Nat.le_of_lt hLa) (S₆.get (i := 0) rfl) ?_
  have : LAt h₆ hl (as₂.map .ref ++ [.ref a]) := S₆.get (i := 1) rfl
  rw [List.map_append]; exact this

set_option maxHeartbeats 2000000 in
theorem headers_W {Q : Value → Heap → Prop} (G : Good (KK w.params) p loose mg mb O) (R : Room A 3) (hO : Org O h)
    (q : ∀ x hl h', Sub h h' → h.objs.size ≤ hl → HeadAt h.objs.size (h'.hide hl) x hl → LAt h' hl [] → Q (.ref x) h') : W prog w A (call (.ref 199) []) h Q := by
  have s1 : Sub h (h.push emptyDict) := fun b o e => Heap.get?_push_of_some _ e
  have s2 : Sub (h.push emptyDict) ((h.push emptyDict).push (instObj 199 h.objs.size)) := fun b o e => Heap.get?_push_of_some _ e
  have hD : ((h.push emptyDict).push (instObj 199 h.objs.size)).get? h.objs.size = some (dictOf [] 0) := s2 _ _ (Heap.get?_push_size _ rfl)
  have hX : ((h.push emptyDict).push (instObj 199 h.objs.size)).get? (h.objs.size + 1) = some (instObj 199 h.objs.size) := by
    have := Heap.get?_push_size (h.push emptyDict) (o := instObj 199 h.objs.size) rfl
    rw [Heap.size_push] at this; exact this
  refine W.of_code (CGo.make G hO.sub (k199_makes _) (k199_init _) (k91_type _) ?_)
  have hsz₂ : ((h.push emptyDict).push (instObj 199 h.objs.size)).objs.size = h.objs.size + 2 := by rw [Heap.size_push, Heap.size_push]
  generalize hg : (h.push emptyDict).push (instObj 199 h.objs.size) = h₂ at hD hX s2 hsz₂
  have s12 : Sub h h₂ := fun b o e => s2 b o (s1 b o e)
  have hO₂ : Org O h₂ := ⟨fun b o e => s12 b o (hO.sub b o e), by rw [hsz₂]; have := hO.le; omega⟩
  have V : View (h₂.hide h.objs.size) [(h.objs.size, .raw (dictOf [] 0))] h₂ := ⟨fun b o e => Heap.of_hide e, fun y hy => by rw [List.mem_singleton] at hy; subst hy; exact hD, fun y hy => by rw [List.mem_singleton] at hy; subst hy; exact Heap.hide_self _ _, List.nodup_cons.mpr ⟨by simp, List.nodup_nil⟩⟩
  have hsF : Sub h (h₂.hide h.objs.size) := fun b o e => (Heap.hide_ne h₂ (Nat.ne_of_lt (Heap.lt_size e))).trans (s12 b o e)
  refine CGo.call_def (n := 1) (fd := fd91.1) (body := b91.1) (binds := [("self", .ref (h.objs.size + 1)), ("headers", .none)]) R.under G hO₂ V (fun b o e => hsF b o (hO.sub b o e)) (o91.2 w.params) fd91.2 (c91 _) b91.2 (fun s e => binds_K (by rw [e]; exact G.X.keeps hO₂.sub) rfl (o84.2 w.params) rfl rfl rfl) ?_ ?_ ?_
  · intro L
    exact fun y hy => .inl (by
      simp only [List.mem_cons, List.not_mem_nil, or_false] at hy
      rcases hy with rfl | rfl <;> rfl)
  · intro L; exact fun q hq => nomatch hq
  intro L h₃ hL hs S
  have hsz : (h₂.hide h.objs.size).objs.size ≤ L := by rw [Heap.hide_size, hL]; exact Nat.le_refl _
  replace S : St O (h₂.hide h.objs.size) L (bindL (callEnvC fd91.val L 91).kindOf [("self", .ref (h.objs.size + 1)), ("headers", .none)] fun _ => none) [(h.objs.size, .raw (dictOf [] 0))] h₃ := S
  have hh : ((A.under (.builtin "type.__call__" ⟨[.ref 199], []⟩)).deeper (callEnvC fd91.val L 91)).handled = none := R.hh
  refine W.execs_cons ?_
  repeat walk_at "w"
  refine W.isNot_none ?_
  repeat walk_at "w"
  show W _ _ _ _ _ _
  repeat walk_at "w"
  refine W.newList S fun l h₄ hl hs₄ S₄ => ?_
  refine W.store S₄ fun h₅ S₅ => ?_
  refine W.execs_cons ?_
  repeat walk_at "w"
  refine W.bltn G S₅.sO (n_type _) bo_type ?_
  repeat walk_at "w"
  have hl₅ : LAt h₅ l [] := S₅.get (i := 0) rfl
  refine W.type_of (T := "list") (fun _ _ _ _ => hl₅.isList.typeIs) rfl ?_
  refine W.bltn G S₅.sO (n_list _) bo_list (W.isNot_type_same ?_)
  repeat walk_at "w"
  refine W.setAttr1 (C := 199) (ox := instObj 199 h.objs.size) G S₅ hsz ⟨S₅.v.keep _ _ ((Heap.hide_ne h₂ (Nat.ne_of_gt (Nat.lt_succ_self _))).trans hX), rfl, rfl, S₅.get (i := 1) rfl⟩ rfl (k199_setattr _) (k199_over _) (k199_taker _) (k199_dict _) rfl ?_ ?_
  · intro tk; exact Nat.le_of_ble_eq_true rfl
  intro tk h₆ S₆
  refine W.execs_cons ?_
  repeat walk_at "w"
  have hl₆ : LAt h₆ l [] := S₆.get (i := 0) rfl
  refine W.pyIter_list S₆ hl₆.isList ?_
  intro it h₇ hit hs₇ S₇
  refine Go.list (items := []) (fun i F m news => news = [(l, .lst []), (h.objs.size, .raw (dictOf (putL "_headers" (PyData.keyHash w.params "_headers") (.str "_headers" tk) (.ref l) []) (putN "_headers" [] 0)))] ∧ F = h₂.hide h.objs.size) hh ?_ ?_ ?_ S₇ ⟨rfl, rfl⟩ (.inr ⟨_, _, _, rfl⟩)
  · rintro i F m news h ob ⟨rfl, rfl⟩ S
    exact (show LAt h l [] from S.get (i := 1) rfl).isList
  · intro i v F m news h hv; simp at hv
  · rintro F m news h₈ ⟨rfl, rfl⟩ S₈
    refine W.execs_nil (W.execs_nil ⟨rfl, ?_⟩)
    have hlL : h.objs.size + 1 < l := Nat.lt_of_le_of_lt (by rw [← hL, hsz₂]; omega) hl
    refine q _ l h₈ (fun b o e => S₈.v.keep b o (hsF b o e)) (Nat.le_of_lt (Nat.lt_trans (Nat.lt_succ_self _) hlL)) ⟨h.objs.size, PyData.keyHash w.params "_headers", tk, putN "_headers" [] 0, Nat.le_refl _, Nat.le_succ _, ?_⟩ (S₈.get (i := 0) rfl)
    refine ⟨?_, rfl, rfl, ?_⟩
    · exact (Heap.hide_ne h₈ (Nat.ne_of_lt hlL)).trans (S₈.v.keep _ _ ((Heap.hide_ne h₂ (Nat.ne_of_gt (Nat.lt_succ_self _))).trans hX))
    · exact (Heap.hide_ne h₈ (Nat.ne_of_lt (Nat.lt_trans (Nat.lt_succ_self _) hlL))).trans (S₈.get (i := 1) rfl)

theorem items_W {x hl : Addr} {lo : Nat} {vs : List Value} {Q : Value → Heap → Prop} (G : Good (KK w.params) p loose mg mb O) (R : Room A 2) (hO : Org O h) (hx : HeadAt lo h x hl) (hl_ : LAt h hl vs) (hlen : vs.length ≤ 100)
    (q : ∀ l h', Sub h h' → h.objs.size ≤ l → LAt h' l vs → Q (.ref l) h') : W prog w A (call (.ref 163) [.ref x]) h Q := by
  obtain ⟨dx, hsh, tk, n, _, _, hI⟩ := hx
  refine W.call_def (n := 1) (fd := fd163.1) (body := b163.1) (binds := [("self", .ref x)]) R G hO (View.all h) hO.sub (o163.2 w.params) fd163.2 (c163 _) b163.2 (fun s e => BindsTo.of_eq rfl) ?_ ?_ ?_
  · intro L
    exact fun y hy => .inl (by
      simp only [List.mem_cons, List.not_mem_nil, or_false] at hy
      rcases hy with rfl; rfl)
  · intro L; exact fun q hq => nomatch hq
  intro L h₁ hL hs S
  replace S : St O h L (bindL (callEnvC fd163.val L 163).kindOf [("self", .ref x)] fun _ => none) [] h₁ := S
  refine W.execs_cons ?_
  repeat walk_at "w"
  refine W.getAttr_own (C := 199) (attr := none) G S (I := ⟨hs _ _ hI.1, hI.2, hI.3, hs _ _ hI.4⟩) (k199_get _) (k199_dict _) (k199_find _) rfl rfl rfl ?_
  refine W.sliceE (W.part_none (W.part_none (W.part_none (W.newSlice S fun sl h₂ hs₂ S₂ hsl => ?_))))
  have hl₂ : LAt h₂ hl vs := hl_.sub S₂.v.keep
  refine W.slice_tail S₂ hl₂.isList hsl .none .none .none (by decide) (by simp; exact Nat.le_trans hlen (by decide)) fun a h₃ ha hs₃ S₃ => ?_
  refine q a h₃ S₃.v.keep (by rw [hL]; exact Nat.le_of_lt ha) ?_
  have : LAt h₃ a (slicePick vs.toArray none none none).toList := S₃.get (i := 0) rfl
  rw [slicePick_all] at this
  exact this
end

-- C6
noncomputable section
def o227 : { o : Obj // ∀ P, (KK P).lookup 227 = some o } := ⟨_, fun P => rfl⟩
def fd227 : { fd : FuncData // o227.1.data = .func fd } := ⟨_, rfl⟩
def b227 : { b : List Stmt // fd227.1.body = .stmts b } := ⟨_, rfl⟩
theorem c227 (P) : codeIn (KK P) fd227.1.code fd227.1.qualname = true := by kernel_rfl
end
theorem n_range (P) : nsIn (KK P) mainGlobals "range" = some none := by kernel_rfl
theorem bo_range : bootBuiltins "range" = some (.type "range") := by kernel_rfl

/-- a list of ints -/
def IL (h : Heap) (a : Addr) (ns : List Int) : Prop := ∃ vs, LAt h a vs ∧ IntsAre vs ns
theorem IL.sub {h h' : Heap} {a : Addr} {ns : List Int} (x : IL h a ns) (hs : Sub h h') : IL h' a ns := let ⟨vs, l, i⟩ := x; ⟨vs, l.sub hs, i⟩
theorem IL.from {lo : Nat} {h h' : Heap} {a : Addr} {ns : List Int} (x : IL h a ns) (hs : SubFrom lo h h') (hl : lo ≤ a) : IL h' a ns := let ⟨vs, l, i⟩ := x; ⟨vs, l.from hs hl, i⟩
def rowOf (Rk : Nat → Nat → Int) (k : Nat) : List Int := [Rk k 0, Rk k 1, Rk k 2, Rk k 3]
def RanksAt (lo : Nat) (h : Heap) (r : Addr) (Rk : Nat → Nat → Int) : Prop := ∃ rows : List Addr, rows.length = 8 ∧ lo ≤ r ∧ LAt h r (rows.map .ref) ∧ ∀ (k : Nat) (a : Addr), rows[k]? = some a → lo ≤ a ∧ IL h a (rowOf Rk k)
theorem RanksAt.mono {lo lo' : Nat} {h h' : Heap} {r : Addr} {Rk : Nat → Nat → Int} (x : RanksAt lo h r Rk) (hs : SubFrom lo h h') (hl : lo' ≤ lo) : RanksAt lo' h' r Rk :=
  let ⟨rows, h1, h2, h3, h4⟩ := x; ⟨rows, h1, Nat.le_trans hl h2, h3.from hs h2, fun k a e => ⟨Nat.le_trans hl (h4 k a e).1, (h4 k a e).2.from hs (h4 k a e).1⟩⟩
section
variable {prog : Program} {w : World} {A : Around} {O h : Heap} {p : Program} {loose : List Str} {mg mb : Str → Option Value}
theorem W.item_IL {value slice : Expr} {a : Addr} {ns : List Int} {k : Int} {u : Tok} {v : Int} {Q : Value → Heap → Prop} (hl : IL h a ns) (h0 : 0 ≤ k) (hx : ns[k.toNat]? = some v) (q : ∀ t, Q (.int v t) h) (hf : k < 2 ^ 63)
    (hs : subscripted slice false (.ref a) (.int k u) = operate [.ref a, .int k u] (getItem (.ref a) (.int k u)) := by with_unfolding_all rfl) : W prog w A (subscriptTail value slice (.ref a) (.int k u)) h Q := by
  obtain ⟨vs, l, i⟩ := hl
  have hk : k.toNat < vs.length := by rw [i.length]; exact (List.getElem?_eq_some_iff.mp hx).1
  obtain ⟨b, t, e1, e2⟩ := i.at k.toNat vs[k.toNat] (List.getElem?_eq_getElem hk)
  rw [hx] at e2
  cases e2
  exact W.item_list l h0 ((List.getElem?_eq_getElem hk).trans (congrArg some e1)) (q t) hf hs
theorem W.item_rank {value slice : Expr} {r : Addr} {lo : Nat} {Rk : Nat → Nat → Int} {k : Int} {u : Tok} {Q : Value → Heap → Prop} (hl : RanksAt lo h r Rk) (h0 : 0 ≤ k) (h8 : k < 8) (q : ∀ a, IL h a (rowOf Rk k.toNat) → Q (.ref a) h)
    (hs : subscripted slice false (.ref r) (.int k u) = operate [.ref r, .int k u] (getItem (.ref r) (.int k u)) := by with_unfolding_all rfl) : W prog w A (subscriptTail value slice (.ref r) (.int k u)) h Q := by
  obtain ⟨rows, h1, h2, h3, h4⟩ := hl
  have hk : k.toNat < rows.length := by omega
  exact W.item_list h3 h0 (by rw [List.getElem?_map, List.getElem?_eq_getElem hk]; rfl) (q _ (h4 _ _ (List.getElem?_eq_getElem hk)).2) (by omega) hs
theorem row_at (Rk : Nat → Nat → Int) (k : Nat) (j : Nat) (hj : j < 4) : (rowOf Rk k)[j]? = some (Rk k j) := four (P := fun j => (rowOf Rk k)[j]? = some (Rk k j)) rfl rfl rfl rfl j hj

def badB (Rk : Nat → Nat → Int) (pr : List Nat) (m w : Nat) : Bool := decide (Rk m w < Rk m (pr.getD m 0)) && decide (Rk (4 + w) m < Rk (4 + w) (pr.idxOf w))
def calmB (Rk : Nat → Nat → Int) (pr : List Nat) : Bool := (List.range 4).all fun m => (List.range 4).all fun w => !badB Rk pr m w
theorem perms_idx : ∀ pr ∈ perms4, ∀ w, w < 4 → pr[pr.idxOf w]? = some w ∧ (∀ k, k < pr.idxOf w → pr[k]? ≠ some w) ∧ pr.idxOf w < 4 ∧ pr.getD w 0 < 4 ∧ pr[w]? = some (pr.getD w 0) := by decide +kernel
set_option maxHeartbeats 4000000 in
theorem calm_W {r pl : Addr} {lo : Nat} {Rk : Nat → Nat → Int} {pr : List Nat} {Q : Value → Heap → Prop} (G : Good (KK w.params) p loose mg mb O) (R : Room A 2) (hO : Org O h) (hr : RanksAt lo h r Rk) (hp : IL h pl (pr.map Int.ofNat)) (hpr : pr ∈ perms4)
    (q : ∀ h', Sub h h' → Q (.bool (calmB Rk pr)) h') : W prog w A (call (.ref 227) [.ref r, .ref pl]) h Q := by
  refine W.call_def (n := 1) (fd := fd227.1) (body := b227.1) (binds := [("ranks", .ref r), ("pairing", .ref pl)]) R G hO (View.all h) hO.sub (o227.2 w.params) fd227.2 (c227 _) b227.2 (fun s _ => BindsTo.of_eq rfl) ?_ ?_ ?_
  · intro L
    exact fun y hy => .inl (by
      simp only [List.mem_cons, List.not_mem_nil, or_false] at hy
      rcases hy with rfl | rfl <;> rfl)
  · intro L; exact fun q hq => nomatch hq
  intro L h₁ hL hs S
  replace S : St O h L (bindL (callEnvC fd227.val L 227).kindOf [("ranks", .ref r), ("pairing", .ref pl)] fun _ => none) [] h₁ := S
  have R' := R.deeper (env := callEnvC fd227.val L 227)
  have hh := R'.hh
  generalize A.deeper (callEnvC fd227.val L 227) = A' at R' hh ⊢
  refine W.execs_cons ?_
  repeat walk_at "w"
  refine W.bltn G S.sO (n_range _) bo_range ?_
  repeat walk_at "w"
  refine W.call_range S fun rg h₂ _ _ _ hs₂ S₂ hrg => ?_
  refine W.pyIter_range (n := 4) S₂ hrg (by decide) fun it h₃ hit hs₃ S₃ => ?_
  refine Go.range (n := 4) (fun i F m news => news = [] ∧ Sub h F ∧ m "ranks" = some (.ref r) ∧ m "pairing" = some (.ref pl) ∧ ∀ k, k < i → ∀ j, j < 4 → badB Rk pr k j = false) hh ?_ ?_ S₃ ⟨rfl, fun _ _ e => e, rfl, rfl, fun k hk => by omega⟩
  · rintro i t F m news h₄ hi ⟨rfl, hF, hmr, hmp, hgood⟩ S₄
    refine W.store S₄ fun h₅ S₅ => ?_
    refine W.execs_cons ?_
    repeat walk_at "w"
    refine W.bltn G S₅.sO (n_range _) bo_range ?_
    repeat walk_at "w"
    refine W.call_range S₅ fun rg h₆ _ _ _ hs₆ S₆ hrg => ?_
    refine W.pyIter_range (n := 4) S₆ hrg (by decide) fun it2 h₇ hit2 hs₇ S₇ => ?_
    obtain ⟨_, _, _, hgi, hgi2⟩ := perms_idx pr hpr i hi
    refine Go.range (n := 4) (fun j F m news => news = [(it, .riter (i + 1) ((4 : Nat) - (i + 1)) 1)] ∧ Sub h F ∧ m "ranks" = some (.ref r) ∧ m "pairing" = some (.ref pl) ∧ m "m" = some (.int i t) ∧ ∀ j', j' < j → badB Rk pr i j' = false) hh ?_ ?_ S₇ ⟨rfl, hF, hmr, hmp, rfl, fun j hj => by omega⟩
    · rintro j t₂ F m news h₈ hj ⟨rfl, hF, hmr, hmp, hmm, hgj⟩ S₈
      obtain ⟨hx1, hx2, hx3, _, _⟩ := perms_idx pr hpr j hj
      refine W.store S₈ fun h₉ S₉ => ?_
      have hs₉ : Sub h h₉ := fun b o e => S₉.v.keep b o (hF b o e)
      have hr₉ : RanksAt lo h₉ r Rk := hr.mono (fun b o _ e => hs₉ b o e) (Nat.le_refl _)
      have hp₉ := hp.sub hs₉
      have ei : ((i : Int)).toNat = i := Int.toNat_natCast i
      have ej : ((j : Int)).toNat = j := Int.toNat_natCast j
      have e4j : (4 + (j : Int)).toNat = 4 + j := by omega
      refine W.execs_cons ?_
      repeat walk_at "w"
      refine W.item_rank hr₉ (by omega) (by omega) fun a1 hA1 => ?_
      rw [ei] at hA1
      repeat walk_at "w"
      refine W.item_IL hA1 (by omega) (by rw [ej]; exact row_at Rk i j hj) (fun t₃ => ?_) (by omega)
      repeat walk_at "w"
      refine W.item_rank hr₉ (by omega) (by omega) fun a2 hA2 => ?_
      rw [ei] at hA2
      repeat walk_at "w"
      refine W.item_IL hp₉ (by omega) (v := Int.ofNat (pr.getD i 0)) (by rw [ei, List.getElem?_map, hgi2]; rfl) (fun t₄ => ?_) (by omega)
      refine W.item_IL hA2 (by simp) (by show (rowOf Rk i)[pr.getD i 0]? = _; exact row_at Rk i _ hgi) (fun t₅ => ?_) (by show ((pr.getD i 0 : Nat) : Int) < _; omega)
      repeat walk_at "w"
      have hbad : badB Rk pr i j = (decide (Rk i j < Rk i (pr.getD i 0)) && decide (Rk (4 + j) i < Rk (4 + j) (pr.idxOf j))) := rfl
      cases hq1 : decide (Rk i j < Rk i (pr.getD i 0)) with
      | false =>
        repeat walk_at "w"
        refine ⟨F, _, [(it, .riter (i + 1) ((4 : Nat) - (i + 1)) 1)], ?_, S₉⟩
        refine ⟨rfl, hF, hmr, hmp, hmm, fun j' hj' => ?_⟩
        by_cases hjj : j' = j
        · subst hjj; rw [hbad, hq1]; rfl
        · exact hgj j' (by omega)
      | true =>
        repeat walk_at "w"
        refine W.item_rank hr₉ (by omega) (by omega) fun a3 hA3 => ?_
        rw [e4j] at hA3
        repeat walk_at "w"
        refine W.item_IL hA3 (by omega) (by rw [ei]; exact row_at Rk _ i hi) (fun t₆ => ?_) (by omega)
        repeat walk_at "w"
        refine W.item_rank hr₉ (by omega) (by omega) fun a4 hA4 => ?_
        rw [e4j] at hA4
        repeat walk_at "w"
        obtain ⟨vs, hpl, hpi⟩ := hp₉
        refine W.m_index hpl ?_
        repeat walk_at "w"
        refine W.index (j := pr.idxOf j) hpl hpi (by rw [List.getElem?_map, hx1]; rfl) (fun k hk hc => ?_) (by omega) fun t₇ => ?_
        · rw [List.getElem?_map] at hc
          cases hpk : pr[k]? with
          | none => rw [hpk] at hc; cases hc
          | some v =>
            rw [hpk] at hc
            have : (Int.ofNat v) = (j : Int) := Option.some.inj hc
            have hvj : v = j := Int.ofNat.inj this
            subst hvj
            exact hx2 k hk hpk
        refine W.item_IL hA4 (by omega) (by rw [Int.toNat_natCast]; exact row_at Rk _ _ hx3) (fun t₈ => ?_) (by omega)
        repeat walk_at "w"
        cases hq2 : decide (Rk (4 + j) i < Rk (4 + j) (pr.idxOf j)) with
        | false =>
          repeat walk_at "w"
          refine ⟨F, _, [(it, .riter (i + 1) ((4 : Nat) - (i + 1)) 1)], ?_, S₉⟩
          refine ⟨rfl, hF, hmr, hmp, hmm, fun j' hj' => ?_⟩
          by_cases hjj : j' = j
          · subst hjj; rw [hbad, hq1, hq2]; rfl
          · exact hgj j' (by omega)
        | true =>
          repeat walk_at "w"
          have : calmB Rk pr = false := by
            unfold calmB
            rw [Bool.eq_false_iff]
            intro hc
            rw [List.all_eq_true] at hc
            have := hc i (List.mem_range.mpr hi)
            rw [List.all_eq_true] at this
            have := this j (List.mem_range.mpr hj)
            rw [hbad, hq1, hq2] at this
            cases this
          rw [← this]
          exact q h₉ hs₉
    · rintro F m news h₈ ⟨rfl, hF, hmr, hmp, hmm, hgj⟩ S₈
      refine W.execs_nil ⟨F, _, [], ?_, S₈⟩
      refine ⟨rfl, hF, hmr, hmp, fun k hk j hj => ?_⟩
      by_cases hki : k = i
      · subst hki; exact hgj j hj
      · exact hgood k (by omega) j hj
  · rintro F m news h₄ ⟨rfl, hF, hmr, hmp, hgood⟩ S₄
    refine W.execs_cons ?_
    repeat walk_at "w"
    have : calmB Rk pr = true := by
      unfold calmB
      rw [List.all_eq_true]; intro k hk
      rw [List.all_eq_true]; intro j hj
      rw [hgood k (List.mem_range.mp hk) j (List.mem_range.mp hj)]; rfl
    rw [← this]
    exact q h₄ fun b o e => S₄.v.keep b o (hF b o e)
end

-- C7
noncomputable section
def o220 : { o : Obj // ∀ P, (KK P).lookup 220 = some o } := ⟨_, fun P => rfl⟩
def fd220 : { fd : FuncData // o220.1.data = .func fd } := ⟨_, rfl⟩
def b220 : { b : List Stmt // fd220.1.body = .stmts b } := ⟨_, rfl⟩
theorem c220 (P) : codeIn (KK P) fd220.1.code fd220.1.qualname = true := by kernel_rfl
end
structure Pers where
  x : Int
  mks : List Int
  row : PRow
  ks : List (Int × Int)
def PersAt (h : Heap) (a : Addr) (P : Pers) : Prop := ∃ t mk rw kl, TAt h a [.int P.x t, .ref mk, .ref rw, .ref kl] ∧ IL h mk P.mks ∧ RowAt h rw P.row ∧ KeysAt h kl P.ks
def PeopleAt (h : Heap) (pl : Addr) (P : Nat → Pers) : Prop := ∃ as : List Addr, as.length = 8 ∧ LAt h pl (as.map .ref) ∧ ∀ (k : Nat) (a : Addr), as[k]? = some a → PersAt h a (P k)
structure PersOk (P : Pers) : Prop where
  m4 : P.mks.length = 4
  kc : ∀ k ∈ P.ks, 0 ≤ k.1 ∧ k.1 < 4
theorem RowAt.sub {h h' : Heap} {r : Addr} {x : PRow} (y : RowAt h r x) (hs : Sub h h') : RowAt h' r x := let ⟨t1, t2, t3, t4, t5, pr, a, b⟩ := y; ⟨t1, t2, t3, t4, t5, pr, a.sub hs, b.sub hs⟩
theorem KeysAt.sub {h h' : Heap} {kl : Addr} {ks : List (Int × Int)} (y : KeysAt h kl ks) (hs : Sub h h') : KeysAt h' kl ks := let ⟨as, a, b, c⟩ := y; ⟨as, a, b.sub hs, fun i a' k h1 h2 => let ⟨t, u, T⟩ := c i a' k h1 h2; ⟨t, u, T.sub hs⟩⟩
theorem PersAt.sub {h h' : Heap} {a : Addr} {P : Pers} (y : PersAt h a P) (hs : Sub h h') : PersAt h' a P := let ⟨t, mk, rw, kl, T, i, r, k⟩ := y; ⟨t, mk, rw, kl, T.sub hs, i.sub hs, r.sub hs, k.sub hs⟩
theorem PeopleAt.sub {h h' : Heap} {a : Addr} {P : Nat → Pers} (y : PeopleAt h a P) (hs : Sub h h') : PeopleAt h' a P := let ⟨as, e, l, k⟩ := y; ⟨as, e, l.sub hs, fun i b hb => (k i b hb).sub hs⟩
noncomputable def scoreOf (mk : List Int) : List (Int × Int) → Int → Int
  | [], s => s
  | (c, w) :: ks, s => scoreOf mk ks (s * 4 + (if w == 1 then mk.getD c.toNat 0 else 3 - mk.getD c.toNat 0))
noncomputable def rkOf (P : Nat → Pers) (k j : Nat) : Int := scoreOf (P (4 - k / 4 * 4 + j)).mks (P k).ks 0
section
variable {prog : Program} {w : World} {A : Around} {O h : Heap} {p : Program} {loose : List Str} {mg mb : Str → Option Value}
theorem W.item_people {F : Heap} {value slice : Expr} {pl : Addr} {P : Nat → Pers} {k : Int} {u : Tok} {Q : Value → Heap → Prop} (hl : PeopleAt F pl P) (hF : Sub F h) (h0 : 0 ≤ k) (h8 : k < 8) (q : ∀ a, PersAt F a (P k.toNat) → Q (.ref a) h)
    (hs : subscripted slice false (.ref pl) (.int k u) = operate [.ref pl, .int k u] (getItem (.ref pl) (.int k u)) := by with_unfolding_all rfl) : W prog w A (subscriptTail value slice (.ref pl) (.int k u)) h Q := by
  obtain ⟨rows, h1, h3, h4⟩ := hl
  have hk : k.toNat < rows.length := by omega
  exact W.item_list (h3.sub hF) h0 (by rw [List.getElem?_map, List.getElem?_eq_getElem hk]; rfl) (q _ (h4 _ _ (List.getElem?_eq_getElem hk))) (by omega) hs
set_option maxHeartbeats 4000000 in
theorem ranks_W {pl : Addr} {P : Nat → Pers} {Q : Value → Heap → Prop} (G : Good (KK w.params) p loose mg mb O) (R : Room A 2) (hO : Org O h) (hp : PeopleAt h pl P) (hok : ∀ k, k < 8 → PersOk (P k))
    (q : ∀ r h', Sub h h' → RanksAt h.objs.size h' r (rkOf P) → Q (.ref r) h') : W prog w A (call (.ref 220) [.ref pl]) h Q := by
  refine W.call_def (n := 1) (fd := fd220.1) (body := b220.1) (binds := [("people", .ref pl)]) R G hO (View.all h) hO.sub (o220.2 w.params) fd220.2 (c220 _) b220.2 (fun s _ => BindsTo.of_eq rfl) ?_ ?_ ?_
  · intro L
    exact fun y hy => .inl (by
      simp only [List.mem_cons, List.not_mem_nil, or_false] at hy
      rcases hy with rfl; rfl)
  · intro L; exact fun q hq => nomatch hq
  intro L h₁ hL hs S
  replace S : St O h L (bindL (callEnvC fd220.val L 220).kindOf [("people", .ref pl)] fun _ => none) [] h₁ := S
  have R' := R.deeper (env := callEnvC fd220.val L 220)
  have hh := R'.hh
  generalize A.deeper (callEnvC fd220.val L 220) = A' at R' hh ⊢
  refine W.execs_cons ?_
  repeat walk_at "w"
  refine W.newList S fun ra h₂ hra hs₂ S₂ => ?_
  refine W.store S₂ fun h₃ S₃ => ?_
  refine W.execs_cons ?_
  repeat walk_at "w"
  refine W.bltn G S₃.sO (n_range _) bo_range ?_
  repeat walk_at "w"
  refine W.call_range S₃ fun rg h₄ _ _ _ hs₄ S₄ hrg => ?_
  refine W.pyIter_range (n := 8) S₄ hrg (by decide) fun it h₅ hit hs₅ S₅ => ?_
  refine Go.range (n := 8) (fun i F m news => ∃ rows : List Addr, news = [(ra, .lst (rows.map .ref))] ∧ Sub h F ∧ m "people" = some (.ref pl) ∧ m "ranks" = some (.ref ra) ∧ rows.length = i ∧ ∀ (k : Nat) (a : Addr), rows[k]? = some a → L < a ∧ IL F a (rowOf (rkOf P) k)) hh ?_ ?_ S₅ ⟨[], rfl, fun _ _ e => e, rfl, rfl, rfl, fun k a e => by simp at e⟩
  · rintro i t F m news h₆ hi ⟨rows, rfl, hF, hmp, hmr, hrl, hrows⟩ S₆
    refine W.store S₆ fun h₇ S₇ => ?_
    refine W.execs_cons ?_
    repeat walk_at "w"
    refine W.newList S₇ fun sa h₈ hsa hs₈ S₈ => ?_
    refine W.store S₈ fun h₉ S₉ => ?_
    refine W.execs_cons ?_
    repeat walk_at "w"
    refine W.bltn G S₉.sO (n_range _) bo_range ?_
    repeat walk_at "w"
    refine W.call_range S₉ fun rg h₁₀ _ _ _ hs₁₀ S₁₀ hrg => ?_
    refine W.pyIter_range (n := 4) S₁₀ hrg (by decide) fun it2 h₁₁ hit2 hs₁₁ S₁₁ => ?_
    refine Go.range (n := 4) (fun j F' m news => ∃ vs, F' = F ∧ news = [(sa, .lst vs), (it, .riter (i + 1) ((8 : Nat) - (i + 1)) 1), (ra, .lst (rows.map .ref))] ∧ m "people" = some (.ref pl) ∧ m "ranks" = some (.ref ra) ∧ m "scores" = some (.ref sa) ∧ m "k" = some (.int i t) ∧ IntsAre vs ((List.range j).map (rkOf P i))) hh ?_ ?_ S₁₁ ⟨[], rfl, rfl, hmp, hmr, rfl, rfl, IntsAre.nil⟩
    · rintro j t₂ F' m news h₁₂ hj ⟨vs, rfl, rfl, hmp, hmr, hms, hmk, hvs⟩ S₁₂
      refine W.store S₁₂ fun h₁₃ S₁₃ => ?_
      have hpF : PeopleAt F' pl P := hp.sub hF
      have e1 : (4 - (i : Int).fdiv 4 * 4 + j).toNat = 4 - i / 4 * 4 + j := by
        rw [Int.fdiv_eq_ediv_of_nonneg _ (by decide)]; omega
      have e2 : 0 ≤ 4 - (i : Int).fdiv 4 * 4 + j ∧ 4 - (i : Int).fdiv 4 * 4 + j < 8 := by
        rw [Int.fdiv_eq_ediv_of_nonneg _ (by decide)]; omega
      have h8 : 4 - i / 4 * 4 + j < 8 := by omega
      refine W.execs_cons ?_
      repeat walk_at "w"
      repeat walk_at "w"
      repeat walk_at "w"
      refine W.item_people hpF S₁₃.v.keep e2.1 e2.2 fun a ha => ?_
      rw [e1] at ha
      obtain ⟨tx, mk, rw_, kl, hT, hmk_, _, _⟩ := ha
      repeat walk_at "w"
      refine W.item_tup (hT.sub S₁₃.v.keep) (by decide) rfl ?_ (by decide)
      refine W.store S₁₃ fun h₁₄ S₁₄ => ?_
      repeat walk_at "w"
      refine W.store S₁₄ fun h₁₅ S₁₅ => ?_
      refine W.execs_cons ?_
      repeat walk_at "w"
      refine W.item_people hpF S₁₅.v.keep (by omega) (by omega) fun a' ha' => ?_
      rw [Int.toNat_natCast] at ha'
      obtain ⟨tx', mk', rw', kl', hT', _, _, hkl⟩ := ha'
      repeat walk_at "w"
      refine W.item_tup (hT'.sub S₁₅.v.keep) (by decide) rfl ?_ (by decide)
      obtain ⟨ka, hkl1, hkl2, hkl3⟩ := hkl
      have ok1 := (hok _ h8).m4
      have ok2 := (hok i hi).kc
      have hrk : rkOf P i j = scoreOf (P (4 - i / 4 * 4 + j)).mks (P i).ks 0 := rfl
      refine W.pyIter_list S₁₅ (hkl2.sub S₁₅.v.keep).isList fun it3 h₁₆ hit3 hs₁₆ S₁₆ => ?_
      refine Go.list (items := ka.map .ref) (fun c F'' m news => F'' = F' ∧ news = [(it2, .riter (j + 1) ((4 : Nat) - (j + 1)) 1), (sa, .lst vs), (it, .riter (i + 1) ((8 : Nat) - (i + 1)) 1), (ra, .lst (rows.map .ref))] ∧ m "people" = some (.ref pl) ∧ m "ranks" = some (.ref ra) ∧ m "scores" = some (.ref sa) ∧ m "k" = some (.int i t) ∧ m "marks" = some (.ref mk) ∧ ∃ s ts, m "score" = some (.int s ts) ∧ rkOf P i j = scoreOf (P (4 - i / 4 * 4 + j)).mks ((P i).ks.drop c) s) hh ?_ ?_ ?_ S₁₆ ⟨rfl, rfl, hmp, hmr, hms, hmk, rfl, 0, _, rfl, hrk⟩ (.inr ⟨_, _, _, rfl⟩)
      · rintro c F'' m news hx ob ⟨rfl, rfl, _⟩ S
        exact (hkl2.sub S.v.keep).isList
      · rintro c v F'' m news h₁₇ hv ⟨rfl, rfl, hmp, hmr, hms, hmk, hmm, s, ts, hmsc, hsc⟩ S₁₇
        obtain ⟨a3, ha3, rfl⟩ : ∃ a, ka[c]? = some a ∧ v = .ref a := by
          rw [List.getElem?_map] at hv
          cases q : ka[c]? with
          | none => rw [q] at hv; cases hv
          | some a => rw [q] at hv; exact ⟨a, rfl, (Option.some.inj hv).symm⟩
        have hlt : c < (P i).ks.length := hkl1 ▸ (List.getElem?_eq_some_iff.mp ha3).1
        obtain ⟨t3, u3, hT3⟩ := hkl3 c a3 _ ha3 (List.getElem?_eq_getElem hlt)
        have hcol := ok2 _ (List.getElem_mem hlt)
        rw [List.drop_eq_getElem_cons hlt] at hsc
        generalize (P i).ks[c] = kk at *
        obtain ⟨cc, ww⟩ := kk
        dsimp only at hT3 hcol
        refine W.assign_tup2 hh S₁₇ (hT3.sub S₁₇.v.keep) fun h₁₈ S₁₈ => ?_
        have hget : (P (4 - i / 4 * 4 + j)).mks[cc.toNat]? = some ((P (4 - i / 4 * 4 + j)).mks.getD cc.toNat 0) := by
          have : cc.toNat < (P (4 - i / 4 * 4 + j)).mks.length := by omega
          simp [this]
        refine W.execs_cons ?_
        repeat walk_at "w"
        repeat walk_at "w"
        cases hw : (ww == 1) with
        | true =>
          repeat walk_at "w"
          refine W.item_IL (hmk_.sub S₁₈.v.keep) hcol.1 hget (fun _ => ?_) (by omega)
          repeat walk_at "w"
          refine W.store S₁₈ fun h₁₉ S₁₉ => ?_
          refine W.execs_nil ⟨F'', _, [(it2, .riter (j + 1) ((4 : Nat) - (j + 1)) 1), (sa, .lst vs), (it, .riter (i + 1) ((8 : Nat) - (i + 1)) 1), (ra, .lst (rows.map .ref))], ?_, S₁₉⟩
          refine ⟨rfl, rfl, hmp, hmr, hms, hmk, hmm, _, _, rfl, ?_⟩
          rw [hsc]; conv => lhs; unfold scoreOf
          rw [hw]; rfl
        | false =>
          repeat walk_at "w"
          refine W.item_IL (hmk_.sub S₁₈.v.keep) hcol.1 hget (fun _ => ?_) (by omega)
          repeat walk_at "w"
          refine W.store S₁₈ fun h₁₉ S₁₉ => ?_
          refine W.execs_nil ⟨F'', _, [(it2, .riter (j + 1) ((4 : Nat) - (j + 1)) 1), (sa, .lst vs), (it, .riter (i + 1) ((8 : Nat) - (i + 1)) 1), (ra, .lst (rows.map .ref))], ?_, S₁₉⟩
          refine ⟨rfl, rfl, hmp, hmr, hms, hmk, hmm, _, _, rfl, ?_⟩
          rw [hsc]; conv => lhs; unfold scoreOf
          rw [hw]; rfl
      · rintro F'' m news h₁₇ ⟨rfl, rfl, hmp, hmr, hms, hmk, hmm, s, ts, hmsc, hsc⟩ S₁₇
        rw [List.length_map, hkl1, List.drop_length] at hsc
        refine W.execs_cons ?_
        repeat walk_at "w"
        refine W.m_append (show LAt h₁₇ sa vs from S₁₇.get (i := 1) rfl) ?_
        repeat walk_at "w"
        have hvl : vs.length = j := by rw [hvs.length]; simp
        refine W.append (i := 1) S₁₇ rfl (by rw [hvl]; exact Nat.le_trans (Nat.le_of_lt hj) (by decide)) fun h₁₈ S₁₈ => ?_
        refine W.execs_nil ⟨F'', _, [(sa, .lst (vs ++ [.int s ts])), (it, .riter (i + 1) ((8 : Nat) - (i + 1)) 1), (ra, .lst (rows.map .ref))], ?_, S₁₈⟩
        refine ⟨vs ++ [.int s ts], rfl, rfl, hmp, hmr, hms, hmk, ?_⟩
        rw [List.range_succ, List.map_append]
        have hs' : rkOf P i j = s := hsc
        refine hvs.append ?_
        show IntsAre [.int s ts] [rkOf P i j]
        rw [hs']
        exact IntsAre.cons _ _ IntsAre.nil
    · rintro F' m news h₁₂ ⟨vs, rfl, rfl, hmp, hmr, hms, hmk, hvs⟩ S₁₂
      refine W.execs_cons ?_
      repeat walk_at "w"
      refine W.m_append (show LAt h₁₂ ra (rows.map .ref) from S₁₂.get (i := 2) rfl) ?_
      repeat walk_at "w"
      refine W.append (i := 2) S₁₂ rfl (by rw [List.length_map, hrl]; exact Nat.le_trans (Nat.le_of_lt hi) (by decide)) fun h₁₃ S₁₃ => ?_
      refine W.execs_nil ?_
      replace S₁₃ : St O F' L m [(sa, .lst vs), (it, .riter (i + 1) ((8 : Nat) - (i + 1)) 1), (ra, .lst (rows.map .ref ++ [.ref sa]))] h₁₃ := S₁₃
      obtain ⟨F₂, hF₂, S₁₄, hsa₂, _⟩ := S₁₃.cool
      refine ⟨F₂, _, [(ra, .lst (rows.map .ref ++ [.ref sa]))], ?_, S₁₄⟩
      refine ⟨rows ++ [sa], by simp, fun b o e => hF₂ b o (hF b o e), hmp, hmr, by simp [hrl], fun k a e => ?_⟩
      by_cases hk : k < rows.length
      · rw [List.getElem?_append_left hk] at e
        exact ⟨(hrows k a e).1, (hrows k a e).2.sub hF₂⟩
      · have hk1 : k = rows.length := by
          have := (List.getElem?_eq_some_iff.mp e).1
          simp at this; omega
        subst hk1
        have : sa = a := by simpa using e
        subst this
        rw [hrl]
        exact ⟨hsa, vs, hsa₂, hvs⟩
  · rintro F m news h₆ ⟨rows, rfl, hF, hmp, hmr, hrl, hrows⟩ S₆
    refine W.execs_cons ?_
    repeat walk_at "w"
    refine q ra h₆ (fun b o e => S₆.v.keep b o (hF b o e)) ⟨rows, hrl, by rw [hL]; exact Nat.le_of_lt hra, S₆.get (i := 0) rfl, fun k a e => ?_⟩
    exact ⟨by rw [hL]; exact Nat.le_of_lt (hrows k a e).1, (hrows k a e).2.sub S₆.v.keep⟩
end

-- C8
noncomputable section
def o208 : { o : Obj // ∀ P, (KK P).lookup 208 = some o } := ⟨_, fun P => rfl⟩
def fd208 : { fd : FuncData // o208.1.data = .func fd } := ⟨_, rfl⟩
def b208 : { b : List Stmt // fd208.1.body = .stmts b } := ⟨_, rfl⟩
theorem c208 (P) : codeIn (KK P) fd208.1.code fd208.1.qualname = true := by kernel_rfl
end
theorem n_sum (P) : nsIn (KK P) mainGlobals "sum" = some none := by kernel_rfl
theorem bo_sum : bootBuiltins "sum" = some (.builtin "sum") := by kernel_rfl
def colsOf (i0 i1 i2 : Nat) : List Int :=
  [([0, 1, 2, 3] : List Int).getD i0 0, (([0, 1, 2, 3] : List Int).eraseIdx i0).getD i1 0, ((([0, 1, 2, 3] : List Int).eraseIdx i0).eraseIdx i1).getD i2 0, (((([0, 1, 2, 3] : List Int).eraseIdx i0).eraseIdx i1).eraseIdx i2).getD 0 0]
def colsX (x : Int) : List Int := colsOf ((x.fdiv 48).fmod 4).toNat ((x.fdiv 192).fmod 3).toNat ((x.fdiv 576).fmod 2).toNat
def persOf (k : Nat) (x : Int) : Pers where
  x := x
  mks := [x.fmod 3, (x.fdiv 3).fmod 4, (x.fdiv 12).fmod 4, (k : Int).fmod 4]
  row := { a := ([-7, 0, 10 ^ 30] : List Int).getD (x.fmod 3).toNat 0, s := (["", "B", "a", "ab"] : List Str).getD ((x.fdiv 3).fmod 4).toNat "", p := ((x.fdiv 12).fmod 4).fdiv 2, q := ((x.fdiv 12).fmod 4).fmod 2, d := (k : Int).fmod 4 }
  ks := (List.range 4).map fun i => ((colsX x).getD i 0, 1 - ((x.fdiv 1152).fdiv (2 ^ i)).fmod 2 * 2)
theorem getD_some {l : List Int} {k : Nat} (h : k < l.length) : l[k]? = some (l.getD k 0) := by simp [h]
theorem Old.ofSt {O F F' h : Heap} {L it : Addr} {m : Str → Option Value} {ob : Ob} {news : Led} (S : St O F L m ((it, ob) :: news) h) (ho : Old h it F') : Sub F F' :=
  fun b o e => ho b o (S.v.keep b o e) (fun z => by subst z; have := S.v.off _ (.head _); rw [e] at this; cases this)
section
variable {prog : Program} {w : World} {A : Around} {O h : Heap} {p : Program} {loose : List Str} {mg mb : Str → Option Value}
theorem St.drop {O F h : Heap} {L : Addr} {m : Str → Option Value} {p : Addr × Ob} {news : Led} (S : St O F L m (p :: news) h) : St O F L m news h := S.sub (List.sublist_cons_self _ _)
set_option maxHeartbeats 4000000 in
theorem people_W {sc : Addr} {vs : List Value} {ns : List Int} {Q : Value → Heap → Prop} (G : Good (KK w.params) p loose mg mb O) (R : Room A 2) (hO : Org O h) (hsc : h.IsList sc vs.toArray) (hns : IntsAre vs ns) (hlen : vs.length ≤ 1000)
    (q : ∀ (X : Nat → Int) pl h', Sub h h' → PeopleAt (cut h.objs.size h') pl (fun k => persOf k (X k)) → Q (.ref pl) h') : W prog w A (call (.ref 208) [.ref sc]) h Q := by
  refine W.call_def (n := 1) (fd := fd208.1) (body := b208.1) (binds := [("script", .ref sc)]) R G hO (View.all h) hO.sub (o208.2 w.params) fd208.2 (c208 _) b208.2 (fun s _ => BindsTo.of_eq rfl) ?_ ?_ ?_
  · intro L
    exact fun y hy => .inl (by
      simp only [List.mem_cons, List.not_mem_nil, or_false] at hy
      rcases hy with rfl; rfl)
  · intro L q hq
    have e : cellsFrom L fd208.1.scope.names [] = [(("columns" : Str), L + 1), (("x" : Str), L)] := by with_unfolding_all rfl
    rw [e] at hq ⊢
    simp only [List.mem_cons, List.not_mem_nil, or_false] at hq
    rcases hq with rfl | rfl <;> with_unfolding_all rfl
  intro L h₁ hL hs S
  replace S : St O h L (bindL (callEnvC fd208.val L 208).kindOf [("script", .ref sc)] fun _ => none) [(L + 1 + 1, .cell none), (L + 1, .cell none)] h₁ := S
  have R' := R.deeper (env := callEnvC fd208.val L 208)
  have hh := R'.hh
  generalize A.deeper (callEnvC fd208.val L 208) = A' at R' hh ⊢
  refine W.execs_cons ?_
  repeat walk_at "w"
  refine W.newList S fun na h₂ hna hs₂ S₂ => ?_
  refine W.store S₂ fun h₃ S₃ => ?_
  obtain ⟨F₀, hF₀, S₃, hnum, _⟩ := S₃.cool
  refine W.execs_cons ?_
  repeat walk_at "w"
  refine W.newList S₃ fun pa h₄ hpa hs₄ S₄ => ?_
  refine W.store S₄ fun h₅ S₅ => ?_
  refine W.execs_cons ?_
  repeat walk_at "w"
  refine W.bltn G S₅.sO (n_range _) bo_range ?_
  repeat walk_at "w"
  refine W.call_range S₅ fun rg h₆ _ _ _ hs₆ S₆ hrg => ?_
  refine W.pyIter_range (n := 8) S₆ hrg (by decide) fun it h₇ hit hs₇ S₇ => ?_
  have hnumI : IL F₀ na [384, 2703, 127, 1247, 2688, 399, 1231, 143] := ⟨_, hnum, .cons _ _ (.cons _ _ (.cons _ _ (.cons _ _ (.cons _ _ (.cons _ _ (.cons _ _ (.cons _ _ .nil)))))))⟩
  obtain ⟨Inv, hInv⟩ : ∃ Inv : Nat → Heap → (Str → Option Value) → Led → Prop, Inv = fun i F m news => ∃ (as : List Addr) (vx vc : Option Value) (X : Nat → Int), news = [(pa, .lst (as.map .ref)), (L + 1 + 1, .cell vc), (L + 1, .cell vx)] ∧ Sub F₀ F ∧ m "script" = some (.ref sc) ∧ m "numbers" = some (.ref na) ∧ m "people" = some (.ref pa) ∧ as.length = i ∧ ∀ (k : Nat) (a : Addr), as[k]? = some a → PersAt (cut L F) a (persOf k (X k)) := ⟨_, rfl⟩
  refine Go.range (n := 8) Inv hh ?_ ?_ S₇ (by subst hInv; exact ⟨[], none, none, fun _ => 0, rfl, fun _ _ e => e, rfl, rfl, rfl, rfl, fun k a e => by simp at e⟩)
  · rintro i t F m news h₈ hi hI S₈
    rw [hInv] at hI
    obtain ⟨as, vx, vc, X, rfl, hF, hms, hmn, hmp, hal, has⟩ := hI
    refine W.store S₈ fun h₉ S₉ => ?_
    have hsF : Sub h F := fun b o e => hF b o (hF₀ b o e)
    have hn9 : ∃ nv, ([384, 2703, 127, 1247, 2688, 399, 1231, 143] : List Int)[i]? = some nv := ⟨_, List.getElem?_eq_getElem (by simpa using hi)⟩
    obtain ⟨nv, hnv⟩ := hn9
    refine W.execs_cons ?_
    repeat walk_at "w"
    refine W.item_IL (hnumI.sub fun b o e => S₉.v.keep b o (hF b o e)) (by omega) (by rw [Int.toNat_natCast]; exact hnv) (fun t₁ => ?_) (by omega)
    repeat walk_at "w"
    refine W.bltn G S₉.sO (n_sum _) bo_sum ?_
    repeat walk_at "w"
    refine W.comp (O := O) (L := L) (cl := []) rfl (by decide) rfl (by decide) ?_
    repeat walk_at "w"
    refine W.sliceE (W.part_some (W.name S₉ rfl (W.part_none (W.part_some (W.const_int fun _ => W.newSlice S₉ fun sl h₁₀ hs₁₀ S₁₀ hsl => ?_)))))
    have hsc₁₀ : h₁₀.IsList sc vs.toArray := let ⟨o, e, r⟩ := hsc; ⟨o, S₁₀.v.keep _ _ (hsF _ _ e), r⟩
    refine W.slice_tail S₁₀ hsc₁₀ hsl (.int _ _) .none (.int _ _) (by decide) (by simp; exact Nat.le_trans hlen (by decide)) fun ta h₁₁ hta hs₁₁ S₁₁ => ?_
    have hpick := hns.pick (some (i : Int)) none (some 8)
    have hpl : (slicePick vs.toArray (some (i : Int)) none (some 8)).toList.length ≤ 1000 := by
      have := slicePick_size_le vs.toArray (some (i : Int)) none (some 8)
      rw [List.size_toArray] at this
      rw [Array.length_toList]; exact Nat.le_trans this hlen
    generalize (slicePick vs.toArray (some (i : Int)) none (some 8)).toList = ps at *
    generalize pickNums ns (some (i : Int)) none (some 8) = pn at *
    have hta₁₁ : LAt h₁₁ ta ps := S₁₁.get (i := 0) rfl
    refine W.pyIter_list S₁₁ hta₁₁.isList fun it2 h₁₂ hit2 hs₁₂ S₁₂ => ?_
    have hta₁₂ : LAt h₁₂ ta ps := S₁₂.get (i := 1) rfl
    have htne : ta ≠ it2 := by
      have := S₁₂.v.nd
      simp only [List.map_cons, List.nodup_cons, List.mem_cons, not_or] at this
      exact fun z => this.1.1 z.symm
    refine ⟨_, _, _, CompIn.list hh S₁₂ hta₁₂ htne (.inl ⟨_, _, rfl⟩) (fun D C => compTree_plain) (fun C i F' ys => ∃ ms, IntsAre ys ms) ?_ ?_ ?_⟩
    · intro C F₂ _ _ _
      exact ⟨[], .nil⟩
    · rintro C D j v F' m' ys h₁₃ hLD hDC hsz hv hold ⟨ms, hms'⟩ hyl S₁₃ Qh qh
      obtain ⟨b, tb, rfl, _⟩ := hpick.at j v hv
      refine W.assign_name (W.store S₁₃ fun h₁₄ S₁₄ => ?_)
      show W _ _ _ _ _ _
      repeat walk_at "w"
      have hj : j < ps.length := (List.getElem?_eq_some_iff.mp hv).1
      refine W.append (i := 1) S₁₄ rfl (Nat.le_trans hyl (Nat.le_trans (Nat.le_of_lt hj) (Nat.le_trans hpl (by decide)))) fun h₁₅ S₁₅ => ?_
      exact qh F' _ _ h₁₅ (fun _ _ e => e) ⟨ms ++ [_], hms'.append (.cons _ _ .nil)⟩ (by simp; exact hyl) S₁₅
    · rintro D C F' ys hLD hDC hsz hold ⟨ms, hms'⟩ hLC F₂ h₁₃ hF₂ _ S₁₃
      repeat walk_at "w"
      refine W.sum hh (S₁₃.get (i := 0) rfl) hms' fun t₂ h₁₄ hs₁₄ => ?_
      have S₁₄ := (S₁₃.ext hs₁₄).drop.drop
      repeat walk_at "w"
      generalize nv + ms.sum = x
      refine W.storeCell (i := 3) S₁₄ rfl rfl fun h₁₅ S₁₅ => ?_
      replace S₁₅ : St O F₂ L _ [(it, .riter (i + 1) ((8 : Nat) - (i + 1)) 1), (pa, .lst (as.map .ref)), (L + 1 + 1, .cell vc), (L + 1, .cell (some (.int x _)))] h₁₅ := S₁₅
      refine W.execs_cons ?_
      repeat walk_at "w"
      refine W.newList S₁₅ fun mk h₁₆ hmk hs₁₆ S₁₆ => ?_
      refine W.store S₁₆ fun h₁₇ S₁₇ => ?_
      obtain ⟨F₃, hF₃, S₁₇, hmkF, _⟩ := S₁₇.cool
      have hmkI : IL (cut L F₃) mk (persOf i x).mks := by
        obtain ⟨n, e⟩ := hmkF
        exact ⟨_, ⟨n, cut_get e (Nat.le_of_lt hmk)⟩, .cons _ _ (.cons _ _ (.cons _ _ (.cons _ _ .nil)))⟩
      refine W.execs_cons ?_
      repeat walk_at "w"
      have f3 : 0 ≤ x.fmod 3 ∧ x.fmod 3 < 3 := ⟨Int.fmod_nonneg_of_pos _ (by decide), Int.fmod_lt_of_pos _ (by decide)⟩
      have f4 : 0 ≤ (x.fdiv 3).fmod 4 ∧ (x.fdiv 3).fmod 4 < 4 := ⟨Int.fmod_nonneg_of_pos _ (by decide), Int.fmod_lt_of_pos _ (by decide)⟩
      refine W.pow_int (by decide) (by decide) fun _ => ?_
      repeat walk_at "w"
      refine W.newList S₁₇ fun l1 h₁₈ hl1 hs₁₈ S₁₈ => ?_
      have hmk₁₈ : IL h₁₈ mk (persOf i x).mks := hmkI.sub fun b o e => S₁₈.v.keep b o (of_cut e).1
      have hl1I : IL h₁₈ l1 [-7, 0, 10 ^ 30] := ⟨_, S₁₈.get (i := 0) rfl, .cons _ _ (.cons _ _ (.cons _ _ .nil))⟩
      repeat walk_at "w"
      refine W.item_IL hmk₁₈ (by decide) rfl (fun _ => ?_) (by decide)
      refine W.item_IL hl1I f3.1 (v := ([-7, 0, 10 ^ 30] : List Int).getD (x.fmod 3).toNat 0) ?_ (fun _ => ?_) (by omega)
      · have : (x.fmod 3).toNat < ([-7, 0, 10 ^ 30] : List Int).length := by simp; omega
        exact getD_some this
      replace S₁₈ := S₁₈.drop
      repeat walk_at "w"
      refine W.newList S₁₈ fun l2 h₁₉ hl2 hs₁₉ S₁₉ => ?_
      have hmk₁₉ : IL h₁₉ mk (persOf i x).mks := hmkI.sub fun b o e => S₁₉.v.keep b o (of_cut e).1
      have hl2₁₉ : LAt h₁₉ l2 _ := S₁₉.get (i := 0) rfl
      repeat walk_at "w"
      refine W.item_IL hmk₁₉ (by decide) rfl (fun _ => ?_) (by decide)
      obtain ⟨ts, hts⟩ : ∃ ts, ([.str "" _, .str "B" _, .str "a" _, .str "ab" _] : List Value)[((x.fdiv 3).fmod 4).toNat]? = some (.str ((["", "B", "a", "ab"] : List Str).getD ((x.fdiv 3).fmod 4).toNat "") ts) :=
        four (P := fun d => ∃ ts, ([.str "" _, .str "B" _, .str "a" _, .str "ab" _] : List Value)[d]? = some (.str ((["", "B", "a", "ab"] : List Str).getD d "") ts)) ⟨_, rfl⟩ ⟨_, rfl⟩ ⟨_, rfl⟩ ⟨_, rfl⟩ _ (by omega)
      refine W.item_list hl2₁₉ f4.1 hts ?_ (by omega)
      replace S₁₉ := S₁₉.drop
      repeat walk_at "w"
      refine W.item_IL hmk₁₉ (by decide) rfl (fun _ => ?_) (by decide)
      repeat walk_at "w"
      refine W.item_IL hmk₁₉ (by decide) rfl (fun _ => ?_) (by decide)
      repeat walk_at "w"
      refine W.newTuple S₁₉ fun pr h₂₀ hpr hs₂₀ S₂₀ => ?_
      repeat walk_at "w"
      refine W.newTuple S₂₀ fun rw_ h₂₁ hrw hs₂₁ S₂₁ => ?_
      refine W.store S₂₁ fun h₂₂ S₂₂ => ?_
      obtain ⟨F₄, hF₄, S₂₂, hrwF, _⟩ := S₂₂.cool
      obtain ⟨F₅, hF₅, S₂₂, hprF, _⟩ := S₂₂.cool
      have hrowI : RowAt (cut L F₅) rw_ (persOf i x).row := by
        obtain ⟨n1, e1⟩ := hrwF
        obtain ⟨n2, e2⟩ := hprF
        exact ⟨_, _, _, _, _, pr, ⟨n1, cut_get (hF₅ _ _ e1) (Nat.le_of_lt hrw)⟩, ⟨n2, cut_get e2 (Nat.le_of_lt hpr)⟩⟩
      refine W.execs_cons ?_
      repeat walk_at "w"
      refine W.newList S₂₂ fun ra h₂₃ hra hs₂₃ S₂₃ => ?_
      refine W.store S₂₃ fun h₂₄ S₂₄ => ?_
      have g0 : 0 ≤ (x.fdiv 48).fmod 4 ∧ (x.fdiv 48).fmod 4 < 4 := ⟨Int.fmod_nonneg_of_pos _ (by decide), Int.fmod_lt_of_pos _ (by decide)⟩
      have g1 : 0 ≤ (x.fdiv 192).fmod 3 ∧ (x.fdiv 192).fmod 3 < 3 := ⟨Int.fmod_nonneg_of_pos _ (by decide), Int.fmod_lt_of_pos _ (by decide)⟩
      have g2 : 0 ≤ (x.fdiv 576).fmod 2 ∧ (x.fdiv 576).fmod 2 < 2 := ⟨Int.fmod_nonneg_of_pos _ (by decide), Int.fmod_lt_of_pos _ (by decide)⟩
      have n0 : ((x.fdiv 48).fmod 4).toNat < 4 := by omega
      have n1 : ((x.fdiv 192).fmod 3).toNat < 3 := by omega
      have n2 : ((x.fdiv 576).fmod 2).toNat < 2 := by omega
      have hcols : colsX x = colsOf ((x.fdiv 48).fmod 4).toNat ((x.fdiv 192).fmod 3).toNat ((x.fdiv 576).fmod 2).toNat := rfl
      refine W.execs_cons ?_
      repeat walk_at "w"
      refine W.m_pop (S₂₄.get (i := 0) rfl) ?_
      repeat walk_at "w"
      refine W.pop_ints2 (i := 0) S₂₄ rfl (ns := [0, 1, 2, 3]) (.cons _ _ (.cons _ _ (.cons _ _ (.cons _ _ .nil)))) (by decide) g0.1 (getD_some (by simpa using n0)) (by omega) fun _ v1 h₂₅ hI₂₅ S₂₅ => ?_
      have l1 : (([0, 1, 2, 3] : List Int).eraseIdx ((x.fdiv 48).fmod 4).toNat).length = 3 := by rw [List.length_eraseIdx_of_lt (by simpa using n0)]; rfl
      replace S₂₅ : St O F₅ L _ [(ra, .lst v1), (it, .riter (i + 1) ((8 : Nat) - (i + 1)) 1), (pa, .lst (as.map .ref)), (L + 1 + 1, .cell vc), (L + 1, .cell (some (.int x _)))] h₂₅ := S₂₅
      repeat walk_at "w"
      refine W.m_pop (S₂₅.get (i := 0) rfl) ?_
      repeat walk_at "w"
      refine W.pop_ints2 (i := 0) S₂₅ rfl hI₂₅ (by rw [l1]; decide) g1.1 (getD_some (by rw [l1]; exact n1)) (by omega) fun _ v2 h₂₆ hI₂₆ S₂₆ => ?_
      have l2 : ((([0, 1, 2, 3] : List Int).eraseIdx ((x.fdiv 48).fmod 4).toNat).eraseIdx ((x.fdiv 192).fmod 3).toNat).length = 2 := by rw [List.length_eraseIdx_of_lt (by rw [l1]; exact n1), l1]
      replace S₂₆ : St O F₅ L _ [(ra, .lst v2), (it, .riter (i + 1) ((8 : Nat) - (i + 1)) 1), (pa, .lst (as.map .ref)), (L + 1 + 1, .cell vc), (L + 1, .cell (some (.int x _)))] h₂₆ := S₂₆
      repeat walk_at "w"
      refine W.m_pop (S₂₆.get (i := 0) rfl) ?_
      repeat walk_at "w"
      refine W.pop_ints2 (i := 0) S₂₆ rfl hI₂₆ (by rw [l2]; decide) g2.1 (getD_some (by rw [l2]; exact n2)) (by omega) fun _ v3 h₂₇ hI₂₇ S₂₇ => ?_
      have l3 : (((([0, 1, 2, 3] : List Int).eraseIdx ((x.fdiv 48).fmod 4).toNat).eraseIdx ((x.fdiv 192).fmod 3).toNat).eraseIdx ((x.fdiv 576).fmod 2).toNat).length = 1 := by rw [List.length_eraseIdx_of_lt (by rw [l2]; exact n2), l2]
      replace S₂₇ : St O F₅ L _ [(ra, .lst v3), (it, .riter (i + 1) ((8 : Nat) - (i + 1)) 1), (pa, .lst (as.map .ref)), (L + 1 + 1, .cell vc), (L + 1, .cell (some (.int x _)))] h₂₇ := S₂₇
      repeat walk_at "w"
      refine W.item_IL ⟨v3, S₂₇.get (i := 0) rfl, hI₂₇⟩ (by decide) (getD_some (by rw [l3]; decide)) (fun _ => ?_) (by decide)
      replace S₂₇ := S₂₇.drop
      repeat walk_at "w"
      refine W.newList S₂₇ fun ca h₂₈ hca hs₂₈ S₂₈ => ?_
      obtain ⟨F₆, hF₆, S₂₈, hcaF, _⟩ := S₂₈.cool
      have hcaI : IL F₆ ca (colsX x) := ⟨_, hcaF, .cons _ _ (.cons _ _ (.cons _ _ (.cons _ _ .nil)))⟩
      refine W.storeCell (i := 2) S₂₈ rfl rfl fun h₂₉ S₂₉ => ?_
      replace S₂₉ : St O F₆ L _ [(it, .riter (i + 1) ((8 : Nat) - (i + 1)) 1), (pa, .lst (as.map .ref)), (L + 1 + 1, .cell (some (.ref ca))), (L + 1, .cell (some (.int x _)))] h₂₉ := S₂₉
      refine W.execs_cons ?_
      refine W.assign_comp (O := O) (L := L) (cl := [(("x" : Str), L + 1), (("columns" : Str), L + 1 + 1)]) rfl rfl rfl (by decide) rfl (by decide) rfl rfl ?_
      repeat walk_at "w"
      refine W.bltn G S₂₉.sO (n_range _) bo_range ?_
      repeat walk_at "w"
      refine W.call_range S₂₉ fun rg h₃₀ _ _ _ hs₃₀ S₃₀ hrg => ?_
      refine W.pyIter_range (n := 4) S₃₀ hrg (by decide) fun it3 h₃₁ hit3 hs₃₁ S₃₁ => ?_
      have hcellx : h₃₁.IsCell (L + 1) (some (.int x _)) := S₃₁.get (i := 4) rfl
      have hcellc : h₃₁.IsCell (L + 1 + 1) (some (.ref ca)) := S₃₁.get (i := 3) rfl
      have hcn : L + 1 ≠ it3 ∧ L + 1 + 1 ≠ it3 := by
        have := S₃₁.v.nd
        simp only [List.map_cons, List.nodup_cons, List.mem_cons, not_or] at this
        exact ⟨fun z => this.1.2.2.2.1 z.symm, fun z => this.1.2.2.1 z.symm⟩
      have hlc : (colsX x).length = 4 := rfl
      refine ⟨_, _, _, CompIn.range hh S₃₁ (fun D C => compTree_plain) (fun C j F' ys => ∃ bs : List Addr, ys = bs.map .ref ∧ bs.length = j ∧ ∀ (k : Nat) (a : Addr) (kk : Int × Int), bs[k]? = some a → (persOf i x).ks[k]? = some kk → C < a ∧ ∃ t u, TAt F' a [.int kk.1 t, .int kk.2 u]) ?_ ?_ ?_⟩
      · intro C F₂ _ _ _
        exact ⟨[], rfl, rfl, fun k a kk e => by simp at e⟩
      · rintro C D j tj F' m' ys h₃₂ ob hLD hDC hsz hj hold ⟨bs, rfl, hbl, hbs⟩ hyl S₃₂ Qh qh
        refine W.assign_name (W.store S₃₂ fun h₃₃ S₃₃ => ?_)
        have hFF := Old.ofSt S₃₁ hold
        show W _ _ _ _ _ _
        repeat walk_at "w"
        refine W.cellAt (IsCell.sub (IsCell.old hcellc hold hcn.2) S₃₃.v.keep) rfl ?_
        repeat walk_at "w"
        refine W.item_IL (hcaI.sub fun b o e => S₃₃.v.keep b o (hFF b o e)) (by omega) (by rw [Int.toNat_natCast]; exact getD_some (by rw [hlc]; exact hj)) (fun _ => ?_) (by omega)
        repeat walk_at "w"
        refine W.cellAt (IsCell.sub (IsCell.old hcellx hold hcn.1) S₃₃.v.keep) rfl ?_
        repeat walk_at "w"
        have hpw : 0 < (2 : Int) ^ ((j : Int)).toNat ∧ (2 : Int) ^ ((j : Int)).toNat < 1073741824 := by
          rw [Int.toNat_natCast]
          exact four (P := fun j => 0 < (2 : Int) ^ j ∧ (2 : Int) ^ j < 1073741824) (by decide) (by decide) (by decide) (by decide) j hj
        refine W.pow_int (by omega) (by have : (Builtin.Int.intBits 2 : Int) = 2 := by decide
                                        rw [this]; omega) fun _ => ?_
        refine W.fdiv_int hpw.1 hpw.2 fun _ => ?_
        repeat walk_at "w"
        refine W.newTuple S₃₃ fun tp h₃₄ htp hs₃₄ S₃₄ => ?_
        refine W.append (i := 2) S₃₄ rfl (by rw [List.length_map, hbl]; exact small_size (by omega)) fun h₃₅ S₃₅ => ?_
        replace S₃₅ : St O F' C _ ((tp, _) :: [(it3, ob), (D, .lst (bs.map .ref ++ [.ref tp]))]) h₃₅ := S₃₅
        obtain ⟨F₇, hF₇, S₃₅, htpF, _⟩ := S₃₅.cool
        refine qh F₇ _ _ h₃₅ hF₇ ⟨bs ++ [tp], by simp, by simp [hbl], fun k a kk e1 e2 => ?_⟩ (by simp [hbl]) S₃₅
        by_cases hk : k < bs.length
        · rw [List.getElem?_append_left hk] at e1
          obtain ⟨h1, t, u, T⟩ := hbs k a kk e1 e2
          exact ⟨h1, t, u, T.sub hF₇⟩
        · have hk1 : k = bs.length := by
            have := (List.getElem?_eq_some_iff.mp e1).1
            simp at this; omega
          subst hk1
          have : tp = a := by simpa using e1
          subst this
          rw [hbl] at e2
          have e3 : (persOf i x).ks[j]? = some ((colsX x).getD j 0, 1 - ((x.fdiv 1152).fdiv (2 ^ j)).fmod 2 * 2) :=
            four (P := fun j => (persOf i x).ks[j]? = some ((colsX x).getD j 0, 1 - ((x.fdiv 1152).fdiv (2 ^ j)).fmod 2 * 2)) rfl rfl rfl rfl j hj
          rw [e3] at e2
          cases e2
          rw [Int.toNat_natCast] at htpF
          exact ⟨htp, _, _, htpF⟩
      · rintro D C F' ys hLD hDC hsz hold ⟨bs, rfl, hbl, hbs⟩ hLC F₉ h₃₂ hF₉ hFC S₃₂
        obtain ⟨F₇, hF₇, S₃₂, hDF, _⟩ := S₃₂.cool
        have hkeys : KeysAt (cut L F₇) D (persOf i x).ks := by
          obtain ⟨nD, eD⟩ := hDF
          refine ⟨bs, hbl, ⟨nD, cut_get eD (Nat.le_of_lt hLD)⟩, fun k a kk e1 e2 => ?_⟩
          obtain ⟨h1, t, u, n, T⟩ := hbs k a kk e1 e2
          exact ⟨t, u, n, cut_get (hF₇ _ _ (hFC _ _ (Nat.le_of_lt h1) T)) (Nat.le_of_lt (Nat.lt_trans hLC h1))⟩
        refine W.execs_cons ?_
        repeat walk_at "w"
        refine W.m_append (show LAt h₃₂ pa (as.map .ref) from S₃₂.get (i := 1) rfl) ?_
        repeat walk_at "w"
        refine W.newTuple S₃₂ fun tp h₃₃ htp hs₃₃ S₃₃ => ?_
        repeat walk_at "w"
        refine W.append (i := 2) S₃₃ rfl (by rw [List.length_map, hal]; exact small_size (by omega)) fun h₃₄ S₃₄ => ?_
        replace S₃₄ : St O F₇ L _ ((tp, _) :: [(it, .riter (i + 1) ((8 : Nat) - (i + 1)) 1), (pa, .lst (as.map .ref ++ [.ref tp])), (L + 1 + 1, .cell (some (.ref ca))), (L + 1, .cell (some (.int x _)))]) h₃₄ := S₃₄
        obtain ⟨F₈, hF₈, S₃₄, htpF, _⟩ := S₃₄.cool
        refine W.execs_nil ⟨F₈, _, [(pa, .lst (as.map .ref ++ [.ref tp])), (L + 1 + 1, .cell (some (.ref ca))), (L + 1, .cell (some (.int x _)))], ?_, S₃₄⟩
        have c57 : Sub (cut L F₅) (cut L F₈) := cut_mono (fun b o e => hF₈ b o (hF₇ b o (hF₉ b o (hF₆ b o e)))) (Nat.le_refl _)
        have c78 : Sub (cut L F₇) (cut L F₈) := cut_mono hF₈ (Nat.le_refl _)
        have c35 : Sub (cut L F₃) (cut L F₅) := cut_mono (fun b o e => hF₅ b o (hF₄ b o e)) (Nat.le_refl _)
        have cF8 : Sub F F₈ := fun b o e => hF₈ b o (hF₇ b o (hF₉ b o (hF₆ b o (hF₅ b o (hF₄ b o (hF₃ b o (hF₂ b o e)))))))
        subst hInv
        refine ⟨as ++ [tp], some (.int x _), some (.ref ca), fun k => if k = i then x else X k, (by rw [List.map_append]; rfl), fun b o e => cF8 b o (hF b o e), hms, hmn, hmp, by simp [hal], fun k a e => ?_⟩
        by_cases hk : k < as.length
        · rw [List.getElem?_append_left hk] at e
          have : k ≠ i := by omega
          simp only [this, if_false]
          exact (has k a e).sub (cut_mono cF8 (Nat.le_refl _))
        · have hk1 : k = as.length := by
            have := (List.getElem?_eq_some_iff.mp e).1
            simp at this; omega
          subst hk1
          have : tp = a := by simpa using e
          subst this
          simp only [hal, if_true]
          obtain ⟨nt, et⟩ := htpF
          exact ⟨_, mk, rw_, D, ⟨nt, cut_get et (Nat.le_of_lt htp)⟩, (hmkI.sub c35).sub c57, hrowI.sub c57, hkeys.sub c78⟩
  · rintro F m news h₈ hI S₈
    rw [hInv] at hI
    obtain ⟨as, vx, vc, X, rfl, hF, hms, hmn, hmp, hal, has⟩ := hI
    refine W.execs_cons ?_
    repeat walk_at "w"
    refine q X pa h₈ (fun b o e => S₈.v.keep b o (hF b o (hF₀ b o e))) ⟨as, hal, ?_, fun k a e => (has k a e).sub (by rw [hL]; exact cut_mono S₈.v.keep (Nat.le_refl _))⟩
    obtain ⟨n, e⟩ : LAt h₈ pa (as.map .ref) := S₈.get (i := 0) rfl
    exact ⟨n, cut_get e (by rw [hL]; exact Nat.le_of_lt hpa)⟩
end

-- C9
noncomputable section
def o213 : { o : Obj // ∀ P, (KK P).lookup 213 = some o } := ⟨_, fun P => rfl⟩
def fd213 : { fd : FuncData // o213.1.data = .func fd } := ⟨_, rfl⟩
def b213 : { b : List Stmt // fd213.1.body = .stmts b } := ⟨_, rfl⟩
theorem c213 (P) : codeIn (KK P) fd213.1.code fd213.1.qualname = true := by kernel_rfl
def wb213 : { b : List Stmt // ∃ t o p, b213.1[4]? = some (.While t b o p) } := ⟨_, _, _, _, rfl⟩
def for213 : { s : Stmt // wb213.1[4]? = some s } := ⟨_, rfl⟩
def tl213 : { r : List Stmt // ∃ s, wb213.1.drop 4 = s :: r } := ⟨_, _, rfl⟩
end
theorem n_sorted (P) : nsIn (KK P) mainGlobals "sorted" = some none := by kernel_rfl
theorem bo_sorted : bootBuiltins "sorted" = some (.builtin "sorted") := by kernel_rfl
theorem n_int (P) : nsIn (KK P) mainGlobals "int" = some none := by kernel_rfl
theorem bo_int : bootBuiltins "int" = some (.type "int") := by kernel_rfl
theorem n_len (P) : nsIn (KK P) mainGlobals "len" = some none := by kernel_rfl
theorem bo_len : bootBuiltins "len" = some (.builtin "len") := by kernel_rfl
theorem n_tc (P) : nsIn (KK P) mainGlobals "TupleComp" = some (some (.ref 62)) := by kernel_rfl
theorem n_hd (P) : nsIn (KK P) mainGlobals "Headers" = some (some (.ref 199)) := by kernel_rfl
theorem k62_keep (P) : keepIn (KK P) (.ref 62) = true := by kernel_rfl
theorem k199_keep (P) : keepIn (KK P) (.ref 199) = true := by kernel_rfl
theorem k62_getc (P) : plainGet (KK P) 62 "compare" = true := by kernel_rfl
theorem k62_cmp (P) : findIn (KK P) (.ref 62) "compare" = some (some (.ref 59)) := by kernel_rfl
theorem k59_fn (P) : isFn (KK P) (.ref 59) = true := by kernel_rfl
theorem k59_keep (P) : keepIn (KK P) (.ref 59) = true := by kernel_rfl
theorem k199_getit (P) : findIn (KK P) (.ref 199) "__getitem__" = some (some (.ref 124)) := by kernel_rfl
theorem k124_in (P) : fnIn (KK P) 124 = true := by kernel_rfl
theorem k124_fn (P) : isFn (KK P) (.ref 124) = true := by kernel_rfl
theorem k199_setit (P) : findIn (KK P) (.ref 199) "__setitem__" = some (some (.ref 112)) := by kernel_rfl
theorem k112_fn (P) : isFn (KK P) (.ref 112) = true := by kernel_rfl
theorem k199_geti (P) : plainGet (KK P) 199 "items" = true := by kernel_rfl
theorem k199_items (P) : findIn (KK P) (.ref 199) "items" = some (some (.ref 163)) := by kernel_rfl
theorem k163_fn (P) : isFn (KK P) (.ref 163) = true := by kernel_rfl
theorem k163_keep (P) : keepIn (KK P) (.ref 163) = true := by kernel_rfl

theorem sideA {first : Int} (hff : first = 0 ∨ first = 4) (x : Nat) (hx : x < 4) : (first + (x : Int)).toNat = first.toNat + x ∧ 0 ≤ first + (x : Int) ∧ first + (x : Int) < 8 ∧ first.toNat + x < 8 := by
  rcases hff with rfl | rfl <;> simp <;> omega
theorem sideB {first : Int} (hff : first = 0 ∨ first = 4) (x : Nat) (hx : x < 4) : (4 - first + (x : Int)).toNat = 4 - first.toNat + x ∧ 0 ≤ 4 - first + (x : Int) ∧ 4 - first + (x : Int) < 8 ∧ 4 - first.toNat + x < 8 := by
  rcases hff with rfl | rfl <;> simp <;> omega
def ofN (l : List Nat) : List Int := l.map fun (x : Nat) => (x : Int)
theorem ofN_get {l : List Nat} {i : Nat} {v : Int} (h : (ofN l)[i]? = some v) : ∃ x : Nat, l[i]? = some x ∧ v = (x : Int) := by
  unfold ofN at h
  rw [List.getElem?_map] at h
  cases q : l[i]? with
  | none => rw [q] at h; cases h
  | some x => rw [q] at h; exact ⟨x, rfl, (Option.some.inj h).symm⟩

section
variable {prog : Program} {w : World} {A : Around} {O h : Heap} {p : Program} {loose : List Str} {mg mb : Str → Option Value}
/-- order.compare(l, r) -/
theorem W.m_compare {F : Heap} {L : Addr} {m : Str → Option Value} {news : Led} {lo : Nat} {x kl : Addr} {pl : Sem Bool} {Q : Value × List Value → Heap → Prop} (G : Good (KK w.params) p loose mg mb O) (S : St O F L m news h) (hx : CompAt lo F x kl) (q : Q (.ref 59, [.ref x]) h) : W prog w A (getMethod (.ref x) "compare" pl) h Q := by
  obtain ⟨dx, hsh, tk, n, _, _, hI⟩ := hx
  exact W.method_inst (C := 62) G S ⟨S.v.keep _ _ hI.1, hI.2, hI.3, S.v.keep _ _ hI.4⟩ (k62_getc _) (k62_cmp _) (k59_fn _) rfl q

set_option maxHeartbeats 4000000 in
theorem for_W {h0 F : Heap} {L : Addr} {m : Str → Option Value} {news : Led} {pl ord kl lo a1 : Addr} {P : Nat → Pers} {first one : Int} {tf t1 tb : Tok} {i : Nat} {vs lows : List Value} {b0 : Nat} {tl : List Nat} {clo : Nat} {ks : List (Int × Int)} {Rm : Nat → Int} {Q : Flow → Heap → Prop}
    (G : Good (KK w.params) p loose mg mb O) (R : Room A 3) (S : St O F L m news h) (hF0 : Sub h0 F) (hp : PeopleAt h0 pl P) (hff : first = 0 ∨ first = 4) (h1 : 0 ≤ one) (h2 : one < 4)
    (hmp : m "people" = some (.ref pl)) (hmf : m "first" = some (.int first tf)) (hml : m "left" = some (.ref lo)) (hmo : m "one" = some (.int one t1)) (hmor : m "order" = some (.ref ord)) (hmb : m "best" = some (.int (b0 : Nat) tb))
    (hlo : LAt F lo lows) (hl1 : lows[one.toNat]? = some (.ref a1)) (hi : news[i]? = some (a1, .lst vs)) (hvs : IntsAre vs (ofN (b0 :: tl))) (hb4 : ∀ x ∈ b0 :: tl, x < 4) (hlen : tl.length ≤ 4)
    (hord : CompAt clo F ord kl) (hk : KeysAt F kl ks) (hc : ∀ k ∈ ks, 0 ≤ k.1 ∧ k.1 < 4)
    (hcmp : ∀ a b, a < 4 → b < 4 → (cmpVal ks (P (4 - first.toNat + a)).row (P (4 - first.toNat + b)).row < 0 ↔ Rm a < Rm b))
    (q : ∀ F' m' h' b tb, Sub F F' → b ∈ b0 :: tl → (∀ x ∈ b0 :: tl, Rm b ≤ Rm x) → (∀ y : Str, y ≠ "best" → y ≠ "other" → m' y = m y) → m' "best" = some (.int (b : Nat) tb) → St O F' L m' news h' → Q .next h') :
    W prog w A (exec for213.1 (callEnvC fd213.val L 213)) h Q := by
  have hh := R.hh
  refine W.for_ ?_
  repeat walk_at "w"
  refine W.item_list (hlo.sub S.v.keep) h1 hl1 ?_ (by omega)
  refine W.sliceE (W.part_some (W.const_int fun _ => W.part_none (W.part_none (W.newSlice S fun sl h₁ hs₁ S₁ hsl => ?_))))
  have hvl : vs.length = tl.length + 1 := by rw [hvs.length]; simp [ofN]
  refine W.slice_tail S₁ (show LAt h₁ a1 vs from S₁.get hi).isList hsl (.int _ _) .none .none (by decide) (by simp; exact small_size (by omega)) fun ua h₂ hua hs₂ S₂ => ?_
  have hus := slice_ints_fromW hvs (x := 1) (by decide)
  generalize (slicePick vs.toArray (some 1) none none).toList = us at *
  obtain ⟨F₂, hF₂, S₂, huaF, _⟩ := S₂.cool
  replace hus : IntsAre us (ofN tl) := hus
  refine W.pyIter_list S₂ (LAt.sub huaF S₂.v.keep).isList fun it h₃ hit hs₃ S₃ => ?_
  refine Go.list (items := us) (fun i F' m' news' => news' = news ∧ Sub F₂ F' ∧ (∀ y : Str, y ≠ "best" → y ≠ "other" → m' y = m y) ∧ ∃ b tb, m' "best" = some (.int ((b : Nat) : Int) tb) ∧ b ∈ b0 :: tl ∧ ∀ x ∈ b0 :: tl.take i, Rm b ≤ Rm x) hh ?_ ?_ ?_ S₃ ⟨rfl, fun _ _ e => e, fun _ _ _ => rfl, b0, tb, hmb, .head _, fun x hx => by simp at hx; subst hx; exact Int.le_refl _⟩ (.inl ⟨_, _, rfl⟩)
  · rintro i F' m' news' h ob ⟨rfl, hF', _⟩ S
    exact (LAt.sub huaF fun b o e => S.v.keep b o (hF' b o e)).isList
  · rintro i v F' m' news' h₄ hv ⟨rfl, hF', hfr, b, tb, hmb, hbm, hbest⟩ S₄
    obtain ⟨xi, tx, rfl, hx0⟩ := hus.at i v hv
    obtain ⟨x, hx, rfl⟩ := ofN_get hx0
    have hxm : x ∈ tl := List.mem_of_getElem? hx
    have x4 : x < 4 := hb4 x (.tail _ hxm)
    have b4 : b < 4 := hb4 b hbm
    have hmp' : m' "people" = some (.ref pl) := (hfr _ (by decide) (by decide)).trans hmp
    have hmf' : m' "first" = some (.int first tf) := (hfr _ (by decide) (by decide)).trans hmf
    have hmor' : m' "order" = some (.ref ord) := (hfr _ (by decide) (by decide)).trans hmor
    refine W.assign_name (W.store S₄ fun h₅ S₅ => ?_)
    have cF : Sub F F' := fun b o e => hF' b o (hF₂ b o e)
    have hpF : PeopleAt F' pl P := hp.sub fun b o e => cF b o (hF0 b o e)
    refine W.execs_cons ?_
    repeat walk_at "w"
    refine W.m_compare G S₅ (hord.mono (fun b o _ e => cF b o e) (Nat.le_refl _)) ?_
    refine W.callK G (k59_keep _) ?_
    repeat walk_at "w"
    refine W.item_people hpF S₅.v.keep (sideB hff x x4).2.1 (sideB hff x x4).2.2.1 fun a ha => ?_
    rw [(sideB hff x x4).1] at ha
    obtain ⟨_, mk, rw_, kl1, hT, _, hrow, _⟩ := ha
    repeat walk_at "w"
    refine W.item_tup (hT.sub S₅.v.keep) (by decide) rfl ?_ (by decide)
    repeat walk_at "w"
    refine W.item_people hpF S₅.v.keep (sideB hff b b4).2.1 (sideB hff b b4).2.2.1 fun a' ha' => ?_
    rw [(sideB hff b b4).1] at ha'
    obtain ⟨_, mk', rw', kl', hT', _, hrow', _⟩ := ha'
    repeat walk_at "w"
    refine W.item_tup (hT'.sub S₅.v.keep) (by decide) rfl ?_ (by decide)
    repeat walk_at "w"
    refine ⟨S₅.sO, ?_⟩
    refine compare_W G (R.le (by decide)) S₅.orgH (hord.mono (fun b o _ e => S₅.v.keep b o (cF b o e)) (Nat.le_refl _)) (hk.sub fun b o e => S₅.v.keep b o (cF b o e)) hc (hrow.sub S₅.v.keep) (hrow'.sub S₅.v.keep) fun t h₆ hs₆ => ?_
    obtain ⟨F₆, hF₆, S₆, _, _⟩ := S₅.back hs₆
    repeat walk_at "w"
    have hcm := hcmp x b x4 b4
    have htake : tl.take (i + 1) = tl.take i ++ [x] := by
      rw [List.take_add_one, hx]; rfl
    cases hq : decide (cmpVal ks (P (4 - first.toNat + x)).row (P (4 - first.toNat + b)).row < 0) with
    | true =>
      have hlt := hcm.mp (of_decide_eq_true hq)
      repeat walk_at "w"
      refine W.store S₆ fun h₇ S₇ => ?_
      repeat walk_at "w"
      refine ⟨F₆, _, news', ?_, S₇⟩
      refine ⟨rfl, fun b o e => hF₆ b o (hF' b o e), fun y h1 h2 => ?_, x, tx, rfl, .tail _ hxm, fun z hz => ?_⟩
      · show (if y = "best" then _ else if y = "other" then _ else m' y) = m y
        rw [if_neg h1, if_neg h2]; exact hfr y h1 h2
      · rw [htake] at hz
        rcases List.mem_cons.mp hz with rfl | hz
        · exact Int.le_trans (Int.le_of_lt hlt) (hbest _ (.head _))
        · rcases List.mem_append.mp hz with hz | hz
          · exact Int.le_trans (Int.le_of_lt hlt) (hbest z (.tail _ hz))
          · rw [List.mem_singleton] at hz; subst hz; exact Int.le_refl _
    | false =>
      have hlt : ¬ Rm x < Rm b := fun z => by
        have := hcm.mpr z
        rw [decide_eq_false_iff_not] at hq; exact hq this
      repeat walk_at "w"
      refine ⟨F₆, _, news', ?_, S₆⟩
      refine ⟨rfl, fun b o e => hF₆ b o (hF' b o e), fun y h1 h2 => ?_, b, tb, hmb, hbm, fun z hz => ?_⟩
      · show (if y = "other" then _ else m' y) = m y
        rw [if_neg h2]; exact hfr y h1 h2
      · rw [htake] at hz
        rcases List.mem_cons.mp hz with rfl | hz
        · exact hbest _ (.head _)
        · rcases List.mem_append.mp hz with hz | hz
          · exact hbest z (.tail _ hz)
          · rw [List.mem_singleton] at hz; subst hz; omega
  · rintro F' m' news' h₄ ⟨rfl, hF', hfr, b, tb, hmb, hbm, hbest⟩ S₄
    have hul : us.length = tl.length := by rw [hus.length]; simp [ofN]
    rw [hul, List.take_length] at hbest
    exact q F' m' h₄ b tb (fun b o e => hF' b o (hF₂ b o e)) hbm hbest hfr hmb S₄
end

-- C10
theorem findE_put (es : List Ent) (u : Bool) (d v x : Nat) : findE x (dropE d es ++ [(u, d, v)]) = if x = d then some v else findE x es := by
  unfold findE dropE
  induction es with
  | nil =>
    by_cases h : x = d
    · subst h; simp
    · have : ¬ d = x := fun e => h e.symm
      simp [h, this]
  | cons e es ih =>
    by_cases hd : e.2.1 = d
    · rw [List.filter_cons_of_neg (by simp [hd]), ih]
      by_cases h : x = d
      · rw [if_pos h, if_pos h]
      · rw [if_neg h, if_neg h, List.find?_cons_of_neg]
        simp; intro z; exact h (z.symm.trans hd)
    · rw [List.filter_cons_of_pos (by simp [hd]), List.cons_append]
      by_cases hx : e.2.1 = x
      · rw [List.find?_cons_of_pos (by simp [hx]), if_neg (fun z => hd (hx.trans z)), List.find?_cons_of_pos (by simp [hx])]
      · rw [List.find?_cons_of_neg (by simpa using hx), List.find?_cons_of_neg (by simpa using hx)]
        exact ih
theorem nodup_put {es : List Ent} (h : (es.map (·.2.1)).Nodup) (u : Bool) (d v : Nat) : ((dropE d es ++ [(u, d, v)]).map (·.2.1)).Nodup := by
  rw [List.map_append, List.nodup_append]
  refine ⟨h.sublist (List.filter_sublist.map _), by simp, ?_⟩
  intro a ha b hb e
  simp at hb
  obtain ⟨x, hx, rfl⟩ := List.mem_map.mp ha
  have := (List.mem_filter.mp hx).2
  simp at this
  exact this (e.trans hb)
theorem length_put (es : List Ent) (u : Bool) (d v : Nat) : (dropE d es ++ [(u, d, v)]).length ≤ es.length + 1 := by
  rw [List.length_append]
  exact Nat.add_le_add_right (List.length_filter_le _ _) 1

def led6 (la : Nat → Addr) (lv : Nat → List Value) (fa : Addr) (fv : List Value) (hl : Addr) (hv : List Value) : Led :=
  [(la 0, .lst (lv 0)), (la 1, .lst (lv 1)), (la 2, .lst (lv 2)), (la 3, .lst (lv 3)), (fa, .lst fv), (hl, .lst hv)]
theorem led6_get {la : Nat → Addr} {lv : Nat → List Value} {fa : Addr} {fv : List Value} {hl : Addr} {hv : List Value} (k : Nat) (hk : k < 4) : (led6 la lv fa fv hl hv)[k]? = some (la k, .lst (lv k)) :=
  four (P := fun k => (led6 la lv fa fv hl hv)[k]? = some (la k, .lst (lv k))) rfl rfl rfl rfl k hk
theorem led6_set {la : Nat → Addr} {lv : Nat → List Value} {fa : Addr} {fv : List Value} {hl : Addr} {hv : List Value} (k : Nat) (hk : k < 4) (vs : List Value) : (led6 la lv fa fv hl hv).set k (la k, .lst vs) = led6 la (fun j => if j = k then vs else lv j) fa fv hl hv :=
  four (P := fun k => (led6 la lv fa fv hl hv).set k (la k, .lst vs) = led6 la (fun j => if j = k then vs else lv j) fa fv hl hv) rfl rfl rfl rfl k hk

section
variable {prog : Program} {w : World} {A : Around} {O h : Heap} {p : Program} {loose : List Str} {mg mb : Str → Option Value}
theorem HeadAt.lt {lo : Nat} {x hl : Addr} {F h : Heap} (y : HeadAt lo F x hl) (hs : Sub F h) : lo ≤ h.objs.size := by
  obtain ⟨dx, hsh, tk, n, h1, h2, I⟩ := y
  exact Nat.le_of_lt (Nat.lt_of_le_of_lt h2 (Heap.lt_size (hs _ _ I.1)))
set_option maxHeartbeats 4000000 in
theorem hold_W {F : Heap} {L : Addr} {m : Str → Option Value} {la : Nat → Addr} {lv : Nat → List Value} {fa hx hl : Addr} {fv : List Value} {as : List Addr} {es : List Ent} {u : Bool} {d one lw : Nat} {tn to : Tok} {p1 p2 p3 p4 p5 p6 p7 : Pos} {Q : Flow → Heap → Prop}
    (G : Good (KK w.params) p loose mg mb O) (R : Room A 6) (S : St O F L m (led6 la lv fa fv hl (as.map .ref)) h)
    (hmh : m "held" = some (.ref hx)) (hmn : m "name" = some (.str (nm u d) tn)) (hmo : m "one" = some (.int (one : Nat) to)) (hd : d < 4) (ho : one < 4)
    (hx_ : HeadAt lw F hx hl) (hp : PairsAt lw F as es) (hlen : es.length ≤ 100)
    (q : ∀ F' as' h', Sub F F' → PairsAt lw F' as' (dropE d es ++ [(u, d, one)]) → St O F' L m (led6 la lv fa fv hl (as'.map .ref)) h' → Q .next h') :
    W prog w A (exec (.Assign [.Subscript (.Name "held" p1) (.Name "name" p2) p3] (.Call (.Name "str" p4) [.Name "one" p5] [] p6) p7) (callEnvC fd213.val L 213)) h Q := by
  have hlw := hx_.lt S.v.keep
  have hx0 := hx_
  obtain ⟨dx, hsh, tk, n, _, _, hI⟩ := hx0
  have hlF : F.get? hl = none := S.v.off (hl, .lst (as.map .ref)) (by unfold led6; simp)
  have hll : LAt h hl (as.map .ref) := S.get (i := 5) rfl
  have hFh : Sub F (h.hide hl) := sub_hide S.v.keep hlF
  have hls : hl < h.objs.size := by obtain ⟨n, e⟩ := hll; exact Heap.lt_size e
  repeat walk_at "w"
  refine W.bltn G S.sO (n_str _) bo_str ?_
  repeat walk_at "w"
  refine W.str_vl (by omega) (by omega) fun tv => ?_
  rw [Int.toNat_natCast]
  repeat walk_at "w"
  refine W.setItem_inst (C := 199) (od := some (dictOf [⟨hsh, .str "_headers" tk, .ref hl⟩] n)) G S ⟨S.v.keep _ _ hI.1, hI.2, hI.3, S.v.keep _ _ hI.4⟩ (k199_noSeq _) (k199_setit _) (k112_fn _) ?_
  refine set_W (lo := lw) (es := es) (F₀ := F) G R ⟨fun b o e => hFh b o (S.org b o e), by rw [Heap.hide_size]; exact S.orgH.le⟩ hls (hx_.mono (fun b o _ e => hFh b o e) (Nat.le_refl _)) hll hp hFh hd ho hlen fun h₁ as₁ a hs₁ hp₁ ha hT hl₁ => ?_
  obtain ⟨F', hF', S', hSF, _⟩ := S.backBut (i := 5) rfl hs₁ (y := .lst ((as₁ ++ [a]).map .ref)) hl₁
  refine q F' (as₁ ++ [a]) h₁ hF' ?_ S'
  exact PairsAt.push (hp₁.mono (fun b o _ e => hF' b o e) (Nat.le_refl _)) (Nat.le_trans hlw ha) hd ho tn tv (hT.from hSF ha)
end

-- C11
/-- the names of the loop -/
structure Loc (m : Str → Option Value) (pl hx lo fa : Addr) (first : Int) (tf : Tok) : Prop where
  p : m "people" = some (.ref pl)
  f : m "first" = some (.int first tf)
  h : m "held" = some (.ref hx)
  l : m "left" = some (.ref lo)
  r : m "free" = some (.ref fa)
/-- what the loop keeps -/
structure WInv (R S : Nat → Nat → Int) (h0 : Heap) (pl hx lo fa hl : Addr) (la : Nat → Addr) (lw : Nat) (first : Int) (tf : Tok) (n : Nat) (F : Heap) (m : Str → Option Value) (news : Led) : Prop where
  ok : ∃ (left : Nat → List Nat) (free : List Nat) (es : List Ent) (as : List Addr) (lv : Nat → List Value) (fv : List Value) (tn : Int) (tt : Tok),
    news = led6 la lv fa fv hl (as.map .ref) ∧ Sub h0 F ∧ Loc m pl hx lo fa first tf ∧ m "turn" = some (.int tn tt) ∧ 0 ≤ tn ∧ LAt F lo [.ref (la 0), .ref (la 1), .ref (la 2), .ref (la 3)] ∧ HeadAt lw F hx hl ∧ PairsAt lw F as es ∧
    (∀ k, k < 4 → IntsAre (lv k) (ofN (left k))) ∧ IntsAre fv (ofN free) ∧ GS.Inv R S left (fun x => findE x es) free ∧ (es.map (·.2.1)).Nodup ∧ es.length + n ≤ 16 ∧ n = (left 0).length + (left 1).length + (left 2).length + (left 3).length
theorem la_at (la : Nat → Addr) (k : Nat) (hk : k < 4) : ([.ref (la 0), .ref (la 1), .ref (la 2), .ref (la 3)] : List Value)[k]? = some (.ref (la k)) :=
  four (P := fun k => ([.ref (la 0), .ref (la 1), .ref (la 2), .ref (la 3)] : List Value)[k]? = some (.ref (la k))) rfl rfl rfl rfl k hk
theorem sum_drop (left : Nat → List Nat) (k : Nat) (hk : k < 4) (l : List Nat) (h : l.length + 1 = (left k).length) :
    ((fun j => if j = k then l else left j) 0).length + ((fun j => if j = k then l else left j) 1).length + ((fun j => if j = k then l else left j) 2).length + ((fun j => if j = k then l else left j) 3).length + 1 = (left 0).length + (left 1).length + (left 2).length + (left 3).length := by
  have : k = 0 ∨ k = 1 ∨ k = 2 ∨ k = 3 := by omega
  rcases this with rfl | rfl | rfl | rfl <;> simp <;> omega
theorem ofN_idx {l : List Nat} {b : Nat} (h : b ∈ l) : (ofN l)[l.idxOf b]? = some (b : Int) ∧ (∀ k, k < l.idxOf b → (ofN l)[k]? ≠ some (b : Int)) := by
  unfold ofN
  refine ⟨?_, fun k hk hc => ?_⟩
  · rw [List.getElem?_map, List.getElem?_eq_getElem (List.idxOf_lt_length_of_mem h), List.getElem_idxOf]; rfl
  · rw [List.getElem?_map] at hc
    cases q : l[k]? with
    | none => rw [q] at hc; cases hc
    | some x =>
      rw [q] at hc
      have e : (x : Int) = (b : Int) := Option.some.inj hc
      have e' : x = b := by omega
      subst e'
      have := List.not_of_lt_findIdx (p := (· == x)) (xs := l) (i := k) hk
      obtain ⟨hl, e2⟩ := List.getElem?_eq_some_iff.mp q
      simp [e2] at this
theorem eraseIdx_map_ {α β : Type} (f : α → β) : ∀ (l : List α) (i : Nat), (l.map f).eraseIdx i = (l.eraseIdx i).map f
  | [], _ => rfl
  | _ :: _, 0 => rfl
  | _ :: l, i + 1 => by simp [eraseIdx_map_ f l i]
theorem ofN_erase {vs : List Value} {l : List Nat} {b : Nat} (h : IntsAre vs (ofN l)) : IntsAre (vs.eraseIdx (l.idxOf b)) (ofN (l.erase b)) := by
  have := IntsAre.eraseIdx (l.idxOf b) h
  have e : (ofN l).eraseIdx (l.idxOf b) = ofN (l.erase b) := by
    unfold ofN
    rw [List.erase_eq_eraseIdx_of_idxOf rfl, eraseIdx_map_]
  rw [e] at this; exact this
theorem ofN_append {vs : List Value} {l : List Nat} (h : IntsAre vs (ofN l)) (x : Nat) (t : Tok) : IntsAre (vs ++ [.int (x : Int) t]) (ofN (l ++ [x])) := by
  have : ofN (l ++ [x]) = ofN l ++ [(x : Int)] := by unfold ofN; simp
  rw [this]
  exact h.append (.cons _ _ .nil)

theorem mem_pop {l : List Nat} {i x : Nat} (hn : l.Nodup) (hi : l[i]? = some x) (y : Nat) : y ∈ l.eraseIdx i ↔ y ∈ l ∧ y ≠ x := by
  rw [List.mem_eraseIdx_iff_getElem?]
  constructor
  · rintro ⟨j, hj, e⟩
    refine ⟨List.mem_of_getElem? e, fun z => hj ?_⟩
    subst z
    obtain ⟨h1, e1⟩ := List.getElem?_eq_some_iff.mp e
    obtain ⟨h2, e2⟩ := List.getElem?_eq_some_iff.mp hi
    have key := List.pairwise_iff_getElem.mp hn
    rcases Nat.lt_trichotomy j i with h | h | h
    · exact absurd (e1.trans e2.symm) (key j i h1 h2 h)
    · exact h
    · exact absurd (e2.trans e1.symm) (key i j h2 h1 h)
  · rintro ⟨hy, hne⟩
    obtain ⟨j, hj⟩ := List.mem_iff_getElem?.mp hy
    refine ⟨j, fun z => hne ?_, hj⟩
    subst z
    rw [hi] at hj
    exact (Option.some.inj hj).symm
theorem len4 : ∀ {l : List Nat}, l.Nodup → (∀ x ∈ l, x < 4) → l.length ≤ 4
  | [], _, _ => by decide
  | [_], _, _ => by simp
  | [_, _], _, _ => by simp
  | [_, _, _], _, _ => by simp
  | [_, _, _, _], _, _ => by simp
  | a :: b :: c :: d :: e :: r, hn, h => by
    exfalso
    simp only [List.nodup_cons, List.mem_cons, not_or] at hn
    have h1 := h a (by simp)
    have h2 := h b (by simp)
    have h3 := h c (by simp)
    have h4 := h d (by simp)
    have h5 := h e (by simp)
    exact GS.pig h1 h2 h3 h4 h5 hn.1.1 hn.1.2.1 hn.1.2.2.1 hn.2.1.1 hn.2.1.2.1 hn.2.2.1.1 hn.1.2.2.2.1 hn.2.1.2.2.1 hn.2.2.1.2.1 hn.2.2.2.1.1
theorem nodup_push {l : List Nat} {x : Nat} (hn : l.Nodup) (hx : x ∉ l) : (l ++ [x]).Nodup := by
  rw [List.nodup_append]
  refine ⟨hn, by simp, fun a ha b hb e => ?_⟩
  simp at hb
  subst hb; subst e; exact hx ha
section
variable {prog : Program} {w : World} {A : Around} {O h : Heap} {p : Program} {loose : List Str} {mg mb : Str → Option Value}
theorem W.item_fmt {value slice : Expr} {a : Addr} {t1 t2 : Tok} {k : Int} {v : Tok} {Q : Value → Heap → Prop} (hl : LAt h a [.str "%d-NAME" t1, .str "%d-name" t2]) (h0 : 0 ≤ k) (h2 : k < 2) (q : ∀ u ts, Q (.str (fmtOf u) ts) h)
    (hs : subscripted slice false (.ref a) (.int k v) = operate [.ref a, .int k v] (getItem (.ref a) (.int k v)) := by with_unfolding_all rfl) : W prog w A (subscriptTail value slice (.ref a) (.int k v)) h Q := by
  have : k = 0 ∨ k = 1 := by omega
  rcases this with rfl | rfl
  · exact W.item_list hl h0 rfl (q true t1) (by decide) hs
  · exact W.item_list hl h0 rfl (q false t2) (by decide) hs
set_option maxHeartbeats 8000000 in
theorem tail_W {h0 F : Heap} {L : Addr} {m : Str → Option Value} {la : Nat → Addr} {lv : Nat → List Value} {pl hx lo fa hl : Addr} {fv : List Value} {as : List Addr} {es : List Ent} {P : Nat → Pers} {R S : Nat → Nat → Int} {left : Nat → List Nat} {free : List Nat} {one b lw n i : Nat} {first tn : Int} {tf to tb tt : Tok} {Q : Flow → Heap → Prop}
    (G : Good (KK w.params) p loose mg mb O) (Rm : Room A 7) (St₀ : St O F L m (led6 la lv fa fv hl (as.map .ref)) h) (hF0 : Sub h0 F) (hpe : PeopleAt h0 pl P) (hok : ∀ k, k < 8 → PersOk (P k)) (hff : first = 0 ∨ first = 4)
    (hm : Loc m pl hx lo fa first tf) (hmt : m "turn" = some (.int tn tt)) (h0t : 0 ≤ tn) (hmo : m "one" = some (.int (one : Nat) to)) (hmb : m "best" = some (.int (b : Nat) tb))
    (hlo : LAt F lo [.ref (la 0), .ref (la 1), .ref (la 2), .ref (la 3)]) (hhx : HeadAt lw F hx hl) (hpa : PairsAt lw F as es)
    (hlv : ∀ k, k < 4 → IntsAre (lv k) (ofN (left k))) (hfv : IntsAre fv (ofN (free.eraseIdx i))) (I : GS.Inv R S left (fun x => findE x es) free) (hnd : (es.map (·.2.1)).Nodup) (hlen : es.length + n ≤ 16)
    (hn : n = (left 0).length + (left 1).length + (left 2).length + (left 3).length) (hi : free[i]? = some one) (hb : b ∈ left one) (hbest : ∀ x ∈ left one, x ≠ b → R one b < R one x)
    (hS : ∀ wo a c, wo < 4 → a < 4 → c < 4 → (cmpVal (P (4 - first.toNat + wo)).ks (P (first.toNat + a)).row (P (first.toNat + c)).row < 0 ↔ S wo a < S wo c)) (hSi : ∀ wo a c, wo < 4 → a < 4 → c < 4 → S wo a = S wo c → a = c)
    (q : ∀ fl n' F' m' news' h', fl = .next ∨ fl = .cont → n' < n → WInv R S h0 pl hx lo fa hl la lw first tf n' F' m' news' → St O F' L m' news' h' → Q fl h') :
    W prog w A (execs tl213.1 (callEnvC fd213.val L 213)) h Q := by
  have hh := Rm.hh
  have one4 : one < 4 := I.fr one (List.mem_of_getElem? hi)
  have b4 : b < 4 := I.lf one b one4 hb
  have hlv1 := hlv one one4
  have hll : (lv one).length = (left one).length := by rw [hlv1.length]; simp [ofN]
  have hl16 : (left one).length ≤ 16 := by
    have : one = 0 ∨ one = 1 ∨ one = 2 ∨ one = 3 := by omega
    rcases this with rfl | rfl | rfl | rfl <;> omega
  obtain ⟨hmp, hmf, hmh, hml, hmr⟩ := hm
  unfold tl213
  refine W.execs_cons ?_
  repeat walk_at "w"
  refine W.item_list (hlo.sub St₀.v.keep) (by omega) (by rw [Int.toNat_natCast]; exact la_at la one one4) ?_ (by omega)
  refine W.m_remove (show LAt h (la one) (lv one) from St₀.get (led6_get one one4)) ?_
  repeat walk_at "w"
  refine W.remove (i := one) St₀ (led6_get one one4) hlv1 (by rw [hll]; exact small_size (by omega)) (ofN_idx hb).1 (ofN_idx hb).2 fun h₁ S₁ => ?_
  rw [led6_set one one4] at S₁
  have hlv' : ∀ k, k < 4 → IntsAre ((fun j => if j = one then (lv one).eraseIdx ((left one).idxOf b) else lv j) k) (ofN ((fun j => if j = one then (left one).erase b else left j) k)) := by
    intro k hk
    by_cases e : k = one
    · subst e; simp only [if_true]; exact ofN_erase hlv1
    · simp only [e, if_false]; exact hlv k hk
  have hlen' := sum_drop left one one4 ((left one).erase b) (by rw [List.length_erase_of_mem hb]; have := List.length_pos_of_mem hb; omega)
  have T : GS.Step left (fun j => if j = one then (left one).erase b else left j) free one b := by
    refine ⟨List.mem_of_getElem? hi, hb, fun k _ hk => if_neg hk, fun x => ?_, ?_⟩
    · simp only [if_true]
      rw [(I.ln one one4).mem_erase_iff]; exact And.comm
    · simp only [if_true]; exact (I.ln one one4).erase b
  generalize (fun j => if j = one then (lv one).eraseIdx ((left one).idxOf b) else lv j) = lv' at S₁ hlv'
  generalize (fun j => if j = one then (left one).erase b else left j) = left' at hlv' hlen' T
  have mpop := mem_pop I.nd hi
  have npop : (free.eraseIdx i).Nodup := I.nd.sublist (List.eraseIdx_sublist _ _)
  have f4 : (free.eraseIdx i).length ≤ 4 := len4 npop fun x hx => I.fr x ((mpop x).mp hx).1
  have fvl : fv.length ≤ 4 := by rw [hfv.length]; simpa [ofN] using f4
  repeat walk_at "w"
  refine W.newList S₁ fun l2 h₂ hl2 hs₂ S₂ => ?_
  have hl2₂ : LAt h₂ l2 _ := S₂.get (i := 0) rfl
  have ft : 0 ≤ tn.fmod 2 ∧ tn.fmod 2 < 2 := ⟨Int.fmod_nonneg_of_pos _ (by decide), Int.fmod_lt_of_pos _ (by decide)⟩
  repeat walk_at "w"
  refine W.item_fmt hl2₂ ft.1 ft.2 fun u ts => ?_
  replace S₂ := S₂.drop
  repeat walk_at "w"
  refine W.mod_nm (by omega) (by omega) fun tnm => ?_
  rw [Int.toNat_natCast]
  refine W.store S₂ fun h₃ S₃ => ?_
  refine W.execs_cons ?_
  repeat walk_at "w"
  have hI0 := hhx
  obtain ⟨dx, hsh, tk, nn, _, _, hI⟩ := hI0
  refine W.sub_inst (C := 199) (od := some (dictOf [⟨hsh, .str "_headers" tk, .ref hl⟩] nn)) G S₃ ⟨S₃.v.keep _ _ hI.1, hI.2, hI.3, S₃.v.keep _ _ hI.4⟩ (k199_getit _) (k124_in _) (k124_fn _) ?_
  refine getitem_W (lo' := lw) (es := es) G ((Rm.le (by decide)).in1) S₃.orgH (hhx.mono (fun b o _ e => S₃.v.keep b o e) (Nat.le_refl _)) (S₃.get (i := 5) rfl) (hpa.mono (fun b o _ e => S₃.v.keep b o e) (Nat.le_refl _)) b4 fun rv h₄ hrv hs₄ => ?_
  obtain ⟨F₄, hF₄, S₄, _, _⟩ := S₃.back hs₄
  refine W.store S₄ fun h₅ S₅ => ?_
  refine W.execs_cons ?_
  repeat walk_at "w"
  refine W.is_none ?_
  repeat walk_at "w"
  have hlen100 : es.length ≤ 100 := by omega
  have cF4 : Sub h0 F₄ := fun b o e => hF₄ b o (hF0 b o e)
  have mk : ∀ F' m' fv' as' es' free', Sub F F' → Loc m' pl hx lo fa first tf → m' "turn" = some (.int tn tt) → PairsAt lw F' as' es' → IntsAre fv' (ofN free') → GS.Inv R S left' (fun x => findE x es') free' → (es'.map (·.2.1)).Nodup → es'.length ≤ es.length + 1 →
      WInv R S h0 pl hx lo fa hl la lw first tf (n - 1) F' m' (led6 la lv' fa fv' hl (as'.map .ref)) := by
    intro F' m' fv' as' es' free' k1 k2 k3 k4 k5 k6 k7 k8
    exact ⟨left', free', es', as', lv', fv', tn, tt, rfl, fun b o e => k1 b o (hF0 b o e), k2, k3, h0t, hlo.sub k1, hhx.mono (fun b o _ e => k1 b o e) (Nat.le_refl _), k4, hlv', k5, k6, k7, by omega, by omega⟩
  have hn1 : n - 1 < n := by omega
  have hput : (fun x => findE x (dropE b es ++ [(u, b, one)])) = fun x => if x = b then some one else findE x es := funext fun x => findE_put es u b one x
  cases hfe : findE b es with
  | none =>
    rw [hfe] at hrv
    have hrv' : rv = .none := hrv
    subst hrv'
    show if true = true then _ else _
    refine if_tt (W.execs_cons ?_)
    refine hold_W (tn := tnm) (to := to) (as := as) (es := es) (lw := lw) G (Rm.le (by decide)) S₅ hmh rfl hmo b4 one4 (hhx.mono (fun b o _ e => hF₄ b o e) (Nat.le_refl _)) (hpa.mono (fun b o _ e => hF₄ b o e) (Nat.le_refl _)) hlen100 fun F₆ as₆ h₆ hF₆ hpa₆ S₆ => ?_
    refine W.execs_cons (W.cont ?_)
    refine q .cont (n - 1) F₆ _ _ h₆ (.inr rfl) hn1 ?_ S₆
    refine mk F₆ _ fv as₆ (dropE b es ++ [(u, b, one)]) (free.eraseIdx i) (fun b o e => hF₆ b o (hF₄ b o e)) ⟨hmp, hmf, hmh, hml, hmr⟩ hmt hpa₆ hfv ?_ (nodup_put hnd u b one) (length_put es u b one)
    rw [hput]
    exact I.take T hbest hfe mpop npop
  | some r =>
    rw [hfe] at hrv
    obtain ⟨tr, rfl⟩ := hrv
    have r4 : r < 4 := (I.hm b r hfe).2
    show if false = true then _ else _
    refine if_ff (W.execs_nil (W.execs_cons ?_))
    have hpF : PeopleAt F₄ pl P := hpe.sub cF4
    have e4 := sideB hff b b4
    have e1 := sideA hff
    repeat walk_at "w"
    refine W.glob G S₅.sO (n_tc _) ?_
    refine W.callK G (k62_keep _) ?_
    repeat walk_at "w"
    refine W.item_people hpF S₅.v.keep e4.2.1 e4.2.2.1 fun a ha => ?_
    rw [e4.1] at ha
    obtain ⟨_, mk1, rw1, kl, hT, _, _, hkl⟩ := ha
    repeat walk_at "w"
    refine W.item_tup (hT.sub S₅.v.keep) (by decide) rfl ?_ (by decide)
    repeat walk_at "w"
    refine ⟨S₅.sO, ?_⟩
    refine make_W G (Rm.le (by decide)) S₅.orgH fun od h₆ hs₆ hcomp => ?_
    obtain ⟨F₆, hF₆, S₆, hSF₆, _⟩ := S₅.back hs₆
    have hord := hcomp.mono hSF₆ (Nat.le_refl _)
    refine W.store S₆ fun h₇ S₇ => ?_
    refine W.execs_cons ?_
    repeat walk_at "w"
    refine W.m_compare G S₇ hord ?_
    refine W.callK G (k59_keep _) ?_
    repeat walk_at "w"
    have hpF₆ : PeopleAt F₆ pl P := hpF.sub hF₆
    refine W.item_people hpF₆ S₇.v.keep (e1 one one4).2.1 (e1 one one4).2.2.1 fun a2 ha2 => ?_
    rw [(e1 one one4).1] at ha2
    obtain ⟨_, mk2, rw2, kl2, hT2, _, hrow2, _⟩ := ha2
    repeat walk_at "w"
    refine W.item_tup (hT2.sub S₇.v.keep) (by decide) rfl ?_ (by decide)
    repeat walk_at "w"
    refine W.bltn G S₇.sO (n_int _) bo_int ?_
    repeat walk_at "w"
    refine W.int_vl r4 fun _ => ?_
    repeat walk_at "w"
    refine W.item_people hpF₆ S₇.v.keep (e1 r r4).2.1 (e1 r r4).2.2.1 fun a3 ha3 => ?_
    rw [(e1 r r4).1] at ha3
    obtain ⟨_, mk3, rw3, kl3, hT3, _, hrow3, _⟩ := ha3
    repeat walk_at "w"
    refine W.item_tup (hT3.sub S₇.v.keep) (by decide) rfl ?_ (by decide)
    repeat walk_at "w"
    refine ⟨S₇.sO, ?_⟩
    refine compare_W (ks := (P (4 - first.toNat + b)).ks) G (Rm.le (by decide)) S₇.orgH (hord.mono (fun b o _ e => S₇.v.keep b o e) (Nat.le_refl _)) (hkl.sub fun b o e => S₇.v.keep b o (hF₆ b o e)) (hok _ e4.2.2.2).kc (hrow2.sub S₇.v.keep) (hrow3.sub S₇.v.keep) fun t h₈ hs₈ => ?_
    obtain ⟨F₈, hF₈, S₈, _, _⟩ := S₇.back hs₈
    have cF8 : Sub F F₈ := fun b o e => hF₈ b o (hF₆ b o (hF₄ b o e))
    repeat walk_at "w"
    have hcm := hS b one r b4 one4 r4
    cases hq : decide (cmpVal (P (4 - first.toNat + b)).ks (P (first.toNat + one)).row (P (first.toNat + r)).row < 0) with
    | true =>
      have hlt := hcm.mp (of_decide_eq_true hq)
      refine if_tt (W.execs_cons ?_)
      refine hold_W (tn := tnm) (to := to) (as := as) (es := es) (lw := lw) G (Rm.le (by decide)) S₈ hmh rfl hmo b4 one4 (hhx.mono (fun b o _ e => cF8 b o e) (Nat.le_refl _)) (hpa.mono (fun b o _ e => cF8 b o e) (Nat.le_refl _)) hlen100 fun F₉ as₉ h₉ hF₉ hpa₉ S₉ => ?_
      refine W.execs_cons ?_
      repeat walk_at "w"
      refine W.m_append (show LAt h₉ fa fv from S₉.get (i := 4) rfl) ?_
      repeat walk_at "w"
      refine W.bltn G S₉.sO (n_int _) bo_int ?_
      repeat walk_at "w"
      refine W.int_vl r4 fun tr2 => ?_
      repeat walk_at "w"
      refine W.append (i := 4) S₉ rfl (small_size (by omega)) fun h₁₀ S₁₀ => ?_
      replace S₁₀ : St O F₉ L _ (led6 la lv' fa (fv ++ [.int (r : Int) tr2]) hl (as₉.map .ref)) h₁₀ := S₁₀
      repeat walk_at "w"
      refine q .next (n - 1) F₉ _ _ h₁₀ (.inl rfl) hn1 ?_ S₁₀
      refine mk F₉ _ (fv ++ [.int (r : Int) tr2]) as₉ (dropE b es ++ [(u, b, one)]) (free.eraseIdx i ++ [r]) (fun b o e => hF₉ b o (cF8 b o e)) ?_ ?_ hpa₉ (ofN_append hfv r tr2) ?_ (nodup_put hnd u b one) (length_put es u b one)
      · exact ⟨hmp, hmf, hmh, hml, hmr⟩
      · exact hmt
      rw [hput]
      have hrf : r ∉ free := fun h => (I.cov r r4).mp h b hfe
      refine I.swap T hbest hfe hlt (fun x => ?_) (nodup_push npop fun h => hrf ((mpop r).mp h).1)
      rw [List.mem_append, mpop, List.mem_singleton]
    | false =>
      have hlt : S b r < S b one := by
        have h1 : ¬ S b one < S b r := fun z => by
          have := hcm.mpr z
          rw [decide_eq_false_iff_not] at hq; exact hq this
        have h2 : S b one ≠ S b r := fun z => by
          have := hSi b one r b4 one4 r4 z
          subst this
          exact (I.cov one one4).mp T.mf b hfe
        omega
      refine if_ff (W.execs_cons ?_)
      repeat walk_at "w"
      refine W.m_append (show LAt h₈ fa fv from S₈.get (i := 4) rfl) ?_
      repeat walk_at "w"
      refine W.append (i := 4) S₈ rfl (small_size (by omega)) fun h₁₀ S₁₀ => ?_
      replace S₁₀ : St O F₈ L _ (led6 la lv' fa (fv ++ [.int (one : Int) to]) hl (as.map .ref)) h₁₀ := S₁₀
      repeat walk_at "w"
      refine q .next (n - 1) F₈ _ _ h₁₀ (.inl rfl) hn1 ?_ S₁₀
      refine mk F₈ _ (fv ++ [.int (one : Int) to]) as es (free.eraseIdx i ++ [one]) cF8 ?_ ?_ (hpa.mono (fun b o _ e => cF8 b o e) (Nat.le_refl _)) (ofN_append hfv one to) ?_ hnd (Nat.le_succ _)
      · exact ⟨hmp, hmf, hmh, hml, hmr⟩
      · exact hmt
      refine I.stay T hbest hfe hlt (fun x => ?_) (nodup_push npop fun h => ((mpop one).mp h).2 rfl)
      rw [List.mem_append, mpop, List.mem_singleton]
      constructor
      · rintro (h | rfl)
        · exact h.1
        · exact T.mf
      · intro h
        by_cases e : x = one
        · exact .inr e
        · exact .inl ⟨h, e⟩
end

-- C12
noncomputable section
def ret213 : { s : Stmt // b213.1[5]? = some s } := ⟨_, rfl⟩
end
theorem pairs_eq {l : List (Nat × Nat)} {g : Nat → Nat} (h1 : l.map (·.1) = [0, 1, 2, 3]) (h2 : ∀ e ∈ l, e.2 = g e.1) : l = [(0, g 0), (1, g 1), (2, g 2), (3, g 3)] := by
  have : l = (l.map (·.1)).map fun x => (x, g x) := by
    rw [List.map_map]
    conv => lhs; rw [← List.map_id l]
    apply List.map_congr_left
    intro e he
    obtain ⟨a, b⟩ := e
    have := h2 _ he
    simp at this
    simp [this]
  rw [h1] at this
  exact this
section
variable {prog : Program} {w : World} {A : Around} {O h : Heap} {p : Program} {loose : List Str} {mg mb : Str → Option Value}
set_option maxHeartbeats 4000000 in
theorem end_W {F : Heap} {L : Addr} {m : Str → Option Value} {news : Led} {i : Nat} {hx hl : Addr} {as : List Addr} {es : List Ent} {lw : Nat} {g : Nat → Nat} {Q : Flow → Heap → Prop}
    (G : Good (KK w.params) p loose mg mb O) (Rm : Room A 3) (S : St O F L m news h) (hi : news[i]? = some (hl, .lst (as.map .ref)))
    (hmh : m "held" = some (.ref hx)) (hhx : HeadAt lw F hx hl) (hpa : PairsAt lw F as es) (hds : es.map (·.2.1) ∈ perms4) (hg : ∀ e ∈ es, e.2.2 = g e.2.1)
    (q : ∀ D bs h', Sub F h' → LAt h' D (bs.map .ref) → NVAt h' bs [(0, g 0), (1, g 1), (2, g 2), (3, g 3)] → L < D → (∀ a ∈ bs, L < a) → Q (.ret (.ref D)) h') : W prog w A (exec ret213.1 (callEnvC fd213.val L 213)) h Q := by
  have hh := Rm.hh
  have hes4 : es.length = 4 := by
    have := (sortP_ok _ hds).2.2.2.2.1
    simpa using this
  unfold ret213
  repeat walk_at "w"
  refine W.bltn G S.sO (n_sorted _) bo_sorted ?_
  repeat walk_at "w"
  refine W.comp (O := O) (L := L) (cl := []) rfl (by decide) rfl (by decide) ?_
  repeat walk_at "w"
  have hI0 := hhx
  obtain ⟨dx, hsh, tk, nn, _, _, hI⟩ := hI0
  refine W.method_inst (C := 199) G S ⟨S.v.keep _ _ hI.1, hI.2, hI.3, S.v.keep _ _ hI.4⟩ (k199_geti _) (k199_items _) (k163_fn _) rfl ?_
  refine W.callK0 G S.sO (k163_keep _) ?_
  refine items_W G (Rm.le (by decide)) S.orgH (hhx.mono (fun b o _ e => S.v.keep b o e) (Nat.le_refl _)) (S.get hi) (by rw [List.length_map, hpa.1, hes4]; decide) fun l h₁ hs₁ hll hl₁ => ?_
  obtain ⟨F₁, hF₁, S₁, hSF₁, _⟩ := S.back hs₁
  have hlF : LAt F₁ l (as.map .ref) := hl₁.from hSF₁ hll
  refine W.pyIter_list S₁ hl₁.isList fun it h₂ hit hs₂ S₂ => ?_
  have hl₂ : LAt h₂ l (as.map .ref) := hlF.sub S₂.v.keep
  have hlne : l ≠ it := fun z => by
    subst z
    have := S₂.v.off _ (.head _)
    obtain ⟨n, e⟩ := hlF
    rw [e] at this; cases this
  have hpa₁ : PairsAt lw F₁ as es := hpa.mono (fun b o _ e => hF₁ b o e) (Nat.le_refl _)
  refine ⟨_, _, _, CompIn.list hh S₂ hl₂ hlne (.inr ⟨_, _, _, rfl⟩) (fun D C => compTree_plain) (fun C j F' ys => ∃ bs : List Addr, ys = bs.map .ref ∧ bs.length = j ∧ ∀ (k : Nat) (a : Addr) (e : Ent), bs[k]? = some a → es[k]? = some e → C < a ∧ ∃ t u, TAt F' a [.str (nm false e.2.1) t, .str (vl e.2.2) u]) ?_ ?_ ?_⟩
  · intro C F₂ _ _ _
    exact ⟨[], rfl, rfl, fun k a kk e => by simp at e⟩
  · rintro C D j v F' m' ys h₃ hLD hDC hsz hv hold ⟨bs, rfl, hbl, hbs⟩ hyl S₃ Qh qh
    have hFF := Old.ofSt S₂ hold
    obtain ⟨a, ha, rfl⟩ : ∃ a, as[j]? = some a ∧ v = .ref a := by
      rw [List.getElem?_map] at hv
      cases q : as[j]? with
      | none => rw [q] at hv; cases hv
      | some a => rw [q] at hv; exact ⟨a, rfl, (Option.some.inj hv).symm⟩
    have hlt : j < es.length := hpa.1 ▸ (List.getElem?_eq_some_iff.mp ha).1
    have hej : es[j]? = some es[j] := List.getElem?_eq_getElem hlt
    obtain ⟨_, hd1, hd2, t₃, t₄, hT⟩ := hpa₁.2 j a _ ha hej
    generalize es[j] = ee at *
    refine W.assign_tup2 hh S₃ (hT.sub fun b o e => S₃.v.keep b o (hFF b o e)) fun h₄ S₄ => ?_
    show W _ _ _ _ _ _
    repeat walk_at "w"
    refine W.method_lower ?_
    repeat walk_at "w"
    refine W.lower_nm hd1 fun t₅ => ?_
    repeat walk_at "w"
    refine W.newTuple S₄ fun tp h₅ htp hs₅ S₅ => ?_
    refine W.append (i := 2) S₅ rfl (by rw [List.length_map, hbl]; exact small_size (by omega)) fun h₆ S₆ => ?_
    replace S₆ : St O F' C _ ((tp, _) :: [(it, .liter l (j + 1)), (D, .lst (bs.map .ref ++ [.ref tp]))]) h₆ := S₆
    obtain ⟨F₇, hF₇, S₇, htpF, _⟩ := S₆.cool
    refine qh F₇ _ _ h₆ hF₇ ⟨bs ++ [tp], by simp, by simp [hbl], fun k b e e1 e2 => ?_⟩ (by simp [hbl]) S₇
    by_cases hk : k < bs.length
    · rw [List.getElem?_append_left hk] at e1
      obtain ⟨h1, t, u, T⟩ := hbs k b e e1 e2
      exact ⟨h1, t, u, T.sub hF₇⟩
    · have hk1 : k = bs.length := by
        have := (List.getElem?_eq_some_iff.mp e1).1
        simp at this; omega
      subst hk1
      have : tp = b := by simpa using e1
      subst this
      rw [hbl, hej] at e2
      cases e2
      exact ⟨htp, _, _, htpF⟩
  · rintro D C F' ys hLD hDC hsz hold ⟨bs, rfl, hbl, hbs⟩ hLC F₃ h₃ hF₃ hFC S₃
    rw [List.length_map, hpa.1] at hbl
    repeat walk_at "w"
    have hnv : NVAt h₃ bs (es.map (·.2)) := by
      refine ⟨by simp [hbl], fun k a e e1 e2 => ?_⟩
      rw [List.getElem?_map] at e2
      cases qe : es[k]? with
      | none => rw [qe] at e2; cases e2
      | some ee =>
        rw [qe] at e2
        cases e2
        obtain ⟨h1, t, u, T⟩ := hbs k a ee e1 qe
        have hka : k < as.length := by rw [hpa.1]; exact (List.getElem?_eq_some_iff.mp qe).1
        obtain ⟨_, b1, b2, _⟩ := hpa.2 k _ ee (List.getElem?_eq_getElem hka) qe
        exact ⟨b1, b2, t, u, (T.from hFC (Nat.le_of_lt h1)).sub S₃.v.keep⟩
    have hds' : (es.map (·.2)).map (·.1) ∈ perms4 := by rw [List.map_map]; exact hds
    refine W.sorted4 S₃ hLD (S₃.get (i := 0) rfl) hnv hds' fun D' h₄ hD' S₄ hnv' => ?_
    have hso := sortP_ok _ hds'
    have hfin : (sortP ((es.map (·.2)).map (·.1))).map (fun i => (es.map (·.2)).getD i (0, 0)) = [(0, g 0), (1, g 1), (2, g 2), (3, g 3)] := by
      refine pairs_eq ?_ ?_
      · rw [List.map_map]
        refine Eq.trans ?_ hso.1
        apply List.map_congr_left
        intro i hi
        have h4 := hso.2.1 i hi
        have hle : i < es.length := by omega
        simp [hle]
      · intro e he
        obtain ⟨i, hi, rfl⟩ := List.mem_map.mp he
        have h4 := hso.2.1 i hi
        have hle : i < es.length := by omega
        have := hg es[i] (List.getElem_mem hle)
        simp [hle, this]
    rw [hfin] at hnv'
    refine q D' _ h₄ (fun b o e => S₄.v.keep b o (hF₃ b o (hF₁ b o e))) (S₄.get (i := 0) rfl) hnv' hD' fun a ha => ?_
    obtain ⟨i, hi, rfl⟩ := List.mem_map.mp ha
    have h4 := hso.2.1 i hi
    have hib : i < bs.length := by omega
    have hie : i < es.length := by omega
    have e1 : bs.getD i 0 = bs[i] := by simp [hib]
    rw [e1]
    exact Nat.lt_trans hLC (hbs i _ _ (List.getElem?_eq_getElem hib) (List.getElem?_eq_getElem hie)).1
end

-- C13
theorem perms_all : ∀ a ∈ List.range 4, ∀ b ∈ List.range 4, ∀ c ∈ List.range 4, ∀ d ∈ List.range 4, (a == b || a == c || a == d || b == c || b == d || c == d || perms4.contains [a, b, c, d]) = true := by decide +kernel
theorem mem_perms : ∀ {ds : List Nat}, ds.Nodup → (∀ d ∈ ds, d < 4) → (∀ d, d < 4 → d ∈ ds) → ds ∈ perms4
  | [], _, _, h => absurd (h 0 (by decide)) (by simp)
  | [a], _, _, h => by
    have h0 := h 0 (by decide)
    have h1 := h 1 (by decide)
    simp at h0 h1; omega
  | [a, b], _, _, h => by
    have h0 := h 0 (by decide)
    have h1 := h 1 (by decide)
    have h2 := h 2 (by decide)
    simp at h0 h1 h2; omega
  | [a, b, c], _, _, h => by
    have h0 := h 0 (by decide)
    have h1 := h 1 (by decide)
    have h2 := h 2 (by decide)
    have h3 := h 3 (by decide)
    simp at h0 h1 h2 h3; omega
  | [a, b, c, d], hn, h4, _ => by
    simp only [List.nodup_cons, List.mem_cons, not_or, List.not_mem_nil, or_false] at hn
    have key := perms_all a (List.mem_range.mpr (h4 a (by simp))) b (List.mem_range.mpr (h4 b (by simp))) c (List.mem_range.mpr (h4 c (by simp))) d (List.mem_range.mpr (h4 d (by simp)))
    simp only [Bool.or_eq_true, beq_iff_eq, hn.1.1, hn.1.2.1, hn.1.2.2, hn.2.1.1, hn.2.1.2, hn.2.2.1, false_or, List.contains_iff_mem] at key
    exact key
  | a :: b :: c :: d :: e :: r, hn, h4, _ => by
    have := len4 hn h4
    simp at this
theorem findE_mem : ∀ {es : List Ent} {e : Ent}, (es.map (·.2.1)).Nodup → e ∈ es → findE e.2.1 es = some e.2.2
  | x :: es, e, hn, he => by
    rw [List.map_cons, List.nodup_cons] at hn
    unfold findE
    rcases List.mem_cons.mp he with rfl | he
    · rw [List.find?_cons_of_pos (by simp)]; rfl
    · rw [List.find?_cons_of_neg]
      · exact findE_mem hn.2 he
      · intro z
        have : x.2.1 = e.2.1 := by simpa using z
        exact hn.1 (this ▸ List.mem_map.mpr ⟨e, he, rfl⟩)
theorem findE_in {es : List Ent} {d v : Nat} (h : findE d es = some v) : d ∈ es.map (·.2.1) := by
  unfold findE at h
  cases q : es.find? (fun e => e.2.1 == d) with
  | none => rw [q] at h; cases h
  | some e =>
    have h1 := List.mem_of_find?_eq_some q
    have h2 := List.find?_some q
    have : e.2.1 = d := by simpa using h2
    exact this ▸ List.mem_map.mpr ⟨e, h1, rfl⟩

section
variable {prog : Program} {w : World} {A : Around} {O h : Heap} {p : Program} {loose : List Str} {mg mb : Str → Option Value}
noncomputable section
def w213 : { s : Stmt // b213.1[4]? = some s } := ⟨_, rfl⟩
end
set_option maxHeartbeats 8000000 in
theorem while_W {h0 F : Heap} {L : Addr} {m : Str → Option Value} {news : Led} {la : Nat → Addr} {pl hx lo fa hl : Addr} {P : Nat → Pers} {R S : Nat → Nat → Int} {lw n : Nat} {first : Int} {tf : Tok} {Q : Flow → Heap → Prop}
    (G : Good (KK w.params) p loose mg mb O) (Rm : Room A 9) (hpe : PeopleAt h0 pl P) (hok : ∀ k, k < 8 → PersOk (P k)) (hff : first = 0 ∨ first = 4)
    (hR : ∀ wo a c, wo < 4 → a < 4 → c < 4 → (cmpVal (P (first.toNat + wo)).ks (P (4 - first.toNat + a)).row (P (4 - first.toNat + c)).row < 0 ↔ R wo a < R wo c)) (hRi : ∀ wo a c, wo < 4 → a < 4 → c < 4 → R wo a = R wo c → a = c)
    (hS : ∀ wo a c, wo < 4 → a < 4 → c < 4 → (cmpVal (P (4 - first.toNat + wo)).ks (P (first.toNat + a)).row (P (first.toNat + c)).row < 0 ↔ S wo a < S wo c)) (hSi : ∀ wo a c, wo < 4 → a < 4 → c < 4 → S wo a = S wo c → a = c)
    (St₀ : St O F L m news h) (W₀ : WInv R S h0 pl hx lo fa hl la lw first tf n F m news)
    (q : ∀ F' m' left lv es as fv h', Sub h0 F' → Loc m' pl hx lo fa first tf → HeadAt lw F' hx hl → PairsAt lw F' as es → GS.Inv R S left (fun x => findE x es) [] → (es.map (·.2.1)).Nodup → St O F' L m' (led6 la lv fa fv hl (as.map .ref)) h' → Q .next h') :
    W prog w A (exec w213.1 (callEnvC fd213.val L 213)) h Q := by
  have hh := Rm.hh
  unfold w213
  refine W.while_ (WInv R S h0 pl hx lo fa hl la lw first tf) ?_ St₀ W₀
  rintro n F m news h ⟨left, free, es, as, lv, fv, tn, tt, rfl, hF0, hm, hmt, h0t, hlo, hhx, hpa, hlv, hfv, I, hnd, hlen, hn⟩ S₀
  obtain ⟨hmp, hmf, hmh, hml, hmr⟩ := hm
  repeat walk_at "w"
  refine W.newList S₀ fun ea h₁ hea hs₁ S₁ => ?_
  refine W.ne_ints (show LAt h₁ fa fv from S₁.get (i := 5) rfl) hfv (show LAt h₁ ea [] from S₁.get (i := 0) rfl) .nil (by have := Rm.hu; omega) ?_
  replace S₁ := S₁.drop
  repeat walk_at "w"
  by_cases hfe : free = []
  · subst hfe
    show if false = true then _ else _
    refine if_ff ?_
    exact q F m left lv es as fv h₁ hF0 ⟨hmp, hmf, hmh, hml, hmr⟩ hhx hpa I hnd S₁
  have hdec : (!decide (ofN free = [])) = true := by
    cases free with
    | nil => exact absurd rfl hfe
    | cons a l => rfl
  rw [hdec]
  refine if_tt (W.execs_cons ?_)
  repeat walk_at "w"
  refine W.load S₁ hmt ?_
  repeat walk_at "w"
  refine W.store S₁ fun h₂ S₂ => ?_
  refine W.execs_cons ?_
  repeat walk_at "w"
  have hfl : fv.length = free.length := by rw [hfv.length]; simp [ofN]
  have hfl4 : free.length ≤ 4 := len4 I.nd I.fr
  have hfl0 : 0 < free.length := by cases free with
    | nil => exact absurd rfl hfe
    | cons a l => simp
  have hpF : PeopleAt F pl P := hpe.sub hF0
  have hm8 : 0 ≤ (tn + 1).fmod 8 ∧ (tn + 1).fmod 8 < 8 := ⟨Int.fmod_nonneg_of_pos _ (by decide), Int.fmod_lt_of_pos _ (by decide)⟩
  refine W.m_pop (show LAt h₂ fa fv from S₂.get (i := 4) rfl) ?_
  repeat walk_at "w"
  refine W.item_people hpF S₂.v.keep hm8.1 hm8.2 fun a ha => ?_
  obtain ⟨_, mk0, rw0, kl0, hT0, _, _, _⟩ := ha
  generalize (P ((tn + 1).fmod 8).toNat).x = x at hT0
  repeat walk_at "w"
  refine W.item_tup (hT0.sub S₂.v.keep) (by decide) rfl ?_ (by decide)
  repeat walk_at "w"
  refine W.bltn G S₂.sO (n_len _) bo_len ?_
  repeat walk_at "w"
  refine W.len (show LAt h₂ fa fv from S₂.get (i := 4) rfl) (by omega) fun _ => ?_
  rw [hfl]
  refine W.mod_int (by omega) fun _ => ?_
  repeat walk_at "w"
  have hx0 : 0 ≤ x.fmod (free.length : Int) ∧ x.fmod (free.length : Int) < (free.length : Int) := ⟨Int.fmod_nonneg_of_pos _ (by omega), Int.fmod_lt_of_pos _ (by omega)⟩
  have hxl : (x.fmod (free.length : Int)).toNat < free.length := by omega
  generalize hgi : (x.fmod (free.length : Int)).toNat = i at hxl
  have hi : free[i]? = some free[i] := List.getElem?_eq_getElem hxl
  generalize free[i] = one at hi
  have one4 : one < 4 := I.fr one (List.mem_of_getElem? hi)
  refine W.pop_ints2 (i := 4) (v := (one : Int)) S₂ rfl hfv (by simp [ofN]; omega) hx0.1 (by rw [hgi]; unfold ofN; rw [List.getElem?_map, hi]; rfl) (by omega) fun to fv' h₃ hfv' S₃ => ?_
  replace S₃ : St O F L _ (led6 la lv fa fv' hl (as.map .ref)) h₃ := S₃
  rw [hgi] at hfv'
  replace hfv' : IntsAre fv' (ofN (free.eraseIdx i)) := by
    unfold ofN at hfv' ⊢
    rw [← eraseIdx_map_]; exact hfv'
  refine W.store S₃ fun h₄ S₄ => ?_
  have e1 := sideA hff one one4
  refine W.execs_cons ?_
  repeat walk_at "w"
  refine W.glob G S₄.sO (n_tc _) ?_
  refine W.callK G (k62_keep _) ?_
  repeat walk_at "w"
  refine W.item_people hpF S₄.v.keep e1.2.1 e1.2.2.1 fun a1 ha1 => ?_
  rw [e1.1] at ha1
  obtain ⟨_, mk1, rw1, kl, hT1, _, _, hkl⟩ := ha1
  repeat walk_at "w"
  refine W.item_tup (hT1.sub S₄.v.keep) (by decide) rfl ?_ (by decide)
  repeat walk_at "w"
  refine ⟨S₄.sO, ?_⟩
  refine make_W G (Rm.le (by decide)) S₄.orgH fun od h₅ hs₅ hcomp => ?_
  obtain ⟨F₅, hF₅, S₅, hSF₅, _⟩ := S₄.back hs₅
  have hord := hcomp.mono hSF₅ (Nat.le_refl _)
  refine W.store S₅ fun h₆ S₆ => ?_
  obtain ⟨b0, tl, hbt⟩ : ∃ b0 tl, left one = b0 :: tl := by
    have := I.more (List.mem_of_getElem? hi)
    cases q : left one with
    | nil => exact absurd q this
    | cons a l => exact ⟨a, l, rfl⟩
  have hlv1 := hlv one one4
  rw [hbt] at hlv1
  refine W.execs_cons ?_
  repeat walk_at "w"
  refine W.item_list ((hlo.sub hF₅).sub S₆.v.keep) (by omega) (by rw [Int.toNat_natCast]; exact la_at la one one4) ?_ (by omega)
  repeat walk_at "w"
  refine W.item_IL (v := (b0 : Int)) ⟨lv one, S₆.get (led6_get one one4), hlv1⟩ (by decide) rfl (fun tb => ?_) (by decide)
  refine W.store S₆ fun h₇ S₇ => ?_
  have htl : tl.length ≤ 4 := by
    have := len4 (I.ln one one4) (I.lf one · one4)
    rw [hbt] at this; simp at this; omega
  refine W.execs_cons ?_
  refine for_W (h0 := h0) (F := F₅) (i := one) (b0 := b0) (tl := tl) (a1 := la one) (ks := (P (first.toNat + one)).ks) (Rm := R one) G (Rm.le (by decide)) S₇ (fun b o e => hF₅ b o (hF0 b o e)) hpe hff (by omega) (by omega) hmp hmf hml rfl rfl rfl (hlo.sub hF₅) (by rw [Int.toNat_natCast]; exact la_at la one one4) (led6_get one one4) hlv1 (by rw [← hbt]; exact fun x hx => I.lf one x one4 hx) htl hord (hkl.sub hF₅) (hok _ e1.2.2.2).kc (fun a b ha hb => hR one a b one4 ha hb) ?_
  intro F₈ m₈ h₈ b tb₈ hF₈ hbm hbest hfr hmb₈ S₈
  rw [← hbt] at hbm hbest
  have cF8 : Sub F F₈ := fun b o e => hF₈ b o (hF₅ b o e)
  refine tail_W (h0 := h0) (F := F₈) (left := left) (free := free) (es := es) (as := as) (lv := lv) (fv := fv') (one := one) (b := b) (i := i) (n := n) (tn := tn + 1) (first := first) (P := P) (R := R) (S := S) G (Rm.le (by decide)) S₈ (fun b o e => cF8 b o (hF0 b o e)) hpe hok hff
    ⟨(hfr _ (by decide) (by decide)).trans hmp, (hfr _ (by decide) (by decide)).trans hmf, (hfr _ (by decide) (by decide)).trans hmh, (hfr _ (by decide) (by decide)).trans hml, (hfr _ (by decide) (by decide)).trans hmr⟩
    ((hfr _ (by decide) (by decide)).trans rfl) (by omega) ((hfr _ (by decide) (by decide)).trans rfl) hmb₈ (hlo.sub cF8) (hhx.mono (fun b o _ e => cF8 b o e) (Nat.le_refl _)) (hpa.mono (fun b o _ e => cF8 b o e) (Nat.le_refl _)) hlv hfv' I hnd hlen hn hi hbm ?_ hS hSi ?_
  · intro x hx hne
    have h1 := hbest x hx
    have h2 : R one b ≠ R one x := fun z => hne (hRi one b x one4 (I.lf one b one4 hbm) (I.lf one x one4 hx) z).symm
    omega
  · rintro fl n' F' m' news' h' (rfl | rfl) hn' hW S'
    · exact ⟨n', F', m', news', hn', hW, S'⟩
    · exact ⟨n', F', m', news', hn', hW, S'⟩
end

-- PL3
theorem three {P : Int → Prop} (h0 : P 0) (h1 : P 1) (h2 : P 2) (u : Int) (hl : 0 ≤ u) (hu : u < 3) : P u := by
  have : u = 0 ∨ u = 1 ∨ u = 2 := by omega
  rcases this with rfl | rfl | rfl <;> assumption
theorem fourI {P : Int → Prop} (h0 : P 0) (h1 : P 1) (h2 : P 2) (h3 : P 3) (u : Int) (hl : 0 ≤ u) (hu : u < 4) : P u := by
  have : u = 0 ∨ u = 1 ∨ u = 2 ∨ u = 3 := by omega
  rcases this with rfl | rfl | rfl | rfl <;> assumption
def aOf (u : Int) : Int := ([-7, 0, 10 ^ 30] : List Int).getD u.toNat 0
def sOf (u : Int) : Str := (["", "B", "a", "ab"] : List Str).getD u.toNat ""
theorem a_lt (u v : Int) (h1 : 0 ≤ u) (h2 : u < 3) (h3 : 0 ≤ v) (h4 : v < 3) : decide (aOf u < aOf v) = decide (u < v) := by
  refine three (P := fun u => decide (aOf u < aOf v) = decide (u < v)) ?_ ?_ ?_ u h1 h2
  · exact three (P := fun v => decide (aOf 0 < aOf v) = decide (0 < v)) (by decide) (by decide) (by decide) v h3 h4
  · exact three (P := fun v => decide (aOf 1 < aOf v) = decide (1 < v)) (by decide) (by decide) (by decide) v h3 h4
  · exact three (P := fun v => decide (aOf 2 < aOf v) = decide (2 < v)) (by decide) (by decide) (by decide) v h3 h4
theorem s_lt (u v : Int) (h1 : 0 ≤ u) (h2 : u < 4) (h3 : 0 ≤ v) (h4 : v < 4) : decide ((sOf u).cps.toList < (sOf v).cps.toList) = decide (u < v) := by
  refine fourI (P := fun u => decide ((sOf u).cps.toList < (sOf v).cps.toList) = decide (u < v)) ?_ ?_ ?_ ?_ u h1 h2
  · exact fourI (P := fun v => decide ((sOf 0).cps.toList < (sOf v).cps.toList) = decide (0 < v)) (by decide +kernel) (by decide +kernel) (by decide +kernel) (by decide +kernel) v h3 h4
  · exact fourI (P := fun v => decide ((sOf 1).cps.toList < (sOf v).cps.toList) = decide (1 < v)) (by decide +kernel) (by decide +kernel) (by decide +kernel) (by decide +kernel) v h3 h4
  · exact fourI (P := fun v => decide ((sOf 2).cps.toList < (sOf v).cps.toList) = decide (2 < v)) (by decide +kernel) (by decide +kernel) (by decide +kernel) (by decide +kernel) v h3 h4
  · exact fourI (P := fun v => decide ((sOf 3).cps.toList < (sOf v).cps.toList) = decide (3 < v)) (by decide +kernel) (by decide +kernel) (by decide +kernel) (by decide +kernel) v h3 h4
def pqB (u v : Int) : Bool := if u.fdiv 2 == v.fdiv 2 then (if u.fmod 2 == v.fmod 2 then false else decide (u.fmod 2 < v.fmod 2)) else decide (u.fdiv 2 < v.fdiv 2)
theorem pq_lt (u v : Int) (h1 : 0 ≤ u) (h2 : u < 4) (h3 : 0 ≤ v) (h4 : v < 4) : pqB u v = decide (u < v) := by
  refine fourI (P := fun u => pqB u v = decide (u < v)) ?_ ?_ ?_ ?_ u h1 h2
  · exact fourI (P := fun v => pqB 0 v = decide (0 < v)) (by decide) (by decide) (by decide) (by decide) v h3 h4
  · exact fourI (P := fun v => pqB 1 v = decide (1 < v)) (by decide) (by decide) (by decide) (by decide) v h3 h4
  · exact fourI (P := fun v => pqB 2 v = decide (2 < v)) (by decide) (by decide) (by decide) (by decide) v h3 h4
  · exact fourI (P := fun v => pqB 3 v = decide (3 < v)) (by decide) (by decide) (by decide) (by decide) v h3 h4
theorem fm (x n : Int) (hn : 0 < n) : 0 ≤ x.fmod n ∧ x.fmod n < n := ⟨Int.fmod_nonneg_of_pos _ hn, Int.fmod_lt_of_pos _ hn⟩
theorem row_lt (k k' : Nat) (x x' : Int) (c : Int) (h0 : 0 ≤ c) (h4 : c < 4) : (persOf k x).row.lt c (persOf k' x').row = decide ((persOf k x).mks.getD c.toNat 0 < (persOf k' x').mks.getD c.toNat 0) := by
  have : c = 0 ∨ c = 1 ∨ c = 2 ∨ c = 3 := by omega
  rcases this with rfl | rfl | rfl | rfl
  · exact a_lt _ _ (fm x 3 (by decide)).1 (fm x 3 (by decide)).2 (fm x' 3 (by decide)).1 (fm x' 3 (by decide)).2
  · exact s_lt _ _ (fm _ 4 (by decide)).1 (fm _ 4 (by decide)).2 (fm _ 4 (by decide)).1 (fm _ 4 (by decide)).2
  · exact pq_lt _ _ (fm _ 4 (by decide)).1 (fm _ 4 (by decide)).2 (fm _ 4 (by decide)).1 (fm _ 4 (by decide)).2
  · rfl
theorem mks_in (k : Nat) (x : Int) (c : Nat) : 0 ≤ (persOf k x).mks.getD c 0 ∧ (persOf k x).mks.getD c 0 < 4 := by
  match c with
  | 0 => have := fm x 3 (by decide); exact ⟨this.1, by show x.fmod 3 < 4; omega⟩
  | 1 => exact fm _ 4 (by decide)
  | 2 => exact fm _ 4 (by decide)
  | 3 => exact fm _ 4 (by decide)
  | c + 4 => exact ⟨Int.le_refl _, by show (0 : Int) < 4; decide⟩
theorem cols_ok : ∀ i0 ∈ List.range 4, ∀ i1 ∈ List.range 3, ∀ i2 ∈ List.range 2, (colsOf i0 i1 i2).length = 4 ∧ (∀ c ∈ colsOf i0 i1 i2, 0 ≤ c ∧ c < 4) ∧ (3 : Int) ∈ colsOf i0 i1 i2 := by decide +kernel
theorem colsX_ok (x : Int) : (colsX x).length = 4 ∧ (∀ c ∈ colsX x, 0 ≤ c ∧ c < 4) ∧ (3 : Int) ∈ colsX x := by
  have h1 := fm (x.fdiv 48) 4 (by decide)
  have h2 := fm (x.fdiv 192) 3 (by decide)
  have h3 := fm (x.fdiv 576) 2 (by decide)
  exact cols_ok _ (List.mem_range.mpr (by omega)) _ (List.mem_range.mpr (by omega)) _ (List.mem_range.mpr (by omega))
theorem ks_ok (k : Nat) (x : Int) : (∀ e ∈ (persOf k x).ks, (e.2 = 1 ∨ e.2 = -1) ∧ 0 ≤ e.1 ∧ e.1 < 4) ∧ ∃ e ∈ (persOf k x).ks, e.1 = 3 := by
  obtain ⟨hl, hc, h3⟩ := colsX_ok x
  constructor
  · intro e he
    obtain ⟨i, hi, rfl⟩ := List.mem_map.mp he
    have hi4 : i < (colsX x).length := by rw [hl]; exact List.mem_range.mp hi
    refine ⟨?_, ?_⟩
    · have := fm ((x.fdiv 1152).fdiv (2 ^ i)) 2 (by decide)
      dsimp only
      omega
    · have e1 : (colsX x).getD i 0 = (colsX x)[i] := by simp [hi4]
      dsimp only
      rw [e1]
      exact hc _ (List.getElem_mem hi4)
  · obtain ⟨i, hi, e⟩ := List.mem_iff_getElem.mp h3
    refine ⟨_, List.mem_map.mpr ⟨i, List.mem_range.mpr (by rw [← hl]; exact hi), rfl⟩, ?_⟩
    dsimp only
    simp [hi, e]
theorem pers_ok (k : Nat) (x : Int) : PersOk (persOf k x) := ⟨rfl, fun e he => ((ks_ok k x).1 e he).2⟩

section
variable {mk mk' : List Int}
theorem score_lt (h : ∀ c, 0 ≤ mk.getD c 0 ∧ mk.getD c 0 < 4) (h' : ∀ c, 0 ≤ mk'.getD c 0 ∧ mk'.getD c 0 < 4) : ∀ (ks : List (Int × Int)) (s s' : Int), s < s' → scoreOf mk ks s < scoreOf mk' ks s'
  | [], _, _, e => e
  | (c, w) :: ks, s, s', e => by
    unfold scoreOf
    have a := h c.toNat
    have b := h' c.toNat
    refine score_lt h h' ks _ _ ?_
    split <;> omega
theorem cmp_score (h : ∀ c, 0 ≤ mk.getD c 0 ∧ mk.getD c 0 < 4) (h' : ∀ c, 0 ≤ mk'.getD c 0 ∧ mk'.getD c 0 < 4) {r r' : PRow}
    (hr : ∀ c, 0 ≤ c → c < 4 → r.lt c r' = decide (mk.getD c.toNat 0 < mk'.getD c.toNat 0)) (hr' : ∀ c, 0 ≤ c → c < 4 → r'.lt c r = decide (mk'.getD c.toNat 0 < mk.getD c.toNat 0)) :
    ∀ (ks : List (Int × Int)), (∀ e ∈ ks, (e.2 = 1 ∨ e.2 = -1) ∧ 0 ≤ e.1 ∧ e.1 < 4) → ∀ s, cmpVal ks r r' < 0 ↔ scoreOf mk ks s < scoreOf mk' ks s
  | [], _, s => by unfold cmpVal scoreOf; omega
  | (c, w) :: ks, hk, s => by
    obtain ⟨hw, h0, h4⟩ := hk _ (.head _)
    have ih := cmp_score h h' hr hr' ks (fun e he => hk e (.tail _ he))
    have a := h c.toNat
    have b := h' c.toNat
    unfold cmpVal scoreOf
    rw [hr c h0 h4, hr' c h0 h4]
    dsimp only at hw
    rcases Int.lt_trichotomy (mk.getD c.toNat 0) (mk'.getD c.toNat 0) with q | q | q
    · rw [decide_eq_true q, if_pos rfl]
      rcases hw with rfl | rfl
      · rw [if_pos (by decide), if_pos (by decide)]
        exact ⟨fun _ => score_lt h h' ks _ _ (by omega), fun _ => by decide⟩
      · rw [if_neg (by decide), if_neg (by decide)]
        refine ⟨fun z => absurd z (by decide), fun z => ?_⟩
        have := score_lt h' h ks (s * 4 + (3 - mk'.getD c.toNat 0)) (s * 4 + (3 - mk.getD c.toNat 0)) (by omega)
        omega
    · rw [q]
      simp only [Int.lt_irrefl, decide_false, Bool.false_eq_true, if_false]
      exact ih _
    · rw [decide_eq_false (by omega), decide_eq_true q, if_neg (by decide), if_pos rfl]
      rcases hw with rfl | rfl
      · rw [if_pos (by decide), if_pos (by decide)]
        refine ⟨fun z => absurd z (by decide), fun z => ?_⟩
        have := score_lt h' h ks (s * 4 + mk'.getD c.toNat 0) (s * 4 + mk.getD c.toNat 0) (by omega)
        omega
      · rw [if_neg (by decide), if_neg (by decide)]
        exact ⟨fun _ => score_lt h h' ks _ _ (by omega), fun _ => by decide⟩
theorem score_inj (h : ∀ c, 0 ≤ mk.getD c 0 ∧ mk.getD c 0 < 4) (h' : ∀ c, 0 ≤ mk'.getD c 0 ∧ mk'.getD c 0 < 4) : ∀ (ks : List (Int × Int)) (s : Int), scoreOf mk ks s = scoreOf mk' ks s → ∀ e ∈ ks, mk.getD e.1.toNat 0 = mk'.getD e.1.toNat 0
  | [], _, _, e, he => absurd he (by simp)
  | (c, w) :: ks, s, hs, e, he => by
    unfold scoreOf at hs
    have key : mk.getD c.toNat 0 = mk'.getD c.toNat 0 := by
      rcases Int.lt_trichotomy (mk.getD c.toNat 0) (mk'.getD c.toNat 0) with q | q | q
      · exfalso
        split at hs
        · have := score_lt h h' ks (s * 4 + mk.getD c.toNat 0) (s * 4 + mk'.getD c.toNat 0) (by omega)
          omega
        · have := score_lt h' h ks (s * 4 + (3 - mk'.getD c.toNat 0)) (s * 4 + (3 - mk.getD c.toNat 0)) (by omega)
          omega
      · exact q
      · exfalso
        split at hs
        · have := score_lt h' h ks (s * 4 + mk'.getD c.toNat 0) (s * 4 + mk.getD c.toNat 0) (by omega)
          omega
        · have := score_lt h h' ks (s * 4 + (3 - mk.getD c.toNat 0)) (s * 4 + (3 - mk'.getD c.toNat 0)) (by omega)
          omega
    rcases List.mem_cons.mp he with rfl | he
    · exact key
    · rw [key] at hs
      exact score_inj h h' ks _ hs e he
end

theorem sideC {first : Int} (hff : first = 0 ∨ first = 4) (wo : Nat) (hw : wo < 4) : 4 - (first.toNat + wo) / 4 * 4 = 4 - first.toNat := by
  rcases hff with rfl | rfl <;> simp <;> omega
/-- who is better, told by the numbers -/
theorem rk_cmp (X : Nat → Int) {first : Int} (hff : first = 0 ∨ first = 4) (wo a c : Nat) (hw : wo < 4) (ha : a < 4) (hc : c < 4) :
    cmpVal ((fun k => persOf k (X k)) (first.toNat + wo)).ks ((fun k => persOf k (X k)) (4 - first.toNat + a)).row ((fun k => persOf k (X k)) (4 - first.toNat + c)).row < 0 ↔ rkOf (fun k => persOf k (X k)) (first.toNat + wo) a < rkOf (fun k => persOf k (X k)) (first.toNat + wo) c := by
  have e := sideC hff wo hw
  unfold rkOf
  rw [e]
  exact cmp_score (mks_in _ _) (mks_in _ _) (row_lt _ _ _ _) (row_lt _ _ _ _) _ (ks_ok _ _).1 0
theorem rk_inj (X : Nat → Int) {first : Int} (hff : first = 0 ∨ first = 4) (wo a c : Nat) (hw : wo < 4) (ha : a < 4) (hc : c < 4) (h : rkOf (fun k => persOf k (X k)) (first.toNat + wo) a = rkOf (fun k => persOf k (X k)) (first.toNat + wo) c) : a = c := by
  have e := sideC hff wo hw
  unfold rkOf at h
  rw [e] at h
  obtain ⟨_, k, hk, h3⟩ := ks_ok (first.toNat + wo) (X (first.toNat + wo))
  have key := score_inj (mks_in _ _) (mks_in _ _) _ _ h k hk
  rw [h3] at key
  replace key : ((4 - first.toNat + a : Nat) : Int).fmod 4 = ((4 - first.toNat + c : Nat) : Int).fmod 4 := key
  rw [Int.fmod_eq_emod_of_nonneg _ (by decide), Int.fmod_eq_emod_of_nonneg _ (by decide)] at key
  rcases hff with rfl | rfl <;> simp at key <;> omega

-- PL4
theorem perms_inv : ∀ pr ∈ perms4, ∀ m, m < 4 → pr.idxOf (pr.getD m 0) = m ∧ pr.getD (pr.idxOf m) 0 = m ∧ pr.getD m 0 < 4 ∧ pr.idxOf m < 4 := by decide +kernel
section
variable {R S : Nat → Nat → Int} {Rk : Nat → Nat → Int}
/-- one table for both sides -/
structure Both (Rk R S : Nat → Nat → Int) : Prop where
  r : ∀ m w, m < 4 → Rk m w = R m w
  s : ∀ w m, w < 4 → Rk (4 + w) m = S w m
theorem calm_stable (B : Both Rk R S) {pr : List Nat} (hp : pr ∈ perms4) : calmB Rk pr = true ↔ GS.Stable R S (fun m => pr.getD m 0) (fun w => pr.idxOf w) := by
  have I := perms_inv pr hp
  unfold calmB
  rw [List.all_eq_true]
  constructor
  · intro H
    refine ⟨fun m hm => (I m hm).2.2.1, fun w hw => (I w hw).2.2.2, fun m hm => (I m hm).1, fun w hw => (I w hw).2.1, fun m w hm hw h1 h2 => ?_⟩
    have := H m (List.mem_range.mpr hm)
    rw [List.all_eq_true] at this
    have := this w (List.mem_range.mpr hw)
    unfold badB at this
    rw [B.r m _ hm, B.r m _ hm, B.s w _ hw, B.s w _ hw, decide_eq_true h1, decide_eq_true h2] at this
    exact absurd this (by decide)
  · intro F m hm
    rw [List.all_eq_true]
    intro w hw
    have hm := List.mem_range.mp hm
    have hw := List.mem_range.mp hw
    unfold badB
    rw [B.r m _ hm, B.r m _ hm, B.s w _ hw, B.s w _ hw]
    by_cases h1 : R m w < R m (pr.getD m 0)
    · have h2 : ¬ S w m < S w (pr.idxOf w) := fun z => F.nb m w hm hw h1 z
      rw [decide_eq_false h2]; simp
    · rw [decide_eq_false h1]; simp
theorem stable_perm (B : Both Rk R S) {f g : Nat → Nat} (F : GS.Stable R S f g) : ∃ pr ∈ perms4, calmB Rk pr = true ∧ (∀ m, m < 4 → pr.getD m 0 = f m) ∧ ∀ w, w < 4 → pr.idxOf w = g w := by
  have hinj : ∀ i j, i < 4 → j < 4 → i ≠ j → f i ≠ f j := fun i j hi hj hne e => hne (by rw [← F.gf i hi, ← F.gf j hj, e])
  have hp : [f 0, f 1, f 2, f 3] ∈ perms4 := by
    refine mem_perms ?_ ?_ ?_
    · simp only [List.nodup_cons, List.mem_cons, List.not_mem_nil, or_false, not_or, not_false_eq_true, List.nodup_nil, and_true]
      exact ⟨⟨hinj 0 1 (by decide) (by decide) (by decide), hinj 0 2 (by decide) (by decide) (by decide), hinj 0 3 (by decide) (by decide) (by decide)⟩, ⟨hinj 1 2 (by decide) (by decide) (by decide), hinj 1 3 (by decide) (by decide) (by decide)⟩, hinj 2 3 (by decide) (by decide) (by decide)⟩
    · intro d hd
      simp only [List.mem_cons, List.not_mem_nil, or_false] at hd
      rcases hd with rfl | rfl | rfl | rfl
      · exact F.fl 0 (by decide)
      · exact F.fl 1 (by decide)
      · exact F.fl 2 (by decide)
      · exact F.fl 3 (by decide)
    · intro d hd
      have h1 := F.fg d hd
      have h2 := F.gl d hd
      rw [← h1]
      exact four (P := fun j => f j ∈ [f 0, f 1, f 2, f 3]) (by simp) (by simp) (by simp) (by simp) _ h2
  have hf : ∀ m, m < 4 → [f 0, f 1, f 2, f 3].getD m 0 = f m := four (P := fun m => [f 0, f 1, f 2, f 3].getD m 0 = f m) rfl rfl rfl rfl
  have hg : ∀ w, w < 4 → [f 0, f 1, f 2, f 3].idxOf w = g w := by
    intro w hw
    obtain ⟨_, h1, _, h2⟩ := perms_inv _ hp w hw
    rw [hf _ h2] at h1
    have := F.gf _ h2
    rw [h1] at this; exact this.symm
  refine ⟨_, hp, (calm_stable B hp).mpr ⟨?_, ?_, ?_, ?_, ?_⟩, hf, hg⟩
  · intro m hm; rw [hf m hm]; exact F.fl m hm
  · intro w hw; rw [hg w hw]; exact F.gl w hw
  · intro m hm; rw [hf m hm, hg _ (F.fl m hm)]; exact F.gf m hm
  · intro w hw; rw [hg w hw, hf _ (F.gl w hw)]; exact F.fg w hw
  · intro m w hm hw; rw [hf m hm, hg w hw]; exact F.nb m w hm hw
/-- the ways that are calm -/
def calmWays (Rk : Nat → Nat → Int) : List (List Nat) := perms4.filter (calmB Rk)
theorem min_val {st : List (List Nat)} {v : List Nat → Nat} {r : Nat → Int} {b : Nat} (hin : ∃ a ∈ st, v a = b) (hmin : ∀ a ∈ st, r b ≤ r (v a)) (hinj : ∀ a ∈ st, r b = r (v a) → b = v a) :
    (st.map fun a => (r (v a), ((v a : Nat) : Int)))[pbest (st.map fun a => (r (v a), ((v a : Nat) : Int))) (st.length - 1)]? = some (r b, (b : Int)) := by
  obtain ⟨a, ha, hab⟩ := hin
  obtain ⟨i, hi, ei⟩ := List.mem_iff_getElem.mp ha
  have hle := pbest_le (st.map fun a => (r (v a), ((v a : Nat) : Int))) (st.length - 1)
  have hmn := pbest_min (st.map fun a => (r (v a), ((v a : Nat) : Int))) (st.length - 1) i (by omega)
  generalize pbest (st.map fun a => (r (v a), ((v a : Nat) : Int))) (st.length - 1) = j at *
  have hj : j < st.length := by omega
  have e1 : (st.map fun a => (r (v a), ((v a : Nat) : Int))).getD i (0, 0) = (r b, (b : Int)) := by simp [hi, ei, hab]
  have e2 : (st.map fun a => (r (v a), ((v a : Nat) : Int))).getD j (0, 0) = (r (v st[j]), ((v st[j] : Nat) : Int)) := by simp [hj]
  rw [e1, e2] at hmn
  have h1 := hmin st[j] (List.getElem_mem hj)
  have key : r b = r (v st[j]) := by
    unfold plt at hmn
    dsimp only at hmn
    by_cases hq : r b = r (v st[j])
    · exact hq
    · rw [if_neg (by simpa using hq)] at hmn
      have := of_decide_eq_false hmn
      omega
  have hb := hinj _ (List.getElem_mem hj) key
  rw [List.getElem?_map, List.getElem?_eq_getElem hj, hb]
  rfl
theorem due_val (B : Both Rk R S) (hRi : ∀ m a c, m < 4 → a < 4 → c < 4 → R m a = R m c → a = c) {f g : Nat → Nat} (F : GS.Stable R S f g) (hb : ∀ f' g', GS.Stable R S f' g' → ∀ m, m < 4 → R m (f m) ≤ R m (f' m)) (k : Nat) (hk : k < 4) :
    ((calmWays Rk).map fun a => (Rk k (a.getD k 0), ((a.getD k 0 : Nat) : Int)))[pbest ((calmWays Rk).map fun a => (Rk k (a.getD k 0), ((a.getD k 0 : Nat) : Int))) ((calmWays Rk).length - 1)]? = some (Rk k (f k), ((f k : Nat) : Int)) := by
  refine min_val (v := fun a => a.getD k 0) (r := Rk k) ?_ ?_ ?_
  · obtain ⟨pr, hp, hc, hf, _⟩ := stable_perm B F
    exact ⟨pr, List.mem_filter.mpr ⟨hp, hc⟩, hf k hk⟩
  · intro a ha
    obtain ⟨hp, hc⟩ := List.mem_filter.mp ha
    rw [B.r k _ hk, B.r k _ hk]
    exact hb _ _ ((calm_stable B hp).mp hc) k hk
  · intro a ha e
    obtain ⟨hp, hc⟩ := List.mem_filter.mp ha
    rw [B.r k _ hk, B.r k _ hk] at e
    exact hRi k _ _ hk (F.fl k hk) ((perms_inv a hp k hk).2.2.1) e
theorem back_val (B : Both Rk R S) (hSi : ∀ m a c, m < 4 → a < 4 → c < 4 → S m a = S m c → a = c) {f g : Nat → Nat} (F : GS.Stable S R g f) (hb : ∀ f' g', GS.Stable S R f' g' → ∀ m, m < 4 → S m (g m) ≤ S m (f' m)) (k : Nat) (hk : k < 4) :
    ((calmWays Rk).map fun a => (Rk (4 + k) (a.idxOf k), ((a.idxOf k : Nat) : Int)))[pbest ((calmWays Rk).map fun a => (Rk (4 + k) (a.idxOf k), ((a.idxOf k : Nat) : Int))) ((calmWays Rk).length - 1)]? = some (Rk (4 + k) (g k), ((g k : Nat) : Int)) := by
  refine min_val (v := fun a => a.idxOf k) (r := Rk (4 + k)) ?_ ?_ ?_
  · obtain ⟨pr, hp, hc, _, hg⟩ := stable_perm B F.swap
    exact ⟨pr, List.mem_filter.mpr ⟨hp, hc⟩, hg k hk⟩
  · intro a ha
    obtain ⟨hp, hc⟩ := List.mem_filter.mp ha
    rw [B.s k _ hk, B.s k _ hk]
    exact hb _ _ ((calm_stable B hp).mp hc).swap k hk
  · intro a ha e
    obtain ⟨hp, hc⟩ := List.mem_filter.mp ha
    rw [B.s k _ hk, B.s k _ hk] at e
    exact hSi k _ _ hk (F.fl k hk) ((perms_inv a hp k hk).2.2.2) e
end
/-- the ways as they are made -/
noncomputable def waysN : Nat → List (List Nat)
  | 0 => [[]]
  | n + 1 => (waysN n).flatMap fun p => ((List.range 4).filter fun x => !decide (x ∈ p)).map fun x => p ++ [x]
theorem waysN4 : waysN 4 = perms4 := by decide +kernel

-- C14
theorem LAt.hide {F : Heap} {a b : Addr} {vs : List Value} (x : LAt F a vs) (hne : a ≠ b) : LAt (F.hide b) a vs := let ⟨n, e⟩ := x; ⟨n, (Heap.hide_ne F hne).trans e⟩
theorem four_of {l : List Addr} (h : l.length = 4) : ∃ a b c d, l = [a, b, c, d] :=
  match l, h with
  | [a, b, c, d], _ => ⟨a, b, c, d, rfl⟩
theorem PeopleAt.of {h h' : Heap} {a : Addr} {P : Nat → Pers} (y : PeopleAt h a P) (hs : Sub h h') : PeopleAt h' a P := y.sub hs
section
variable {prog : Program} {w : World} {A : Around} {O h : Heap} {p : Program} {loose : List Str} {mg mb : Str → Option Value}
set_option maxHeartbeats 8000000 in
theorem asked_W {pl : Addr} {P : Nat → Pers} {R S : Nat → Nat → Int} {first : Int} {tf : Tok} {Q : Value → Heap → Prop}
    (G : Good (KK w.params) p loose mg mb O) (Rm : Room A 10) (hO : Org O h) (hpe : PeopleAt h pl P) (hok : ∀ k, k < 8 → PersOk (P k)) (hff : first = 0 ∨ first = 4)
    (hR : ∀ wo a c, wo < 4 → a < 4 → c < 4 → (cmpVal (P (first.toNat + wo)).ks (P (4 - first.toNat + a)).row (P (4 - first.toNat + c)).row < 0 ↔ R wo a < R wo c)) (hRi : ∀ wo a c, wo < 4 → a < 4 → c < 4 → R wo a = R wo c → a = c)
    (hS : ∀ wo a c, wo < 4 → a < 4 → c < 4 → (cmpVal (P (4 - first.toNat + wo)).ks (P (first.toNat + a)).row (P (first.toNat + c)).row < 0 ↔ S wo a < S wo c)) (hSi : ∀ wo a c, wo < 4 → a < 4 → c < 4 → S wo a = S wo c → a = c)
    (q : ∀ f g D bs h', GS.Stable R S f g → (∀ f' g', GS.Stable R S f' g' → ∀ m, m < 4 → R m (f m) ≤ R m (f' m)) → Sub h h' → LAt h' D (bs.map .ref) → NVAt h' bs [(0, g 0), (1, g 1), (2, g 2), (3, g 3)] → h.objs.size ≤ D → (∀ a ∈ bs, h.objs.size ≤ a) → Q (.ref D) h') :
    W prog w A (call (.ref 213) [.ref pl, .int first tf]) h Q := by
  refine W.call_def (n := 9) (fd := fd213.1) (body := b213.1) (binds := [("people", .ref pl), ("first", .int first tf)]) Rm G hO (View.all h) hO.sub (o213.2 w.params) fd213.2 (c213 _) b213.2 (fun s _ => BindsTo.of_eq rfl) ?_ ?_ ?_
  · intro L
    exact fun y hy => .inl (by
      simp only [List.mem_cons, List.not_mem_nil, or_false] at hy
      rcases hy with rfl | rfl <;> rfl)
  · intro L; exact fun q hq => nomatch hq
  intro L h₁ hL hs S₁
  replace S₁ : St O h L (bindL (callEnvC fd213.val L 213).kindOf [("people", .ref pl), ("first", .int first tf)] fun _ => none) [] h₁ := S₁
  have R' := Rm.deeper (env := callEnvC fd213.val L 213)
  have hh := R'.hh
  generalize A.deeper (callEnvC fd213.val L 213) = A' at R' hh ⊢
  refine W.execs_cons ?_
  repeat walk_at "w"
  refine W.glob G S₁.sO (n_hd _) ?_
  refine W.callK0 G S₁.sO (k199_keep _) ?_
  refine headers_W G (R'.le (by decide)) S₁.orgH fun hx hl h₂ hs₂ hhl hhx hll => ?_
  obtain ⟨F₂, hF₂, S₂, hSF₂, _⟩ := S₁.back hs₂
  have hLl : L < hl := Nat.lt_of_lt_of_le S₁.lt hhl
  have S₃ := S₂.thaw (x := .lst []) (hll.from hSF₂ hhl) hLl
  have hhx₃ : HeadAt h₁.objs.size (F₂.hide hl) hx hl := by
    refine hhx.mono (fun b o hb e => ?_) (Nat.le_refl _)
    have hne : b ≠ hl := fun z => by subst z; rw [Heap.hide_self] at e; cases e
    exact (Heap.hide_ne F₂ hne).trans (hSF₂ b o hb (Heap.of_hide e))
  have hF₃ : Sub h (F₂.hide hl) := fun b o e => (Heap.hide_ne F₂ (fun z => by
    subst z
    have h1 := Heap.lt_size e
    rw [hL] at h1
    exact absurd h1 (Nat.not_lt.mpr (Nat.le_of_lt hLl)))).trans (hF₂ b o e)
  generalize F₂.hide hl = F₃ at *
  refine W.store S₃ fun h₄ S₄ => ?_
  refine W.execs_cons ?_
  refine W.assign_comp (O := O) (L := L) (cl := []) rfl rfl rfl (by decide) rfl (by decide) rfl rfl ?_
  repeat walk_at "w"
  refine W.bltn G S₄.sO (n_range _) bo_range ?_
  repeat walk_at "w"
  refine W.call_range S₄ fun rg h₅ _ _ _ hs₅ S₅ hrg => ?_
  refine W.pyIter_range (n := 4) S₅ hrg (by decide) fun it h₆ hit hs₆ S₆ => ?_
  refine ⟨_, _, _, CompIn.range hh S₆ (fun D C => compTree_plain) (fun C j F' ys => ∃ bs : List Addr, ys = bs.map .ref ∧ bs.length = j ∧ bs.Nodup ∧ ∀ a ∈ bs, C < a ∧ IL F' a (ofN [0, 1, 2, 3])) ?_ ?_ ?_⟩
  · intro C F₂ _ _ _
    exact ⟨[], rfl, rfl, List.nodup_nil, fun a ha => by simp at ha⟩
  · rintro C D j tj F' m' ys h₇ ob hLD hDC hsz hj hold ⟨bs, rfl, hbl, hbn, hbs⟩ hyl S₇ Qh qh
    refine W.assign_name (W.store S₇ fun h₈ S₈ => ?_)
    show W _ _ _ _ _ _
    repeat walk_at "w"
    refine W.newList S₈ fun tp h₉ htp hs₉ S₉ => ?_
    refine W.append (i := 2) S₉ rfl (by rw [List.length_map, hbl]; exact small_size (by omega)) fun h₁₀ S₁₀ => ?_
    replace S₁₀ : St O F' C _ ((tp, _) :: [(it, ob), (D, .lst (bs.map .ref ++ [.ref tp]))]) h₁₀ := S₁₀
    have hnew : F'.get? tp = none := S₁₀.v.off _ (.head _)
    obtain ⟨F₇, hF₇, S₁₁, htpF, _⟩ := S₁₀.cool
    refine qh F₇ _ _ h₁₀ hF₇ ⟨bs ++ [tp], by simp, by simp [hbl], nodup_push hbn fun hm => ?_, fun a ha => ?_⟩ (by simp [hbl]) S₁₁
    · obtain ⟨_, vs, ⟨n, e⟩, _⟩ := hbs tp hm
      rw [hnew] at e; cases e
    · rcases List.mem_append.mp ha with ha | ha
      · exact ⟨(hbs a ha).1, (hbs a ha).2.sub hF₇⟩
      · rw [List.mem_singleton] at ha
        subst ha
        exact ⟨htp, _, htpF, .cons _ _ (.cons _ _ (.cons _ _ (.cons _ _ .nil)))⟩
  · rintro D C F' ys hLD hDC hsz hold ⟨bs, rfl, hbl, hbn, hbs⟩ hLC F₇ h₇ hF₇ hFC S₇
    obtain ⟨F₈, hF₈, S₈, hDF, _⟩ := S₇.cool
    refine W.execs_cons ?_
    repeat walk_at "w"
    refine W.newList S₈ fun fa h₉ hfa hs₉ S₉ => ?_
    refine W.store S₉ fun h₁₀ S₁₀ => ?_
    refine W.execs_cons ?_
    repeat walk_at "w"
    refine W.store S₁₀ fun h₁₁ S₁₁ => ?_
    obtain ⟨a0, a1, a2, a3, rfl⟩ := four_of hbl
    simp only [List.nodup_cons, List.mem_cons, List.not_mem_nil, or_false, not_or, not_false_eq_true, List.nodup_nil, and_true] at hbn
    obtain ⟨⟨n01, n02, n03⟩, ⟨n12, n13⟩, n23⟩ := hbn
    have ill : ∀ a ∈ [a0, a1, a2, a3], C < a ∧ IL F₈ a (ofN [0, 1, 2, 3]) := fun a ha => ⟨(hbs a ha).1, ((hbs a ha).2.from hFC (Nat.le_of_lt (hbs a ha).1)).sub hF₈⟩
    obtain ⟨c0, v0, l0, i0⟩ := ill a0 (by simp)
    obtain ⟨c1, v1, l1, i1⟩ := ill a1 (by simp)
    obtain ⟨c2, v2, l2, i2⟩ := ill a2 (by simp)
    obtain ⟨c3, v3, l3, i3⟩ := ill a3 (by simp)
    have hLa : ∀ {a : Addr}, C < a → L < a := fun c => Nat.lt_trans (Nat.lt_trans hLD hDC) c
    have S₁₂ := S₁₁.thaw (x := .lst v3) l3 (hLa c3)
    have S₁₃ := S₁₂.thaw (x := .lst v2) (LAt.hide l2 n23) (hLa c2)
    have S₁₄ := S₁₃.thaw (x := .lst v1) (LAt.hide (LAt.hide l1 n13) n12) (hLa c1)
    have S₁₅ := S₁₄.thaw (x := .lst v0) (LAt.hide (LAt.hide (LAt.hide l0 n03) n02) n01) (hLa c0)
    have hDne : ∀ {a : Addr}, C < a → D ≠ a := fun c z => by subst z; exact absurd hDC (Nat.not_lt.mpr (Nat.le_of_lt c))
    have hD₉ : LAt ((((F₈.hide a3).hide a2).hide a1).hide a0) D [.ref a0, .ref a1, .ref a2, .ref a3] := LAt.hide (LAt.hide (LAt.hide (LAt.hide hDF (hDne c3)) (hDne c2)) (hDne c1)) (hDne c0)
    have hF₉ : Sub F₃ ((((F₈.hide a3).hide a2).hide a1).hide a0) := by
      intro b o e
      have hb : b < D := Nat.lt_of_lt_of_le (Heap.lt_size (S₆.v.keep b o e)) hsz
      have ne : ∀ {a : Addr}, C < a → b ≠ a := fun c z => by subst z; exact absurd (Nat.lt_trans hb hDC) (Nat.not_lt.mpr (Nat.le_of_lt c))
      rw [Heap.hide_ne _ (ne c0), Heap.hide_ne _ (ne c1), Heap.hide_ne _ (ne c2), Heap.hide_ne _ (ne c3)]
      exact hF₈ b o (hF₇ b o e)
    generalize (((F₈.hide a3).hide a2).hide a1).hide a0 = F₉ at *
    refine W.execs_cons ?_
    refine while_W (h0 := h) (F := F₉) (n := 16) (la := fun k => [a0, a1, a2, a3].getD k 0) (lw := h₁.objs.size) (pl := pl) (hx := hx) (lo := D) (fa := fa) (hl := hl) (first := first) (tf := tf) (P := P) (R := R) (S := S) G R' hpe hok hff hR hRi hS hSi S₁₅ ?_ ?_
    · refine ⟨fun _ => [0, 1, 2, 3], [0, 1, 2, 3], [], [], fun k => [v0, v1, v2, v3].getD k [], _, 0, _, rfl, fun b o e => hF₉ b o (hF₃ b o e), ⟨rfl, rfl, rfl, rfl, rfl⟩, rfl, by decide, hD₉, hhx₃.mono (fun b o _ e => hF₉ b o e) (Nat.le_refl _), ⟨rfl, fun i a e h1 _ => by simp at h1⟩, ?_, .cons _ _ (.cons _ _ (.cons _ _ (.cons _ _ .nil))), GS.Inv.start, List.nodup_nil, by decide, rfl⟩
      exact fun k hk => four (P := fun k => IntsAre ([v0, v1, v2, v3].getD k []) (ofN [0, 1, 2, 3])) i0 i1 i2 i3 k hk
    · intro F' m' left lv es as fv h' hF' hm hhx' hpa I hnd S'
      obtain ⟨f, g, hst, hg1, hg2, hbest⟩ := I.done
      refine W.execs_cons ?_
      refine end_W (i := 5) (g := g) G (R'.le (by decide)) S' rfl hm.h hhx' hpa (mem_perms hnd ?_ ?_) ?_ ?_
      · intro d hd
        obtain ⟨e, he, rfl⟩ := List.mem_map.mp hd
        obtain ⟨j, hj⟩ := List.mem_iff_getElem?.mp he
        have hja : j < as.length := by rw [hpa.1]; exact (List.getElem?_eq_some_iff.mp hj).1
        exact (hpa.2 j _ e (List.getElem?_eq_getElem hja) hj).2.1
      · intro d hd
        exact findE_in (hg1 d hd)
      · intro e he
        exact hg2 _ _ (findE_mem hnd he)
      · intro D' bs' h₂₀ hs₂₀ hD' hnv hLD' hLb'
        exact q f g D' bs' h₂₀ hst hbest (fun b o e => hs₂₀ b o (hF' b o e)) hD' hnv (by rw [hL]; exact Nat.le_of_lt hLD') fun a ha => by rw [hL]; exact Nat.le_of_lt (hLb' a ha)
end

-- C15
noncomputable section
def o232 : { o : Obj // ∀ P, (KK P).lookup 232 = some o } := ⟨_, fun P => rfl⟩
def fd232 : { fd : FuncData // o232.1.data = .func fd } := ⟨_, rfl⟩
def b232 : { b : List Stmt // fd232.1.body = .stmts b } := ⟨_, rfl⟩
theorem c232 (P) : codeIn (KK P) fd232.1.code fd232.1.qualname = true := by kernel_rfl
def ways232 : { s : Stmt // b232.1[3]? = some s } := ⟨_, rfl⟩
def stab232 : { s : Stmt // b232.1[4]? = some s } := ⟨_, rfl⟩
def loop232 : { s : Stmt // b232.1[7]? = some s } := ⟨_, rfl⟩
def ret232 : { s : Stmt // b232.1[8]? = some s } := ⟨_, rfl⟩
end
/-- lists of places -/
def WaysAt (h : Heap) (a : Addr) (ps : List (List Nat)) : Prop := ∃ as : List Addr, as.length = ps.length ∧ LAt h a (as.map .ref) ∧ ∀ (i : Nat) (a : Addr) (p : List Nat), as[i]? = some a → ps[i]? = some p → IL h a (ofN p)
theorem WaysAt.sub {h h' : Heap} {a : Addr} {ps : List (List Nat)} (x : WaysAt h a ps) (hs : Sub h h') : WaysAt h' a ps := let ⟨as, e, l, k⟩ := x; ⟨as, e, l.sub hs, fun i b p h1 h2 => (k i b p h1 h2).sub hs⟩
def Made (C : Nat) (h : Heap) (bs : List Addr) (ps : List (List Nat)) : Prop := bs.length = ps.length ∧ ∀ (i : Nat) (a : Addr) (p : List Nat), bs[i]? = some a → ps[i]? = some p → C < a ∧ IL h a (ofN p)
theorem Made.sub {C : Nat} {h h' : Heap} {bs : List Addr} {ps : List (List Nat)} (x : Made C h bs ps) (hs : Sub h h') : Made C h' bs ps := ⟨x.1, fun i a p h1 h2 => ⟨(x.2 i a p h1 h2).1, (x.2 i a p h1 h2).2.sub hs⟩⟩
theorem Made.push {C : Nat} {h : Heap} {bs : List Addr} {ps : List (List Nat)} {a : Addr} {p : List Nat} (x : Made C h bs ps) (hC : C < a) (hI : IL h a (ofN p)) : Made C h (bs ++ [a]) (ps ++ [p]) := by
  refine ⟨by simp [x.1], fun i b q e1 e2 => ?_⟩
  by_cases hi : i < bs.length
  · rw [List.getElem?_append_left hi] at e1
    rw [List.getElem?_append_left (by rw [← x.1]; exact hi)] at e2
    exact x.2 i b q e1 e2
  · have hi1 : i = bs.length := by
      have := (List.getElem?_eq_some_iff.mp e1).1
      simp at this; omega
    subst hi1
    have e3 : a = b := by simpa using e1
    rw [x.1] at e2
    have e4 : p = q := by simpa using e2
    subst e3; subst e4
    exact ⟨hC, hI⟩
def oneStep (p : List Nat) (j : Nat) : List (List Nat) := ((List.range j).filter fun x => !decide (x ∈ p)).map fun x => p ++ [x]
theorem oneStep_succ (p : List Nat) (j : Nat) : oneStep p (j + 1) = if j ∈ p then oneStep p j else oneStep p j ++ [p ++ [j]] := by
  unfold oneStep
  rw [List.range_succ, List.filter_append, List.map_append]
  by_cases h : j ∈ p
  · rw [if_pos h]; simp [h]
  · rw [if_neg h]; simp [h]
theorem oneStep_len (p : List Nat) (j : Nat) : (oneStep p j).length ≤ j := by
  unfold oneStep
  rw [List.length_map]
  exact Nat.le_trans (List.length_filter_le _ _) (by simp)
theorem mem_ofN {x : Nat} {p : List Nat} : (x : Int) ∈ ofN p ↔ x ∈ p := by
  unfold ofN
  rw [List.mem_map]
  constructor
  · rintro ⟨y, hy, e⟩
    have : y = x := by omega
    exact this ▸ hy
  · intro h; exact ⟨x, h, rfl⟩
theorem waysN_len : ∀ k, k ≤ 4 → (waysN k).length ≤ 24 ∧ ∀ p ∈ waysN k, p.length ≤ 4 := by
  intro k hk
  have : k = 0 ∨ k = 1 ∨ k = 2 ∨ k = 3 ∨ k = 4 := by omega
  rcases this with rfl | rfl | rfl | rfl | rfl <;> decide +kernel
theorem steps_len : ∀ k, k < 4 → ∀ i, (((waysN k).take i).flatMap fun p => oneStep p 4).length ≤ 24 := by
  intro k hk i
  have h1 : ((waysN k).flatMap fun p => oneStep p 4) = waysN (k + 1) := rfl
  have h2 : (((waysN k).take i).flatMap fun p => oneStep p 4).length ≤ ((waysN k).flatMap fun p => oneStep p 4).length := by
    conv => rhs; rw [← List.take_append_drop i (waysN k), List.flatMap_append, List.length_append]
    omega
  rw [h1] at h2
  exact Nat.le_trans h2 (waysN_len (k + 1) hk).1
section
variable {prog : Program} {w : World} {A : Around} {O h : Heap} {p : Program} {loose : List Str} {mg mb : Str → Option Value}
set_option maxHeartbeats 8000000 in
theorem ways_W {F : Heap} {L : Addr} {m : Str → Option Value} {w0 : Addr} {vr vk : Option Value} {Q : Flow → Heap → Prop}
    (G : Good (KK w.params) p loose mg mb O) (Rm : Room A 1) (S : St O F L m [(L + 1 + 1, .cell vk), (L + 1, .cell vr)] h) (hmw : m "ways" = some (.ref w0)) (hw : WaysAt F w0 (waysN 0))
    (q : ∀ F' m' wa vk' h', Sub F F' → (∀ y : Str, y ≠ "ways" → m' y = m y) → m' "ways" = some (.ref wa) → WaysAt F' wa perms4 → St O F' L m' [(L + 1 + 1, .cell vk'), (L + 1, .cell vr)] h' → Q .next h') :
    W prog w A (exec ways232.1 (callEnvC fd232.val L 232)) h Q := by
  have hh := Rm.hh
  unfold ways232
  refine W.for_ ?_
  repeat walk_at "w"
  refine W.bltn G S.sO (n_range _) bo_range ?_
  repeat walk_at "w"
  refine W.call_range S fun rg h₁ _ _ _ hs₁ S₁ hrg => ?_
  refine W.pyIter_range (n := 4) S₁ hrg (by decide) fun it h₂ hit hs₂ S₂ => ?_
  refine Go.range (n := 4) (fun i F' m' news => ∃ vk wa, news = [(L + 1 + 1, .cell vk), (L + 1, .cell vr)] ∧ Sub F F' ∧ (∀ y : Str, y ≠ "ways" → m' y = m y) ∧ m' "ways" = some (.ref wa) ∧ WaysAt F' wa (waysN i)) hh ?_ ?_ S₂ ⟨vk, w0, rfl, fun _ _ e => e, fun _ _ => rfl, hmw, hw⟩
  · rintro i t F₃ m₃ news h₃ hi ⟨vk₃, wa, rfl, hF₃, hfr, hmw₃, hwa⟩ S₃
    refine W.storeCell (i := 1) S₃ rfl rfl fun h₄ S₄ => ?_
    replace S₄ : St O F₃ L m₃ [(it, .riter (i + 1) ((4 : Nat) - (i + 1)) 1), (L + 1 + 1, .cell (some (.int i t))), (L + 1, .cell vr)] h₄ := S₄
    obtain ⟨as, hal, hwl, hwi⟩ := hwa
    refine W.execs_cons ?_
    refine W.assign_comp (O := O) (L := L) (cl := []) rfl rfl rfl (by decide) rfl (by decide) rfl rfl ?_
    repeat walk_at "w"
    refine W.pyIter_list S₄ (hwl.sub S₄.v.keep).isList fun it2 h₅ hit2 hs₅ S₅ => ?_
    have hwne : wa ≠ it2 := fun z => by
      subst z
      have := S₅.v.off _ (.head _)
      obtain ⟨n, e⟩ := hwl
      rw [e] at this; cases this
    refine ⟨_, _, _, CompIn.listN hh S₅ (hwl.sub S₅.v.keep) hwne (.inl ⟨_, _, rfl⟩) (fun D C => compTree_two0 (by intro _; rfl)) (fun C j F' ys => ∃ bs : List Addr, ys = bs.map .ref ∧ Made C F' bs (((waysN i).take j).flatMap fun p => oneStep p 4)) ?_ ?_ ?_⟩
    · intro C F₂ _ _ _
      exact ⟨[], rfl, rfl, fun k a p e => by simp at e⟩
    · rintro C D j v F' m' ys h₆ hLD hDC hsz hv hold ⟨bs, rfl, hbs⟩ S₆ Qh qh
      have hFF := Old.ofSt S₅ hold
      obtain ⟨a, ha, rfl⟩ : ∃ a, as[j]? = some a ∧ v = .ref a := by
        rw [List.getElem?_map] at hv
        cases q : as[j]? with
        | none => rw [q] at hv; cases hv
        | some a => rw [q] at hv; exact ⟨a, rfl, (Option.some.inj hv).symm⟩
      have hlt : j < (waysN i).length := hal ▸ (List.getElem?_eq_some_iff.mp ha).1
      have hpj : (waysN i)[j]? = some (waysN i)[j] := List.getElem?_eq_getElem hlt
      have hIa := (hwi j a _ ha hpj).sub hFF
      have hpl := (waysN_len i (by omega)).2 _ (List.getElem_mem hlt)
      have htake : (waysN i).take (j + 1) = (waysN i).take j ++ [(waysN i)[j]] := by rw [List.take_add_one, hpj]; rfl
      rw [htake] at qh
      generalize (waysN i)[j] = p at *
      refine W.assign_name (W.store S₆ fun h₇ S₇ => ?_)
      show W _ _ _ _ _ _
      repeat walk_at "w"
      refine W.bltn G S₇.sO (n_range _) bo_range ?_
      repeat walk_at "w"
      refine W.call_range S₇ fun rg h₈ _ _ _ hs₈ S₈ hrg => ?_
      refine W.pyIter_range (n := 4) S₈ hrg (by decide) fun it3 h₉ hit3 hs₉ S₉ => ?_
      have hlen := steps_len i hi j
      refine Go.inner (n := 4) (fun c F'' m'' news => m'' "way" = some (.ref a) ∧ Sub F' F'' ∧ ∃ bs' : List Addr, news = [(it2, .liter wa (j + 1)), (D, .lst (bs'.map .ref))] ∧ Made C F'' bs' ((((waysN i).take j).flatMap fun p => oneStep p 4) ++ oneStep p c)) hh ?_ ?_ S₉ ⟨rfl, fun _ _ e => e, bs, rfl, by
        have : oneStep p 0 = [] := rfl
        rw [this, List.append_nil]; exact hbs⟩
      · rintro c tc F'' m'' news h₁₀ hc ⟨hmy, hF'', bs', rfl, hbs'⟩ S₁₀
        refine W.store S₁₀ fun h₁₁ S₁₁ => ?_
        show W _ _ _ _ _ _
        obtain ⟨vs, hvl, hvi⟩ := hIa.sub fun b o e => S₁₁.v.keep b o (hF'' b o e)
        repeat walk_at "w"
        refine W.notIn_ints hvl hvi ?_
        repeat walk_at "w"
        have hst := oneStep_succ p c
        have hol := oneStep_len p c
        have hbl : bs'.length ≤ 28 := by rw [hbs'.1, List.length_append]; omega
        have hvsl : vs.length ≤ 4 := by rw [hvi.length]; unfold ofN; rw [List.length_map]; exact hpl
        by_cases hin : c ∈ p
        · have : (!decide ((c : Int) ∈ ofN p)) = false := by simp [mem_ofN, hin]
          rw [this]
          refine if_ff ?_
          rw [if_pos hin] at hst
          refine ⟨F'', _, [(it2, .liter wa (j + 1)), (D, .lst (bs'.map .ref))], ?_, S₁₁⟩
          exact ⟨hmy, hF'', bs', rfl, by rw [hst]; exact hbs'⟩
        · have : (!decide ((c : Int) ∈ ofN p)) = true := by simp [mem_ofN, hin]
          rw [this]
          refine if_tt ?_
          rw [if_neg hin] at hst
          repeat walk_at "w"
          refine W.newList S₁₁ fun tp h₁₂ htp hs₁₂ S₁₂ => ?_
          refine W.add_list S₁₂ (hvl.sub hs₁₂) (S₁₂.get (i := 0) rfl) (by simp; exact small_size (by omega)) fun c1 h₁₃ hc1 hs₁₃ S₁₃ => ?_
          refine W.append (i := 4) S₁₃ rfl (by rw [List.length_map]; exact small_size (by omega)) fun h₁₄ S₁₄ => ?_
          replace S₁₄ : St O F'' C _ ((c1, .lst (vs ++ [.int (c : Int) tc])) :: (tp, .lst [.int (c : Int) tc]) :: [(it3, .riter (c + 1) ((4 : Nat) - (c + 1)) 1), (it2, .liter wa (j + 1)), (D, .lst (bs'.map .ref ++ [.ref c1]))]) h₁₄ := S₁₄
          obtain ⟨F₅, hF₅, S₁₅, hc1F, _⟩ := S₁₄.cool
          replace S₁₅ := S₁₅.drop
          refine ⟨F₅, _, [(it2, .liter wa (j + 1)), (D, .lst (bs'.map .ref ++ [.ref c1]))], ?_, S₁₅⟩
          refine ⟨hmy, fun b o e => hF₅ b o (hF'' b o e), bs' ++ [c1], by simp, ?_⟩
          rw [hst, ← List.append_assoc]
          exact (hbs'.sub hF₅).push hc1 ⟨_, hc1F, ofN_append hvi c tc⟩
      · rintro F'' m'' news h₁₀ ⟨hmy, hF'', bs', rfl, hbs'⟩ S₁₀
        refine qh F'' _ _ h₁₀ hF'' ⟨bs', rfl, ?_⟩ S₁₀
        rw [List.flatMap_append, List.flatMap_cons, List.flatMap_nil, List.append_nil]
        exact hbs'
    · rintro D C F' ys hLD hDC hsz hold ⟨bs, rfl, hbs⟩ hLC F₆ h₆ hF₆ hFC S₆
      obtain ⟨F₇, hF₇, S₇, hDF, _⟩ := S₆.cool
      refine W.execs_nil ?_
      refine ⟨F₇, _, [(L + 1 + 1, .cell (some (.int i t))), (L + 1, .cell vr)], ?_, S₇⟩
      rw [List.length_map, hal, List.take_length] at hbs
      refine ⟨_, D, rfl, fun b o e => hF₇ b o (hF₆ b o (hF₃ b o e)), fun y hy => ?_, if_pos rfl, bs, hbs.1, hDF, fun c a p e1 e2 => ?_⟩
      · show (if y = "ways" then _ else m₃ y) = m y
        rw [if_neg hy]; exact hfr y hy
      · obtain ⟨h1, h2⟩ := hbs.2 c a p e1 e2
        exact (h2.from hFC (Nat.le_of_lt h1)).sub hF₇
  · rintro F' m' news h₃ ⟨vk', wa, rfl, hF', hfr, hmw', hwa⟩ S₃
    rw [waysN4] at hwa
    exact q F' m' wa vk' h₃ hF' hfr hmw' hwa S₃
end

-- C16
theorem n_calm (P) : nsIn (KK P) mainGlobals "_law_calm" = some (some (.ref 227)) := by kernel_rfl
theorem k227_keep (P) : keepIn (KK P) (.ref 227) = true := by kernel_rfl
section
variable {prog : Program} {w : World} {A : Around} {O h : Heap} {p : Program} {loose : List Str} {mg mb : Str → Option Value}
theorem Cells.ne {O F h : Heap} {L it c1 c2 : Addr} {m : Str → Option Value} {x y z : Ob} {r : Led} (S : St O F L m ((it, x) :: (c1, y) :: (c2, z) :: r) h) : c1 ≠ it ∧ c2 ≠ it := by
  have := S.v.nd
  simp only [List.map_cons, List.nodup_cons, List.mem_cons, not_or] at this
  exact ⟨fun z => this.1.1 z.symm, fun z => this.1.2.1 z.symm⟩
set_option maxHeartbeats 8000000 in
theorem stable_W {F : Heap} {L : Addr} {m : Str → Option Value} {wa ra : Addr} {vk : Option Value} {lo : Nat} {Rk : Nat → Nat → Int} {Q : Flow → Heap → Prop}
    (G : Good (KK w.params) p loose mg mb O) (Rm : Room A 3) (S : St O F L m [(L + 1 + 1, .cell vk), (L + 1, .cell (some (.ref ra)))] h) (hmw : m "ways" = some (.ref wa)) (hw : WaysAt F wa perms4) (hr : RanksAt lo F ra Rk)
    (q : ∀ F' sa h', Sub F F' → WaysAt F' sa (calmWays Rk) → St O F' L (fun z => if z = "stable" then some (.ref sa) else m z) [(L + 1 + 1, .cell vk), (L + 1, .cell (some (.ref ra)))] h' → Q .next h') :
    W prog w A (exec stab232.1 (callEnvC fd232.val L 232)) h Q := by
  have hh := Rm.hh
  unfold stab232
  obtain ⟨as, hal, hwl, hwi⟩ := hw
  refine W.assign_comp (O := O) (L := L) (cl := [(("ranks" : Str), L + 1)]) rfl rfl rfl (by decide) rfl (by decide) rfl rfl ?_
  repeat walk_at "w"
  refine W.pyIter_list S (hwl.sub S.v.keep).isList fun it h₁ hit hs₁ S₁ => ?_
  have hwne : wa ≠ it := fun z => by
    subst z
    have := S₁.v.off _ (.head _)
    obtain ⟨n, e⟩ := hwl
    rw [e] at this; cases this
  have hcr : h₁.IsCell (L + 1) (some (.ref ra)) := S₁.get (i := 2) rfl
  have hcn := (Cells.ne S₁).2
  refine ⟨_, _, _, CompIn.list hh S₁ (hwl.sub S₁.v.keep) hwne (.inl ⟨_, _, rfl⟩) (fun D C => compTree_if) (fun C j F' ys => ∃ bs : List Addr, ys = bs.map .ref ∧ bs.length = ((perms4.take j).filter (calmB Rk)).length ∧ ∀ (i : Nat) (a : Addr) (p : List Nat), bs[i]? = some a → ((perms4.take j).filter (calmB Rk))[i]? = some p → IL F a (ofN p)) ?_ ?_ ?_⟩
  · intro C F₂ _ _ _
    exact ⟨[], rfl, rfl, fun k a p e => by simp at e⟩
  · rintro C D j v F' m' ys h₂ hLD hDC hsz hv hold ⟨bs, rfl, hbl, hbs⟩ hyl S₂ Qh qh
    have hFF := Old.ofSt S₁ hold
    obtain ⟨a, ha, rfl⟩ : ∃ a, as[j]? = some a ∧ v = .ref a := by
      rw [List.getElem?_map] at hv
      cases q : as[j]? with
      | none => rw [q] at hv; cases hv
      | some a => rw [q] at hv; exact ⟨a, rfl, (Option.some.inj hv).symm⟩
    have hlt : j < perms4.length := hal ▸ (List.getElem?_eq_some_iff.mp ha).1
    have hpj : perms4[j]? = some perms4[j] := List.getElem?_eq_getElem hlt
    have hIa := hwi j a _ ha hpj
    have hpm : perms4[j] ∈ perms4 := List.getElem_mem hlt
    have htake : (perms4.take (j + 1)).filter (calmB Rk) = if calmB Rk perms4[j] then (perms4.take j).filter (calmB Rk) ++ [perms4[j]] else (perms4.take j).filter (calmB Rk) := by
      rw [List.take_add_one, hpj, Option.toList_some, List.filter_append]
      by_cases hc : calmB Rk perms4[j] = true
      · rw [if_pos hc]; simp [hc]
      · rw [if_neg hc]; simp [hc]
    rw [htake] at qh
    have hbl24 : bs.length ≤ 24 := by
      rw [hbl]
      refine Nat.le_trans (List.length_filter_le _ _) ?_
      rw [List.length_take]
      exact Nat.le_trans (Nat.min_le_right _ _) (by decide)
    generalize perms4[j] = pr at *
    refine W.assign_name (W.store S₂ fun h₃ S₃ => ?_)
    show W _ _ _ _ _ _
    repeat walk_at "w"
    refine W.glob G S₃.sO (n_calm _) ?_
    refine W.callK G (k227_keep _) ?_
    repeat walk_at "w"
    refine W.cellAt (IsCell.sub (IsCell.old hcr hold hcn) S₃.v.keep) rfl ?_
    repeat walk_at "w"
    refine ⟨S₃.sO, ?_⟩
    refine calm_W G (Rm.le (by decide)) S₃.orgH (hr.mono (fun b o _ e => S₃.v.keep b o (hFF b o e)) (Nat.le_refl _)) (hIa.sub fun b o e => S₃.v.keep b o (hFF b o e)) hpm fun h₄ hs₄ => ?_
    obtain ⟨F₄, hF₄, S₄, _, _⟩ := S₃.back hs₄
    repeat walk_at "w"
    cases hc : calmB Rk pr with
    | false =>
      rw [hc] at qh
      exact qh F₄ _ _ h₄ hF₄ ⟨bs, rfl, hbl, hbs⟩ (by rw [List.length_map] at hyl ⊢; omega) S₄
    | true =>
      rw [hc] at qh
      refine if_tt ?_
      repeat walk_at "w"
      refine W.append (i := 1) S₄ rfl (by rw [List.length_map]; exact small_size (by omega)) fun h₅ S₅ => ?_
      refine qh F₄ _ (bs.map .ref ++ [.ref a]) h₅ hF₄ ⟨bs ++ [a], by simp, by simp [hbl], fun k b e e1 e2 => ?_⟩ (by simpa using hyl) S₅
      rw [if_pos rfl] at e2
      by_cases hk : k < bs.length
      · rw [List.getElem?_append_left hk] at e1
        rw [List.getElem?_append_left (by rw [← hbl]; exact hk)] at e2
        exact hbs k b e e1 e2
      · have hk1 : k = bs.length := by
          have := (List.getElem?_eq_some_iff.mp e1).1
          simp at this; omega
        subst hk1
        have e3 : a = b := by simpa using e1
        rw [hbl] at e2
        have e4 : pr = e := by simpa using e2
        subst e3; subst e4
        exact hIa
  · rintro D C F' ys hLD hDC hsz hold ⟨bs, rfl, hbl, hbs⟩ hLC F₃ h₃ hF₃ hFC S₃
    obtain ⟨F₄, hF₄, S₄, hDF, _⟩ := S₃.cool
    have e24 : perms4.take (as.map Value.ref).length = perms4 := by rw [List.length_map, hal, List.take_length]
    rw [e24] at hbl hbs
    exact q F₄ D h₃ (fun b o e => hF₄ b o (hF₃ b o e)) ⟨bs, hbl, hDF, fun i a p e1 e2 => (hbs i a p e1 e2).sub fun b o e => hF₄ b o (hF₃ b o e)⟩ S₄
end

-- C17
noncomputable section
def lb232 : { b : List Stmt // ∃ t i o p, loop232.1 = .For t i b o p } := ⟨_, _, _, _, _, rfl⟩
def sw232 : { s : Stmt // lb232.1[0]? = some s } := ⟨_, rfl⟩
def sm232 : { s : Stmt // lb232.1[1]? = some s } := ⟨_, rfl⟩
def sd232 : { s : Stmt // lb232.1[2]? = some s } := ⟨_, rfl⟩
def sb232 : { s : Stmt // lb232.1[3]? = some s } := ⟨_, rfl⟩
end
theorem n_min (P) : nsIn (KK P) mainGlobals "min" = some none := by kernel_rfl
theorem bo_min : bootBuiltins "min" = some (.builtin "min") := by kernel_rfl
theorem St.neHead {O F h : Heap} {L it c : Addr} {m : Str → Option Value} {x y : Ob} {news : Led} {i : Nat} (S : St O F L m ((it, x) :: news) h) (hi : news[i]? = some (c, y)) : c ≠ it := fun e =>
  (List.nodup_cons.mp S.v.nd).1 (List.mem_map.mpr ⟨_, List.mem_of_getElem? hi, e⟩)
theorem calmWays_in {Rk : Nat → Nat → Int} {i : Nat} {pr : List Nat} (h : (calmWays Rk)[i]? = some pr) : pr ∈ perms4 := (List.mem_filter.mp (List.mem_of_getElem? h)).1
/-- the pairs that min is asked of -/
def Prs (C : Nat) (F : Heap) (bs : List Addr) (j : Nat) (st : List (List Nat)) (r : Nat → Int) (v : List Nat → Nat) : Prop :=
  bs.length = j ∧ ∀ (i : Nat) (a : Addr) (pr : List Nat), bs[i]? = some a → st[i]? = some pr → C < a ∧ ∃ t u, TAt F a [.int (r (v pr)) t, .int ((v pr : Nat) : Int) u]
theorem Prs.push {C : Nat} {F F' : Heap} {bs : List Addr} {j : Nat} {st : List (List Nat)} {r : Nat → Int} {v : List Nat → Nat} {tp : Addr} {pr : List Nat} {t u : Tok} (x : Prs C F bs j st r v) (hF : Sub F F') (hp : st[j]? = some pr) (hC : C < tp) (hT : TAt F' tp [.int (r (v pr)) t, .int ((v pr : Nat) : Int) u]) : Prs C F' (bs ++ [tp]) (j + 1) st r v := by
  obtain ⟨hbl, hbs⟩ := x
  refine ⟨by simp [hbl], fun k a e e1 e2 => ?_⟩
  by_cases hk : k < bs.length
  · rw [List.getElem?_append_left hk] at e1
    obtain ⟨h1, t, u, T⟩ := hbs k a e e1 e2
    exact ⟨h1, t, u, T.sub hF⟩
  · have hk1 : k = bs.length := by
      have := (List.getElem?_eq_some_iff.mp e1).1
      simp at this; omega
    subst hk1
    have : tp = a := by simpa using e1
    subst this
    rw [hbl, hp] at e2
    cases e2
    exact ⟨hC, _, _, hT⟩
theorem Prs.pairs {C : Nat} {F h : Heap} {bs : List Addr} {st : List (List Nat)} {r : Nat → Int} {v : List Nat → Nat} (x : Prs C F bs st.length st r v) (hs : SubFrom C F h) : PairInts h bs (st.map fun a => (r (v a), ((v a : Nat) : Int))) := by
  refine ⟨by rw [x.1, List.length_map], fun i a p e1 e2 => ?_⟩
  rw [List.getElem?_map] at e2
  cases q : st[i]? with
  | none => rw [q] at e2; cases e2
  | some pr =>
    rw [q] at e2
    cases e2
    obtain ⟨h1, t, u, T⟩ := x.2 i a pr e1 q
    exact ⟨t, u, T.from hs (Nat.le_of_lt h1)⟩
section
variable {prog : Program} {w : World} {A : Around} {O h : Heap} {p : Program} {loose : List Str} {mg mb : Str → Option Value}
set_option maxHeartbeats 8000000 in
theorem minw_W {F : Heap} {L : Addr} {m : Str → Option Value} {news : Led} {sa ra : Addr} {i1 i2 k b : Nat} {tk : Tok} {lo : Nat} {Rk : Nat → Nat → Int} {x : Int} {Q : Flow → Heap → Prop}
    (G : Good (KK w.params) p loose mg mb O) (Rm : Room A 3) (S : St O F L m news h) (hk1 : news[i1]? = some (L + 1 + 1, .cell (some (.int (k : Nat) tk)))) (hr1 : news[i2]? = some (L + 1, .cell (some (.ref ra)))) (hk : k < 4)
    (hms : m "stable" = some (.ref sa)) (hw : WaysAt F sa (calmWays Rk)) (hr : RanksAt lo F ra Rk)
    (hval : ((calmWays Rk).map fun a => (Rk k (a.getD k 0), ((a.getD k 0 : Nat) : Int)))[pbest ((calmWays Rk).map fun a => (Rk k (a.getD k 0), ((a.getD k 0 : Nat) : Int))) ((calmWays Rk).length - 1)]? = some (x, ((b : Nat) : Int)))
    (q : ∀ F' t h', Sub F F' → St O F' L (fun z => if z = "w" then some (.int (b : Nat) t) else m z) news h' → Q .next h') :
    W prog w A (exec sw232.1 (callEnvC fd232.val L 232)) h Q := by
  have hh := Rm.hh
  unfold sw232
  obtain ⟨as, hal, hwl, hwi⟩ := hw
  repeat walk_at "w"
  refine W.bltn G S.sO (n_min _) bo_min ?_
  repeat walk_at "w"
  refine W.comp (O := O) (L := L) (cl := [(("ranks" : Str), L + 1), (("k" : Str), L + 1 + 1)]) rfl (by decide) rfl (by decide) ?_
  repeat walk_at "w"
  refine W.pyIter_list S (hwl.sub S.v.keep).isList fun it h₁ hit hs₁ S₁ => ?_
  have hwne : sa ≠ it := fun z => by
    subst z
    have := S₁.v.off _ (.head _)
    obtain ⟨n, e⟩ := hwl
    rw [e] at this; cases this
  have hcr : h₁.IsCell (L + 1) (some (.ref ra)) := S₁.get (i := i2 + 1) hr1
  have hck : h₁.IsCell (L + 1 + 1) (some (.int (k : Nat) tk)) := S₁.get (i := i1 + 1) hk1
  have hcrn := S₁.neHead hr1
  have hckn := S₁.neHead hk1
  have hlen24 : (calmWays Rk).length ≤ 24 := Nat.le_trans (List.length_filter_le _ _) (by decide)
  refine ⟨_, _, _, CompIn.list hh S₁ (hwl.sub S₁.v.keep) hwne (.inl ⟨_, _, rfl⟩) (fun D C => compTree_plain) (fun C j F' ys => ∃ bs : List Addr, ys = bs.map .ref ∧ Prs C F' bs j (calmWays Rk) (Rk k) (fun a => a.getD k 0)) ?_ ?_ ?_⟩
  · intro C F₂ _ _ _
    exact ⟨[], rfl, rfl, fun k a p e => by simp at e⟩
  · rintro C D j v F' m' ys h₂ hLD hDC hsz hv hold ⟨bs, rfl, hbs⟩ hyl S₂ Qh qh
    have hFF := Old.ofSt S₁ hold
    obtain ⟨a, ha, rfl⟩ : ∃ a, as[j]? = some a ∧ v = .ref a := by
      rw [List.getElem?_map] at hv
      cases q : as[j]? with
      | none => rw [q] at hv; cases hv
      | some a => rw [q] at hv; exact ⟨a, rfl, (Option.some.inj hv).symm⟩
    have hlt : j < (calmWays Rk).length := hal ▸ (List.getElem?_eq_some_iff.mp ha).1
    have hpj : (calmWays Rk)[j]? = some (calmWays Rk)[j] := List.getElem?_eq_getElem hlt
    have hIa := (hwi j a _ ha hpj).sub hFF
    have hpm := calmWays_in hpj
    generalize (calmWays Rk)[j] = pr at *
    obtain ⟨_, _, _, hg4, hgk⟩ := perms_idx pr hpm k hk
    refine W.assign_name (W.store S₂ fun h₃ S₃ => ?_)
    show W _ _ _ _ _ _
    have hr₃ : RanksAt lo h₃ ra Rk := hr.mono (fun b o _ e => S₃.v.keep b o (hFF b o e)) (Nat.le_refl _)
    have hI₃ : IL h₃ a (ofN pr) := hIa.sub S₃.v.keep
    have hgk' : (ofN pr)[k]? = some ((pr.getD k 0 : Nat) : Int) := by unfold ofN; rw [List.getElem?_map, hgk]; rfl
    repeat walk_at "w"
    refine W.cellAt (IsCell.sub (IsCell.old hcr hold hcrn) S₃.v.keep) rfl ?_
    repeat walk_at "w"
    refine W.cellAt (IsCell.sub (IsCell.old hck hold hckn) S₃.v.keep) rfl ?_
    refine W.item_rank hr₃ (by omega) (by omega) fun a1 hA1 => ?_
    rw [Int.toNat_natCast] at hA1
    repeat walk_at "w"
    refine W.cellAt (IsCell.sub (IsCell.old hck hold hckn) S₃.v.keep) rfl ?_
    refine W.item_IL hI₃ (by omega) (by rw [Int.toNat_natCast]; exact hgk') (fun t₁ => ?_) (by omega)
    refine W.item_IL hA1 (by omega) (by rw [Int.toNat_natCast]; exact row_at Rk k _ hg4) (fun t₂ => ?_) (by omega)
    repeat walk_at "w"
    refine W.cellAt (IsCell.sub (IsCell.old hck hold hckn) S₃.v.keep) rfl ?_
    refine W.item_IL hI₃ (by omega) (by rw [Int.toNat_natCast]; exact hgk') (fun t₃ => ?_) (by omega)
    repeat walk_at "w"
    refine W.newTuple S₃ fun tp h₄ htp hs₄ S₄ => ?_
    refine W.append (i := 2) S₄ rfl (by rw [List.length_map, hbs.1]; exact small_size (by omega)) fun h₅ S₅ => ?_
    replace S₅ : St O F' C _ ((tp, _) :: [(it, .liter sa (j + 1)), (D, .lst (bs.map .ref ++ [.ref tp]))]) h₅ := S₅
    obtain ⟨F₇, hF₇, S₆, htpF, _⟩ := S₅.cool
    exact qh F₇ _ _ h₅ hF₇ ⟨bs ++ [tp], by simp, hbs.push hF₇ hpj htp htpF⟩ (by simpa using hyl) S₆
  · rintro D C F' ys hLD hDC hsz hold ⟨bs, rfl, hbs⟩ hLC F₃ h₃ hF₃ hFC S₃
    rw [List.length_map, hal] at hbs
    have hpi : PairInts h₃ bs _ := hbs.pairs fun b o hb e => S₃.v.keep b o (hFC b o hb e)
    have hpos : 0 < bs.length := by
      have := (List.getElem?_eq_some_iff.mp hval).1
      rw [List.length_map] at this
      rw [hbs.1]; omega
    repeat walk_at "w"
    refine W.min_pairs hh (by have := Rm.hu; omega) (S₃.get (i := 0) rfl) hpi hpos fun v h₄ hv hs₄ => ?_
    rw [hbs.1] at hv
    obtain ⟨t₁, t₂, hT⟩ := hpi.2 _ v _ hv hval
    have S₄ := (S₃.ext hs₄).drop
    repeat walk_at "w"
    refine W.item_tup (hT.sub hs₄) (by decide) rfl ?_ (by decide)
    refine W.store S₄ fun h₅ S₅ => ?_
    exact q F₃ _ h₅ hF₃ S₅
end

-- C18
section
variable {prog : Program} {w : World} {A : Around} {O h : Heap} {p : Program} {loose : List Str} {mg mb : Str → Option Value}
set_option maxHeartbeats 8000000 in
theorem minm_W {F : Heap} {L : Addr} {m : Str → Option Value} {news : Led} {sa ra : Addr} {i1 i2 k b : Nat} {tk : Tok} {lo : Nat} {Rk : Nat → Nat → Int} {x : Int} {Q : Flow → Heap → Prop}
    (G : Good (KK w.params) p loose mg mb O) (Rm : Room A 3) (S : St O F L m news h) (hk1 : news[i1]? = some (L + 1 + 1, .cell (some (.int (k : Nat) tk)))) (hr1 : news[i2]? = some (L + 1, .cell (some (.ref ra)))) (hk : k < 4)
    (hms : m "stable" = some (.ref sa)) (hw : WaysAt F sa (calmWays Rk)) (hr : RanksAt lo F ra Rk)
    (hval : ((calmWays Rk).map fun a => (Rk (4 + k) (a.idxOf k), ((a.idxOf k : Nat) : Int)))[pbest ((calmWays Rk).map fun a => (Rk (4 + k) (a.idxOf k), ((a.idxOf k : Nat) : Int))) ((calmWays Rk).length - 1)]? = some (x, ((b : Nat) : Int)))
    (q : ∀ F' t h', Sub F F' → St O F' L (fun z => if z = "m" then some (.int (b : Nat) t) else m z) news h' → Q .next h') :
    W prog w A (exec sm232.1 (callEnvC fd232.val L 232)) h Q := by
  have hh := Rm.hh
  unfold sm232
  obtain ⟨as, hal, hwl, hwi⟩ := hw
  repeat walk_at "w"
  refine W.bltn G S.sO (n_min _) bo_min ?_
  repeat walk_at "w"
  refine W.comp (O := O) (L := L) (cl := [(("ranks" : Str), L + 1), (("k" : Str), L + 1 + 1)]) rfl (by decide) rfl (by decide) ?_
  repeat walk_at "w"
  refine W.pyIter_list S (hwl.sub S.v.keep).isList fun it h₁ hit hs₁ S₁ => ?_
  have hwne : sa ≠ it := fun z => by
    subst z
    have := S₁.v.off _ (.head _)
    obtain ⟨n, e⟩ := hwl
    rw [e] at this; cases this
  have hcr : h₁.IsCell (L + 1) (some (.ref ra)) := S₁.get (i := i2 + 1) hr1
  have hck : h₁.IsCell (L + 1 + 1) (some (.int (k : Nat) tk)) := S₁.get (i := i1 + 1) hk1
  have hcrn := S₁.neHead hr1
  have hckn := S₁.neHead hk1
  have hlen24 : (calmWays Rk).length ≤ 24 := Nat.le_trans (List.length_filter_le _ _) (by decide)
  refine ⟨_, _, _, CompIn.list hh S₁ (hwl.sub S₁.v.keep) hwne (.inl ⟨_, _, rfl⟩) (fun D C => compTree_plain) (fun C j F' ys => ∃ bs : List Addr, ys = bs.map .ref ∧ Prs C F' bs j (calmWays Rk) (Rk (4 + k)) (fun a => a.idxOf k)) ?_ ?_ ?_⟩
  · intro C F₂ _ _ _
    exact ⟨[], rfl, rfl, fun k a p e => by simp at e⟩
  · rintro C D j v F' m' ys h₂ hLD hDC hsz hv hold ⟨bs, rfl, hbs⟩ hyl S₂ Qh qh
    have hFF := Old.ofSt S₁ hold
    obtain ⟨a, ha, rfl⟩ : ∃ a, as[j]? = some a ∧ v = .ref a := by
      rw [List.getElem?_map] at hv
      cases q : as[j]? with
      | none => rw [q] at hv; cases hv
      | some a => rw [q] at hv; exact ⟨a, rfl, (Option.some.inj hv).symm⟩
    have hlt : j < (calmWays Rk).length := hal ▸ (List.getElem?_eq_some_iff.mp ha).1
    have hpj : (calmWays Rk)[j]? = some (calmWays Rk)[j] := List.getElem?_eq_getElem hlt
    have hIa := (hwi j a _ ha hpj).sub hFF
    have hpm := calmWays_in hpj
    generalize (calmWays Rk)[j] = pr at *
    obtain ⟨hx1, hx2, hx3, _, _⟩ := perms_idx pr hpm k hk
    refine W.assign_name (W.store S₂ fun h₃ S₃ => ?_)
    show W _ _ _ _ _ _
    have hr₃ : RanksAt lo h₃ ra Rk := hr.mono (fun b o _ e => S₃.v.keep b o (hFF b o e)) (Nat.le_refl _)
    obtain ⟨vs, hpl, hpi⟩ := hIa.sub S₃.v.keep
    have hgk' : (ofN pr)[pr.idxOf k]? = some (k : Int) := by unfold ofN; rw [List.getElem?_map, hx1]; rfl
    have hno : ∀ c, c < pr.idxOf k → (ofN pr)[c]? ≠ some (k : Int) := by
      intro c hc e
      obtain ⟨y, h1, h2⟩ := ofN_get e
      have : k = y := by omega
      subst this
      exact hx2 c hc h1
    repeat walk_at "w"
    refine W.cellAt (IsCell.sub (IsCell.old hcr hold hcrn) S₃.v.keep) rfl ?_
    repeat walk_at "w"
    refine W.cellAt (IsCell.sub (IsCell.old hck hold hckn) S₃.v.keep) rfl ?_
    repeat walk_at "w"
    refine W.item_rank hr₃ (by omega) (by omega) fun a1 hA1 => ?_
    have e4 : (4 + (k : Int)).toNat = 4 + k := by omega
    rw [e4] at hA1
    repeat walk_at "w"
    refine W.m_index hpl ?_
    repeat walk_at "w"
    refine W.cellAt (IsCell.sub (IsCell.old hck hold hckn) S₃.v.keep) rfl ?_
    repeat walk_at "w"
    refine W.index (j := pr.idxOf k) hpl hpi hgk' hno (by omega) fun t₁ => ?_
    refine W.item_IL hA1 (by omega) (by rw [Int.toNat_natCast]; exact row_at Rk _ _ hx3) (fun t₂ => ?_) (by omega)
    repeat walk_at "w"
    refine W.m_index hpl ?_
    repeat walk_at "w"
    refine W.cellAt (IsCell.sub (IsCell.old hck hold hckn) S₃.v.keep) rfl ?_
    repeat walk_at "w"
    refine W.index (j := pr.idxOf k) hpl hpi hgk' hno (by omega) fun t₃ => ?_
    repeat walk_at "w"
    refine W.newTuple S₃ fun tp h₄ htp hs₄ S₄ => ?_
    refine W.append (i := 2) S₄ rfl (by rw [List.length_map, hbs.1]; exact small_size (by omega)) fun h₅ S₅ => ?_
    replace S₅ : St O F' C _ ((tp, _) :: [(it, .liter sa (j + 1)), (D, .lst (bs.map .ref ++ [.ref tp]))]) h₅ := S₅
    obtain ⟨F₇, hF₇, S₆, htpF, _⟩ := S₅.cool
    exact qh F₇ _ _ h₅ hF₇ ⟨bs ++ [tp], by simp, hbs.push hF₇ hpj htp htpF⟩ (by simpa using hyl) S₆
  · rintro D C F' ys hLD hDC hsz hold ⟨bs, rfl, hbs⟩ hLC F₃ h₃ hF₃ hFC S₃
    rw [List.length_map, hal] at hbs
    have hpi : PairInts h₃ bs _ := hbs.pairs fun b o hb e => S₃.v.keep b o (hFC b o hb e)
    have hpos : 0 < bs.length := by
      have := (List.getElem?_eq_some_iff.mp hval).1
      rw [List.length_map] at this
      rw [hbs.1]; omega
    repeat walk_at "w"
    refine W.min_pairs hh (by have := Rm.hu; omega) (S₃.get (i := 0) rfl) hpi hpos fun v h₄ hv hs₄ => ?_
    rw [hbs.1] at hv
    obtain ⟨t₁, t₂, hT⟩ := hpi.2 _ v _ hv hval
    have S₄ := (S₃.ext hs₄).drop
    repeat walk_at "w"
    refine W.item_tup (hT.sub hs₄) (by decide) rfl ?_ (by decide)
    refine W.store S₄ fun h₅ S₅ => ?_
    exact q F₃ _ h₅ hF₃ S₅
theorem NVAt.push {h : Heap} {as : List Addr} {es : List (Nat × Nat)} {a : Addr} {e : Nat × Nat} (x : NVAt h as es) (h1 : e.1 < 4) (h2 : e.2 < 4) {t u : Tok} (hT : TAt h a [.str (nm false e.1) t, .str (vl e.2) u]) : NVAt h (as ++ [a]) (es ++ [e]) := by
  refine ⟨by simp [x.1], fun i b f e1 e2 => ?_⟩
  by_cases hi : i < as.length
  · rw [List.getElem?_append_left hi] at e1
    rw [List.getElem?_append_left (by rw [← x.1]; exact hi)] at e2
    exact x.2 i b f e1 e2
  · have hi1 : i = as.length := by
      have := (List.getElem?_eq_some_iff.mp e1).1
      simp at this; omega
    subst hi1
    have e3 : a = b := by simpa using e1
    rw [x.1] at e2
    have e4 : e = f := by simpa using e2
    subst e3; subst e4
    exact ⟨h1, h2, t, u, hT⟩
set_option maxHeartbeats 4000000 in
theorem due_W {F : Heap} {L : Addr} {m : Str → Option Value} {ba da : Addr} {bs ds : List Addr} {it : Addr} {ob : Ob} {cr : Option Value} {k b : Nat} {tk tb : Tok} {es : List (Nat × Nat)} {Q : Flow → Heap → Prop}
    (G : Good (KK w.params) p loose mg mb O) (Rm : Room A 3) (S : St O F L m [(it, ob), (ba, .lst (bs.map .ref)), (da, .lst (ds.map .ref)), (L + 1 + 1, .cell (some (.int (k : Nat) tk))), (L + 1, .cell cr)] h) (hk : k < 4) (hb : b < 4) (hl : ds.length ≤ 10)
    (hmd : m "due" = some (.ref da)) (hmw : m "w" = some (.int (b : Nat) tb)) (hn : NVAt F ds es)
    (q : ∀ F' ds' h', Sub F F' → ds'.length = ds.length + 1 → NVAt F' ds' (es ++ [(b, k)]) → St O F' L m [(it, ob), (ba, .lst (bs.map .ref)), (da, .lst (ds'.map .ref)), (L + 1 + 1, .cell (some (.int (k : Nat) tk))), (L + 1, .cell cr)] h' → Q .next h') :
    W prog w A (exec sd232.1 (callEnvC fd232.val L 232)) h Q := by
  have hh := Rm.hh
  unfold sd232
  repeat walk_at "w"
  refine W.m_append (show LAt h da (ds.map .ref) from S.get (i := 2) rfl) ?_
  repeat walk_at "w"
  refine W.mod_lo (by omega) (by omega) fun t₁ => ?_
  repeat walk_at "w"
  refine W.bltn G S.sO (n_str _) bo_str ?_
  repeat walk_at "w"
  refine W.str_vl (by omega) (by omega) fun t₂ => ?_
  repeat walk_at "w"
  refine W.newTuple S fun tp h₁ htp hs₁ S₁ => ?_
  repeat walk_at "w"
  refine W.append (i := 3) S₁ rfl (by rw [List.length_map]; exact small_size (by omega)) fun h₂ S₂ => ?_
  replace S₂ : St O F L m ((tp, .tup [.str (nm false ((b : Int)).toNat) t₁, .str (vl ((k : Int)).toNat) t₂]) :: [(it, ob), (ba, .lst (bs.map .ref)), (da, .lst (ds.map .ref ++ [.ref tp])), (L + 1 + 1, .cell (some (.int (k : Nat) tk))), (L + 1, .cell cr)]) h₂ := S₂
  obtain ⟨F₃, hF₃, S₃, htpF, _⟩ := S₂.cool
  refine q F₃ (ds ++ [tp]) h₂ hF₃ (by simp) ((hn.sub hF₃).push hb hk (t := t₁) (u := t₂) ?_) (by rw [List.map_append]; exact S₃)
  rw [Int.toNat_natCast, Int.toNat_natCast] at htpF
  exact htpF
set_option maxHeartbeats 4000000 in
theorem back_W {F : Heap} {L : Addr} {m : Str → Option Value} {ba da : Addr} {bs ds : List Addr} {it : Addr} {ob : Ob} {cr : Option Value} {k b : Nat} {tk tb : Tok} {es : List (Nat × Nat)} {Q : Flow → Heap → Prop}
    (G : Good (KK w.params) p loose mg mb O) (Rm : Room A 3) (S : St O F L m [(it, ob), (ba, .lst (bs.map .ref)), (da, .lst (ds.map .ref)), (L + 1 + 1, .cell (some (.int (k : Nat) tk))), (L + 1, .cell cr)] h) (hk : k < 4) (hb : b < 4) (hl : bs.length ≤ 10)
    (hmd : m "back" = some (.ref ba)) (hmw : m "m" = some (.int (b : Nat) tb)) (hn : NVAt F bs es)
    (q : ∀ F' bs' h', Sub F F' → bs'.length = bs.length + 1 → NVAt F' bs' (es ++ [(b, k)]) → St O F' L m [(it, ob), (ba, .lst (bs'.map .ref)), (da, .lst (ds.map .ref)), (L + 1 + 1, .cell (some (.int (k : Nat) tk))), (L + 1, .cell cr)] h' → Q .next h') :
    W prog w A (exec sb232.1 (callEnvC fd232.val L 232)) h Q := by
  have hh := Rm.hh
  unfold sb232
  repeat walk_at "w"
  refine W.m_append (show LAt h ba (bs.map .ref) from S.get (i := 1) rfl) ?_
  repeat walk_at "w"
  refine W.mod_lo (by omega) (by omega) fun t₁ => ?_
  repeat walk_at "w"
  refine W.bltn G S.sO (n_str _) bo_str ?_
  repeat walk_at "w"
  refine W.str_vl (by omega) (by omega) fun t₂ => ?_
  repeat walk_at "w"
  refine W.newTuple S fun tp h₁ htp hs₁ S₁ => ?_
  repeat walk_at "w"
  refine W.append (i := 2) S₁ rfl (by rw [List.length_map]; exact small_size (by omega)) fun h₂ S₂ => ?_
  replace S₂ : St O F L m ((tp, .tup [.str (nm false ((b : Int)).toNat) t₁, .str (vl ((k : Int)).toNat) t₂]) :: [(it, ob), (ba, .lst (bs.map .ref ++ [.ref tp])), (da, .lst (ds.map .ref)), (L + 1 + 1, .cell (some (.int (k : Nat) tk))), (L + 1, .cell cr)]) h₂ := S₂
  obtain ⟨F₃, hF₃, S₃, htpF, _⟩ := S₂.cool
  refine q F₃ (bs ++ [tp]) h₂ hF₃ (by simp) ((hn.sub hF₃).push hb hk (t := t₁) (u := t₂) ?_) (by rw [List.map_append]; exact S₃)
  rw [Int.toNat_natCast, Int.toNat_natCast] at htpF
  exact htpF
set_option maxHeartbeats 8000000 in
theorem loop_W {F : Heap} {L : Addr} {m : Str → Option Value} {ba da sa ra : Addr} {vk : Option Value} {lo : Nat} {Rk : Nat → Nat → Int} {f g : Nat → Nat} {Q : Flow → Heap → Prop}
    (G : Good (KK w.params) p loose mg mb O) (Rm : Room A 3) (S : St O F L m [(ba, .lst []), (da, .lst []), (L + 1 + 1, .cell vk), (L + 1, .cell (some (.ref ra)))] h)
    (hms : m "stable" = some (.ref sa)) (hmd : m "due" = some (.ref da)) (hmb : m "back" = some (.ref ba)) (hw : WaysAt F sa (calmWays Rk)) (hr : RanksAt lo F ra Rk) (hf4 : ∀ k, k < 4 → f k < 4) (hg4 : ∀ k, k < 4 → g k < 4)
    (hdue : ∀ k, k < 4 → ((calmWays Rk).map fun a => (Rk k (a.getD k 0), ((a.getD k 0 : Nat) : Int)))[pbest ((calmWays Rk).map fun a => (Rk k (a.getD k 0), ((a.getD k 0 : Nat) : Int))) ((calmWays Rk).length - 1)]? = some (Rk k (f k), ((f k : Nat) : Int)))
    (hback : ∀ k, k < 4 → ((calmWays Rk).map fun a => (Rk (4 + k) (a.idxOf k), ((a.idxOf k : Nat) : Int)))[pbest ((calmWays Rk).map fun a => (Rk (4 + k) (a.idxOf k), ((a.idxOf k : Nat) : Int))) ((calmWays Rk).length - 1)]? = some (Rk (4 + k) (g k), ((g k : Nat) : Int)))
    (q : ∀ F' m' ds bs vk' h', Sub F F' → (∀ y : Str, y ≠ "w" → y ≠ "m" → m' y = m y) → NVAt F' ds [(f 0, 0), (f 1, 1), (f 2, 2), (f 3, 3)] → NVAt F' bs [(g 0, 0), (g 1, 1), (g 2, 2), (g 3, 3)] →
      St O F' L m' [(ba, .lst (bs.map .ref)), (da, .lst (ds.map .ref)), (L + 1 + 1, .cell vk'), (L + 1, .cell (some (.ref ra)))] h' → Q .next h') :
    W prog w A (exec loop232.1 (callEnvC fd232.val L 232)) h Q := by
  have hh := Rm.hh
  unfold loop232
  refine W.for_ ?_
  repeat walk_at "w"
  refine W.bltn G S.sO (n_range _) bo_range ?_
  repeat walk_at "w"
  refine W.call_range S fun rg h₁ _ _ _ hs₁ S₁ hrg => ?_
  refine W.pyIter_range (n := 4) S₁ hrg (by decide) fun it h₂ hit hs₂ S₂ => ?_
  refine Go.range (n := 4) (fun i F' m' news => ∃ (vk : Option Value) (ds bs : List Addr), news = [(ba, .lst (bs.map .ref)), (da, .lst (ds.map .ref)), (L + 1 + 1, .cell vk), (L + 1, .cell (some (.ref ra)))] ∧ Sub F F' ∧ (∀ y : Str, y ≠ "w" → y ≠ "m" → m' y = m y) ∧ ds.length = i ∧ bs.length = i ∧ NVAt F' ds ((List.range i).map fun k => (f k, k)) ∧ NVAt F' bs ((List.range i).map fun k => (g k, k))) hh ?_ ?_ S₂
    ⟨vk, [], [], rfl, fun _ _ e => e, fun _ _ _ => rfl, rfl, rfl, ⟨rfl, fun i a e h1 _ => by simp at h1⟩, ⟨rfl, fun i a e h1 _ => by simp at h1⟩⟩
  · rintro i t F₃ m₃ news h₃ hi ⟨vk₃, ds, bs, rfl, hF₃, hfr, hdl, hbl, hds, hbs⟩ S₃
    refine W.storeCell (i := 3) S₃ rfl rfl fun h₄ S₄ => ?_
    replace S₄ : St O F₃ L m₃ [(it, .riter (i + 1) ((4 : Nat) - (i + 1)) 1), (ba, .lst (bs.map .ref)), (da, .lst (ds.map .ref)), (L + 1 + 1, .cell (some (.int (i : Nat) t))), (L + 1, .cell (some (.ref ra)))] h₄ := S₄
    have hms₃ := (hfr "stable" (by decide) (by decide)).trans hms
    have hmd₃ := (hfr "due" (by decide) (by decide)).trans hmd
    have hmb₃ := (hfr "back" (by decide) (by decide)).trans hmb
    refine W.execs_cons ?_
    refine minw_W (i1 := 3) (i2 := 4) (k := i) (sa := sa) (ra := ra) G Rm S₄ rfl rfl hi hms₃ (hw.sub hF₃) (hr.mono (fun b o _ e => hF₃ b o e) (Nat.le_refl _)) (hdue i hi) fun F₅ t₅ h₅ hF₅ S₅ => ?_
    have hF5 : Sub F F₅ := fun b o e => hF₅ b o (hF₃ b o e)
    refine W.execs_cons ?_
    refine minm_W (i1 := 3) (i2 := 4) (k := i) (sa := sa) (ra := ra) G Rm S₅ rfl rfl hi hms₃ (hw.sub hF5) (hr.mono (fun b o _ e => hF5 b o e) (Nat.le_refl _)) (hback i hi) fun F₆ t₆ h₆ hF₆ S₆ => ?_
    have hF6 : Sub F F₆ := fun b o e => hF₆ b o (hF5 b o e)
    refine W.execs_cons ?_
    refine due_W (b := f i) G Rm S₆ hi (hf4 i hi) (by omega) hmd₃ rfl (hds.sub fun b o e => hF₆ b o (hF₅ b o e)) fun F₇ ds' h₇ hF₇ hdl' hds' S₇ => ?_
    refine W.execs_cons ?_
    refine back_W (b := g i) G Rm S₇ hi (hg4 i hi) (by omega) hmb₃ rfl (hbs.sub fun b o e => hF₇ b o (hF₆ b o (hF₅ b o e))) fun F₈ bs' h₈ hF₈ hbl' hbs' S₈ => ?_
    refine W.execs_nil ⟨F₈, _, [(ba, .lst (bs'.map .ref)), (da, .lst (ds'.map .ref)), (L + 1 + 1, .cell (some (.int (i : Nat) t))), (L + 1, .cell (some (.ref ra)))], ?_, S₈⟩
    refine ⟨_, ds', bs', rfl, fun b o e => hF₈ b o (hF₇ b o (hF6 b o e)), fun y h1 h2 => ?_, by omega, by omega, ?_, ?_⟩
    · show (if y = "m" then _ else if y = "w" then _ else m₃ y) = m y
      rw [if_neg h2, if_neg h1]; exact hfr y h1 h2
    · rw [List.range_succ, List.map_append]; exact hds'.sub hF₈
    · rw [List.range_succ, List.map_append]; exact hbs'
  · rintro F' m' news h₃ ⟨vk', ds, bs, rfl, hF', hfr, hdl, hbl, hds, hbs⟩ S₃
    exact q F' m' ds bs vk' h₃ hF' hfr hds hbs S₃
end

-- C19
theorem n_asked (P) : nsIn (KK P) mainGlobals "_law_asked" = some (some (.ref 213)) := by kernel_rfl
theorem k213_keep (P) : keepIn (KK P) (.ref 213) = true := by kernel_rfl
theorem sort_eq {R S : Nat → Nat → Int} {f g : Nat → Nat} (F : GS.Stable R S f g) : ([(f 0, 0), (f 1, 1), (f 2, 2), (f 3, 3)] : List (Nat × Nat)).map (·.1) ∈ perms4 ∧
    (sortP (([(f 0, 0), (f 1, 1), (f 2, 2), (f 3, 3)] : List (Nat × Nat)).map (·.1))).map (fun i => ([(f 0, 0), (f 1, 1), (f 2, 2), (f 3, 3)] : List (Nat × Nat)).getD i (0, 0)) = [(0, g 0), (1, g 1), (2, g 2), (3, g 3)] := by
  have hinj : ∀ i j, i < 4 → j < 4 → i ≠ j → f i ≠ f j := fun i j hi hj hne e => hne (by rw [← F.gf i hi, ← F.gf j hj, e])
  have hp : ([(f 0, 0), (f 1, 1), (f 2, 2), (f 3, 3)] : List (Nat × Nat)).map (·.1) ∈ perms4 := by
    show [f 0, f 1, f 2, f 3] ∈ perms4
    refine mem_perms ?_ ?_ ?_
    · simp only [List.nodup_cons, List.mem_cons, List.not_mem_nil, or_false, not_or, not_false_eq_true, List.nodup_nil, and_true]
      exact ⟨⟨hinj 0 1 (by decide) (by decide) (by decide), hinj 0 2 (by decide) (by decide) (by decide), hinj 0 3 (by decide) (by decide) (by decide)⟩, ⟨hinj 1 2 (by decide) (by decide) (by decide), hinj 1 3 (by decide) (by decide) (by decide)⟩, hinj 2 3 (by decide) (by decide) (by decide)⟩
    · intro d hd
      simp only [List.mem_cons, List.not_mem_nil, or_false] at hd
      rcases hd with rfl | rfl | rfl | rfl
      · exact F.fl 0 (by decide)
      · exact F.fl 1 (by decide)
      · exact F.fl 2 (by decide)
      · exact F.fl 3 (by decide)
    · intro d hd
      have h1 := F.fg d hd
      have h2 := F.gl d hd
      rw [← h1]
      exact four (P := fun j => f j ∈ [f 0, f 1, f 2, f 3]) (by simp) (by simp) (by simp) (by simp) _ h2
  refine ⟨hp, ?_⟩
  have hso := sortP_ok _ hp
  refine pairs_eq ?_ ?_
  · rw [List.map_map]
    refine Eq.trans ?_ hso.1
    apply List.map_congr_left
    intro i hi
    have h4 := hso.2.1 i hi
    exact four (P := fun i => ((fun e : Nat × Nat => e.1) ∘ fun i => ([(f 0, 0), (f 1, 1), (f 2, 2), (f 3, 3)] : List (Nat × Nat)).getD i (0, 0)) i = (([(f 0, 0), (f 1, 1), (f 2, 2), (f 3, 3)] : List (Nat × Nat)).map (·.1)).getD i 0) rfl rfl rfl rfl i h4
  · intro e he
    obtain ⟨i, hi, rfl⟩ := List.mem_map.mp he
    have h4 := hso.2.1 i hi
    have : ([(f 0, 0), (f 1, 1), (f 2, 2), (f 3, 3)] : List (Nat × Nat)).getD i (0, 0) = (f i, i) := four (P := fun i => ([(f 0, 0), (f 1, 1), (f 2, 2), (f 3, 3)] : List (Nat × Nat)).getD i (0, 0) = (f i, i)) rfl rfl rfl rfl i h4
    rw [this]
    exact (F.gf i h4).symm
theorem pairs_same {g g' : Nat → Nat} (h : ∀ w, w < 4 → g w = g' w) : ([(0, g 0), (1, g 1), (2, g 2), (3, g 3)] : List (Nat × Nat)) = [(0, g' 0), (1, g' 1), (2, g' 2), (3, g' 3)] := by
  rw [h 0 (by decide), h 1 (by decide), h 2 (by decide), h 3 (by decide)]
theorem NVAt.from {lo : Nat} {h h' : Heap} {as : List Addr} {es : List (Nat × Nat)} (x : NVAt h as es) (hs : SubFrom lo h h') (hl : ∀ a ∈ as, lo ≤ a) : NVAt h' as es :=
  ⟨x.1, fun i a p h1 h2 => let ⟨a1, a2, t, u, T⟩ := x.2 i a p h1 h2; ⟨a1, a2, t, u, T.from hs (hl a (List.mem_of_getElem? h1))⟩⟩
noncomputable def RA (X : Nat → Int) : Nat → Nat → Int := fun wo a => rkOf (fun k => persOf k (X k)) ((0 : Int).toNat + wo) a
noncomputable def RB (X : Nat → Int) : Nat → Nat → Int := fun wo a => rkOf (fun k => persOf k (X k)) ((4 : Int).toNat + wo) a
theorem both (X : Nat → Int) : Both (rkOf fun k => persOf k (X k)) (RA X) (RB X) := ⟨fun m w hm => by show _ = rkOf _ (0 + m) w; rw [Nat.zero_add], fun w m hw => rfl⟩
section
variable {prog : Program} {w : World} {A : Around} {O h : Heap} {p : Program} {loose : List Str} {mg mb : Str → Option Value}
set_option maxHeartbeats 8000000 in
theorem ret_W {F : Heap} {L : Addr} {m : Str → Option Value} {ba da pl : Addr} {bs ds : List Addr} {c1 c2 : Ob} {X : Nat → Int} {f g f' g' : Nat → Nat} {Q : Flow → Heap → Prop}
    (G : Good (KK w.params) p loose mg mb O) (Rm : Room A 10) (S : St O F L m [(ba, .lst (bs.map .ref)), (da, .lst (ds.map .ref)), (L + 1 + 1, c1), (L + 1, c2)] h) (hLb : L < ba) (hLd : L < da)
    (hpe : PeopleAt F pl fun k => persOf k (X k)) (hmp : m "people" = some (.ref pl)) (hmd : m "due" = some (.ref da)) (hmb : m "back" = some (.ref ba))
    (hds : NVAt F ds [(f 0, 0), (f 1, 1), (f 2, 2), (f 3, 3)]) (hbs : NVAt F bs [(g' 0, 0), (g' 1, 1), (g' 2, 2), (g' 3, 3)])
    (hst : GS.Stable (RA X) (RB X) f g) (hbest : ∀ f₁ g₁, GS.Stable (RA X) (RB X) f₁ g₁ → ∀ m, m < 4 → RA X m (f m) ≤ RA X m (f₁ m))
    (hst' : GS.Stable (RB X) (RA X) g' f') (hbest' : ∀ f₁ g₁, GS.Stable (RB X) (RA X) f₁ g₁ → ∀ m, m < 4 → RB X m (g' m) ≤ RB X m (f₁ m))
    (q : ∀ h', Sub F h' → Q (.ret (.bool true)) h') :
    W prog w A (exec ret232.1 (callEnvC fd232.val L 232)) h Q := by
  have hh := Rm.hh
  have hRA : ∀ wo a c, wo < 4 → a < 4 → c < 4 → RA X wo a = RA X wo c → a = c := fun wo a c hw ha hc e => rk_inj X (first := 0) (.inl rfl) wo a c hw ha hc e
  have hRB : ∀ wo a c, wo < 4 → a < 4 → c < 4 → RB X wo a = RB X wo c → a = c := fun wo a c hw ha hc e => rk_inj X (first := 4) (.inr rfl) wo a c hw ha hc e
  have hok : ∀ k, k < 8 → PersOk ((fun k => persOf k (X k)) k) := fun k _ => pers_ok k (X k)
  unfold ret232
  repeat walk_at "w"
  refine W.glob G S.sO (n_asked _) ?_
  refine W.callK G (k213_keep _) ?_
  repeat walk_at "w"
  refine ⟨S.sO, ?_⟩
  refine asked_W (R := RA X) (S := RB X) (first := 0) G Rm S.orgH (hpe.sub S.v.keep) hok (.inl rfl) (fun wo a c hw ha hc => rk_cmp X (first := 0) (.inl rfl) wo a c hw ha hc) hRA (fun wo a c hw ha hc => rk_cmp X (first := 4) (.inr rfl) wo a c hw ha hc) hRB ?_
  intro f₁ g₁ D₁ bs₁ h₁ hst₁ hbest₁ hs₁ hD₁ hnv₁ hlD₁ hlb₁
  obtain ⟨F₁, hF₁, S₁, hSF₁, _⟩ := S.back hs₁
  replace hD₁ := hD₁.from hSF₁ hlD₁
  replace hnv₁ := hnv₁.from hSF₁ hlb₁
  repeat walk_at "w"
  refine W.bltn G S₁.sO (n_sorted _) bo_sorted ?_
  repeat walk_at "w"
  obtain ⟨hp1, he1⟩ := sort_eq hst
  refine W.sorted4 S₁ hLd (S₁.get (i := 1) rfl) ((hds.sub hF₁).sub S₁.v.keep) hp1 fun D₂ h₂ hD₂ S₂ hnv₂ => ?_
  rw [he1] at hnv₂
  refine W.eq_nv (by have := Rm.hu; omega) (hD₁.sub S₂.v.keep) (S₂.get (i := 0) rfl) (hnv₁.sub S₂.v.keep) hnv₂ rfl ?_
  have e1 : ([(0, g₁ 0), (1, g₁ 1), (2, g₁ 2), (3, g₁ 3)] : List (Nat × Nat)) = [(0, g 0), (1, g 1), (2, g 2), (3, g 3)] := pairs_same (GS.same hRA hst₁ hst hbest₁ hbest).2
  rw [decide_eq_true e1]
  repeat walk_at "w"
  replace S₂ := S₂.drop
  refine W.glob G S₂.sO (n_asked _) ?_
  refine W.callK G (k213_keep _) ?_
  repeat walk_at "w"
  refine ⟨S₂.sO, ?_⟩
  refine asked_W (R := RB X) (S := RA X) (first := 4) G Rm S₂.orgH ((hpe.sub hF₁).sub S₂.v.keep) hok (.inr rfl) (fun wo a c hw ha hc => rk_cmp X (first := 4) (.inr rfl) wo a c hw ha hc) hRB (fun wo a c hw ha hc => rk_cmp X (first := 0) (.inl rfl) wo a c hw ha hc) hRA ?_
  intro f₃ g₃ D₃ bs₃ h₃ hst₃ hbest₃ hs₃ hD₃ hnv₃ hlD₃ hlb₃
  obtain ⟨F₃, hF₃, S₃, hSF₃, _⟩ := S₂.back hs₃
  replace hD₃ := hD₃.from hSF₃ hlD₃
  replace hnv₃ := hnv₃.from hSF₃ hlb₃
  repeat walk_at "w"
  refine W.bltn G S₃.sO (n_sorted _) bo_sorted ?_
  repeat walk_at "w"
  obtain ⟨hp2, he2⟩ := sort_eq hst'
  refine W.sorted4 S₃ hLb (S₃.get (i := 0) rfl) (((hbs.sub hF₁).sub hF₃).sub S₃.v.keep) hp2 fun D₄ h₄ hD₄ S₄ hnv₄ => ?_
  rw [he2] at hnv₄
  refine W.eq_nv (by have := Rm.hu; omega) (hD₃.sub S₄.v.keep) (S₄.get (i := 0) rfl) (hnv₃.sub S₄.v.keep) hnv₄ rfl ?_
  have e2 : ([(0, g₃ 0), (1, g₃ 1), (2, g₃ 2), (3, g₃ 3)] : List (Nat × Nat)) = [(0, f' 0), (1, f' 1), (2, f' 2), (3, f' 3)] := pairs_same (GS.same hRB hst₃ hst' hbest₃ hbest').2
  rw [decide_eq_true e2]
  exact q h₄ fun b o e => S₄.v.keep b o (hF₃ b o (hF₁ b o e))
end

-- C20
theorem n_people (P) : nsIn (KK P) mainGlobals "_law_people" = some (some (.ref 208)) := by kernel_rfl
theorem k208_keep (P) : keepIn (KK P) (.ref 208) = true := by kernel_rfl
theorem n_ranks (P) : nsIn (KK P) mainGlobals "_law_ranks" = some (some (.ref 220)) := by kernel_rfl
theorem k220_keep (P) : keepIn (KK P) (.ref 220) = true := by kernel_rfl
section
variable {prog : Program} {w : World} {A : Around} {O h : Heap} {p : Program} {loose : List Str} {mg mb : Str → Option Value}
set_option maxHeartbeats 8000000 in
theorem law_W {sc : Addr} {vs : List Value} {ns : List Int} {Q : Value → Heap → Prop} (G : Good (KK w.params) p loose mg mb O) (R : Room A 11) (hO : Org O h) (hsc : h.IsList sc vs.toArray) (hns : IntsAre vs ns) (hlen : vs.length ≤ 1000)
    (q : ∀ h', Sub h h' → Q (.bool true) h') : W prog w A (call (.ref 232) [.ref sc]) h Q := by
  refine W.call_def (n := 10) (fd := fd232.1) (body := b232.1) (binds := [("script", .ref sc)]) R G hO (View.all h) hO.sub (o232.2 w.params) fd232.2 (c232 _) b232.2 (fun s _ => BindsTo.of_eq rfl) ?_ ?_ ?_
  · intro L
    exact fun y hy => .inl (by
      simp only [List.mem_cons, List.not_mem_nil, or_false] at hy
      rcases hy with rfl; rfl)
  · intro L q hq
    have e : cellsFrom L fd232.1.scope.names [] = [(("k" : Str), L + 1), (("ranks" : Str), L)] := by with_unfolding_all rfl
    rw [e] at hq ⊢
    simp only [List.mem_cons, List.not_mem_nil, or_false] at hq
    rcases hq with rfl | rfl <;> with_unfolding_all rfl
  intro L h₁ hL hs S
  replace S : St O h L (bindL (callEnvC fd232.val L 232).kindOf [("script", .ref sc)] fun _ => none) [(L + 1 + 1, .cell none), (L + 1, .cell none)] h₁ := S
  have R' := R.deeper (env := callEnvC fd232.val L 232)
  have hh := R'.hh
  generalize A.deeper (callEnvC fd232.val L 232) = A' at R' hh ⊢
  refine W.execs_cons ?_
  repeat walk_at "w"
  refine W.glob G S.sO (n_people _) ?_
  refine W.callK G (k208_keep _) ?_
  repeat walk_at "w"
  refine ⟨S.sO, ?_⟩
  have hsc₁ : h₁.IsList sc vs.toArray := let ⟨o, e, r⟩ := hsc; ⟨o, hs _ _ e, r⟩
  refine people_W G (R'.le (by decide)) S.orgH hsc₁ hns hlen fun X pl h₂ hs₂ hpe => ?_
  obtain ⟨F₂, hF₂, S₂, hSF₂, _⟩ := S.back hs₂
  replace hpe := hpe.sub (cut_sub hSF₂)
  refine W.store S₂ fun h₃ S₃ => ?_
  have hok : ∀ k, k < 8 → PersOk ((fun k => persOf k (X k)) k) := fun k _ => pers_ok k (X k)
  refine W.execs_cons ?_
  repeat walk_at "w"
  refine W.glob G S₃.sO (n_ranks _) ?_
  refine W.callK G (k220_keep _) ?_
  repeat walk_at "w"
  refine ⟨S₃.sO, ?_⟩
  refine ranks_W G (R'.le (by decide)) S₃.orgH (hpe.sub S₃.v.keep) hok fun ra h₄ hs₄ hra => ?_
  obtain ⟨F₄, hF₄, S₄, hSF₄, _⟩ := S₃.back hs₄
  replace hra := hra.mono hSF₄ (Nat.le_refl _)
  refine W.storeCell (i := 1) S₄ rfl rfl fun h₅ S₅ => ?_
  replace S₅ : St O F₄ L _ [(L + 1 + 1, .cell none), (L + 1, .cell (some (.ref ra)))] h₅ := S₅
  refine W.execs_cons ?_
  repeat walk_at "w"
  refine W.newList S₅ fun e0 h₆ he0 hs₆ S₆ => ?_
  repeat walk_at "w"
  refine W.newList S₆ fun w0 h₇ hw0 hs₇ S₇ => ?_
  refine W.store S₇ fun h₈ S₈ => ?_
  obtain ⟨F₉, hF₉, S₉, hw0F, _⟩ := S₈.cool
  obtain ⟨F₁₀, hF₁₀, S₁₀, he0F, _⟩ := S₉.cool
  have hways : WaysAt F₁₀ w0 (waysN 0) := ⟨[e0], rfl, LAt.sub hw0F hF₁₀, fun i a p e1 e2 => by
    cases i with
    | zero =>
      cases e1; cases e2
      exact ⟨[], he0F, .nil⟩
    | succ i => simp at e1⟩
  refine W.execs_cons ?_
  refine ways_W G (R'.le (by decide)) S₁₀ rfl hways fun F₁₁ m₁₁ wa vk h₁₁ hF₁₁ hfr₁₁ hmw hwa S₁₁ => ?_
  have c11 : Sub F₄ F₁₁ := fun b o e => hF₁₁ b o (hF₁₀ b o (hF₉ b o e))
  have hra₁₁ := hra.mono (fun b o _ e => c11 b o e) (Nat.le_refl _)
  refine W.execs_cons ?_
  refine stable_W G (R'.le (by decide)) S₁₁ hmw hwa hra₁₁ fun F₁₂ sa h₁₂ hF₁₂ hsa S₁₂ => ?_
  have hra₁₂ := hra₁₁.mono (fun b o _ e => hF₁₂ b o e) (Nat.le_refl _)
  refine W.execs_cons ?_
  repeat walk_at "w"
  refine W.newList S₁₂ fun da h₁₃ hda hs₁₃ S₁₃ => ?_
  refine W.store S₁₃ fun h₁₄ S₁₄ => ?_
  refine W.execs_cons ?_
  repeat walk_at "w"
  refine W.newList S₁₄ fun ba h₁₅ hba hs₁₅ S₁₅ => ?_
  refine W.store S₁₅ fun h₁₆ S₁₆ => ?_
  have hRA : ∀ wo a c, wo < 4 → a < 4 → c < 4 → RA X wo a = RA X wo c → a = c := fun wo a c hw ha hc e => rk_inj X (first := 0) (.inl rfl) wo a c hw ha hc e
  have hRB : ∀ wo a c, wo < 4 → a < 4 → c < 4 → RB X wo a = RB X wo c → a = c := fun wo a c hw ha hc e => rk_inj X (first := 4) (.inr rfl) wo a c hw ha hc e
  obtain ⟨f, g, hst, hbest⟩ := GS.best hRA hRB
  obtain ⟨g', f', hst', hbest'⟩ := GS.best hRB hRA
  refine W.execs_cons ?_
  refine loop_W (f := f) (g := g') G (R'.le (by decide)) S₁₆ rfl rfl rfl hsa hra₁₂ hst.fl hst'.fl (due_val (both X) hRA hst hbest) (back_val (both X) hRB hst' hbest') fun F₁₇ m₁₇ ds bs vk₁₇ h₁₇ hF₁₇ hfr₁₇ hds hbs S₁₇ => ?_
  have c17 : Sub F₄ F₁₇ := fun b o e => hF₁₇ b o (hF₁₂ b o (c11 b o e))
  refine W.execs_cons ?_
  have hmp : m₁₇ "people" = some (.ref pl) := (hfr₁₇ "people" (by decide) (by decide)).trans (hfr₁₁ "people" (by decide))
  refine ret_W G R' S₁₇ hba hda (hpe.sub fun b o e => c17 b o (hF₄ b o e)) hmp ((hfr₁₇ "due" (by decide) (by decide)).trans rfl) ((hfr₁₇ "back" (by decide) (by decide)).trans rfl) hds hbs hst hbest hst' hbest' fun h₁₈ hs₁₈ => ?_
  exact q h₁₈ fun b o e => hs₁₈ b o (c17 b o (hF₄ b o (hF₂ b o e)))
end

end Mine

namespace Mine
set_option maxHeartbeats 8000000
-- J
theorem n_law (P) : nsIn (KK P) mainGlobals "law" = some (some (.ref 232)) := by kernel_rfl
theorem room_caller : Room callerA 11 := ⟨rfl, by decide, by decide⟩
theorem fin : PySem.Challenge.rw_pe0189_01.Holds := by
  refine hd ?_
  intro w s₀ s₁ mg mb G Y fa o pm cd doc dV kV ho hd' hcd hD hmg hg args vals as hpre hlay hrd hwl hlo
  have KX := kIn_of Y
  have TR := topRead_of G.T
  clear hcd hD hd' Y ho
  have e1 : mg "law" = some (.ref 232) := mg_of KX TR.g (n_law _)
  have hmg' : mg "law" = some (.ref fa) := hmg
  rw [e1] at hmg'
  have efa : fa = 232 := (Value.ref.inj (Option.some.inj hmg')).symm
  subst efa
  clear hmg hmg'
  clear G
  wrow_args hpre hlay hrd hwl hlo
  rename_i ns _ _ _ _ _ _ _ sc vs _ hL _ _ _ hI _ hc _
  have hlen : vs.length ≤ 1000 := by rw [hI.length]; omega
  have GG : Good (KK w.params) _ _ mg mb s₁.heap := ⟨KX, TR⟩
  have key : W _ w callerA (call (.ref 232) [.ref sc]) s₁.heap fun v h' => v = .bool true ∧ Sub s₁.heap h' :=
    law_W (prog := PySem.Challenge.rw_pe0189_01.row.prog) GG room_caller ⟨fun _ _ e => e, Nat.le_refl _⟩ hL hI hlen fun h' hs => ⟨rfl, hs⟩
  obtain ⟨h, g, d, tk, os⟩ := s₁
  refine W.use key ?_
  rintro v h' tk' ⟨rfl, hs⟩
  refine GoodW.toG ⟨.inl ⟨.bool true, .bool true, [], rfl, ?_, .bool _, ?_, fun _ => ⟨List.nodup_nil, fun a ha => by cases ha⟩⟩, hs, rfl, hg⟩
  · exact fun cls => raisesW_false allW_false_nil cls
  · exact postW_of (by wrow_shape) (by wtm_val) (by first | rfl | decide)
end Mine

theorem PySem.Challenge.cw_pe0189_01_holds : PySem.Challenge.rw_pe0189_01.Holds := by
  exact Mine.fin
