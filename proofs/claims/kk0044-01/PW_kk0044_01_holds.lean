import PyProof.Rows.All
import Wide.All
import OpenK.AllK
import Wide.FinOn
import PySem.Challenge.RW_kk0044_01
set_option Elab.async false
section
/- MPure -/
namespace Mine
set_option autoImplicit false
set_option linter.unusedSectionVars false
set_option linter.unusedVariables false

def BIG : Int := 9223372036854775807

def upd {β : Type} (f : Nat → β) (x : Nat) (v : β) : Nat → β := fun y => if y = x then v else f y
theorem upd_self {β : Type} (f : Nat → β) (x : Nat) (v : β) : upd f x v x = v := by simp [upd]
theorem upd_ne {β : Type} (f : Nat → β) {x y : Nat} (v : β) (h : y ≠ x) : upd f x v y = f y := by simp [upd, h]

structure St (α : Type) where
  N : Nat → Int
  stk : List Nat
  F : Nat → Option (List α)

inductive Reach (rel : Nat → List Nat) : Nat → Nat → Prop
  | refl (x : Nat) : Reach rel x x
  | step {x y z : Nat} : y ∈ rel x → Reach rel y z → Reach rel x z

theorem Reach.trans {rel : Nat → List Nat} {x y z : Nat} (h : Reach rel x y) (h' : Reach rel y z) : Reach rel x z := by
  induction h with
  | refl => exact h'
  | step e _ ih => exact .step e (ih h')
theorem Reach.one {rel : Nat → List Nat} {x y : Nat} (h : y ∈ rel x) : Reach rel x y := .step h (.refl _)

/-- the place of a node in the stack, counted from the bottom; 0: it is not there -/
def posOf : List Nat → Nat → Nat
  | [], _ => 0
  | e :: r, v => if e = v then r.length + 1 else posOf r v

theorem posOf_le (l : List Nat) (v : Nat) : posOf l v ≤ l.length := by
  induction l with
  | nil => simp [posOf]
  | cons e r ih => unfold posOf; split <;> simp <;> omega
theorem posOf_pos {l : List Nat} {v : Nat} (h : v ∈ l) : 1 ≤ posOf l v := by
  induction l with
  | nil => simp at h
  | cons e r ih =>
    unfold posOf; split
    · omega
    · rename_i ne
      rcases List.mem_cons.mp h with rfl | h
      · exact absurd rfl ne
      · exact ih h
theorem posOf_append_right (new : List Nat) {l : List Nat} {v : Nat} (h : v ∉ new) : posOf (new ++ l) v = posOf l v := by
  induction new with
  | nil => rfl
  | cons e r ih =>
    simp only [List.mem_cons, not_or] at h
    simp only [List.cons_append, posOf]
    rw [if_neg (fun e' => h.1 e'.symm), ih h.2]
theorem posOf_append_left {new : List Nat} (l : List Nat) {v : Nat} (h : v ∈ new) : l.length < posOf (new ++ l) v := by
  induction new with
  | nil => simp at h
  | cons e r ih =>
    simp only [List.cons_append, posOf]
    split
    · simp; omega
    · rename_i ne
      rcases List.mem_cons.mp h with rfl | h
      · exact absurd rfl ne
      · exact ih h

theorem nodup_length_le : ∀ (m : Nat) (l : List Nat), l.Nodup → (∀ x ∈ l, x < m) → l.length ≤ m
  | 0, l, _, h => by
    cases l with
    | nil => simp
    | cons a r => exact absurd (h a (by simp)) (by omega)
  | m + 1, l, hn, h => by
    by_cases hm : m ∈ l
    · have h1 := nodup_length_le m (l.erase m) (hn.erase m) (fun x hx => by
        have := hn.mem_erase_iff.mp hx
        have := h x this.2
        have := this
        omega)
      rw [List.length_erase_of_mem hm] at h1
      omega
    · have h1 := nodup_length_le m l hn (fun x hx => by
        have := h x hx
        have : x ≠ m := fun e => hm (e ▸ hx)
        omega)
      omega

section
variable {α : Type} [DecidableEq α]

/-- what the inner loop does to a list: the other's letters that it lacks, one behind the other -/
def union (l r : List α) : List α := r.foldl (fun acc a => if a ∈ acc then acc else acc ++ [a]) l
theorem mem_union {l r : List α} {a : α} : a ∈ union l r ↔ a ∈ l ∨ a ∈ r := by
  unfold union
  induction r generalizing l with
  | nil => simp
  | cons b r ih =>
    simp only [List.foldl_cons]
    rw [ih]
    by_cases hb : b ∈ l
    · simp only [hb, if_true, List.mem_cons]
      constructor
      · rintro (h | h)
        · exact .inl h
        · exact .inr (.inr h)
      · rintro (h | rfl | h)
        · exact .inl h
        · exact .inl hb
        · exact .inr h
    · simp only [hb, if_false, List.mem_cons, List.mem_append, List.not_mem_nil, or_false]
      constructor
      · rintro ((h | h) | h)
        · exact .inl h
        · exact .inr (.inl h)
        · exact .inr (.inr h)
      · rintro (h | h | h)
        · exact .inl (.inl h)
        · exact .inl (.inr h)
        · exact .inr h
theorem nodup_union {l r : List α} (h : l.Nodup) : (union l r).Nodup := by
  unfold union
  induction r generalizing l with
  | nil => simpa using h
  | cons b r ih =>
    simp only [List.foldl_cons]
    apply ih
    by_cases hb : b ∈ l
    · simpa [hb] using h
    · simp only [hb, if_false]
      rw [List.nodup_append]
      refine ⟨h, by simp, ?_⟩
      intro x hx y hy
      simp only [List.mem_singleton] at hy
      subst hy
      exact fun e => hb (e ▸ hx)
theorem union_self_of {l r : List α} (h : ∀ a ∈ r, a ∈ l) : union l r = l := by
  unfold union
  induction r with
  | nil => rfl
  | cons b r ih =>
    simp only [List.foldl_cons]
    rw [if_pos (h b (by simp))]
    exact ih fun a ha => h a (by simp [ha])
end

section
variable {α : Type} [DecidableEq α] (m : Nat) (rel : Nat → List Nat) (own : Nat → List α)

/-- the letters due at a node -/
def Due (v : Nat) (a : α) : Prop := ∃ y, Reach rel v y ∧ a ∈ own y
theorem Due.of {rel : Nat → List Nat} {own : Nat → List α} {v w : Nat} {a : α} (h : Reach rel v w) (d : Due rel own w a) : Due rel own v a :=
  let ⟨y, r, e⟩ := d; ⟨y, h.trans r, e⟩

structure WF (σ : St α) : Prop where
  nodup : σ.stk.Nodup
  bound : ∀ v ∈ σ.stk, v < m
  on : ∀ v ∈ σ.stk, 1 ≤ σ.N v ∧ σ.N v ≤ (posOf σ.stk v : Int) ∧ ∃ u ∈ σ.stk, (posOf σ.stk u : Int) = σ.N v ∧ Reach rel v u
  off : ∀ v, v ∉ σ.stk → σ.N v = 0 ∨ σ.N v = BIG
  blk : ∀ v, σ.N v = BIG → v < m ∧ ∀ w ∈ rel v, σ.N w = BIG
  blkF : ∀ v, σ.N v = BIG → ∃ ls, σ.F v = some ls ∧ ls.Nodup ∧ ∀ a, a ∈ ls ↔ Due rel own v a
  stkF : ∀ v ∈ σ.stk, ∃ ls, σ.F v = some ls ∧ ls.Nodup ∧ (∀ a ∈ own v, a ∈ ls) ∧ ∀ a ∈ ls, Due rel own v a
  whiteF : ∀ v, σ.N v = 0 → σ.F v = none

structure Pre (σ : St α) (x : Nat) : Prop where
  wf : WF m rel own σ
  lt : x < m
  white : σ.N x = 0
  up : ∀ v ∈ σ.stk, Reach rel v x

/-- what is asked of an edge's end w, seen from the visit of x over the old stack -/
def Edge (old : List Nat) (τ : St α) (x w : Nat) : Prop :=
  τ.N w ≠ 0 ∧ (w ∈ old → τ.N x ≤ (posOf old w : Int)) ∧ (τ.N w = BIG → ∀ a, Due rel own w a → a ∈ (τ.F x).getD [])

structure Seg (old : List Nat) (τ : St α) (x : Nat) (new : List Nat) : Prop where
  low : ∀ v ∈ new, τ.N v < (posOf τ.stk v : Int)
  le : ∀ v ∈ new, τ.N x ≤ τ.N v
  edge : ∀ v ∈ new, ∀ w ∈ rel v, Edge rel own old τ x w
  own : ∀ v ∈ new, ∀ a ∈ own v, a ∈ (τ.F x).getD []

structure Post (σ : St α) (x : Nat) (τ : St α) : Prop where
  wf : WF m rel own τ
  same : ∀ v, σ.N v ≠ 0 → τ.N v = σ.N v ∧ τ.F v = σ.F v
  ex : ∃ new, τ.stk = new ++ σ.stk ∧ (∀ v ∈ new, σ.N v = 0) ∧ ((new = [] ∧ τ.N x = BIG) ∨ (x ∈ new ∧ Seg rel own σ.stk τ x new))

structure Loop (σ : St α) (x : Nat) (done : List Nat) (τ : St α) : Prop where
  wf : WF m rel own τ
  same : ∀ v, σ.N v ≠ 0 → τ.N v = σ.N v ∧ τ.F v = σ.F v
  ex : ∃ new, τ.stk = new ++ x :: σ.stk ∧ (∀ v ∈ new, σ.N v = 0) ∧ Seg rel own σ.stk τ x new
  done : ∀ w ∈ done, Edge rel own σ.stk τ x w

/-- behind the call for y, ahead of the joining -/
structure Mid (σ : St α) (x : Nat) (done : List Nat) (y : Nat) (τ : St α) : Prop where
  wf : WF m rel own τ
  same : ∀ v, σ.N v ≠ 0 → τ.N v = σ.N v ∧ τ.F v = σ.F v
  ex : ∃ newy new, τ.stk = newy ++ (new ++ x :: σ.stk) ∧ (∀ v ∈ newy, σ.N v = 0) ∧ (∀ v ∈ new, σ.N v = 0) ∧ Seg rel own σ.stk τ x new ∧ Seg rel own σ.stk τ y newy
  done : ∀ w ∈ done, Edge rel own σ.stk τ x w
  seen : τ.N y ≠ 0

def pushed (σ : St α) (x : Nat) : St α := { N := upd σ.N x (σ.stk.length + 1 : Nat), stk := x :: σ.stk, F := upd σ.F x (some (own x)) }
def merged (τ : St α) (x y : Nat) : St α := { N := upd τ.N x (min (τ.N x) (τ.N y)), stk := τ.stk, F := upd τ.F x (some (union ((τ.F x).getD []) ((τ.F y).getD []))) }
def popped (τ : St α) (x : Nat) (seg rest : List Nat) : St α := { N := fun v => if v ∈ seg then BIG else τ.N v, stk := rest, F := fun v => if v ∈ seg then τ.F x else τ.F v }
end

section
variable {α : Type} [DecidableEq α] {m : Nat} {rel : Nat → List Nat} {own : Nat → List α} {σ τ : St α} {x y : Nat}

theorem WF.len (h : WF m rel own σ) : σ.stk.length ≤ m := nodup_length_le m _ h.nodup h.bound
theorem WF.small (h : WF m rel own σ) {v : Nat} (hv : v ∈ σ.stk) : σ.N v ≤ m := by
  have := (h.on v hv).2.1
  have := posOf_le σ.stk v
  have := h.len
  omega
theorem WF.notBig (hm : m < 1000) (h : WF m rel own σ) {v : Nat} (hv : v ∈ σ.stk) : σ.N v ≠ BIG := by
  have := h.small hv
  unfold BIG; omega
theorem WF.notIn (h : WF m rel own σ) {v : Nat} (hv : σ.N v = 0) : v ∉ σ.stk := fun hm => by
  have := (h.on v hm).1
  omega
theorem Pre.room (h : Pre m rel own σ x) : σ.stk.length + 1 ≤ m := by
  have hx := h.wf.notIn h.white
  exact nodup_length_le m (x :: σ.stk) (List.nodup_cons.mpr ⟨hx, h.wf.nodup⟩) (fun v hv => by
    rcases List.mem_cons.mp hv with rfl | hv
    · exact h.lt
    · exact h.wf.bound v hv)

theorem loop_start (hm : m < 1000) (hown : ∀ v, (own v).Nodup) (h : Pre m rel own σ x) : Loop m rel own σ x [] (pushed own σ x) := by
  have hx := h.wf.notIn h.white
  have hroom := h.room
  have hne : ∀ v, v ∈ σ.stk → v ≠ x := fun v hv e => hx (e ▸ hv)
  have hpos : ∀ v, v ∈ σ.stk → posOf (x :: σ.stk) v = posOf σ.stk v := fun v hv => by
    simp only [posOf]; rw [if_neg (fun e => hne v hv e.symm)]
  have hposx : posOf (x :: σ.stk) x = σ.stk.length + 1 := by simp [posOf]
  have hbig : ∀ v, (pushed own σ x).N v = BIG → v ≠ x ∧ σ.N v = BIG := fun v hv => by
    by_cases e : v = x
    · subst e
      simp only [pushed, upd_self] at hv
      unfold BIG at hv; omega
    · exact ⟨e, by simpa [pushed, upd_ne _ _ e] using hv⟩
  have hback : ∀ v, σ.N v = BIG → (pushed own σ x).N v = BIG := fun v hv => by
    have e : v ≠ x := fun e => by subst e; rw [h.white] at hv; exact absurd hv (by decide)
    simpa [pushed, upd_ne _ _ e] using hv
  refine ⟨⟨?_, ?_, ?_, ?_, ?_, ?_, ?_, ?_⟩, ?_, ⟨[], rfl, by simp, ⟨by simp, by simp, by simp, by simp⟩⟩, by simp⟩
  · exact List.nodup_cons.mpr ⟨hx, h.wf.nodup⟩
  · intro v hv
    rcases List.mem_cons.mp hv with rfl | hv
    · exact h.lt
    · exact h.wf.bound v hv
  · intro v hv
    rcases List.mem_cons.mp hv with rfl | hv
    · refine ⟨?_, ?_, v, by simp [pushed], ?_, .refl _⟩
      · simp only [pushed, upd_self]; omega
      · simp only [pushed, upd_self, hposx]; omega
      · simp only [pushed, upd_self, hposx]
    · obtain ⟨h1, h2, u, hu, h3, h4⟩ := h.wf.on v hv
      refine ⟨?_, ?_, u, by simp [pushed, hu], ?_, h4⟩
      · simpa [pushed, upd_ne _ _ (hne v hv)] using h1
      · simp only [pushed, upd_ne _ _ (hne v hv), hpos v hv]; exact h2
      · simp only [pushed, upd_ne _ _ (hne v hv), hpos u hu]; exact h3
  · intro v hv
    simp only [pushed, List.mem_cons, not_or] at hv
    simp only [pushed, upd_ne _ _ hv.1]
    exact h.wf.off v hv.2
  · intro v hv
    obtain ⟨_, hv'⟩ := hbig v hv
    obtain ⟨h1, h2⟩ := h.wf.blk v hv'
    exact ⟨h1, fun w hw => hback w (h2 w hw)⟩
  · intro v hv
    obtain ⟨e, hv'⟩ := hbig v hv
    simp only [pushed, upd_ne _ _ e]
    exact h.wf.blkF v hv'
  · intro v hv
    rcases List.mem_cons.mp hv with rfl | hv
    · exact ⟨own v, by simp [pushed, upd_self], hown v, fun a ha => ha, fun a ha => ⟨v, .refl _, ha⟩⟩
    · simp only [pushed, upd_ne _ _ (hne v hv)]
      exact h.wf.stkF v hv
  · intro v hv
    have e : v ≠ x := fun e => by subst e; simp only [pushed, upd_self] at hv; omega
    simp only [pushed, upd_ne _ _ e] at hv ⊢
    exact h.wf.whiteF v hv
  · intro v hv
    have e : v ≠ x := fun e => hv (by rw [e]; exact h.white)
    simp only [pushed, upd_ne _ _ e]; exact ⟨trivial, trivial⟩

theorem Loop.x_in {done : List Nat} (J : Loop m rel own σ x done τ) : x ∈ τ.stk := by
  obtain ⟨new, e, _⟩ := J.ex
  rw [e]; simp

theorem Loop.up {done : List Nat} (h : Pre m rel own σ x) (J : Loop m rel own σ x done τ) : ∀ v ∈ τ.stk, Reach rel v x := by
  obtain ⟨new, e, _, S⟩ := J.ex
  have key : ∀ n : Nat, ∀ v ∈ τ.stk, posOf τ.stk v = n → Reach rel v x := by
    intro n
    induction n using Nat.strongRecOn with
    | ind n ih =>
      intro v hv hn
      have hv' := hv
      rw [e] at hv'
      rcases List.mem_append.mp hv' with hv' | hv'
      · obtain ⟨_, _, u, hu, h3, h4⟩ := J.wf.on v hv
        have := S.low v hv'
        exact h4.trans (ih (posOf τ.stk u) (by omega) u hu rfl)
      · rcases List.mem_cons.mp hv' with rfl | hv'
        · exact .refl _
        · exact h.up v hv'
  exact fun v hv => key _ v hv rfl

theorem loop_pre {done : List Nat} (hrel : ∀ v, ∀ w ∈ rel v, w < m) (h : Pre m rel own σ x) (J : Loop m rel own σ x done τ) (hy : y ∈ rel x) (hw : τ.N y = 0) : Pre m rel own τ y :=
  ⟨J.wf, hrel x y hy, hw, fun v hv => (J.up h v hv).trans (.one hy)⟩

/-- the facts about the list of x -/
theorem mid_old {done : List Nat} (J : Loop m rel own σ x done τ) (hy : τ.N y ≠ 0) : Mid m rel own σ x done y τ := by
  obtain ⟨new, e, hw, S⟩ := J.ex
  exact ⟨J.wf, J.same, ⟨[], new, e, by simp, hw, S, ⟨by simp, by simp, by simp, by simp⟩⟩, J.done, hy⟩

theorem mid_new {done : List Nat} {τ' : St α} (h : Pre m rel own σ x) (J : Loop m rel own σ x done τ) (hw : τ.N y = 0) (P : Post m rel own τ y τ') : Mid m rel own σ x done y τ' := by
  obtain ⟨new, e, hwh, S⟩ := J.ex
  obtain ⟨newy, e', hwy, hor⟩ := P.ex
  have hxin : x ∈ τ.stk := J.x_in
  have hxN : τ.N x ≠ 0 := by have := (J.wf.on x hxin).1; omega
  have hsame : ∀ v, σ.N v ≠ 0 → τ'.N v = σ.N v ∧ τ'.F v = σ.F v := fun v hv => by
    obtain ⟨a, b⟩ := J.same v hv
    obtain ⟨c, d⟩ := P.same v (by rw [a]; exact hv)
    exact ⟨c.trans a, d.trans b⟩
  have hedge : ∀ w, Edge rel own σ.stk τ x w → Edge rel own σ.stk τ' x w := fun w hE => by
    obtain ⟨h1, h2, h3⟩ := hE
    obtain ⟨a, b⟩ := P.same x hxN
    obtain ⟨c, d⟩ := P.same w h1
    refine ⟨by rw [c]; exact h1, by rw [a]; exact h2, by rw [b, c]; exact h3⟩
  have hin : ∀ v ∈ new, v ∈ τ.stk := fun v hv => by rw [e]; simp [hv]
  have hNne : ∀ v ∈ τ.stk, τ.N v ≠ 0 := fun v hv => by have := (J.wf.on v hv).1; omega
  have hnotnew : ∀ v ∈ τ.stk, v ∉ newy := fun v hv hc => hNne v hv (hwy v hc)
  have hσ : ∀ v, τ.N v = 0 → σ.N v = 0 := fun v hv => by
    cases Decidable.em (σ.N v = 0) with
    | inl h => exact h
    | inr h => rw [(J.same v h).1] at hv; exact absurd hv h
  refine ⟨P.wf, hsame, ⟨newy, new, by rw [e', e], fun v hv => hσ v (hwy v hv), hwh, ⟨?_, ?_, ?_, ?_⟩, ?_⟩, fun w hw => hedge w (J.done w hw), ?_⟩
  · intro v hv
    rw [(P.same v (hNne v (hin v hv))).1, e', posOf_append_right _ (hnotnew v (hin v hv))]
    exact S.low v hv
  · intro v hv
    rw [(P.same v (hNne v (hin v hv))).1, (P.same x hxN).1]
    exact S.le v hv
  · intro v hv w hw
    exact hedge w (S.edge v hv w hw)
  · intro v hv a ha
    rw [(P.same x hxN).2]
    exact S.own v hv a ha
  · rcases hor with ⟨rfl, _⟩ | ⟨hy, Sy⟩
    · exact ⟨by simp, by simp, by simp, by simp⟩
    · refine ⟨Sy.low, Sy.le, fun v hv w hw => ?_, Sy.own⟩
      obtain ⟨h1, h2, h3⟩ := Sy.edge v hv w hw
      refine ⟨h1, fun hwσ => ?_, h3⟩
      have hwτ : w ∈ τ.stk := by rw [e]; simp [hwσ]
      have := h2 hwτ
      have hwnew : w ∉ new := fun hc => by
        have h5 := (h.wf.on w hwσ).1
        have h6 := hwh w hc
        omega
      have hwx : w ≠ x := fun hc => by
        have h5 := (h.wf.on w hwσ).1
        have h6 := h.white
        rw [hc] at h5; omega
      have e3 : posOf τ.stk w = posOf σ.stk w := by
        rw [e, posOf_append_right _ hwnew]
        simp only [posOf]; rw [if_neg (fun e => hwx e.symm)]
      rw [e3] at this
      exact this
  · rcases hor with ⟨_, hb⟩ | ⟨hy, _⟩
    · rw [hb]; decide
    · have hyin : y ∈ τ'.stk := by rw [e']; simp [hy]
      have := (P.wf.on y hyin).1
      omega

theorem loop_step {done : List Nat} (hm : m < 1000) (hy : y ∈ rel x) (h : Pre m rel own σ x) (K : Mid m rel own σ x done y τ) : Loop m rel own σ x (done ++ [y]) (merged τ x y) := by
  obtain ⟨newy, new, e, hwy, hwn, S, Sy⟩ := K.ex
  have hxin : x ∈ τ.stk := by rw [e]; simp
  obtain ⟨lx, hFx, hnx, hox, hsx⟩ := K.wf.stkF x hxin
  -- y's list
  have hYF : ∃ ly, τ.F y = some ly ∧ ∀ a ∈ ly, Due rel own y a := by
    by_cases hyin : y ∈ τ.stk
    · obtain ⟨ly, h1, _, _, h4⟩ := K.wf.stkF y hyin
      exact ⟨ly, h1, h4⟩
    · rcases K.wf.off y hyin with h0 | hb
      · exact absurd h0 K.seen
      · obtain ⟨ly, h1, _, h4⟩ := K.wf.blkF y hb
        exact ⟨ly, h1, fun a ha => (h4 a).mp ha⟩
  obtain ⟨ly, hFy, hsy⟩ := hYF
  have hNx := K.wf.on x hxin
  have hxsmall := K.wf.small hxin
  have hNy1 : 1 ≤ τ.N y := by
    by_cases hyin : y ∈ τ.stk
    · exact (K.wf.on y hyin).1
    · rcases K.wf.off y hyin with h0 | hb
      · exact absurd h0 K.seen
      · rw [hb]; decide
  have hMx : (merged τ x y).N x = min (τ.N x) (τ.N y) := by simp [merged, upd_self]
  have hMv : ∀ v, v ≠ x → (merged τ x y).N v = τ.N v := fun v hv => by simp [merged, upd_ne _ _ hv]
  have hFMx : (merged τ x y).F x = some (union lx ly) := by simp [merged, upd_self, hFx, hFy]
  have hFMv : ∀ v, v ≠ x → (merged τ x y).F v = τ.F v := fun v hv => by simp [merged, upd_ne _ _ hv]
  have hstk : (merged τ x y).stk = τ.stk := rfl
  have hle : (merged τ x y).N x ≤ τ.N x := by rw [hMx]; omega
  have hley : (merged τ x y).N x ≤ τ.N y := by rw [hMx]; omega
  have hnz : ∀ v, τ.N v ≠ 0 → (merged τ x y).N v ≠ 0 := fun v hv => by
    by_cases e : v = x
    · subst e; rw [hMx]; omega
    · rw [hMv v e]; exact hv
  have hbig : ∀ v, (merged τ x y).N v = BIG ↔ τ.N v = BIG := fun v => by
    by_cases e : v = x
    · subst e
      rw [hMx]
      have hx' := K.wf.notBig hm hxin
      constructor
      · intro hb; exfalso; unfold BIG at hb; omega
      · intro hb; exact absurd hb hx'
    · rw [hMv v e]
  have hedgex : ∀ w, Edge rel own σ.stk τ x w → Edge rel own σ.stk (merged τ x y) x w := fun w hE => by
    obtain ⟨h1, h2, h3⟩ := hE
    refine ⟨hnz w h1, fun hw => Int.le_trans hle (h2 hw), fun hb a ha => ?_⟩
    have := h3 ((hbig w).mp hb) a ha
    rw [hFx] at this
    rw [hFMx]
    exact mem_union.mpr (.inl this)
  have hedgey : ∀ w, Edge rel own σ.stk τ y w → Edge rel own σ.stk (merged τ x y) x w := fun w hE => by
    obtain ⟨h1, h2, h3⟩ := hE
    refine ⟨hnz w h1, fun hw => Int.le_trans hley (h2 hw), fun hb a ha => ?_⟩
    have := h3 ((hbig w).mp hb) a ha
    rw [hFy] at this
    rw [hFMx]
    exact mem_union.mpr (.inr this)
  have hnodup := K.wf.nodup
  rw [e] at hnodup
  have hxnew : x ∉ newy ++ new := by
    rw [← List.append_assoc, List.nodup_append] at hnodup
    intro hc
    exact hnodup.2.2 x hc x (by simp) rfl
  refine ⟨⟨K.wf.nodup, K.wf.bound, ?_, ?_, ?_, ?_, ?_, ?_⟩, ?_, ⟨newy ++ new, by rw [hstk, e, List.append_assoc], ?_, ⟨?_, ?_, ?_, ?_⟩⟩, ?_⟩
  · intro v hv
    rw [hstk] at hv ⊢
    by_cases hvx : v = x
    · subst hvx
      rw [hMx]
      refine ⟨by omega, by omega, ?_⟩
      by_cases hlt : τ.N v ≤ τ.N y
      · obtain ⟨u, hu, h3, h4⟩ := hNx.2.2
        exact ⟨u, hu, by omega, h4⟩
      · have hyin : y ∈ τ.stk := by
          by_cases hyin : y ∈ τ.stk
          · exact hyin
          · rcases K.wf.off y hyin with h0 | hb
            · exact absurd h0 K.seen
            · rw [hb] at hlt; unfold BIG at hlt; omega
        obtain ⟨_, _, u, hu, h3, h4⟩ := K.wf.on y hyin
        exact ⟨u, hu, by omega, .step hy h4⟩
    · rw [hMv v hvx]
      exact K.wf.on v hv
  · intro v hv
    rw [hstk] at hv
    rw [hMv v (fun e => hv (e ▸ hxin))]
    exact K.wf.off v hv
  · intro v hv
    obtain ⟨h1, h2⟩ := K.wf.blk v ((hbig v).mp hv)
    exact ⟨h1, fun w hw => (hbig w).mpr (h2 w hw)⟩
  · intro v hv
    have hv' := (hbig v).mp hv
    have hvx : v ≠ x := fun e => K.wf.notBig hm hxin (e ▸ hv')
    rw [hFMv v hvx]
    exact K.wf.blkF v hv'
  · intro v hv
    rw [hstk] at hv
    by_cases hvx : v = x
    · subst hvx
      refine ⟨_, hFMx, nodup_union hnx, fun a ha => mem_union.mpr (.inl (hox a ha)), fun a ha => ?_⟩
      rcases mem_union.mp ha with ha | ha
      · exact hsx a ha
      · exact (hsy a ha).of (.one hy)
    · rw [hFMv v hvx]
      exact K.wf.stkF v hv
  · intro v hv
    have hvx : v ≠ x := fun e => by
      subst e; rw [hMx] at hv; omega
    rw [hMv v hvx] at hv
    rw [hFMv v hvx]
    exact K.wf.whiteF v hv
  · intro v hv
    have hvx : v ≠ x := fun e => hv (by rw [e]; exact h.white)
    rw [hMv v hvx, hFMv v hvx]
    exact K.same v hv
  · intro v hv
    rcases List.mem_append.mp hv with hv | hv
    · exact hwy v hv
    · exact hwn v hv
  · intro v hv
    have hvx : v ≠ x := fun e => hxnew (e ▸ hv)
    rw [hMv v hvx, hstk]
    rcases List.mem_append.mp hv with hv | hv
    · exact Sy.low v hv
    · exact S.low v hv
  · intro v hv
    have hvx : v ≠ x := fun e => hxnew (e ▸ hv)
    rw [hMv v hvx]
    rcases List.mem_append.mp hv with hv | hv
    · exact Int.le_trans hley (Sy.le v hv)
    · exact Int.le_trans hle (S.le v hv)
  · intro v hv w hw
    rcases List.mem_append.mp hv with hv | hv
    · exact hedgey w (Sy.edge v hv w hw)
    · exact hedgex w (S.edge v hv w hw)
  · intro v hv a ha
    rw [hFMx]
    rcases List.mem_append.mp hv with hv | hv
    · have := Sy.own v hv a ha
      rw [hFy] at this
      exact mem_union.mpr (.inr this)
    · have := S.own v hv a ha
      rw [hFx] at this
      exact mem_union.mpr (.inl this)
  · intro w hw
    rcases List.mem_append.mp hw with hw | hw
    · exact hedgex w (K.done w hw)
    · simp only [List.mem_singleton] at hw
      subst hw
      refine ⟨hnz w K.seen, fun hwσ => ?_, fun hb a ha => ?_⟩
      · have hwτ : w ∈ τ.stk := by rw [e]; simp [hwσ]
        have h2 := (K.wf.on w hwτ).2.1
        have hN : σ.N w ≠ 0 := by have := (h.wf.on w hwσ).1; omega
        have hwnew : w ∉ newy ++ new := fun hc => by
          rcases List.mem_append.mp hc with hc | hc
          · exact hN (hwy w hc)
          · exact hN (hwn w hc)
        have hwx : w ≠ x := fun hc => hN (by rw [hc]; exact h.white)
        have e3 : posOf τ.stk w = posOf σ.stk w := by
          rw [e, ← List.append_assoc, posOf_append_right _ hwnew]
          simp only [posOf]; rw [if_neg (fun e => hwx e.symm)]
        rw [e3] at h2
        exact Int.le_trans hley h2
      · obtain ⟨l', h1, _, h4⟩ := K.wf.blkF w ((hbig w).mp hb)
        rw [hFy] at h1
        cases h1
        rw [hFMx]
        exact mem_union.mpr (.inr ((h4 a).mpr ha))

theorem Loop.x_notnew {done new : List Nat} (J : Loop m rel own σ x done τ) (e : τ.stk = new ++ x :: σ.stk) : x ∉ new := by
  have hnodup := J.wf.nodup
  rw [e, List.nodup_append] at hnodup
  intro hc
  exact hnodup.2.2 x hc x (by simp) rfl

theorem Loop.x_pos {done : List Nat} (J : Loop m rel own σ x done τ) : posOf τ.stk x = σ.stk.length + 1 := by
  obtain ⟨new, e, _⟩ := J.ex
  rw [e, posOf_append_right _ (J.x_notnew e)]
  simp [posOf]

theorem post_stay (h : Pre m rel own σ x) (J : Loop m rel own σ x (rel x) τ) (hne : τ.N x ≠ (σ.stk.length + 1 : Nat)) : Post m rel own σ x τ := by
  obtain ⟨new, e, hw, S⟩ := J.ex
  obtain ⟨lx, hFx, _, hox, _⟩ := J.wf.stkF x J.x_in
  refine ⟨J.wf, J.same, new ++ [x], by rw [e]; simp, ?_, .inr ⟨by simp, ⟨?_, ?_, ?_, ?_⟩⟩⟩
  · intro v hv
    rcases List.mem_append.mp hv with hv | hv
    · exact hw v hv
    · simp only [List.mem_singleton] at hv; subst hv; exact h.white
  · intro v hv
    rcases List.mem_append.mp hv with hv | hv
    · exact S.low v hv
    · simp only [List.mem_singleton] at hv; subst hv
      have := (J.wf.on v J.x_in).2.1
      rw [J.x_pos] at this ⊢
      omega
  · intro v hv
    rcases List.mem_append.mp hv with hv | hv
    · exact S.le v hv
    · simp only [List.mem_singleton] at hv; subst hv; exact Int.le_refl _
  · intro v hv w hw'
    rcases List.mem_append.mp hv with hv | hv
    · exact S.edge v hv w hw'
    · simp only [List.mem_singleton] at hv; subst hv; exact J.done w hw'
  · intro v hv a ha
    rcases List.mem_append.mp hv with hv | hv
    · exact S.own v hv a ha
    · simp only [List.mem_singleton] at hv; subst hv
      rw [hFx]; exact hox a ha

theorem post_pop (hm : m < 1000) (h : Pre m rel own σ x) (J : Loop m rel own σ x (rel x) τ) (heq : τ.N x = (σ.stk.length + 1 : Nat)) {new : List Nat} (e : τ.stk = new ++ x :: σ.stk) :
    Post m rel own σ x (popped τ x (new ++ [x]) σ.stk) := by
  obtain ⟨new', e', hw, S⟩ := J.ex
  have : new' = new := by
    rw [e] at e'
    exact (List.append_inj_left' e' rfl).symm
  subst this
  obtain ⟨lx, hFx, hnx, hox, hsx⟩ := J.wf.stkF x J.x_in
  have hnodup := J.wf.nodup
  rw [e] at hnodup
  have hdis : ∀ v ∈ σ.stk, v ∉ new' ++ [x] := fun v hv hc => by
    have hN : σ.N v ≠ 0 := by have := (h.wf.on v hv).1; omega
    rcases List.mem_append.mp hc with hc | hc
    · exact hN (hw v hc)
    · simp only [List.mem_singleton] at hc; subst hc; exact hN h.white
  have hsegin : ∀ v ∈ new' ++ [x], v ∈ τ.stk := fun v hv => by
    rw [e]
    rcases List.mem_append.mp hv with hv | hv
    · simp [hv]
    · simp only [List.mem_singleton] at hv; subst hv; simp
  have hσseg : ∀ v, σ.N v ≠ 0 → v ∉ new' ++ [x] := fun v hN hc => by
    rcases List.mem_append.mp hc with hc | hc
    · exact hN (hw v hc)
    · simp only [List.mem_singleton] at hc; subst hc; exact hN h.white
  have hstk' : ∀ v, v ∈ τ.stk → v ∈ new' ++ [x] ∨ v ∈ σ.stk := fun v hv => by
    rw [e] at hv
    rcases List.mem_append.mp hv with hv | hv
    · exact .inl (by simp [hv])
    · rcases List.mem_cons.mp hv with rfl | hv
      · exact .inl (by simp)
      · exact .inr hv
  have hedge : ∀ v ∈ new' ++ [x], ∀ w ∈ rel v, Edge rel own σ.stk τ x w := fun v hv w hw' => by
    rcases List.mem_append.mp hv with hv | hv
    · exact S.edge v hv w hw'
    · simp only [List.mem_singleton] at hv; subst hv; exact J.done w hw'
  -- an edge out of the segment ends in it, or at a node that is done
  have hout : ∀ v ∈ new' ++ [x], ∀ w ∈ rel v, w ∉ new' ++ [x] → τ.N w = BIG := fun v hv w hw' hns => by
    obtain ⟨h1, h2, _⟩ := hedge v hv w hw'
    by_cases hws : w ∈ σ.stk
    · have := h2 hws
      have := posOf_le σ.stk w
      omega
    · have : w ∉ τ.stk := fun hc => by
        rcases hstk' w hc with hc | hc
        · exact hns hc
        · exact hws hc
      rcases J.wf.off w this with h0 | hb
      · exact absurd h0 h1
      · exact hb
  have hownx : ∀ v ∈ new' ++ [x], ∀ a ∈ own v, a ∈ lx := fun v hv a ha => by
    rcases List.mem_append.mp hv with hv | hv
    · have := S.own v hv a ha
      rwa [hFx] at this
    · simp only [List.mem_singleton] at hv; subst hv; exact hox a ha
  have hall : ∀ v y, Reach rel v y → v ∈ new' ++ [x] → ∀ a ∈ own y, a ∈ lx := fun v y hr => by
    induction hr with
    | refl v => exact hownx v
    | @step v w z hvw hwz ih =>
      intro hv a ha
      by_cases hws : w ∈ new' ++ [x]
      · exact ih hws a ha
      · have hb := hout v hv w hvw hws
        obtain ⟨_, _, h3⟩ := hedge v hv w hvw
        have := h3 hb a ⟨z, hwz, ha⟩
        rwa [hFx] at this
  have hback : ∀ n : Nat, ∀ v ∈ new' ++ [x], posOf τ.stk v = n → Reach rel v x := by
    intro n
    induction n using Nat.strongRecOn with
    | ind n ih =>
      intro v hv hn
      rcases List.mem_append.mp hv with hv' | hv'
      · obtain ⟨_, _, u, hu, h3, h4⟩ := J.wf.on v (hsegin v hv)
        have h5 := S.low v hv'
        have h6 := S.le v hv'
        have hus : u ∈ new' ++ [x] := by
          rcases hstk' u hu with hc | hc
          · exact hc
          · exfalso
            have h7 : posOf τ.stk u = posOf σ.stk u := by
              have : u ∉ new' := fun h9 => hdis u hc (by simp [h9])
              have hux : u ≠ x := fun h9 => hdis u hc (by simp [h9])
              rw [e, posOf_append_right _ this]
              simp only [posOf]; rw [if_neg (fun e => hux e.symm)]
            have h8 := posOf_le σ.stk u
            omega
        exact h4.trans (ih (posOf τ.stk u) (by omega) u hus rfl)
      · simp only [List.mem_singleton] at hv'; subst hv'; exact .refl _
  refine ⟨⟨h.wf.nodup, h.wf.bound, ?_, ?_, ?_, ?_, ?_, ?_⟩, ?_, [], rfl, by simp, .inl ⟨rfl, by simp [popped]⟩⟩
  · intro v hv
    have hv1 : (popped τ x (new' ++ [x]) σ.stk).N v = σ.N v := by
      simp only [popped]; rw [if_neg (hdis v hv)]
      exact (J.same v (by have := (h.wf.on v hv).1; omega)).1
    rw [hv1]
    exact h.wf.on v hv
  · intro v hv
    by_cases hs : v ∈ new' ++ [x]
    · right; simp only [popped]; rw [if_pos hs]
    · simp only [popped]; rw [if_neg hs]
      refine J.wf.off v (fun hc => ?_)
      rcases hstk' v hc with hc | hc
      · exact hs hc
      · exact hv hc
  · intro v hv
    by_cases hs : v ∈ new' ++ [x]
    · refine ⟨J.wf.bound v (hsegin v hs), fun w hw' => ?_⟩
      by_cases hws : w ∈ new' ++ [x]
      · simp only [popped]; rw [if_pos hws]
      · simp only [popped]; rw [if_neg hws]; exact hout v hs w hw' hws
    · simp only [popped] at hv; rw [if_neg hs] at hv
      obtain ⟨h1, h2⟩ := J.wf.blk v hv
      refine ⟨h1, fun w hw' => ?_⟩
      simp only [popped]
      split
      · rfl
      · exact h2 w hw'
  · intro v hv
    by_cases hs : v ∈ new' ++ [x]
    · refine ⟨lx, by simp only [popped]; rw [if_pos hs]; exact hFx, hnx, fun a => ⟨fun ha => (hsx a ha).of (hback _ v hs rfl), ?_⟩⟩
      rintro ⟨y, hr, ha⟩
      exact hall v y hr hs a ha
    · simp only [popped] at hv ⊢; rw [if_neg hs] at hv ⊢
      exact J.wf.blkF v hv
  · intro v hv
    have hv2 := J.same v (by have := (h.wf.on v hv).1; omega)
    simp only [popped]; rw [if_neg (hdis v hv), hv2.2]
    exact h.wf.stkF v hv
  · intro v hv
    by_cases hs : v ∈ new' ++ [x]
    · simp only [popped] at hv; rw [if_pos hs] at hv; exact absurd hv (by decide)
    · simp only [popped] at hv ⊢; rw [if_neg hs] at hv ⊢
      exact J.wf.whiteF v hv
  · intro v hv
    simp only [popped]; rw [if_neg (hσseg v hv), if_neg (hσseg v hv)]
    exact J.same v hv

/-- between two calls of the outer loop the stack is empty -/
theorem wf_start : WF m rel own (σ := ({ N := fun _ => 0, stk := [], F := fun _ => none } : St α)) :=
  ⟨by simp, by simp, by simp, fun _ _ => .inl rfl, fun _ h => absurd (show (0 : Int) = BIG from h) (by decide), fun _ h => absurd (show (0 : Int) = BIG from h) (by decide), by simp, fun _ _ => rfl⟩
theorem pre_top (h : WF m rel own σ) (he : σ.stk = []) (hx : x < m) (hw : σ.N x = 0) : Pre m rel own σ x := ⟨h, hx, hw, by rw [he]; simp⟩
theorem post_top (he : σ.stk = []) (P : Post m rel own σ x τ) : τ.stk = [] ∧ τ.N x = BIG := by
  obtain ⟨new, e, hw, hor⟩ := P.ex
  rw [he, List.append_nil] at e
  rcases hor with ⟨rfl, hb⟩ | ⟨hx, S⟩
  · exact ⟨e, hb⟩
  · exfalso
    have key : ∀ n : Nat, ∀ v ∈ τ.stk, posOf τ.stk v = n → False := by
      intro n
      induction n using Nat.strongRecOn with
      | ind n ih =>
        intro v hv hn
        obtain ⟨_, _, u, hu, h3, _⟩ := P.wf.on v hv
        have := S.low v (e ▸ hv)
        exact ih (posOf τ.stk u) (by omega) u hu rfl
    exact key _ x (by rw [e]; exact hx) rfl
end
end Mine

end
section
/- MRules -/
open PySem PySem.W PyProof.Rows
set_option maxRecDepth 100000
set_option linter.unusedVariables false
namespace Mine

theorem neOver : P3.NeOverData := SeqAt.neOverData

section
variable (prog : Program) (w : World)

theorem eqb_int_str {prog : Program} {w : World} {A : Around} {E : Value → Shared → Prop} {s : Shared} {a : Int} {t : Tok} {b : Str} {u : Tok} {Q : Bool → Shared → Prop} (h : Q false s) :
    wpAny (model prog w) A (eqBool (.int a t) (.str b u)) Q E s := by
  unfold eqBool
  rw [if_neg (by simp)]
  exact wpAny_bind (EqMixed.eq_int_str (wpAny_truthy_bool h))
theorem eqb_str_int {prog : Program} {w : World} {A : Around} {E : Value → Shared → Prop} {s : Shared} {a : Int} {t : Tok} {b : Str} {u : Tok} {Q : Bool → Shared → Prop} (h : Q false s) :
    wpAny (model prog w) A (eqBool (.str b u) (.int a t)) Q E s := by
  unfold eqBool
  rw [if_neg (by simp)]
  exact wpAny_bind (EqMixed.eq_str_int (wpAny_truthy_bool h))

/-- ints and strs as one kind of key -/
def mixKind (prog : Program) (w : World) : PySem.KeyKind prog w (Int ⊕ Str) where
  is := fun k v => match k with | .inl i => Value.isInt i v | .inr x => Value.isStrOf x v
  hash := fun k => match k with | .inl i => hashInt i | .inr x => hashStr w x
  inj := fun v a b ha hb => by
    cases a <;> cases b <;> dsimp only at ha hb
    · rw [Value.isInt_inj v _ _ ha hb]
    · obtain ⟨t, rfl⟩ := Value.isInt_shape ha; simp [Value.isStrOf] at hb
    · obtain ⟨t, rfl⟩ := Value.isInt_shape hb; simp [Value.isStrOf] at ha
    · rw [Value.isStrOf_inj v _ _ ha hb]
  byValue := fun k v h => by
    cases k <;> dsimp only at h
    · obtain ⟨t, rfl⟩ := Value.isInt_shape h; rfl
    · obtain ⟨t, rfl⟩ := Value.isStrOf_shape h; rfl
  pyHash := fun {A E s k v Q} hv h => by
    cases k <;> dsimp only at hv h
    · obtain ⟨t, rfl⟩ := Value.isInt_shape hv; exact wpAny_pyHash_int h
    · obtain ⟨t, rfl⟩ := Value.isStrOf_shape hv; exact wpAny_pyHash_str h
  eqBool := fun {A E s a b u v Q} hu hv h => by
    cases a <;> cases b <;> dsimp only at hu hv
    · obtain ⟨t, rfl⟩ := Value.isInt_shape hu
      obtain ⟨t', rfl⟩ := Value.isInt_shape hv
      refine wpAny_eqBool_int ?_
      have e : ∀ a b : Int, (a == b) = decide ((Sum.inl a : Int ⊕ Str) = Sum.inl b) := fun a b => by
        by_cases hab : a = b
        · subst hab; simp
        · rw [decide_eq_false (fun e => hab (Sum.inl.inj e))]; simp [hab]
      rw [e]; exact h
    · obtain ⟨t, rfl⟩ := Value.isInt_shape hu
      obtain ⟨t', rfl⟩ := Value.isStrOf_shape hv
      exact eqb_int_str (by simpa using h)
    · obtain ⟨t, rfl⟩ := Value.isStrOf_shape hu
      obtain ⟨t', rfl⟩ := Value.isInt_shape hv
      exact eqb_str_int (by simpa using h)
    · obtain ⟨t, rfl⟩ := Value.isStrOf_shape hu
      obtain ⟨t', rfl⟩ := Value.isStrOf_shape hv
      exact wpAny_eqBool_str (by simpa [Sum.inr.injEq] using h)
  «strs» := fun k x t v h => by
    cases k <;> dsimp only at h ⊢
    · simp [Value.isInt] at h
    · obtain ⟨u, hu⟩ := Value.isStrOf_shape h
      injection hu with hx
      subst hx
      cases v <;> rfl

/-- a node: the tuple of a number and its name -/
def nodeKey (nm : Nat → Str) (k : Nat) : List (Int ⊕ Str) := [.inl (k : Int), .inr (nm k)]
theorem nodeKey_inj (nm : Nat → Str) {a b : Nat} (h : nodeKey nm a = nodeKey nm b) : a = b := by
  unfold nodeKey at h
  injection h with h1 _
  injection h1 with h2
  omega

def nodeKind (nm : Nat → Str) : HeapKind prog w Nat where
  is := fun h k a => (tupleKind (mixKind prog w)).is h (nodeKey nm k) a
  hash := fun k => (tupleKind (mixKind prog w)).hash (nodeKey nm k)
  draws := fun k => (tupleKind (mixKind prog w)).draws (nodeKey nm k)
  room := (tupleKind (mixKind prog w)).room
  inj := fun hx hy => nodeKey_inj nm ((tupleKind (mixKind prog w)).inj hx hy)
  keeps := fun x ho hd hs => (tupleKind (mixKind prog w)).keeps x ho hd hs
  pyHash := fun hu hk h => (tupleKind (mixKind prog w)).pyHash hu hk h
  eqBool := fun {A E s x y a b Q} hu hx hy h => (tupleKind (mixKind prog w)).eqBool hu hx hy (by
    have e : decide (nodeKey nm x = nodeKey nm y) = decide (x = y) := by
      by_cases hxy : x = y
      · subst hxy; simp
      · rw [decide_eq_false hxy, decide_eq_false (fun e => hxy (nodeKey_inj nm e))]
    rw [e]; exact h)
  quiet := fun hk h => (tupleKind (mixKind prog w)).quiet hk h
end
end Mine

end
section
/- MInv -/
open PySem PySem.W PyProof.Rows
set_option maxRecDepth 100000
set_option linter.unusedVariables false
namespace Mine

def valAt (xs : List (Nat × Addr × Value)) (k : Nat) : Option Value := (atKey xs k).map (·.2)

theorem atKey_map_putAt (xs : List (Nat × Addr × Value)) (k j : Nat) (v : Value) : (atKey (xs.map (putAt k v)) j).map (·.2) = if j = k then (atKey xs k).map (fun _ => v) else (atKey xs j).map (·.2) := by
  induction xs with
  | nil => simp [atKey]
  | cons x xs ih =>
    obtain ⟨a, b, u⟩ := x
    simp only [atKey, List.map_cons, List.find?_cons] at ih ⊢
    by_cases hak : a = k
    · subst hak
      simp only [putAt, if_true]
      by_cases hja : j = a
      · subst hja; simp
      · have : ¬ a = j := fun e => hja e.symm
        simp only [decide_eq_false this, if_neg hja] at ih ⊢
        simpa [hja] using ih
    · simp only [putAt, if_neg hak]
      by_cases hja : a = j
      · subst hja
        simp [hak]
      · simp only [decide_eq_false hja]
        by_cases hjk : j = k
        · subst hjk
          simpa [hja] using ih
        · simpa [hjk] using ih

theorem valAt_stored (xs : List (Nat × Addr × Value)) (k j : Nat) (a : Addr) (v : Value) : valAt (storedH xs k a v) j = if j = k then some v else valAt xs j := by
  unfold valAt
  cases h : atKey xs k with
  | some p =>
    rw [storedH_old h, atKey_map_putAt, h]
    by_cases hj : j = k <;> simp [hj]
  | none =>
    rw [storedH_new h]
    unfold atKey at h ⊢
    rw [List.find?_append]
    by_cases hj : j = k
    · subst hj
      have h' : List.find? (fun x => decide (x.1 = j)) xs = none := by simpa using h
      simp [h']
    · have : ¬ k = j := fun e => hj e.symm
      cases hx : List.find? (fun x => decide (x.1 = j)) xs with
      | some y => simp [hj]
      | none => simp [hj, this]

theorem mem_stored {xs : List (Nat × Addr × Value)} {k : Nat} {a : Addr} {v : Value} {P : Nat → Addr → Prop} (h : ∀ x ∈ xs, P x.1 x.2.1) (hk : P k a) : ∀ x ∈ storedH xs k a v, P x.1 x.2.1 := by
  intro x hx
  cases h' : atKey xs k with
  | some p =>
    rw [storedH_old h'] at hx
    obtain ⟨y, hy, rfl⟩ := List.mem_map.mp hx
    unfold putAt
    split
    · exact h y hy
    · exact h y hy
  | none =>
    rw [storedH_new h'] at hx
    rcases List.mem_append.mp hx with hx | hx
    · exact h x hx
    · simp only [List.mem_singleton] at hx
      subst hx; exact hk

theorem atKey_addr {xs : List (Nat × Addr × Value)} {k : Nat} {p : Addr × Value} (h : atKey xs k = some p) : (k, p) ∈ xs := by
  unfold atKey at h
  cases hf : List.find? (fun x => decide (x.1 = k)) xs with
  | none => rw [hf] at h; cases h
  | some y =>
    rw [hf] at h
    simp only [Option.map_some, Option.some.injEq] at h
    have h1 := List.mem_of_find?_eq_some hf
    have h2 := List.find?_some hf
    simp only [decide_eq_true_eq] at h2
    obtain ⟨y1, y2⟩ := y
    subst h; subst h2; exact h1

/-- what one run of digraph stands on -/
structure Cfg where
  m : Nat
  nm : Nat → Str
  rel : Nat → List Nat
  own : Nat → List Str
  abc : List Str
  hs : Heap
  nd : Nat → Addr
  row : Nat → Addr
  dN : Addr
  dF : Addr
  sk : Addr
  oX : Value
  lR : Addr
  lFP : Addr

def StrL (abc : List Str) (h : Heap) (a : Addr) (ls : List Str) : Prop := ∃ vs : List Value, h.PlainList a vs.toArray ∧ StrsAre vs ls ∧ ls.Nodup ∧ ∀ x ∈ ls, x ∈ abc

abbrev Sub (h h' : Heap) : Prop := ∀ a o, h.get? a = some o → h'.get? a = some o
/-- all that is no plain list and none of the two dicts stays -/
def Ch (dN dF : Addr) (h h' : Heap) : Prop := ∀ a o, h.get? a = some o → a ≠ dN → a ≠ dF → (∀ its, ¬ h.PlainList a its) → h'.get? a = some o
def Room (A : Around) : Prop := A.handled = none ∧ A.depth + 20 < recursionLimit ∧ A.units + 200 < cLine

theorem StrL.at {abc : List Str} {h h' : Heap} {a : Addr} {ls : List Str} (x : StrL abc h a ls) (hk : ∀ o, h.get? a = some o → h'.get? a = some o) : StrL abc h' a ls :=
  let ⟨vs, p, r⟩ := x; ⟨vs, p.at hk, r⟩
theorem StrL.get {abc : List Str} {h : Heap} {a : Addr} {ls : List Str} (x : StrL abc h a ls) : ∃ vs : List Value, ∃ n, h.get? a = some { cls := .type "list", data := .seq vs.toArray n } ∧ StrsAre vs ls ∧ ls.Nodup ∧ ∀ x ∈ ls, x ∈ abc :=
  let ⟨vs, ⟨n, p⟩, r⟩ := x; ⟨vs, n, p, r⟩

section
variable {prog : Program} {w : World}

abbrev nk (prog : Program) (w : World) (c : Cfg) : HeapKind prog w Nat := nodeKind prog w c.nm

def DictOK (prog : Program) (w : World) (c : Cfg) (h : Heap) (d : Addr) (xs : List (Nat × Addr × Value)) : Prop := h.DictOfH (nk prog w c) d xs ∧ ∀ x ∈ xs, x.1 < c.m ∧ x.2.1 = c.nd x.1

structure Cfg.Ok (prog : Program) (w : World) (c : Cfg) : Prop where
  m8 : c.m ≤ 8
  node : ∀ k, k < c.m → (nk prog w c).is c.hs k (c.nd k)
  nmOk : ∀ k, PyData.strOk (c.nm k) = true
  rows : ∀ k, k < c.m → c.hs.IsList (c.row k) ((c.rel k).map fun j => Value.ref (c.nd j)).toArray
  relm : ∀ v, ∀ w ∈ c.rel v, w < c.m
  rlen : ∀ v, (c.rel v).length ≤ 1000
  ownd : ∀ v, (c.own v).Nodup
  ownabc : ∀ v, ∀ a ∈ c.own v, a ∈ c.abc
  abcOk : ∀ a ∈ c.abc, PyData.strOk a = true
  abclen : c.abc.length ≤ 100
  fR : ∃ o fd, c.hs.get? c.lR = some o ∧ o.data = .func fd
  fFP : ∃ o fd, c.hs.get? c.lFP = some o ∧ o.data = .func fd
  callR : ∀ k, k < c.m → ∀ (A : Around) (E : Value → Shared → Prop) (s : Shared) (Q : Value → Shared → Prop), Room A → Sub c.hs s.heap →
    (∀ h' tk, Sub s.heap h' → Q (.ref (c.row k)) { s with heap := h', toks := tk }) → wpAny (model prog w) A (call (.ref c.lR) [.ref (c.nd k)]) Q E s
  callFP : ∀ k, k < c.m → ∀ (A : Around) (E : Value → Shared → Prop) (s : Shared) (Q : Value → Shared → Prop), Room A → Sub c.hs s.heap →
    (∀ h' tk fl, Sub s.heap h' → s.heap.get? fl = none → StrL c.abc h' fl (c.own k) → Q (.ref fl) { s with heap := h', toks := tk }) → wpAny (model prog w) A (call (.ref c.lFP) [.ref (c.nd k)]) Q E s
  top : ∃ mg mb, c.hs.Ns mainGlobals mg ∧ c.hs.Ns builtinsNs mb ∧ (∃ t, mg "MAXINT" = some (.int BIG t)) ∧ mg "traverse" = some (.ref 28) ∧ mg "len" = none ∧ mg "min" = none ∧
    mb "len" = some (.builtin "len") ∧ mb "min" = some (.builtin "min")
  nolimit : c.hs.NoLimit
  newN : c.hs.objs.size ≤ c.dN
  newF : c.hs.objs.size ≤ c.dF
  news : c.hs.objs.size ≤ c.sk
  dNF : c.dN ≠ c.dF
  sysN : (c.dN == sysModules) = false
  sysF : (c.dF == sysModules) = false

structure InvX (prog : Program) (w : World) (c : Cfg) (U : List Nat) (σ : St Str) (h : Heap) (xsN xsF : List (Nat × Addr × Value)) (fa : Nat → Addr) : Prop where
  sub : Sub c.hs h
  oN : DictOK prog w c h c.dN xsN
  vN : ∀ k, k < c.m → ∃ t, valAt xsN k = some (.int (σ.N k) t)
  oF : DictOK prog w c h c.dF xsF
  vF : ∀ k, valAt xsF k = (σ.F k).map fun _ => .ref (fa k)
  stk : h.PlainList c.sk (σ.stk.reverse.map fun k => Value.ref (c.nd k)).toArray
  ls : ∀ k l, σ.F k = some l → StrL c.abc h (fa k) l
  own : ∀ k ∈ U, ∀ j, j ≠ k → σ.F j ≠ none → fa j ≠ fa k
  new : ∀ k, σ.F k ≠ none → c.hs.get? (fa k) = none ∧ fa k ≠ c.sk

def InvH (prog : Program) (w : World) (c : Cfg) (U : List Nat) (σ : St Str) (h : Heap) : Prop := ∃ xsN xsF fa, InvX prog w c U σ h xsN xsF fa

variable {c : Cfg} {U : List Nat} {σ : St Str} {h h' : Heap} {xsN xsF : List (Nat × Addr × Value)} {fa : Nat → Addr}

theorem none_of_ge {h : Heap} {a : Addr} (ha : h.objs.size ≤ a) : h.get? a = none := by
  cases e : h.get? a with
  | none => rfl
  | some o => exact absurd (Heap.lt_size e) (Nat.not_lt.mpr ha)

theorem Cfg.Ok.node_at (ok : c.Ok prog w) (hsub : Sub c.hs h) {k : Nat} (hk : k < c.m) : (nk prog w c).is h k (c.nd k) := by
  obtain ⟨o, items, n, ho, r⟩ := ok.node k hk
  exact ⟨o, items, n, hsub _ _ ho, r⟩

theorem DictOK.ext (ok : c.Ok prog w) {d : Addr} {xs : List (Nat × Addr × Value)} (x : DictOK prog w c h d xs) (hd : ∀ o, h.get? d = some o → h'.get? d = some o) (hsub : Sub c.hs h') : DictOK prog w c h' d xs := by
  obtain ⟨⟨o, es, ep, ho, hc, hdat, he, his, hn⟩, hk⟩ := x
  refine ⟨⟨o, es, ep, hd _ ho, hc, hdat, he, fun x hx => ?_, hn⟩, hk⟩
  obtain ⟨h1, h2⟩ := hk x hx
  rw [h2]
  exact ok.node_at hsub h1
theorem DictOK.len {d : Addr} {xs : List (Nat × Addr × Value)} (x : DictOK prog w c h d xs) : xs.length ≤ c.m := by
  obtain ⟨⟨o, es, ep, ho, hc, hdat, he, his, hn⟩, hk⟩ := x
  have := nodup_length_le c.m (xs.map (·.1)) hn (fun k hkm => by
    obtain ⟨y, hy, rfl⟩ := List.mem_map.mp hkm
    exact (hk y hy).1)
  simpa using this
theorem DictOK.data {d : Addr} {xs : List (Nat × Addr × Value)} (x : DictOK prog w c h d xs) : ∃ o es ep, h.get? d = some o ∧ o.data = .dict es ep :=
  let ⟨⟨o, es, ep, ho, _, hdat, _⟩, _⟩ := x; ⟨o, es, ep, ho, hdat⟩

theorem notList_of_dict {a : Addr} {o : Obj} {es : Array DictEntry} {ep : Nat} (ho : h.get? a = some o) (hd : o.data = .dict es ep) : ∀ its, ¬ h.PlainList a its := by
  rintro its ⟨n, e⟩
  rw [ho] at e
  cases e
  cases hd
theorem notList_of_ns {a : Addr} {m : Str → Option Value} (x : h.Ns a m) : ∀ its, ¬ h.PlainList a its := by
  obtain ⟨o, es, ep, ho, hd, _⟩ := x
  exact notList_of_dict ho hd
theorem notList_of_iter {a l : Addr} {i : Nat} (x : h.IsListIter a l i) : ∀ its, ¬ h.PlainList a its := by
  obtain ⟨o, ho, hc, hd⟩ := x
  rintro its ⟨n, e⟩
  rw [ho] at e
  cases e
  cases hd

theorem InvX.neqN (x : InvX prog w c U σ h xsN xsF fa) {a : Addr} {its : Array Value} (hp : h.PlainList a its) : a ≠ c.dN := fun e => by
  obtain ⟨o, es, ep, ho, hd⟩ := x.oN.data
  exact notList_of_dict ho hd its (e ▸ hp)
theorem InvX.neqF (x : InvX prog w c U σ h xsN xsF fa) {a : Addr} {its : Array Value} (hp : h.PlainList a its) : a ≠ c.dF := fun e => by
  obtain ⟨o, es, ep, ho, hd⟩ := x.oF.data
  exact notList_of_dict ho hd its (e ▸ hp)

/-- more objects: nothing turns -/
theorem InvX.ext (ok : c.Ok prog w) (x : InvX prog w c U σ h xsN xsF fa) (hk : Sub h h') : InvX prog w c U σ h' xsN xsF fa where
  sub := fun a o e => hk a o (x.sub a o e)
  oN := x.oN.ext ok (hk _) fun a o e => hk a o (x.sub a o e)
  vN := x.vN
  oF := x.oF.ext ok (hk _) fun a o e => hk a o (x.sub a o e)
  vF := x.vF
  stk := x.stk.at (hk _)
  ls := fun k l e => (x.ls k l e).at (hk _)
  own := x.own
  new := x.new

/-- one object that is none of ours turns -/
theorem InvX.but (ok : c.Ok prog w) {L : Addr} (x : InvX prog w c U σ h xsN xsF fa) (hk : Heap.ExtBut L h h') (h0 : c.hs.get? L = none) (hN : L ≠ c.dN) (hF : L ≠ c.dF) (hl : ∀ its, ¬ h.PlainList L its) : InvX prog w c U σ h' xsN xsF fa := by
  have hsub : Sub c.hs h' := fun a o e => hk a o (fun e' => by rw [e', h0] at e; cases e) (x.sub a o e)
  refine ⟨hsub, x.oN.ext ok (fun o e => hk _ o (Ne.symm hN) e) hsub, x.vN, x.oF.ext ok (fun o e => hk _ o (Ne.symm hF) e) hsub, x.vF, ?_, ?_, x.own, x.new⟩
  · exact x.stk.at fun o e => hk _ o (fun e' => hl _ (e' ▸ x.stk)) e
  · intro k l e
    have hp := x.ls k l e
    exact hp.at fun o e' => hk _ o (fun e'' => by
      obtain ⟨vs, p, _⟩ := hp
      exact hl _ (e'' ▸ p)) e'

theorem InvX.own_mono {U' : List Nat} (x : InvX prog w c U σ h xsN xsF fa) (hU : ∀ k ∈ U', k ∈ U) : InvX prog w c U' σ h xsN xsF fa :=
  { x with own := fun k hk => x.own k (hU k hk) }

/-- N[k] = i -/
theorem InvX.setN (ok : c.Ok prog w) (x : InvX prog w c U σ h xsN xsF fa) {k : Nat} (hk : k < c.m) {i : Int} {t : Tok} (hd : h'.DictOfH (nk prog w c) c.dN (storedH xsN k (c.nd k) (.int i t))) (hs : Heap.SameBut c.dN h h') :
    InvX prog w c U { σ with N := upd σ.N k i } h' (storedH xsN k (c.nd k) (.int i t)) xsF fa := by
  have hsub : Sub c.hs h' := fun a o e => hs.extBut a o (fun e' => by rw [e', none_of_ge ok.newN] at e; cases e) (x.sub a o e)
  refine ⟨hsub, ⟨hd, ?_⟩, ?_, x.oF.ext ok (fun o e => hs.extBut _ o (Ne.symm ok.dNF) e) hsub, x.vF, ?_, ?_, x.own, x.new⟩
  · exact mem_stored (P := fun a b => a < c.m ∧ b = c.nd a) x.oN.2 ⟨hk, rfl⟩
  · intro j hj
    rw [valAt_stored]
    by_cases e : j = k
    · subst e; exact ⟨t, by simp [upd_self]⟩
    · simp only [if_neg e, upd_ne _ _ e]; exact x.vN j hj
  · exact x.stk.at fun o e => hs.extBut _ o (x.neqN x.stk) e
  · intro j l e
    have hp := x.ls j l e
    exact hp.at fun o e' => hs.extBut _ o (by obtain ⟨vs, p, _⟩ := hp; exact x.neqN p) e'

/-- F[k] = a list that is k's own from now on (or that k shares) -/
theorem InvX.setF (ok : c.Ok prog w) {U' : List Nat} (x : InvX prog w c U σ h xsN xsF fa) {k : Nat} (hk : k < c.m) {fl : Addr} {l : List Str} (hl : StrL c.abc h fl l) (hnew : c.hs.get? fl = none ∧ fl ≠ c.sk)
    (hU : ∀ j ∈ U', (j = k ∧ ∀ i, i ≠ k → σ.F i ≠ none → fa i ≠ fl) ∨ (j ≠ k ∧ j ∈ U ∧ fl ≠ fa j))
    (hd : h'.DictOfH (nk prog w c) c.dF (storedH xsF k (c.nd k) (.ref fl))) (hs : Heap.SameBut c.dF h h') :
    InvX prog w c U' { σ with F := upd σ.F k (some l) } h' xsN (storedH xsF k (c.nd k) (.ref fl)) (upd fa k fl) := by
  have hsub : Sub c.hs h' := fun a o e => hs.extBut a o (fun e' => by rw [e', none_of_ge ok.newF] at e; cases e) (x.sub a o e)
  have stay : ∀ {a : Addr} {l : List Str}, StrL c.abc h a l → StrL c.abc h' a l := fun {a l} hp => hp.at fun o e' => hs.extBut _ o (by obtain ⟨vs, p, _⟩ := hp; exact x.neqF p) e'
  refine ⟨hsub, x.oN.ext ok (fun o e => hs.extBut _ o ok.dNF e) hsub, x.vN, ⟨hd, ?_⟩, ?_, ?_, ?_, ?_, ?_⟩
  · exact mem_stored (P := fun a b => a < c.m ∧ b = c.nd a) x.oF.2 ⟨hk, rfl⟩
  · intro j
    rw [valAt_stored]
    by_cases e : j = k
    · subst e; simp [upd_self]
    · simp only [if_neg e, upd_ne _ _ e]; exact x.vF j
  · exact x.stk.at fun o e => hs.extBut _ o (x.neqF x.stk) e
  · intro j l' e
    by_cases ejk : j = k
    · subst ejk
      simp only [upd_self, Option.some.injEq] at e ⊢
      subst e; exact stay hl
    · simp only [upd_ne _ _ ejk] at e ⊢
      exact stay (x.ls j l' e)
  · intro j hj i hij hi
    rcases hU j hj with ⟨rfl, hf⟩ | ⟨hjk, hjU, hfl⟩
    · rw [upd_self]
      simp only [upd_ne _ _ hij] at hi ⊢
      exact hf i hij hi
    · rw [upd_ne _ _ hjk]
      by_cases hik : i = k
      · subst hik; rw [upd_self]; exact hfl
      · simp only [upd_ne _ _ hik] at hi ⊢
        exact x.own j hjU i hij hi
  · intro j hj
    by_cases e : j = k
    · subst e; rw [upd_self]; exact hnew
    · simp only [upd_ne _ _ e] at hj ⊢; exact x.new j hj

/-- F[k].append(a) -/
theorem InvX.append (ok : c.Ok prog w) (x : InvX prog w c U σ h xsN xsF fa) {k : Nat} {l l' : List Str} (hk : k ∈ U) (hF : σ.F k = some l) (hs : Heap.SameBut (fa k) h h') (hl : StrL c.abc h' (fa k) l') :
    InvX prog w c U { σ with F := upd σ.F k (some l') } h' xsN xsF fa := by
  have hFk : σ.F k ≠ none := by rw [hF]; exact fun e => by cases e
  have hsub : Sub c.hs h' := fun a o e => hs.extBut a o (fun e' => by rw [e', (x.new k hFk).1] at e; cases e) (x.sub a o e)
  obtain ⟨vs, hp, _⟩ := x.ls k l hF
  refine ⟨hsub, x.oN.ext ok (fun o e => hs.extBut _ o (Ne.symm (x.neqN hp)) e) hsub, x.vN, x.oF.ext ok (fun o e => hs.extBut _ o (Ne.symm (x.neqF hp)) e) hsub, ?_, ?_, ?_, ?_, ?_⟩
  · intro j
    by_cases e : j = k
    · subst e
      rw [x.vF j, hF]; simp [upd_self]
    · simp only [upd_ne _ _ e]; exact x.vF j
  · exact x.stk.at fun o e => hs.extBut _ o (Ne.symm (x.new k hFk).2) e
  · intro j l'' e
    by_cases ejk : j = k
    · subst ejk
      simp only [upd_self, Option.some.injEq] at e
      subst e; exact hl
    · simp only [upd_ne _ _ ejk] at e
      exact (x.ls j l'' e).at fun o e' => hs.extBut _ o (x.own k hk j ejk (by rw [e]; exact fun e => by cases e)) e'
  · intro j hj i hij hi
    refine x.own j hj i hij ?_
    by_cases e : i = k
    · subst e; exact hFk
    · simpa only [upd_ne _ _ e] using hi
  · intro j hj
    refine x.new j ?_
    by_cases e : j = k
    · subst e; exact hFk
    · simpa only [upd_ne _ _ e] using hj

/-- the stack turns -/
theorem InvX.stack (ok : c.Ok prog w) (x : InvX prog w c U σ h xsN xsF fa) {st : List Nat} (hs : Heap.SameBut c.sk h h') (hp : h'.PlainList c.sk (st.reverse.map fun k => Value.ref (c.nd k)).toArray) :
    InvX prog w c U { σ with stk := st } h' xsN xsF fa := by
  have hsub : Sub c.hs h' := fun a o e => hs.extBut a o (fun e' => by rw [e', none_of_ge ok.news] at e; cases e) (x.sub a o e)
  refine ⟨hsub, x.oN.ext ok (fun o e => hs.extBut _ o (Ne.symm (x.neqN x.stk)) e) hsub, x.vN, x.oF.ext ok (fun o e => hs.extBut _ o (Ne.symm (x.neqF x.stk)) e) hsub, x.vF, hp, ?_, x.own, x.new⟩
  intro j l e
  exact (x.ls j l e).at fun o e' => hs.extBut _ o (x.new j (by rw [e]; exact fun e => by cases e)).2 e'
end
end Mine

end
section
/- MT1 -/
open PySem PySem.W PyProof.Rows
set_option maxRecDepth 100000
set_option linter.unusedVariables false
namespace Mine
def trStmt : Stmt := match PySem.Challenge.pw_kk0044_01.main.body with | _ :: _ :: _ :: s :: _ => s | _ => .Pass default
def trParams : Arguments := match trStmt with | .FunctionDef _ a _ _ _ _ _ _ _ _ => a | _ => { posonlyargs := [], args := [], vararg := none, kwonlyargs := [], kw_defaults := [], kwarg := none, defaults := [] }
def trBody : List Stmt := match trStmt with | .FunctionDef _ _ b _ _ _ _ _ _ _ => b | _ => []
def trScope : Scope := match trStmt with | .FunctionDef _ _ _ _ _ _ s _ _ _ => s | _ => default
abbrev trEnv (L : Addr) : Env := envOf (Str.ofString "traverse") trScope L 28 (.ref 27)
theorem k1 (L : Addr) : (trEnv L).kindOf "x" = some .local := by rfl
theorem k2 (L : Addr) : (trEnv L).kindOf "element" = some .local := by rfl
theorem k3 (L : Addr) : (trEnv L).kindOf "MAXINT" = some .globalImplicit := by rfl
theorem bindsTo (pm : Value) (a1 a2 a3 a4 a5 a6 a7 : Value) (doc : Value) : bindArgs (Calls.docDef "traverse" trParams trBody trScope pm (.ref 27) doc) ⟨[a1, a2, a3, a4, a5, a6, a7], []⟩ = pure [(Str.ofString "x", a1), (Str.ofString "N", a2), (Str.ofString "stack", a3), (Str.ofString "F", a4), (Str.ofString "X", a5), (Str.ofString "R", a6), (Str.ofString "FP", a7)] := by rfl
end Mine

end
section
/- MTr1 -/
open PySem PySem.W PyProof.Rows
set_option maxRecDepth 100000
set_option linter.unusedVariables false
namespace Mine
section
variable {prog : Program} {w : World}

/-- the frame of a visit of x -/
structure TFr (c : Cfg) (L : Addr) (x : Nat) (h : Heap) (mm : Str → Option Value) : Prop where
  fr : Fr c.hs L h mm
  neN : L ≠ c.dN
  neF : L ≠ c.dF
  x : mm (Str.ofString "x") = some (.ref (c.nd x))
  N : mm (Str.ofString "N") = some (.ref c.dN)
  stack : mm (Str.ofString "stack") = some (.ref c.sk)
  F : mm (Str.ofString "F") = some (.ref c.dF)
  X : mm (Str.ofString "X") = some c.oX
  R : mm (Str.ofString "R") = some (.ref c.lR)
  FP : mm (Str.ofString "FP") = some (.ref c.lFP)

variable {c : Cfg} {A : Around} {E : Value → Shared → Prop} {s : Shared} {L : Addr} {x : Nat} {mm : Str → Option Value} {U : List Nat} {σ : St Str} {h h' : Heap} {xsN xsF : List (Nat × Addr × Value)} {fa : Nat → Addr}

theorem TFr.sub (T : TFr c L x h mm) (hk : Sub h h') : TFr c L x h' mm := { T with fr := ⟨T.fr.ns.keeps hk, fun b o e => hk b o (T.fr.keep b o e), T.fr.above⟩ }
theorem TFr.hs0 (T : TFr c L x h mm) : c.hs.get? L = none := none_of_ge T.fr.above
theorem TFr.but {a : Addr} (T : TFr c L x h mm) (hk : Heap.ExtBut a h h') (hL : L ≠ a) (h0 : c.hs.get? a = none) : TFr c L x h' mm :=
  { T with fr := ⟨T.fr.ns.extBut hk hL, fun b o e => hk b o (fun e' => by rw [e', h0] at e; cases e) (T.fr.keep b o e), T.fr.above⟩ }
theorem TFr.notList (T : TFr c L x h mm) : ∀ its, ¬ h.PlainList L its := notList_of_ns T.fr.ns
theorem TFr.ch (T : TFr c L x h mm) (hk : Ch c.dN c.dF h h') (hsub : Sub c.hs h') : TFr c L x h' mm :=
  { T with fr := ⟨T.fr.ns.at' fun o e => hk L o e T.neN T.neF T.notList, hsub, T.fr.above⟩ }

/-- a local name is stored -/
theorem TFr.store {y : Str} {v : Value} {Q : Unit → Shared → Prop} (T : TFr c L x s.heap mm) (ok : c.Ok prog w) (I : InvX prog w c U σ s.heap xsN xsF fa)
    (hl : (trEnv L).kindOf y = some .local) (hy : ([Str.ofString "x", Str.ofString "N", Str.ofString "stack", Str.ofString "F", Str.ofString "X", Str.ofString "R", Str.ofString "FP"].all fun z => decide (z ≠ y)) = true)
    (h : ∀ h', TFr c L x h' (fun z => if z = y then some v else mm z) → InvX prog w c U σ h' xsN xsF fa → Heap.SameBut L s.heap h' → Q () { s with heap := h', toks := s.toks + 1 }) :
    wpAny (model prog w) A (storeName (trEnv L) y v) Q E s := by
  refine wpAny_storeName_local hl T.fr.ns (fun h' hn hs => h h' ?_ ?_ hs) (by rfl)
  · simp only [List.all_cons, List.all_nil, Bool.and_true, Bool.and_eq_true, decide_eq_true_eq] at hy
    obtain ⟨h1, h2, h3, h4, h5, h6, h7⟩ := hy
    refine ⟨T.fr.set hn hs, T.neN, T.neF, ?_, ?_, ?_, ?_, ?_, ?_, ?_⟩
    · rw [if_neg h1]; exact T.x
    · rw [if_neg h2]; exact T.N
    · rw [if_neg h3]; exact T.stack
    · rw [if_neg h4]; exact T.F
    · rw [if_neg h5]; exact T.X
    · rw [if_neg h6]; exact T.R
    · rw [if_neg h7]; exact T.FP
  · exact I.but ok hs.extBut T.hs0 T.neN T.neF T.notList

theorem rd {y : Str} {pos : Pos} {v : Value} {Q : Value → Shared → Prop} (T : TFr c L x s.heap mm) (hv : mm y = some v) (h : Q v s) (hl : (trEnv L).kindOf y = some .local := by rfl) (hd : (y == ("__debug__" : Str)) = false := by decide) :
    wpAny (model prog w) A (eval (.Name y pos) (trEnv L)) Q E s := ld T.fr hv h (by rfl) hl hd

theorem rd_max {pos : Pos} {Q : Value → Shared → Prop} (T : TFr c L x s.heap mm) (ok : c.Ok prog w) (h : ∀ t, Q (.int BIG t) s) : wpAny (model prog w) A (eval (.Name (Str.ofString "MAXINT") pos) (trEnv L)) Q E s := by
  obtain ⟨mg, mb, hg, hb, ⟨t, e1⟩, _⟩ := ok.top
  exact ld_global_at T.fr hg e1 (h t)
theorem rd_trav {pos : Pos} {Q : Value → Shared → Prop} (T : TFr c L x s.heap mm) (ok : c.Ok prog w) (h : Q (.ref 28) s) : wpAny (model prog w) A (eval (.Name (Str.ofString "traverse") pos) (trEnv L)) Q E s := by
  obtain ⟨mg, mb, hg, hb, _, e1, _⟩ := ok.top
  exact ld_global_at T.fr hg e1 h
theorem rd_len {pos : Pos} {Q : Value → Shared → Prop} (T : TFr c L x s.heap mm) (ok : c.Ok prog w) (h : Q (.builtin "len") s) : wpAny (model prog w) A (eval (.Name (Str.ofString "len") pos) (trEnv L)) Q E s := by
  obtain ⟨mg, mb, hg, hb, _, _, e1, _, e2, _⟩ := ok.top
  exact ld_builtin_at T.fr hg e1 hb e2 h
theorem rd_min {pos : Pos} {Q : Value → Shared → Prop} (T : TFr c L x s.heap mm) (ok : c.Ok prog w) (h : Q (.builtin "min") s) : wpAny (model prog w) A (eval (.Name (Str.ofString "min") pos) (trEnv L)) Q E s := by
  obtain ⟨mg, mb, hg, hb, _, _, _, e1, _, e2⟩ := ok.top
  exact ld_builtin_at T.fr hg e1 hb e2 h

theorem atKey_of_val {xs : List (Nat × Addr × Value)} {k : Nat} {v : Value} (h : valAt xs k = some v) : ∃ p, atKey xs k = some p ∧ p.2 = v := by
  unfold valAt at h
  cases e : atKey xs k with
  | none => rw [e] at h; cases h
  | some p => rw [e] at h; exact ⟨p, rfl, by simpa using h⟩
theorem valAt_none {xs : List (Nat × Addr × Value)} {k : Nat} (h : valAt xs k = none) : atKey xs k = none := by
  unfold valAt at h
  cases e : atKey xs k with
  | none => rfl
  | some p => rw [e] at h; cases h

theorem Room.in1 (r : Room A) : A.in1.units < cLine := by
  have := r.2.2
  show A.units + 1 < cLine
  omega
theorem Room.units (r : Room A) : A.units < cLine := by have := r.2.2; omega

/-- N[node] -/
theorem get_N {k : Nat} {Q : Value → Shared → Prop} (ok : c.Ok prog w) (r : Room A) (I : InvX prog w c U σ s.heap xsN xsF fa) (hk : k < c.m) (h : ∀ t tk, Q (.int (σ.N k) t) { s with toks := tk }) :
    wpAny (model prog w) A (getItem (.ref c.dN) (.ref (c.nd k))) Q E s := by
  obtain ⟨t, e⟩ := I.vN k hk
  obtain ⟨p, e1, e2⟩ := atKey_of_val e
  exact wpAny_getItem_heap (knd := nk prog w c) r.in1 (ok.node_at I.sub hk) I.oN.1 e1 (by rw [e2]; exact h t _)
theorem get_F {k : Nat} {l : List Str} {Q : Value → Shared → Prop} (ok : c.Ok prog w) (r : Room A) (I : InvX prog w c U σ s.heap xsN xsF fa) (hk : k < c.m) (hF : σ.F k = some l) (h : ∀ tk, Q (.ref (fa k)) { s with toks := tk }) :
    wpAny (model prog w) A (getItem (.ref c.dF) (.ref (c.nd k))) Q E s := by
  have e := I.vF k
  rw [hF] at e
  obtain ⟨p, e1, e2⟩ := atKey_of_val e
  exact wpAny_getItem_heap (knd := nk prog w c) r.in1 (ok.node_at I.sub hk) I.oF.1 e1 (by rw [e2]; exact h _)

/-- N[node] = i -/
theorem set_N {k : Nat} {i : Int} {t : Tok} {Q : Unit → Shared → Prop} (ok : c.Ok prog w) (r : Room A) (I : InvX prog w c U σ s.heap xsN xsF fa) (T : TFr c L x s.heap mm) (hk : k < c.m)
    (h : ∀ h' tk xsN', TFr c L x h' mm → InvX prog w c U { σ with N := upd σ.N k i } h' xsN' xsF fa → Heap.SameBut c.dN s.heap h' → Q () { s with heap := h', toks := tk }) :
    wpAny (model prog w) A (setItem (.ref c.dN) (.ref (c.nd k)) (.int i t)) Q E s :=
  wpAny_setItem_heap (knd := nk prog w c) r.in1 (ok.node_at I.sub hk) I.oN.1 (fun h' hd hs => h h' _ _ (T.but hs.extBut T.neN (none_of_ge ok.newN)) (I.setN ok hk hd hs) hs)
    (by have := I.oN.len; have := ok.m8; rw [show sizeLine = 16777216 from rfl]; omega)
theorem set_F {U' : List Nat} {k : Nat} {fl : Addr} {l : List Str} {Q : Unit → Shared → Prop} (ok : c.Ok prog w) (r : Room A) (I : InvX prog w c U σ s.heap xsN xsF fa) (T : TFr c L x s.heap mm) (hk : k < c.m)
    (hl : StrL c.abc s.heap fl l) (hnew : c.hs.get? fl = none ∧ fl ≠ c.sk) (hU : ∀ j ∈ U', (j = k ∧ ∀ i, i ≠ k → σ.F i ≠ none → fa i ≠ fl) ∨ (j ≠ k ∧ j ∈ U ∧ fl ≠ fa j))
    (h : ∀ h' tk xsF', TFr c L x h' mm → InvX prog w c U' { σ with F := upd σ.F k (some l) } h' xsN xsF' (upd fa k fl) → Heap.SameBut c.dF s.heap h' → Q () { s with heap := h', toks := tk }) :
    wpAny (model prog w) A (setItem (.ref c.dF) (.ref (c.nd k)) (.ref fl)) Q E s :=
  wpAny_setItem_heap (knd := nk prog w c) r.in1 (ok.node_at I.sub hk) I.oF.1 (fun h' hd hs => h h' _ _ (T.but hs.extBut T.neF (none_of_ge ok.newF)) (I.setF ok hk hl hnew hU hd hs) hs)
    (by have := I.oF.len; have := ok.m8; rw [show sizeLine = 16777216 from rfl]; omega)

theorem tail_dict {d : Addr} {a : Addr} {value slice : Expr} {xs : List (Nat × Addr × Value)} {Q : Value → Shared → Prop} (I : s.heap.DictOfH (nk prog w c) d xs) (h : wpAny (model prog w) A (getItem (.ref d) (.ref a)) Q E s)
    (hs : subscripted slice false (.ref d) (.ref a) = operate [.ref d, .ref a] (getItem (.ref d) (.ref a))) : wpAny (model prog w) A (subscriptTail value slice (.ref d) (.ref a)) Q E s :=
  tail_any I.typeIs slot_dict_getitem.lookup h hs
theorem tail_list {l : Addr} {i : Int} {t : Tok} {value slice : Expr} {its : Array Value} {Q : Value → Shared → Prop} (I : s.heap.IsList l its) (h : wpAny (model prog w) A (getItem (.ref l) (.int i t)) Q E s)
    (hs : subscripted slice false (.ref l) (.int i t) = operate [.ref l, .int i t] (getItem (.ref l) (.int i t))) : wpAny (model prog w) A (subscriptTail value slice (.ref l) (.int i t)) Q E s :=
  tail_any I.typeIs slot_list_getitem.lookup h hs

/-- a def or a lambda is called by its value -/
theorem callWith_fn {f : Addr} {args : List Expr} {env : Env} {pos : Pos} {Q : Value → Shared → Prop} (hf : ∃ o fd, s.heap.get? f = some o ∧ o.data = .func fd) (hplain : (backTo pos (starEach args env)).any (·.1) = false)
    (h : wpAny (model prog w) A (spliced (backTo pos (starEach args env))) (fun vs s₁ => (∃ o fd, s₁.heap.get? f = some o ∧ o.data = .func fd) ∧ wpAny (model prog w) A (call (.ref f) vs) Q E s₁) E s)
    (hne : ∃ a r, backTo pos (starEach args env) = (false, a) :: r := by exact ⟨_, _, rfl⟩) : wpAny (model prog w) A (callWith pos (.ref f) [] (backTo pos (starEach args env)) []) Q E s := by
  refine callWith_of (P := fun h => ∃ o fd, h.get? f = some o ∧ o.data = .func fd) (by rw [hplain]; rfl) ?_ ?_
  · rintro h ⟨o, fd, ho, hd⟩
    refine ⟨.frame, .inl rfl, (Looks.ld (part := none) ho).andThen ?_⟩
    rw [hd]
    exact .now
  · obtain ⟨a, r, e⟩ := hne
    rw [e] at h ⊢
    exact Calls.evalArgs_plain h

end
end Mine

end
section
/- MTr2 -/
open PySem PySem.W PyProof.Rows
set_option maxRecDepth 100000
set_option linter.unusedVariables false
namespace Mine

theorem union_snoc {α : Type} [DecidableEq α] (l r : List α) (a : α) : union l (r ++ [a]) = if a ∈ union l r then union l r else union l r ++ [a] := by
  unfold union
  rw [List.foldl_append]
  rfl

theorem strsAre_get : ∀ {vs : List Value} {ss : List Str}, StrsAre vs ss → ∀ {i : Nat} {x : Str}, ss[i]? = some x → ∃ t, vs[i]? = some (.str x t)
  | _, _, .nil, i, x, h => by simp at h
  | _, _, .cons y t r, 0, x, h => by simp at h; subst h; exact ⟨t, rfl⟩
  | _, _, .cons y t r, i + 1, x, h => by
    simp only [List.getElem?_cons_succ] at h ⊢
    exact strsAre_get r h
theorem strsAre_len : ∀ {vs : List Value} {ss : List Str}, StrsAre vs ss → vs.length = ss.length
  | _, _, .nil => rfl
  | _, _, .cons y t r => by simp [strsAre_len r]
theorem strsAre_snoc {y : Str} {t : Tok} : ∀ {vs : List Value} {ys : List Str}, StrsAre vs ys → StrsAre (vs ++ [.str y t]) (ys ++ [y])
  | _, _, .nil => .cons y t .nil
  | _, _, .cons z u r => .cons z u (strsAre_snoc r)
theorem readsAll_strs (h : Heap) : ∀ {vs : List Value} {ss : List Str}, StrsAre vs ss → ReadsAll h vs (ss.map .str) []
  | _, _, .nil => .nil
  | _, _, .cons x t r => .cons (as := []) (.str x t) (readsAll_strs h r)
theorem canLay_strs : ∀ {ss : List Str}, (∀ x ∈ ss, PyData.strOk x = true) → PyData.canLayAll0 (ss.map .str) = true
  | [], _ => rfl
  | x :: r, h => by
    simp only [List.map_cons, PyData.canLayAll0, PyData.canLay0, Bool.and_eq_true]
    exact ⟨h x (by simp), canLay_strs fun y hy => h y (by simp [hy])⟩
theorem depth_strs : ∀ (ss : List Str), PyData.depthAll (ss.map .str) = 0
  | [] => rfl
  | x :: r => by simp only [List.map_cons, PyData.depthAll, PyData.depth, depth_strs r, Nat.max_self]
theorem any_strs (a : Str) : ∀ (ss : List Str), (ss.map PyData.str).any (fun y => y.eqv (.str a)) = decide (a ∈ ss)
  | [] => by simp
  | x :: r => by
    rw [List.map_cons, List.any_cons, any_strs a r]
    show ((x == a) || decide (a ∈ r)) = decide (a ∈ x :: r)
    by_cases hx : x = a
    · subst hx; simp
    · have : ¬ a = x := fun e => hx e.symm
      simp [hx, this]

theorem mem_len {α : Type} [DecidableEq α] : ∀ (l abc : List α), l.Nodup → (∀ x ∈ l, x ∈ abc) → l.length ≤ abc.length
  | [], abc, _, _ => by simp
  | a :: r, abc, hn, h => by
    rw [List.nodup_cons] at hn
    have ha : a ∈ abc := h a (by simp)
    have := mem_len r (abc.erase a) hn.2 (fun x hx => by
      have hxa : x ≠ a := fun e => hn.1 (e ▸ hx)
      exact (List.mem_erase_of_ne hxa).mpr (h x (by simp [hx])))
    rw [List.length_erase_of_mem ha] at this
    have hpos : 0 < abc.length := List.length_pos_of_mem ha
    simp only [List.length_cons]
    omega

/-- all that is no plain list, none of the two dicts and not the frame stays -/
def ChL (c : Cfg) (L : Addr) (h h' : Heap) : Prop := ∀ a o, h.get? a = some o → a ≠ L → a ≠ c.dN → a ≠ c.dF → (∀ its, ¬ h.PlainList a its) → h'.get? a = some o
theorem ChL.refl {c : Cfg} {L : Addr} {h : Heap} : ChL c L h h := fun _ _ e _ _ _ _ => e
theorem ChL.trans {c : Cfg} {L : Addr} {h₁ h₂ h₃ : Heap} (x : ChL c L h₁ h₂) (y : ChL c L h₂ h₃) : ChL c L h₁ h₃ := fun a o e hL hN hF hl =>
  y a o (x a o e hL hN hF hl) hL hN hF fun its ⟨n, e'⟩ => hl its ⟨n, by rw [x a o e hL hN hF hl] at e'; rw [e]; exact e'⟩
theorem ChL.sub {c : Cfg} {L : Addr} {h h' : Heap} (x : Sub h h') : ChL c L h h' := fun a o e _ _ _ _ => x a o e
theorem ChL.self {c : Cfg} {L : Addr} {h h' : Heap} (x : Heap.ExtBut L h h') : ChL c L h h' := fun a o e hL _ _ _ => x a o hL e
theorem ChL.dN {c : Cfg} {L : Addr} {h h' : Heap} (x : Heap.ExtBut c.dN h h') : ChL c L h h' := fun a o e _ hN _ _ => x a o hN e
theorem ChL.dF {c : Cfg} {L : Addr} {h h' : Heap} (x : Heap.ExtBut c.dF h h') : ChL c L h h' := fun a o e _ _ hF _ => x a o hF e
theorem ChL.list {c : Cfg} {L a : Addr} {h h' : Heap} {its : Array Value} (hp : h.PlainList a its) (x : Heap.ExtBut a h h') : ChL c L h h' := fun b o e _ _ _ hl => x b o (fun e' => hl its (e' ▸ hp)) e
theorem ChL.ch {c : Cfg} {L : Addr} {h h' : Heap} (x : Ch c.dN c.dF h h') : ChL c L h h' := fun a o e _ hN hF hl => x a o e hN hF hl
/-- an object that was not there, or the one object a that is left out -/
theorem ChL.but {c : Cfg} {L a : Addr} {h₀ h h' : Heap} (x : ChL c L h₀ h) (hb : Heap.ExtBut a h h') (h0 : h₀.get? a = none) : ChL c L h₀ h' := fun b o e hL hN hF hl =>
  hb b o (fun e' => by rw [e', h0] at e; cases e) (x b o e hL hN hF hl)

theorem PlainList.plainL {h : Heap} {a : Addr} {its : Array Value} (x : h.PlainList a its) : PlainL h a its := let ⟨n, e⟩ := x; ⟨_, n, e, rfl, rfl, rfl⟩
theorem StrL.reads {abc : List Str} {h : Heap} {a : Addr} {l : List Str} (x : StrL abc h a l) : Reads h (.ref a) (.list (l.map .str)) [a] := by
  obtain ⟨vs, n, e, hs, _⟩ := x.get
  exact .list (as := []) e rfl rfl (by simpa using readsAll_strs h hs)

section
variable {prog : Program} {w : World}
variable {c : Cfg} {A : Around} {E : Value → Shared → Prop} {s : Shared} {L : Addr} {x : Nat} {mm : Str → Option Value} {U : List Nat} {σ : St Str} {h h' : Heap} {xsN xsF : List (Nat × Addr × Value)} {fa : Nat → Addr}

/-- F[x] in the frame -/
theorem ev_Fx {p1 p2 p3 : Pos} {l : List Str} {Q : Value → Shared → Prop} (ok : c.Ok prog w) (r : Room A) (T : TFr c L x s.heap mm) (I : InvX prog w c U σ s.heap xsN xsF fa) (hx : x < c.m) (hF : σ.F x = some l)
    (h : ∀ tk, Q (.ref (fa x)) { s with toks := tk }) : wpAny (model prog w) A (eval (.Subscript (.Name (Str.ofString "F") p1) (.Name (Str.ofString "x") p2) p3) (trEnv L)) Q E s := by
  refine Subscript_ (rd T T.F (rd T T.x ?_))
  exact tail_dict (c := c) I.oF.1 (get_F ok r I hx hF h) rfl

/-- the turn of the inner loop -/
theorem inner_turn {l : List Str} {a : Str} {t : Tok} {Q : Flow → Shared → Prop} {p1 p2 p3 p4 p5 p6 p7 p8 p9 p10 p11 p12 p13 : Pos} (ok : c.Ok prog w) (r : Room A) (T : TFr c L x s.heap mm) (I : InvX prog w c U σ s.heap xsN xsF fa) (hx : x < c.m) (hxU : x ∈ U)
    (hF : σ.F x = some l) (ha : mm (Str.ofString "a") = some (.str a t)) (haB : a ∈ c.abc) (hpos : (p9.endLine == p11.line) = true)
    (h : ∀ h' tk, TFr c L x h' mm → InvX prog w c U { σ with F := upd σ.F x (some (if a ∈ l then l else l ++ [a])) } h' xsN xsF fa → Heap.ExtBut (fa x) s.heap h' → Q .next { s with heap := h', toks := tk }) :
    wpAny (model prog w) A (execs [.If (.Compare (.Name (Str.ofString "a") p1) [.NotIn] [.Subscript (.Name (Str.ofString "F") p2) (.Name (Str.ofString "x") p3) p4] p5)
      [.Expr (.Call (.Attribute (.Subscript (.Name (Str.ofString "F") p6) (.Name (Str.ofString "x") p7) p8) (Str.ofString "append") p9) [.Name (Str.ofString "a") p10] [] p11) p12] [] p13] (trEnv L)) Q E s := by
  have hS := I.ls x l hF
  obtain ⟨vs, n, ho, hst, hnd, habc⟩ := hS.get
  refine wpAny_execs_cons (wpAny_If (wpAny_isTrue_Compare1 (rd T ha (ev_Fx ok r T I hx hF fun tk => ?_))))
  refine SeqAt.notIn_list_reads (as := [fa x]) (bs := []) (d := .str a) hS.reads (.str a t) (canLay_strs fun y hy => ok.abcOk y (habc y hy)) (ok.abcOk a haB) (by rw [depth_strs]; have := r.in1; simpa using this) ?_
  rw [any_strs]
  refine wpAny_truthy_bool ?_
  by_cases hin : a ∈ l
  · simp only [hin, decide_true, Bool.not_true, Bool.false_eq_true, if_false]
    refine wpAny_execs_nil (wpAny_execs_nil ?_)
    have := h s.heap tk T (by
      simp only [hin, if_true]
      have e : upd σ.F x (some l) = σ.F := by
        funext j
        by_cases hj : j = x
        · subst hj; rw [upd_self, hF]
        · rw [upd_ne _ _ hj]
      rw [e]; exact I) (fun b o _ e => e)
    exact this
  · simp only [hin, decide_false, Bool.not_false, if_true]
    refine wpAny_execs_cons (wpAny_Expr_any (wpAny_Call_append rfl rfl hpos rfl (ev_Fx ok r (s := { s with toks := tk }) T I hx hF fun tk2 => ?_)))
    have hp : s.heap.PlainList (fa x) vs.toArray := ⟨n, ho⟩
    refine ⟨fa x, vs.toArray, rfl, PlainList.plainL hp, rd T ha ?_⟩
    have hlen : vs.length ≤ 100 := by
      have := mem_len l c.abc hnd habc
      have := strsAre_len hst
      have h3 := ok.abclen
      omega
    refine wpAny_list_append_plain hp (fun h' hp' hs => ?_) (by rw [show sizeLine = 16777216 from rfl]; simp; omega)
    have hne : L ≠ fa x := fun e => T.notList _ (e ▸ hp)
    refine wpAny_execs_nil (wpAny_execs_nil (h h' tk2 (T.but hs.extBut hne ?_) ?_ hs.extBut))
    · exact (I.new x (by rw [hF]; exact fun e => by cases e)).1
    · simp only [hin, if_false]
      refine I.append ok hxU hF hs ⟨vs ++ [.str a t], ?_, ?_, ?_, ?_⟩
      · simpa using hp'
      · exact strsAre_snoc hst
      · rw [List.nodup_append]
        refine ⟨hnd, by simp, ?_⟩
        intro y hy z hz
        simp only [List.mem_singleton] at hz
        subst hz
        exact fun e => hin (e ▸ hy)
      · intro y hy
        rcases List.mem_append.mp hy with hy | hy
        · exact habc y hy
        · simp only [List.mem_singleton] at hy; subst hy; exact haB
end
end Mine

end
section
/- MTr3 -/
open PySem PySem.W PyProof.Rows
set_option maxRecDepth 100000
set_option linter.unusedVariables false
namespace Mine

theorem upd_upd {β : Type} (f : Nat → β) (x : Nat) (v w : β) : upd (upd f x v) x w = upd f x w := by
  funext j
  by_cases h : j = x
  · subst h; simp [upd_self]
  · simp [upd_ne _ _ h]
theorem upd_same {β : Type} {f : Nat → β} {x : Nat} {v : β} (h : f x = v) : upd f x v = f := by
  funext j
  by_cases e : j = x
  · subst e; rw [upd_self, h]
  · rw [upd_ne _ _ e]

section
variable {prog : Program} {w : World}
variable {c : Cfg} {A : Around} {E : Value → Shared → Prop} {s : Shared} {L : Addr} {x y : Nat} {mm : Str → Option Value} {U : List Nat} {σ : St Str} {h h' : Heap} {xsN xsF : List (Nat × Addr × Value)} {fa : Nat → Addr}

/-- for a in F.get(y, []): .. -/
theorem inner_loop {lx ly : List Str} {Q : Flow → Shared → Prop} {p1 p2 p3 p4 p5 p6 p7 p8 p9 p10 p11 p12 p13 q1 q2 q3 q4 q5 q6 q7 : Pos} (ok : c.Ok prog w) (r : Room A) (T : TFr c L x s.heap mm) (I : InvX prog w c U σ s.heap xsN xsF fa) (hx : x < c.m) (hy : y < c.m) (hxU : x ∈ U)
    (hFx : σ.F x = some lx) (hFy : σ.F y = some ly) (hmy : mm (Str.ofString "y") = some (.ref (c.nd y))) (hpos : (p9.endLine == p11.line) = true) (hpos2 : (q3.endLine == q6.line) = true)
    (h : ∀ h' tk mm', TFr c L x h' mm' → (∀ z, z ≠ Str.ofString "a" → mm' z = mm z) → InvX prog w c U { σ with F := upd σ.F x (some (union lx ly)) } h' xsN xsF fa → ChL c L s.heap h' → Q .next { s with heap := h', toks := tk }) :
    wpAny (model prog w) A (exec (.For (.Name (Str.ofString "a") q1) (.Call (.Attribute (.Name (Str.ofString "F") q2) (Str.ofString "get") q3) [.Name (Str.ofString "y") q4, .List [] q5] [] q6)
      [.If (.Compare (.Name (Str.ofString "a") p1) [.NotIn] [.Subscript (.Name (Str.ofString "F") p2) (.Name (Str.ofString "x") p3) p4] p5)
      [.Expr (.Call (.Attribute (.Subscript (.Name (Str.ofString "F") p6) (.Name (Str.ofString "x") p7) p8) (Str.ofString "append") p9) [.Name (Str.ofString "a") p10] [] p11) p12] [] p13] [] q7) (trEnv L)) Q E s := by
  refine wpAny_For ?_ (by intro _; rfl)
  refine wpAny_Call_method (T := "dict") (id := "dict.get") rfl rfl hpos2 F.plainAttrs_dict F.slot_dict_get F.type_dict_get ?_
  refine rd T T.F ⟨I.oF.1.typeIs, ?_, ?_⟩
  · rintro a ⟨rfl⟩
    obtain ⟨⟨o, es, ep, ho, hc, _⟩, _⟩ := I.oF
    exact ⟨o, ho, hc.2.1⟩
  refine wpAny_dict_get2_heap (knd := nk prog w c) r.in1 ok.sysF (rd T hmy ?_)
  refine wpAny_List (Calls.spliced_nil ⟨by simp, ?_⟩)
  have hsub1 : Sub s.heap (s.heap.push { cls := .type "list", data := .seq ([] : List Value).toArray }) := fun b o e => Heap.get?_push_of_some _ e
  generalize hH1 : s.heap.push { cls := Value.type "list", data := .seq ([] : List Value).toArray } = H1 at hsub1 ⊢
  have I1 := I.ext ok hsub1
  have T1 := T.sub hsub1
  refine ⟨c.nd y, y, xsF, rfl, ok.node_at I1.sub hy, I1.oF.1, ?_⟩
  have e := I.vF y
  rw [hFy] at e
  unfold valAt at e
  rw [e]
  obtain ⟨vs0, n0, ho0, hst0, _⟩ := (I1.ls y ly hFy).get
  show wpAny _ _ (pyIter (.ref (fa y))) _ _ _
  refine wpAny_pyIter_list ⟨_, ho0, rfl, n0, rfl⟩ ?_
  dsimp only
  -- the iterator
  generalize hIt : H1.objs.size = It
  have hsub2 : Sub H1 (H1.push { cls := .type "list_iterator", data := .fields #[.ref (fa y), .int 0 0] }) := fun b o e => Heap.get?_push_of_some _ e
  have hit0 : (H1.push { cls := .type "list_iterator", data := .fields #[.ref (fa y), .int 0 0] }).IsListIter It (fa y) 0 := ⟨_, by rw [← hIt]; exact Heap.get?_push_size _ rfl, rfl, rfl⟩
  have hItnew : H1.get? It = none := none_of_ge (by rw [hIt]; exact Nat.le_refl _)
  generalize hH2 : H1.push { cls := Value.type "list_iterator", data := .fields #[.ref (fa y), .int 0 0] } = H2 at hsub2 hit0 ⊢
  have I2 := I1.ext ok hsub2
  have T2 := T1.sub hsub2
  have hIt0 : s.heap.get? It = none := by
    cases e : s.heap.get? It with
    | none => rfl
    | some o => rw [hsub1 _ _ e] at hItnew; cases hItnew
  have hIths : c.hs.get? It = none := by
    cases e : c.hs.get? It with
    | none => rfl
    | some o => rw [I.sub _ _ e] at hIt0; cases hIt0
  have hItL : L ≠ It := by
    rintro rfl
    obtain ⟨o, _, _, ho, _⟩ := T.fr.ns
    rw [hIt0] at ho; cases ho
  have hItN : It ≠ c.dN := by
    rintro rfl
    obtain ⟨o, _, _, ho, _⟩ := I.oN.data
    rw [hIt0] at ho; cases ho
  have hItF : It ≠ c.dF := by
    rintro rfl
    obtain ⟨o, _, _, ho, _⟩ := I.oF.data
    rw [hIt0] at ho; cases ho
  have hlyabc : ∀ a ∈ ly, a ∈ c.abc := (I.ls y ly hFy).get.choose_spec.choose_spec.2.2.2
  refine codeAny_forLoop (fun n s' => ∃ i h' tk mm', s' = { s with heap := h', toks := tk } ∧ i ≤ ly.length ∧ n = ly.length + 1 - i ∧ TFr c L x h' mm' ∧ (∀ z, z ≠ Str.ofString "a" → mm' z = mm z) ∧
    InvX prog w c U { σ with F := upd σ.F x (some (union lx (ly.take i))) } h' xsN xsF fa ∧ h'.IsListIter It (fa y) i ∧ ChL c L s.heap h') ?_ (ly.length + 1)
    ⟨0, H2, _, mm, rfl, Nat.zero_le _, rfl, T2, fun _ _ => rfl, ?_, hit0, ChL.sub fun b o e => hsub2 _ _ (hsub1 _ _ e)⟩
  · rintro n s' ⟨i, h', tk, mm', rfl, hi, rfl, T', hm', I', hit, hch⟩
    -- the list that is walked
    have hFy' : upd σ.F x (some (union lx (ly.take i))) y = some ly := by
      by_cases hxy : y = x
      · subst hxy
        rw [hFx] at hFy; cases hFy
        rw [upd_self, union_self_of (fun a ha => List.mem_of_mem_take ha)]
      · rw [upd_ne _ _ hxy, hFy]
    obtain ⟨vs, n, ho, hst, _⟩ := (I'.ls y ly hFy').get
    have hlist : h'.IsList (fa y) vs.toArray := ⟨_, ho, rfl, n, rfl⟩
    have hlen := strsAre_len hst
    have hnl : ∀ its, ¬ h'.PlainList It its := notList_of_iter hit
    by_cases hlt : i < ly.length
    · have hget : ly[i]? = some ly[i] := List.getElem?_eq_getElem hlt
      obtain ⟨t, hv⟩ := strsAre_get hst hget
      refine wpAny_pyNext_list_item hit hlist (x := .str ly[i] t) (by simpa using hv) fun h₁ hit₁ hs₁ => ?_
      have T₁ := T'.but hs₁.extBut hItL hIths
      have I₁ := I'.but ok hs₁.extBut hIths hItN hItF hnl
      refine wpAny_assign_Name (T₁.store (s := { s with heap := h₁, toks := tk }) ok I₁ (by rfl) (by decide) fun h₂ T₂ I₂ hs₂ => ?_)
      have hit₂ : h₂.IsListIter It (fa y) (i + 1) := hit₁.extBut hs₂.extBut (Ne.symm hItL)
      refine inner_turn (s := { s with heap := h₂, toks := tk + 1 }) (l := union lx (ly.take i)) (a := ly[i]) (t := t) ok r T₂ I₂ hx hxU (by show upd σ.F x _ x = _; rw [upd_self]) (by simp) (hlyabc _ (List.getElem_mem hlt)) hpos fun h₃ tk₃ T₃ I₃ hs₃ => ?_
      refine ⟨ly.length + 1 - (i + 1), by omega, i + 1, h₃, tk₃, _, rfl, hlt, rfl, T₃, ?_, ?_, ?_, ?_⟩
      · intro z hz
        simp only [hz, if_false]
        exact hm' z hz
      · have hu : union lx (ly.take (i + 1)) = if ly[i] ∈ union lx (ly.take i) then union lx (ly.take i) else union lx (ly.take i) ++ [ly[i]] := by
          rw [List.take_add_one, hget]
          exact union_snoc _ _ _
        rw [hu]
        have := I₃
        simp only [upd_upd] at this
        exact this
      · obtain ⟨_, hp, _⟩ := I₂.ls x _ (by show upd σ.F x _ x = _; rw [upd_self])
        exact hit₂.extBut hs₃ (fun e => notList_of_iter hit₂ _ (e ▸ hp))
      · obtain ⟨_, hp, _⟩ := I₂.ls x _ (by show upd σ.F x _ x = _; rw [upd_self])
        exact ((hch.but hs₁.extBut hIt0).trans (ChL.self hs₂.extBut)).trans (ChL.list hp hs₃)
    · have hin : i = ly.length := by omega
      subst hin
      refine wpAny_pyNext_list_end r.1 hit hlist (by simp [hlen]) fun h₁ hs₁ => wpAny_execs_nil ?_
      have := h h₁ tk mm' (T'.but hs₁ hItL hIths) hm' (by
        have := I'.but ok hs₁ hIths hItN hItF hnl
        rwa [List.take_length] at this) (hch.but hs₁ hIt0)
      exact this
  · have e2 : upd σ.F x (some (union lx (ly.take 0))) = σ.F := by
      refine upd_same ?_
      rw [hFx]; rfl
    rw [e2]; exact I2
end
end Mine

end
section
/- MTr4 -/
open PySem PySem.W PyProof.Rows
set_option maxRecDepth 100000
set_option linter.unusedVariables false
namespace Mine

theorem WF.seenF {α : Type} [DecidableEq α] {m : Nat} {rel : Nat → List Nat} {own : Nat → List α} {σ : St α} (W : WF m rel own σ) {y : Nat} (hy : σ.N y ≠ 0) : ∃ l, σ.F y = some l := by
  by_cases h : y ∈ σ.stk
  · obtain ⟨l, e, _⟩ := W.stkF y h; exact ⟨l, e⟩
  · rcases W.off y h with h0 | hb
    · exact absurd h0 hy
    · obtain ⟨l, e, _⟩ := W.blkF y hb; exact ⟨l, e⟩

section
variable {prog : Program} {w : World}
variable {c : Cfg} {A : Around} {E : Value → Shared → Prop} {s : Shared} {L : Addr} {x y : Nat} {mm : Str → Option Value} {U : List Nat} {σ τ : St Str} {h h' : Heap} {xsN xsF : List (Nat × Addr × Value)} {fa : Nat → Addr}

theorem node_reads {k : Nat} {a : Addr} (hk : (nk prog w c).is h k a) : Reads h (.ref a) (.tuple [.int k, .str (c.nm k)]) [] := by
  obtain ⟨o, items, n, ho, hc, hd, hi⟩ := hk
  unfold nodeKey at hi
  have : ∃ t t', items.toList = [.int k t, .str (c.nm k) t'] := by
    generalize items.toList = l at hi
    cases hi with
    | cons h1 h2 =>
      cases h2 with
      | cons h3 h4 =>
        cases h4
        obtain ⟨t, rfl⟩ := Value.isInt_shape h1
        obtain ⟨t', rfl⟩ := Value.isStrOf_shape h3
        exact ⟨t, t', rfl⟩
  obtain ⟨t, t', e⟩ := this
  exact .tuple (as := []) ho hc hd (by
    rw [e]
    exact .cons (as := []) (bs := []) (.int _ _) (.cons (as := []) (bs := []) (.str _ _) .nil))

theorem node_eqv (nm : Nat → Str) (a b : Nat) : PyData.eqv (.tuple [.int (a : Int), .str (nm a)]) (.tuple [.int (b : Int), .str (nm b)]) = decide (a = b) := by
  show ((decide ((a : Int) = b) : Bool) && ((nm a == nm b) && true)) = decide (a = b)
  by_cases h : a = b
  · subst h; simp
  · have : ¬ (a : Int) = b := by omega
    simp [h, this]

/-- element != x, for two nodes -/
theorem ne_nodes {a b : Nat} {Q : Value → Shared → Prop} (ok : c.Ok prog w) (r : Room A) (hsub : Sub c.hs s.heap) (ha : a < c.m) (hb : b < c.m) (h : Q (.bool (!decide (a = b))) s) :
    wpAny (model prog w) A (compareOp .NotEq (.ref (c.nd a)) (.ref (c.nd b))) Q E s := by
  show wpAny (model prog w) A (richCompare .NotEq _ _) Q E s
  refine neOver prog w A E s _ _ _ _ [] [] Q (node_reads (ok.node_at hsub ha)) (node_reads (ok.node_at hsub hb)) ?_ ?_ ?_ ?_
  · simp [PyData.canLay0, PyData.canLayAll0, ok.nmOk]
  · simp [PyData.canLay0, PyData.canLayAll0, ok.nmOk]
  · have := r.2.2
    simp [PyData.depth, PyData.depthAll]
    omega
  · rw [node_eqv]; exact h

/-- a built-in function called by its value, with one argument or more -/
theorem callWith_bi {id : String} {args : List Expr} {env : Env} {pos : Pos} {Q : Value → Shared → Prop} (hplain : (backTo pos (starEach args env)).any (·.1) = false)
    (h : wpAny (model prog w) A (spliced (backTo pos (starEach args env))) (fun vs s₁ => wpAny (model prog w) A (call (.builtin id) vs) Q E s₁) E s)
    (hne : ∃ a r, backTo pos (starEach args env) = (false, a) :: r := by exact ⟨_, _, rfl⟩) : wpAny (model prog w) A (callWith pos (.builtin id) [] (backTo pos (starEach args env)) []) Q E s := by
  refine callWith_of (P := fun _ => True) (by rw [hplain]; rfl) ?_ ?_
  · intro h _
    exact ⟨.machine, .inr (.inl rfl), Looks.of_pure rfl⟩
  · obtain ⟨a, r, e⟩ := hne
    rw [e] at h ⊢
    exact Calls.evalArgs_plain (wpAny_mono h (fun _ _ q => ⟨trivial, q⟩) fun _ _ e => e)

/-- N[name] in the frame -/
theorem ev_N {k : Nat} {nm : Str} {p1 p2 p3 : Pos} {Q : Value → Shared → Prop} (ok : c.Ok prog w) (r : Room A) (T : TFr c L x s.heap mm) (I : InvX prog w c U σ s.heap xsN xsF fa) (hk : k < c.m) (hm : mm nm = some (.ref (c.nd k))) (hl : (trEnv L).kindOf nm = some .local) (hd : (nm == ("__debug__" : Str)) = false)
    (h : ∀ t tk, Q (.int (σ.N k) t) { s with toks := tk }) : wpAny (model prog w) A (eval (.Subscript (.Name (Str.ofString "N") p1) (.Name nm p2) p3) (trEnv L)) Q E s := by
  refine Subscript_ (rd T T.N (rd T hm ?_ hl hd))
  exact tail_dict (c := c) I.oN.1 (get_N ok r I hk h) rfl

/-- N[x] = min(N[x], N[y]) -/
theorem min_stmt {Q : Flow → Shared → Prop} {p1 p2 p3 p4 p5 p6 p7 p8 p9 p10 p11 p12 : Pos} (ok : c.Ok prog w) (r : Room A) (T : TFr c L x s.heap mm) (I : InvX prog w c U σ s.heap xsN xsF fa) (hx : x < c.m) (hy : y < c.m) (hmy : mm (Str.ofString "y") = some (.ref (c.nd y)))
    (h : ∀ h' tk xsN', TFr c L x h' mm → InvX prog w c U { σ with N := upd σ.N x (min (σ.N x) (σ.N y)) } h' xsN' xsF fa → ChL c L s.heap h' → Q .next { s with heap := h', toks := tk }) :
    wpAny (model prog w) A (exec (.Assign [.Subscript (.Name (Str.ofString "N") p1) (.Name (Str.ofString "x") p2) p3] (.Call (.Name (Str.ofString "min") p4) [.Subscript (.Name (Str.ofString "N") p5) (.Name (Str.ofString "x") p6) p7, .Subscript (.Name (Str.ofString "N") p8) (.Name (Str.ofString "y") p9) p10] [] p11) p12) (trEnv L)) Q E s := by
  refine wpAny_Assign_Subscript ?_ (by rfl)
  refine wpAny_Call_NameR (rd_min T ok ?_)
  refine callWith_bi rfl ?_
  refine Calls.spliced_cons (ev_N ok r T I hx T.x (by rfl) (by decide) fun t1 tk1 => ?_)
  refine Calls.spliced_cons (ev_N (s := { s with toks := tk1 }) ok r T I hy hmy (by rfl) (by decide) fun t2 tk2 => Calls.spliced_nil ?_)
  refine min_two_ints r.1 fun h1 tk3 hk => ?_
  have hmin : (if σ.N y < σ.N x then Value.int (σ.N y) t2 else Value.int (σ.N x) t1) = Value.int (min (σ.N x) (σ.N y)) (if σ.N y < σ.N x then t2 else t1) := by
    by_cases hlt : σ.N y < σ.N x
    · simp only [if_pos hlt]; congr 1; omega
    · simp only [if_neg hlt]; congr 1; omega
  rw [hmin]
  have T1 := T.sub (h' := h1) hk
  have I1 := I.ext ok hk
  refine rd (s := { s with heap := h1, toks := tk3 }) T1 T1.N (rd (s := { s with heap := h1, toks := tk3 }) T1 T1.x ?_)
  refine set_N (s := { s with heap := h1, toks := tk3 }) ok r I1 T1 hx fun h' tk xsN' T' I' hs => h h' tk xsN' T' I' ((ChL.sub hk).trans (ChL.dN hs.extBut))

/-- what a visit of x gives, at a room of n visits more -/
def TravSpec (prog : Program) (w : World) (c : Cfg) (n : Nat) : Prop :=
  ∀ (A : Around) (E : Value → Shared → Prop) (s : Shared) (σ : St Str) (x : Nat) (Q : Value → Shared → Prop), A.handled = none → A.depth + n + 30 < recursionLimit → A.units + 10 * n + 300 < cLine → Pre c.m c.rel c.own σ x → c.m ≤ σ.stk.length + n →
    InvH prog w c σ.stk σ s.heap →
    (∀ h' tk τ, Post c.m c.rel c.own σ x τ → InvH prog w c τ.stk τ h' → Ch c.dN c.dF s.heap h' → Q .none { s with heap := h', toks := tk }) →
    wpAny (model prog w) A (call (.ref 28) [.ref (c.nd x), .ref c.dN, .ref c.sk, .ref c.dF, c.oX, .ref c.lR, .ref c.lFP]) Q E s

structure TrOk (c : Cfg) : Prop where
  fn : ∃ o pm, c.hs.get? 28 = some o ∧ o.data = .func (Calls.docDef (Str.ofString "traverse") trParams trBody trScope pm (.ref 27) .none)
  code : c.hs.CodeRec (.ref 27) (Str.ofString "traverse")

/-- if N[y] == 0: traverse(y, ..) -/
theorem visit_stmt {n : Nat} {done : List Nat} {Q : Flow → Shared → Prop} {p1 p2 p3 p4 p5 p6 p7 p8 p9 p10 p11 p12 p13 p14 p15 p16 : Pos} (IH : TravSpec prog w c n) (ok : c.Ok prog w) (tr : TrOk c) (r : Room A) (hd : A.depth + n + 30 < recursionLimit) (hu : A.units + 10 * n + 300 < cLine)
    (T : TFr c L x s.heap mm) (I : InvH prog w c τ.stk τ s.heap) (P : Pre c.m c.rel c.own σ x) (J : Loop c.m c.rel c.own σ x done τ) (hyr : y ∈ c.rel x) (hn : c.m ≤ τ.stk.length + n) (hmy : mm (Str.ofString "y") = some (.ref (c.nd y)))
    (h : ∀ h' tk τ', TFr c L x h' mm → InvH prog w c τ'.stk τ' h' → Mid c.m c.rel c.own σ x done y τ' → ChL c L s.heap h' → Q .next { s with heap := h', toks := tk }) :
    wpAny (model prog w) A (exec (.If (.Compare (.Subscript (.Name (Str.ofString "N") p1) (.Name (Str.ofString "y") p2) p3) [.Eq] [.Constant (.int 0) 0 p4] p5)
      [.Expr (.Call (.Name (Str.ofString "traverse") p6) [.Name (Str.ofString "y") p7, .Name (Str.ofString "N") p8, .Name (Str.ofString "stack") p9, .Name (Str.ofString "F") p10, .Name (Str.ofString "X") p11, .Name (Str.ofString "R") p12, .Name (Str.ofString "FP") p13] [] p14) p15] [] p16) (trEnv L)) Q E s := by
  obtain ⟨xsN, xsF, fa, I⟩ := I
  have hy : y < c.m := ok.relm x y hyr
  refine wpAny_If (wpAny_isTrue_Compare1 (ev_N ok r T I hy hmy (by rfl) (by decide) fun t tk => ?_))
  refine wpAny_Constant_int ?_
  show wpAny (model prog w) A (richCompare .Eq _ _) _ _ _
  refine wpAny_eq_int (wpAny_truthy_bool ?_)
  by_cases h0 : τ.N y = 0
  · have e : (τ.N y == 0) = true := by simp [h0]
    rw [if_pos e]
    refine wpAny_execs_cons (wpAny_Expr_any (wpAny_Call_NameR (rd_trav (s := { s with toks := tk + 1 }) T ok ?_)))
    obtain ⟨o, pm, ho, hdat⟩ := tr.fn
    refine callWith_fn ⟨o, _, I.sub _ _ ho, hdat⟩ rfl ?_
    refine Calls.spliced_cons (rd (s := { s with toks := tk + 1 }) T hmy (Calls.spliced_cons (rd (s := { s with toks := tk + 1 }) T T.N (Calls.spliced_cons (rd (s := { s with toks := tk + 1 }) T T.stack (Calls.spliced_cons (rd (s := { s with toks := tk + 1 }) T T.F
      (Calls.spliced_cons (rd (s := { s with toks := tk + 1 }) T T.X (Calls.spliced_cons (rd (s := { s with toks := tk + 1 }) T T.R (Calls.spliced_cons (rd (s := { s with toks := tk + 1 }) T T.FP (Calls.spliced_nil ?_))))))))))))))
    refine ⟨⟨o, _, I.sub _ _ ho, hdat⟩, ?_⟩
    refine IH A E { s with toks := tk + 1 } τ y _ r.1 hd hu (loop_pre ok.relm P J hyr h0) hn ⟨xsN, xsF, fa, I⟩ fun h' tk' τ' hP hI hch => ?_
    refine wpAny_execs_nil ?_
    obtain ⟨a, b, f, hI'⟩ := id hI
    exact h h' tk' τ' (T.ch hch hI'.sub) hI (mid_new P J h0 hP) (ChL.ch hch)
  · have e : ¬ (τ.N y == 0) = true := by simp [h0]
    rw [if_neg e]
    refine wpAny_execs_nil ?_
    exact h s.heap (tk + 1) τ T ⟨xsN, xsF, fa, I⟩ (mid_old J h0) ChL.refl
end
end Mine

end
section
/- MTr5 -/
open PySem PySem.W PyProof.Rows
set_option maxRecDepth 100000
set_option linter.unusedVariables false
namespace Mine

section
variable {prog : Program} {w : World}
variable {c : Cfg} {A : Around} {E : Value → Shared → Prop} {s : Shared} {L : Addr} {x y : Nat} {mm : Str → Option Value} {U : List Nat} {σ τ : St Str} {h h' : Heap} {xsN xsF : List (Nat × Addr × Value)} {fa : Nat → Addr}

theorem Loop.len {done : List Nat} (J : Loop c.m c.rel c.own σ x done τ) : σ.stk.length + 1 ≤ τ.stk.length := by
  obtain ⟨new, e, _⟩ := J.ex
  rw [e]; simp

theorem merged_eq {lx ly : List Str} (hx : τ.F x = some lx) (hy : τ.F y = some ly) :
    ({ ({ τ with N := upd τ.N x (min (τ.N x) (τ.N y)) } : St Str) with F := upd τ.F x (some (union lx ly)) } : St Str) = merged τ x y := by
  unfold merged
  rw [hx, hy]; rfl

/-- for y in rel: .. -/
theorem outer_loop {n : Nat} {Q : Flow → Shared → Prop} {p1 p2 p3 p4 p5 p6 p7 p8 p9 p10 p11 p12 p13 p14 p15 p16 : Pos} {a1 a2 a3 a4 a5 a6 a7 a8 a9 a10 a11 a12 : Pos} {b1 b2 b3 b4 b5 b6 b7 b8 b9 b10 b11 b12 b13 q1 q2 q3 q4 q5 q6 q7 f1 f2 f3 : Pos}
    (IH : TravSpec prog w c n) (ok : c.Ok prog w) (tr : TrOk c) (r : Room A) (hd : A.depth + n + 30 < recursionLimit) (hu : A.units + 10 * n + 300 < cLine)
    (T : TFr c L x s.heap mm) (I : InvH prog w c τ.stk τ s.heap) (P : Pre c.m c.rel c.own σ x) (J : Loop c.m c.rel c.own σ x [] τ) (hn : c.m ≤ σ.stk.length + (n + 1)) (hmr : mm (Str.ofString "rel") = some (.ref (c.row x)))
    (hpos : (b9.endLine == b11.line) = true) (hpos2 : (q3.endLine == q6.line) = true)
    (h : ∀ h' tk mm' τ', TFr c L x h' mm' → (∀ z, z ≠ Str.ofString "a" → z ≠ Str.ofString "y" → mm' z = mm z) → InvH prog w c τ'.stk τ' h' → Loop c.m c.rel c.own σ x (c.rel x) τ' → ChL c L s.heap h' → Q .next { s with heap := h', toks := tk }) :
    wpAny (model prog w) A (exec (.For (.Name (Str.ofString "y") f1) (.Name (Str.ofString "rel") f2)
      [.If (.Compare (.Subscript (.Name (Str.ofString "N") p1) (.Name (Str.ofString "y") p2) p3) [.Eq] [.Constant (.int 0) 0 p4] p5)
        [.Expr (.Call (.Name (Str.ofString "traverse") p6) [.Name (Str.ofString "y") p7, .Name (Str.ofString "N") p8, .Name (Str.ofString "stack") p9, .Name (Str.ofString "F") p10, .Name (Str.ofString "X") p11, .Name (Str.ofString "R") p12, .Name (Str.ofString "FP") p13] [] p14) p15] [] p16,
       .Assign [.Subscript (.Name (Str.ofString "N") a1) (.Name (Str.ofString "x") a2) a3] (.Call (.Name (Str.ofString "min") a4) [.Subscript (.Name (Str.ofString "N") a5) (.Name (Str.ofString "x") a6) a7, .Subscript (.Name (Str.ofString "N") a8) (.Name (Str.ofString "y") a9) a10] [] a11) a12,
       .For (.Name (Str.ofString "a") q1) (.Call (.Attribute (.Name (Str.ofString "F") q2) (Str.ofString "get") q3) [.Name (Str.ofString "y") q4, .List [] q5] [] q6)
        [.If (.Compare (.Name (Str.ofString "a") b1) [.NotIn] [.Subscript (.Name (Str.ofString "F") b2) (.Name (Str.ofString "x") b3) b4] b5)
        [.Expr (.Call (.Attribute (.Subscript (.Name (Str.ofString "F") b6) (.Name (Str.ofString "x") b7) b8) (Str.ofString "append") b9) [.Name (Str.ofString "a") b10] [] b11) b12] [] b13] [] q7] [] f3) (trEnv L)) Q E s := by
  refine wpAny_For ?_ (by intro _; rfl)
  refine rd T hmr ?_
  have hxm : x < c.m := P.lt
  have hrow := ok.rows x hxm
  have hm1000 : c.m < 1000 := by have := ok.m8; omega
  obtain ⟨xsN, xsF, fa, I⟩ := I
  have hrow_s : s.heap.IsList (c.row x) ((c.rel x).map fun j => Value.ref (c.nd j)).toArray := hrow.at fun o e => I.sub _ _ e
  refine wpAny_pyIter_list hrow_s ?_
  generalize hIt : s.heap.objs.size = It
  have hsub1 : Sub s.heap (s.heap.push { cls := .type "list_iterator", data := .fields #[.ref (c.row x), .int 0 0] }) := fun b o e => Heap.get?_push_of_some _ e
  have hit0 : (s.heap.push { cls := .type "list_iterator", data := .fields #[.ref (c.row x), .int 0 0] }).IsListIter It (c.row x) 0 := ⟨_, by rw [← hIt]; exact Heap.get?_push_size _ rfl, rfl, rfl⟩
  have hIt0 : s.heap.get? It = none := none_of_ge (by rw [hIt]; exact Nat.le_refl _)
  generalize hH1 : s.heap.push { cls := Value.type "list_iterator", data := .fields #[.ref (c.row x), .int 0 0] } = H1 at hsub1 hit0 ⊢
  have hIths : c.hs.get? It = none := by
    cases e : c.hs.get? It with
    | none => rfl
    | some o => rw [I.sub _ _ e] at hIt0; cases hIt0
  have hItL : L ≠ It := by
    rintro rfl
    obtain ⟨o, _, _, ho, _⟩ := T.fr.ns
    rw [hIt0] at ho; cases ho
  have hItN : It ≠ c.dN := by
    rintro rfl
    obtain ⟨o, _, _, ho, _⟩ := I.oN.data
    rw [hIt0] at ho; cases ho
  have hItF : It ≠ c.dF := by
    rintro rfl
    obtain ⟨o, _, _, ho, _⟩ := I.oF.data
    rw [hIt0] at ho; cases ho
  refine codeAny_forLoop (fun k s' => ∃ i h' tk mm' τ', s' = { s with heap := h', toks := tk } ∧ i ≤ (c.rel x).length ∧ k = (c.rel x).length + 1 - i ∧ TFr c L x h' mm' ∧ (∀ z, z ≠ Str.ofString "a" → z ≠ Str.ofString "y" → mm' z = mm z) ∧
    InvH prog w c τ'.stk τ' h' ∧ Loop c.m c.rel c.own σ x ((c.rel x).take i) τ' ∧ h'.IsListIter It (c.row x) i ∧ ChL c L s.heap h') ?_ ((c.rel x).length + 1)
    ⟨0, H1, _, mm, τ, rfl, Nat.zero_le _, rfl, T.sub hsub1, fun _ _ _ => rfl, ⟨xsN, xsF, fa, I.ext ok hsub1⟩, by simpa using J, hit0, ChL.sub hsub1⟩
  rintro k s' ⟨i, h', tk, mm', τ', rfl, hi, rfl, T', hm', ⟨xsN', xsF', fa', I'⟩, J', hit, hch⟩
  have hlist : h'.IsList (c.row x) ((c.rel x).map fun j => Value.ref (c.nd j)).toArray := hrow.at fun o e => I'.sub _ _ e
  have hnl : ∀ its, ¬ h'.PlainList It its := notList_of_iter hit
  by_cases hlt : i < (c.rel x).length
  · generalize hy : (c.rel x)[i] = y
    have hget : (c.rel x)[i]? = some y := by rw [← hy]; exact List.getElem?_eq_getElem hlt
    have hyr : y ∈ c.rel x := List.mem_of_getElem? hget
    have hym : y < c.m := ok.relm x y hyr
    refine wpAny_pyNext_list_item hit hlist (x := .ref (c.nd y)) (by simp [hget]) fun h₁ hit₁ hs₁ => ?_
    have T₁ := T'.but hs₁.extBut hItL hIths
    have I₁ := I'.but ok hs₁.extBut hIths hItN hItF hnl
    refine wpAny_assign_Name (T₁.store (s := { s with heap := h₁, toks := tk }) ok I₁ (by rfl) (by decide) fun h₂ T₂ I₂ hs₂ => ?_)
    have hit₂ : h₂.IsListIter It (c.row x) (i + 1) := hit₁.extBut hs₂.extBut (Ne.symm hItL)
    -- the three statements of a turn
    refine wpAny_execs_cons (visit_stmt (s := { s with heap := h₂, toks := tk + 1 }) (n := n) IH ok tr r hd hu T₂ ⟨xsN', xsF', fa', I₂⟩ P J' hyr (by have := J'.len; omega) (by simp) fun h₃ tk₃ τ₃ T₃ I₃ K hch₃ => ?_)
    obtain ⟨xsN₃, xsF₃, fa₃, I₃⟩ := I₃
    refine wpAny_execs_cons (min_stmt (s := { s with heap := h₃, toks := tk₃ }) ok r T₃ I₃ hxm hym (by simp) fun h₄ tk₄ xsN₄ T₄ I₄ hch₄ => ?_)
    have hxin : x ∈ τ₃.stk := by
      obtain ⟨newy, new, e, _⟩ := K.ex
      rw [e]; simp
    obtain ⟨lx, hFx, _⟩ := K.wf.stkF x hxin
    obtain ⟨ly, hFy⟩ := WF.seenF K.wf K.seen
    refine wpAny_execs_cons (inner_loop (s := { s with heap := h₄, toks := tk₄ }) (lx := lx) (ly := ly) ok r T₄ I₄ hxm hym hxin hFx hFy (by simp) hpos hpos2 fun h₅ tk₅ mm₅ T₅ hm₅ I₅ hch₅ => ?_)
    refine wpAny_execs_nil ?_
    have I₅' := I₅
    rw [merged_eq hFx hFy] at I₅'
    have hit₅ : h₅.IsListIter It (c.row x) (i + 1) := by
      obtain ⟨o, ho, hc, hdat⟩ := hit₂
      refine ⟨o, ?_, hc, hdat⟩
      exact ((hch₃.trans hch₄).trans hch₅) _ _ ho (Ne.symm hItL) hItN hItF (notList_of_iter ⟨o, ho, hc, hdat⟩)
    refine ⟨(c.rel x).length + 1 - (i + 1), by omega, i + 1, h₅, tk₅, mm₅, merged τ₃ x y, rfl, hlt, rfl, T₅, ?_, ⟨xsN₄, xsF₃, fa₃, I₅'⟩, ?_, hit₅, ?_⟩
    · intro z hza hzy
      rw [hm₅ z hza]
      simp only [hzy, if_false]
      exact hm' z hza hzy
    · have := loop_step hm1000 hyr P K
      rw [List.take_add_one, hget]
      exact this
    · exact ((hch.but hs₁.extBut hIt0).trans (ChL.self hs₂.extBut)).trans ((hch₃.trans hch₄).trans hch₅)
  · have hin : i = (c.rel x).length := by omega
    subst hin
    refine wpAny_pyNext_list_end r.1 hit hlist (by simp) fun h₁ hs₁ => wpAny_execs_nil ?_
    have := h h₁ tk mm' τ' (T'.but hs₁ hItL hIths) hm' ⟨xsN', xsF', fa', I'.but ok hs₁ hIths hItN hItF hnl⟩ (by rwa [List.take_length] at J') (hch.but hs₁ hIt0)
    exact this
end
end Mine

end
section
/- MTr6 -/
open PySem PySem.W PyProof.Rows
set_option maxRecDepth 100000
set_option linter.unusedVariables false
namespace Mine

theorem sizeLine_num : sizeLine = 16777216 := rfl

theorem top_item (f : Nat → Value) (e : Nat) (rem : List Nat) : (((e :: rem).reverse.map f).toArray)[(((e :: rem).reverse.map f).toArray).size - 1]? = some (f e) := by
  simp

theorem erase_top (f : Nat → Value) (e : Nat) (rem : List Nat) : (((e :: rem).reverse.map f).toArray).eraseIdxIfInBounds ((((e :: rem).reverse.map f).toArray).size - 1) = (rem.reverse.map f).toArray := by
  apply Array.toList_inj.mp
  simp only [List.reverse_cons, List.map_append, List.map_cons, List.map_nil]
  rw [Array.eraseIdxIfInBounds]
  have hlt : ((List.map f rem.reverse ++ [f e]).toArray).size - 1 < ((List.map f rem.reverse ++ [f e]).toArray).size := by simp
  rw [dif_pos hlt, Array.toList_eraseIdx]
  simp [List.eraseIdx_append_of_length_le]

section
variable {prog : Program} {w : World}
variable {c : Cfg} {A : Around} {E : Value → Shared → Prop} {s : Shared} {L : Addr} {x y : Nat} {mm : Str → Option Value} {U : List Nat} {σ τ : St Str} {h h' : Heap} {xsN xsF : List (Nat × Addr × Value)} {fa : Nat → Addr}

/-- stack[-1] -/
theorem ev_top {e : Nat} {rem : List Nat} {p1 p2 p3 p4 : Pos} {Q : Value → Shared → Prop} (T : TFr c L x s.heap mm) (I : InvX prog w c U σ s.heap xsN xsF fa) (hst : σ.stk = e :: rem) (hlen : σ.stk.length ≤ 1000)
    (h : ∀ tk, Q (.ref (c.nd e)) { s with toks := tk }) : wpAny (model prog w) A (eval (.Subscript (.Name (Str.ofString "stack") p1) (.UnaryOp .USub (.Constant (.int 1) 0 p2) p3) p4) (trEnv L)) Q E s := by
  refine Subscript_ (rd T T.stack (wpAny_UnaryOp (wpAny_Constant_int (PyProof.Rows.neg_int ?_))))
  have hp := I.stk
  have hz : (((e :: rem).reverse.map fun k => Value.ref (c.nd k)).toArray).size = rem.length + 1 := by simp
  rw [hst] at hp hlen
  simp only [List.length_cons] at hlen
  refine tail_list (s := { s with toks := s.toks + 1 + 1 }) hp.isList (wpAny_getItem_list_neg (s := { s with toks := s.toks + 1 + 1 }) hp.isList (by omega) ?_ (by omega) (x := .ref (c.nd e)) ?_ (h _)) rfl
  · rw [hz]; omega
  · have e1 : (-1 + ((((e :: rem).reverse.map fun k => Value.ref (c.nd k)).toArray).size : Int)).toNat = (((e :: rem).reverse.map fun k => Value.ref (c.nd k)).toArray).size - 1 := by rw [hz]; omega
    rw [e1]
    exact top_item _ _ _

/-- stack.pop() -/
theorem ev_pop {e : Nat} {rem : List Nat} {p1 p2 p3 : Pos} {Q : Value → Shared → Prop} (ok : c.Ok prog w) (T : TFr c L x s.heap mm) (I : InvX prog w c U σ s.heap xsN xsF fa) (hst : σ.stk = e :: rem) (hlen : σ.stk.length ≤ 1000) (hpos : (p2.endLine == p3.line) = true)
    (h : ∀ h' tk, TFr c L x h' mm → InvX prog w c U { σ with stk := rem } h' xsN xsF fa → ChL c L s.heap h' → Q (.ref (c.nd e)) { s with heap := h', toks := tk }) :
    wpAny (model prog w) A (eval (.Call (.Attribute (.Name (Str.ofString "stack") p1) (Str.ofString "pop") p2) [] [] p3) (trEnv L)) Q E s := by
  obtain ⟨n, hp⟩ := id I.stk
  rw [hst] at hp hlen
  simp only [List.length_cons] at hlen
  refine wpAny_Call_method (T := "list") (id := "list.pop") rfl rfl hpos F.plainAttrs_list F.slot_list_pop F.type_list_pop (rd T T.stack ⟨⟨_, hp, rfl⟩, ?_, ?_⟩)
  · rintro a ⟨rfl⟩; exact ⟨_, hp, rfl⟩
  refine method_meets F.slot_list_pop F.entry_list_pop rfl (evalArgs_nil3 ⟨rfl, ⟨_, hp, rfl⟩, F.args_list_pop_1 _, _, MeetsSeq.list_pop_last c.sk _ n _ (top_item _ e rem) ?_, hp, ?_⟩)
  · rw [sizeLine_num]; simp; omega
  have hs := Heap.SameBut.update s.heap c.sk (Obj.mapSeq fun xs => xs.eraseIdxIfInBounds ((((e :: rem).reverse.map fun k => Value.ref (c.nd k)).toArray).size - 1))
  have hx := get?_update_seq hp (fun xs => xs.eraseIdxIfInBounds ((((e :: rem).reverse.map fun k => Value.ref (c.nd k)).toArray).size - 1))
  rw [erase_top] at hx
  have hp0 : s.heap.PlainList c.sk ((e :: rem).reverse.map fun k => Value.ref (c.nd k)).toArray := ⟨n, hp⟩
  exact h _ _ (T.but hs.extBut (fun e' => T.notList _ (e' ▸ hp0)) (none_of_ge ok.news)) (I.stack ok hs ⟨_, hx⟩) (ChL.list hp0 hs.extBut)

/-- the three statements that take the top off -/
theorem pop_step {e : Nat} {rem : List Nat} {lx : List Str} {rest : List Stmt} {Q : Flow → Shared → Prop} {p1 p2 p3 p4 p5 p6 p7 p8 q1 q2 q3 q4 q5 q6 q7 q8 q9 q10 r1 r2 r3 r4 r5 : Pos} (ok : c.Ok prog w) (r : Room A) (T : TFr c L x s.heap mm) (I : InvX prog w c U σ s.heap xsN xsF fa) (hx : x < c.m) (he : e < c.m)
    (hst : σ.stk = e :: rem) (hlen : σ.stk.length ≤ 1000) (hF : σ.F x = some lx) (hxU : x ∉ U) (heU : e ∉ U) (hpos : (r3.endLine == r4.line) = true)
    (h : ∀ h' tk xsN' xsF' fa', TFr c L x h' (fun z => if z = Str.ofString "element" then some (.ref (c.nd e)) else mm z) → InvX prog w c U { N := upd σ.N e BIG, stk := rem, F := upd σ.F e (some lx) } h' xsN' xsF' fa' → ChL c L s.heap h' →
      wpAny (model prog w) A (execs rest (trEnv L)) Q E { s with heap := h', toks := tk }) :
    wpAny (model prog w) A (execs (.Assign [.Subscript (.Name (Str.ofString "N") p1) (.Subscript (.Name (Str.ofString "stack") p2) (.UnaryOp .USub (.Constant (.int 1) 0 p3) p4) p5) p6] (.Name (Str.ofString "MAXINT") p7) p8 ::
      .Assign [.Subscript (.Name (Str.ofString "F") q1) (.Subscript (.Name (Str.ofString "stack") q2) (.UnaryOp .USub (.Constant (.int 1) 0 q3) q4) q5) q6] (.Subscript (.Name (Str.ofString "F") q7) (.Name (Str.ofString "x") q8) q9) q10 ::
      .Assign [.Name (Str.ofString "element") r1] (.Call (.Attribute (.Name (Str.ofString "stack") r2) (Str.ofString "pop") r3) [] [] r4) r5 :: rest) (trEnv L)) Q E s := by
  -- N[stack[-1]] = MAXINT
  refine wpAny_execs_cons (wpAny_Assign_Subscript (rd_max T ok fun t => rd T T.N (ev_top T I hst hlen fun tk1 => ?_)) (by rfl))
  refine set_N (s := { s with toks := tk1 }) ok r I T he fun h1 tk2 xsN1 T1 I1 hs1 => ?_
  -- F[stack[-1]] = F[x]
  refine wpAny_execs_cons (wpAny_Assign_Subscript (ev_Fx (s := { s with heap := h1, toks := tk2 }) ok r T1 I1 hx hF fun tk3 => rd (s := { s with heap := h1, toks := tk3 }) T1 T1.F (ev_top (s := { s with heap := h1, toks := tk3 }) T1 I1 hst hlen fun tk4 => ?_)) (by rfl))
  have hFne : σ.F x ≠ none := by rw [hF]; exact fun e => by cases e
  refine set_F (s := { s with heap := h1, toks := tk4 }) (U' := U) ok r I1 T1 he (I1.ls x lx hF) (I1.new x hFne) (fun j hj => .inr ⟨fun e' => heU (e' ▸ hj), hj, I1.own j hj x (fun e' => hxU (e' ▸ hj)) hFne⟩) fun h2 tk5 xsF2 T2 I2 hs2 => ?_
  -- element = stack.pop()
  refine wpAny_execs_cons (wpAny_Assign_Name (ev_pop (s := { s with heap := h2, toks := tk5 }) ok T2 I2 hst hlen hpos fun h3 tk6 T3 I3 hch3 => ?_) (by rfl))
  refine T3.store (s := { s with heap := h3, toks := tk6 }) ok I3 (by rfl) (by decide) fun h4 T4 I4 hs4 => ?_
  exact h h4 _ _ _ _ T4 I4 ((((ChL.dN hs1.extBut).trans (ChL.dF hs2.extBut)).trans hch3).trans (ChL.self hs4.extBut))
end
end Mine

end
section
/- MTr7 -/
open PySem PySem.W PyProof.Rows
set_option maxRecDepth 100000
set_option linter.unusedVariables false
namespace Mine

theorem popped_step {α : Type} [DecidableEq α] {τ : St α} {x e : Nat} {seg rest rest' : List Nat} {lx : List α} (hF : τ.F x = some lx) :
    ({ N := upd (popped τ x seg rest).N e BIG, stk := rest', F := upd (popped τ x seg rest).F e (some lx) } : St α) = popped τ x (seg ++ [e]) rest' := by
  unfold popped
  congr 1
  · funext v
    by_cases hv : v = e
    · subst hv; simp [upd_self]
    · simp [upd_ne _ _ hv, hv]
  · funext v
    by_cases hv : v = e
    · subst hv; simp [upd_self, hF]
    · simp [upd_ne _ _ hv, hv]

theorem popped_F {α : Type} {τ : St α} {x : Nat} {seg rest : List Nat} : (popped τ x seg rest).F x = τ.F x := by
  unfold popped
  dsimp only
  split <;> rfl
theorem popped_nil {α : Type} {τ : St α} {x : Nat} : popped τ x [] τ.stk = τ := by
  unfold popped
  simp

section
variable {prog : Program} {w : World}
variable {c : Cfg} {A : Around} {E : Value → Shared → Prop} {s : Shared} {L : Addr} {x y : Nat} {mm : Str → Option Value} {U : List Nat} {σ τ : St Str} {h h' : Heap} {xsN xsF : List (Nat × Addr × Value)} {fa : Nat → Addr}

theorem pop_all {new : List Nat} {lx : List Str} {Q : Flow → Shared → Prop} {p1 p2 p3 p4 p5 p6 p7 p8 q1 q2 q3 q4 q5 q6 q7 q8 q9 q10 r1 r2 r3 r4 r5 : Pos} {p1' p2' p3' p4' p5' p6' p7' p8' q1' q2' q3' q4' q5' q6' q7' q8' q9' q10' r1' r2' r3' r4' r5' t1 t2 t3 t4 : Pos}
    (ok : c.Ok prog w) (r : Room A) (T : TFr c L x s.heap mm) (I : InvX prog w c U τ s.heap xsN xsF fa) (hx : x < c.m) (hst : τ.stk = new ++ x :: U) (hxn : x ∉ new) (hdis : ∀ v ∈ new ++ [x], v ∉ U) (hb : ∀ v ∈ τ.stk, v < c.m)
    (hlen : τ.stk.length ≤ 1000) (hF : τ.F x = some lx) (hpos : (r3.endLine == r4.line) = true) (hpos' : (r3'.endLine == r4'.line) = true)
    (h : ∀ h' tk mm' xsN' xsF' fa', TFr c L x h' mm' → InvX prog w c U (popped τ x (new ++ [x]) U) h' xsN' xsF' fa' → ChL c L s.heap h' → Q .next { s with heap := h', toks := tk }) :
    wpAny (model prog w) A (execs (.Assign [.Subscript (.Name (Str.ofString "N") p1) (.Subscript (.Name (Str.ofString "stack") p2) (.UnaryOp .USub (.Constant (.int 1) 0 p3) p4) p5) p6] (.Name (Str.ofString "MAXINT") p7) p8 ::
      .Assign [.Subscript (.Name (Str.ofString "F") q1) (.Subscript (.Name (Str.ofString "stack") q2) (.UnaryOp .USub (.Constant (.int 1) 0 q3) q4) q5) q6] (.Subscript (.Name (Str.ofString "F") q7) (.Name (Str.ofString "x") q8) q9) q10 ::
      .Assign [.Name (Str.ofString "element") r1] (.Call (.Attribute (.Name (Str.ofString "stack") r2) (Str.ofString "pop") r3) [] [] r4) r5 ::
      [.While (.Compare (.Name (Str.ofString "element") t1) [.NotEq] [.Name (Str.ofString "x") t2] t3)
        (.Assign [.Subscript (.Name (Str.ofString "N") p1') (.Subscript (.Name (Str.ofString "stack") p2') (.UnaryOp .USub (.Constant (.int 1) 0 p3') p4') p5') p6'] (.Name (Str.ofString "MAXINT") p7') p8' ::
      .Assign [.Subscript (.Name (Str.ofString "F") q1') (.Subscript (.Name (Str.ofString "stack") q2') (.UnaryOp .USub (.Constant (.int 1) 0 q3') q4') q5') q6'] (.Subscript (.Name (Str.ofString "F") q7') (.Name (Str.ofString "x") q8') q9') q10' ::
      .Assign [.Name (Str.ofString "element") r1'] (.Call (.Attribute (.Name (Str.ofString "stack") r2') (Str.ofString "pop") r3') [] [] r4') r5' :: []) [] t4]) (trEnv L)) Q E s := by
  obtain ⟨e0, rem0, hnew⟩ : ∃ e0 rem0, new ++ [x] = e0 :: rem0 := by
    cases new with
    | nil => exact ⟨x, [], rfl⟩
    | cons a r => exact ⟨a, r ++ [x], rfl⟩
  have hst' : τ.stk = (new ++ [x]) ++ U := by rw [hst]; simp
  have hbs : ∀ v ∈ new ++ [x], v < c.m := fun v hv => hb v (by rw [hst']; exact List.mem_append_left _ hv)
  have hxU : x ∉ U := hdis x (by simp)
  have hlenr : ∀ l : List Nat, (∃ pre, new ++ [x] = pre ++ l) → (l ++ U).length ≤ 1000 := by
    rintro l ⟨pre, e⟩
    rw [hst', e] at hlen
    simp only [List.length_append] at hlen ⊢
    omega
  have hin : ∀ v, v ∈ e0 :: rem0 → v ∈ new ++ [x] := fun v hv => by rw [hnew]; exact hv
  rw [← popped_nil (τ := τ) (x := x)] at I
  rw [hst', hnew] at I
  refine pop_step ok r T I hx (hbs e0 (hin e0 (by simp))) rfl (hlenr (e0 :: rem0) ⟨[], by simpa using hnew⟩) (popped_F.trans hF) hxU (hdis e0 (hin e0 (by simp))) hpos fun h1 tk1 xsN1 xsF1 fa1 T1 I1 hch1 => ?_
  have I1' : InvX prog w c U (popped τ x ([] ++ [e0]) (rem0 ++ U)) h1 xsN1 xsF1 fa1 := by
    rw [← popped_step (rest := e0 :: rem0 ++ U) hF]; exact I1
  refine wpAny_execs_cons (wpAny_While ?_)
  refine codeAny_whileLoop (fun n s' => ∃ pre e rem h' tk mm' xsN' xsF' fa', s' = { s with heap := h', toks := tk } ∧ n = rem.length ∧ new ++ [x] = pre ++ e :: rem ∧ TFr c L x h' mm' ∧ mm' (Str.ofString "element") = some (.ref (c.nd e)) ∧
    InvX prog w c U (popped τ x (pre ++ [e]) (rem ++ U)) h' xsN' xsF' fa' ∧ ChL c L s.heap h') ?_ rem0.length
    ⟨[], e0, rem0, h1, tk1, _, _, _, _, rfl, rfl, by simpa using hnew, T1, by simp, I1', hch1⟩
  rintro n s' ⟨pre, e, rem, h', tk, mm', xsN', xsF', fa', rfl, rfl, hsplit, T', hme, I', hch⟩
  have he : e < c.m := hbs e (by rw [hsplit]; simp)
  refine wpAny_isTrue_Compare1 (rd (s := { s with heap := h', toks := tk }) T' hme (rd (s := { s with heap := h', toks := tk }) T' T'.x ?_))
  refine ne_nodes (s := { s with heap := h', toks := tk }) ok r I'.sub he hx (wpAny_truthy_bool ?_)
  cases rem with
  | nil =>
    obtain ⟨h2, h3⟩ := List.append_inj' hsplit rfl
    simp only [List.cons.injEq, and_true] at h3
    subst h2; subst h3
    simp only [decide_true, Bool.not_true, Bool.false_eq_true, if_false]
    refine wpAny_execs_nil (wpAny_execs_nil ?_)
    exact h h' tk mm' _ _ _ T' I' hch
  | cons e' rem' =>
    have hne : e ≠ x := by
      rintro rfl
      have : e ∈ new := by
        have e1 : new = (new ++ [e]).dropLast := by simp
        rw [e1, hsplit, List.dropLast_append_of_ne_nil (by simp)]
        simp
      exact hxn this
    simp only [hne, decide_false, Bool.not_false, if_true]
    have he' : e' ∈ new ++ [x] := by rw [hsplit]; simp
    refine pop_step (s := { s with heap := h', toks := tk }) (rem := rem' ++ U) ok r T' I' hx (hbs e' he') rfl (hlenr (e' :: rem') ⟨pre ++ [e], by rw [hsplit]; simp⟩) (popped_F.trans hF) hxU (hdis e' he') hpos' fun h2 tk2 xsN2 xsF2 fa2 T2 I2 hch2 => ?_
    refine wpAny_execs_nil ⟨rem'.length, by simp, pre ++ [e], e', rem', h2, tk2, _, xsN2, xsF2, fa2, rfl, rfl, by rw [hsplit]; simp, T2, by simp, ?_, hch.trans hch2⟩
    rw [← popped_step (rest := e' :: rem' ++ U) hF]; exact I2
end
end Mine

end
section
/- MTr8 -/
open PySem PySem.W PyProof.Rows
set_option maxRecDepth 100000
set_option linter.unusedVariables false
namespace Mine

section
variable {prog : Program} {w : World} {c : Cfg}

theorem trav_all (ok : c.Ok prog w) (tr : TrOk c) : ∀ n, TravSpec prog w c n
  | 0 => fun A E s σ x Q hh hd hu P hn _ _ => by
    have := P.room
    omega
  | n + 1 => fun A E s σ x Q hh hd hu P hn I h => by
    have IH := trav_all ok tr n
    obtain ⟨xsN, xsF, fa, I⟩ := I
    obtain ⟨o, pm, ho, hdat⟩ := tr.fn
    have hxm := P.lt
    have hm1000 : c.m < 1000 := by have := ok.m8; omega
    have hstk9 : σ.stk.length ≤ 8 := by have := P.wf.len; have := ok.m8; omega
    have hsubS : Sub c.hs s.heap := I.sub
    refine wpAny_call (call_plain_ret (binds := [(Str.ofString "x", .ref (c.nd x)), (Str.ofString "N", .ref c.dN), (Str.ofString "stack", .ref c.sk), (Str.ofString "F", .ref c.dF), (Str.ofString "X", c.oX), (Str.ofString "R", .ref c.lR), (Str.ofString "FP", .ref c.lFP)])
      (by omega) (hsubS _ _ ho) hdat (ok.nolimit.keeps hsubS) ?_ (by rfl) (locs (by rfl)) (fun h₁ F₁ => ?_) (by rfl) (by rfl) (by rfl) (by decide))
    · obtain ⟨c0, o0, vs, t, e1, e2, e3⟩ := tr.code
      exact ⟨c0, o0, vs, t, e1, hsubS _ _ e2, e3⟩
    have hsub1 : Sub s.heap h₁ := F₁.keep
    generalize hL : s.heap.objs.size = L at F₁
    have hLs : s.heap.get? L = none := none_of_ge (by rw [hL]; exact Nat.le_refl _)
    have T1 : TFr c L x h₁ (fun y => List.lookup y [(Str.ofString "x", Value.ref (c.nd x)), (Str.ofString "N", .ref c.dN), (Str.ofString "stack", .ref c.sk), (Str.ofString "F", .ref c.dF), (Str.ofString "X", c.oX), (Str.ofString "R", .ref c.lR), (Str.ofString "FP", .ref c.lFP)].reverse) := by
      refine ⟨⟨F₁.ns, fun b o e => hsub1 _ _ (hsubS _ _ e), ?_⟩, ?_, ?_, rfl, rfl, rfl, rfl, rfl, rfl, rfl⟩
      · obtain ⟨o', _, _, e, _⟩ := I.oN.data
        have h1 : @LT.lt Nat _ c.dN s.heap.objs.size := Heap.lt_size e
        have h2 : @LE.le Nat _ c.hs.objs.size c.dN := ok.newN
        rw [hL] at h1
        exact Nat.le_of_lt (Nat.lt_of_le_of_lt h2 h1)
      · rintro rfl
        obtain ⟨o', _, _, e, _⟩ := I.oN.data
        rw [hLs] at e; cases e
      · rintro rfl
        obtain ⟨o', _, _, e, _⟩ := I.oF.data
        rw [hLs] at e; cases e
    have I1 := I.ext ok hsub1
    have rA : Room (A.deeper (trEnv L)) := ⟨hh, by show A.depth + 1 + 20 < _; omega, by show A.units + 3 + 200 < _; omega⟩
    have hdA : (A.deeper (trEnv L)).depth + n + 30 < recursionLimit := by show A.depth + 1 + n + 30 < _; omega
    have huA : (A.deeper (trEnv L)).units + 10 * n + 300 < cLine := by show A.units + 3 + 10 * n + 300 < _; omega
    generalize A.deeper (trEnv L) = A' at rA hdA huA
    clear hh hd hu
    show wpAny (model prog w) A' (execs trBody (trEnv L)) _ _ _
    unfold trBody trStmt PySem.Challenge.pw_kk0044_01
    dsimp only
    -- stack.append(x)
    refine wpAny_execs_cons (wpAny_Expr_any (wpAny_Call_append rfl rfl rfl rfl (rd T1 T1.stack ⟨c.sk, _, rfl, PlainList.plainL I1.stk, rd T1 T1.x ?_⟩)) (by rfl) (by rfl))
    refine wpAny_list_append_plain I1.stk (fun h₂ hp₂ hs₂ => ?_) (by rw [sizeLine_num]; simp; omega)
    have T2 := T1.but hs₂.extBut (fun e => T1.notList _ (e ▸ I1.stk)) (none_of_ge ok.news)
    have I2 := I1.stack (st := x :: σ.stk) ok hs₂ (by simpa using hp₂)
    have hc2 : ChL c L s.heap h₂ := (ChL.sub hsub1).trans (ChL.list I1.stk hs₂.extBut)
    -- d = len(stack)
    refine wpAny_execs_cons (wpAny_Assign_Name (wpAny_Call_NameR (rd_len (s := { s with heap := h₂, toks := _ }) T2 ok (callWith_bi rfl (Calls.spliced_cons (rd (s := { s with heap := h₂, toks := _ }) T2 T2.stack (Calls.spliced_nil ?_)))))) (by rfl))
    have hsz : (((x :: σ.stk).reverse.map fun k => Value.ref (c.nd k)).toArray).size = σ.stk.length + 1 := by simp
    refine Calls.call_len_list (s := { s with heap := h₂, toks := _ }) I2.stk.isList (by rw [hsz]; omega) ?_
    rw [hsz]
    refine T2.store (s := { s with heap := h₂, toks := _ }) ok I2 (by rfl) (by decide) fun h₃ T3 I3 hs₃ => ?_
    have hc3 := hc2.trans (ChL.self hs₃.extBut)
    -- N[x] = d
    refine wpAny_execs_cons (wpAny_Assign_Subscript (rd (s := { s with heap := h₃, toks := _ }) T3 (by rfl) (rd (s := { s with heap := h₃, toks := _ }) T3 T3.N (rd (s := { s with heap := h₃, toks := _ }) T3 T3.x ?_))) (by rfl))
    refine set_N (s := { s with heap := h₃, toks := _ }) ok rA I3 T3 hxm fun h₄ tk₄ xsN₄ T4 I4 hs₄ => ?_
    have hc4 := hc3.trans (ChL.dN hs₄.extBut)
    -- F[x] = FP(x)
    refine wpAny_execs_cons (wpAny_Assign_Subscript (wpAny_Call_NameR (rd (s := { s with heap := h₄, toks := tk₄ }) T4 T4.FP ?_)) (by rfl))
    obtain ⟨oP, fdP, hoP, hdP⟩ := ok.fFP
    refine callWith_fn (s := { s with heap := h₄, toks := tk₄ }) ⟨oP, fdP, I4.sub _ _ hoP, hdP⟩ rfl (Calls.spliced_cons (rd (s := { s with heap := h₄, toks := tk₄ }) T4 T4.x (Calls.spliced_nil ⟨⟨oP, fdP, I4.sub _ _ hoP, hdP⟩, ?_⟩)))
    refine ok.callFP x hxm _ _ { s with heap := h₄, toks := tk₄ } _ rA I4.sub fun h₅ tk₅ fl hsub₅ hfl hL5 => ?_
    have T5 := T4.sub hsub₅
    have I5 := I4.ext ok hsub₅
    refine rd (s := { s with heap := h₅, toks := tk₅ }) T5 T5.F (rd (s := { s with heap := h₅, toks := tk₅ }) T5 T5.x ?_)
    have hfa : ∀ i, σ.F i ≠ none → fa i ≠ fl := fun i hi e => by
      cases hFi : σ.F i with
      | none => exact hi hFi
      | some li =>
        obtain ⟨vs, n0, e0, _⟩ := (I4.ls i li hFi).get
        rw [e, hfl] at e0; cases e0
    refine set_F (s := { s with heap := h₅, toks := tk₅ }) (U' := x :: σ.stk) ok rA I5 T5 hxm hL5 ⟨?_, ?_⟩ ?_ fun h₆ tk₆ xsF₆ T6 I6 hs₆ => ?_
    · cases e : c.hs.get? fl with
      | none => rfl
      | some o' => have := I4.sub _ _ e; rw [hfl] at this; cases this
    · rintro rfl
      obtain ⟨n0, e0⟩ := I4.stk
      rw [hfl] at e0; cases e0
    · intro j hj
      by_cases hjx : j = x
      · exact .inl ⟨hjx, fun i _ hi => hfa i hi⟩
      · rcases List.mem_cons.mp hj with rfl | hj
        · exact absurd rfl hjx
        · obtain ⟨l', hl', _⟩ := P.wf.stkF j hj
          exact .inr ⟨hjx, hj, fun e => hfa j (by rw [hl']; exact fun e => by cases e) e.symm⟩
    have hc6 := (hc4.trans (ChL.sub hsub₅)).trans (ChL.dF hs₆.extBut)
    -- rel = R(x)
    refine wpAny_execs_cons (wpAny_Assign_Name (wpAny_Call_NameR (rd (s := { s with heap := h₆, toks := tk₆ }) T6 T6.R ?_)) (by rfl))
    obtain ⟨oR, fdR, hoR, hdR⟩ := ok.fR
    refine callWith_fn (s := { s with heap := h₆, toks := tk₆ }) ⟨oR, fdR, I6.sub _ _ hoR, hdR⟩ rfl (Calls.spliced_cons (rd (s := { s with heap := h₆, toks := tk₆ }) T6 T6.x (Calls.spliced_nil ⟨⟨oR, fdR, I6.sub _ _ hoR, hdR⟩, ?_⟩)))
    refine ok.callR x hxm _ _ { s with heap := h₆, toks := tk₆ } _ rA I6.sub fun h₇ tk₇ hsub₇ => ?_
    have T7 := T6.sub hsub₇
    have I7 := I6.ext ok hsub₇
    refine T7.store (s := { s with heap := h₇, toks := tk₇ }) ok I7 (by rfl) (by decide) fun h₈ T8 I8 hs₈ => ?_
    have hc8 := (hc6.trans (ChL.sub hsub₇)).trans (ChL.self hs₈.extBut)
    -- for y in rel
    have J := loop_start (own := c.own) hm1000 ok.ownd P
    refine wpAny_execs_cons (outer_loop (s := { s with heap := h₈, toks := _ }) (n := n) IH ok tr rA hdA huA T8 ⟨_, _, _, I8⟩ P J (by omega) (by rfl) rfl rfl fun h₉ tk₉ mm₉ τ T9 hm9 I9 J9 hc9 => ?_)
    obtain ⟨xsN₉, xsF₉, fa₉, I9⟩ := I9
    have hcend := hc8.trans hc9
    have hd9 : mm₉ (Str.ofString "d") = some (.int ((σ.stk.length + 1 : Nat) : Int) _) := (hm9 _ (by decide) (by decide)).trans rfl
    -- if N[x] == d
    refine wpAny_execs_cons (wpAny_If (wpAny_isTrue_Compare1 (ev_N (s := { s with heap := h₉, toks := tk₉ }) ok rA T9 I9 hxm T9.x (by rfl) (by decide) fun t1 tk1 => rd (s := { s with heap := h₉, toks := tk1 }) T9 hd9 ?_)))
    show wpAny (model prog w) A' (richCompare .Eq _ _) _ _ _
    refine wpAny_eq_int (wpAny_truthy_bool ?_)
    have ends : ∀ h' tk τ', Post c.m c.rel c.own σ x τ' → InvH prog w c τ'.stk τ' h' → ChL c L s.heap h' → Q .none { s with heap := h', toks := tk } := fun h' tk τ' hP hI hc =>
      h h' tk τ' hP hI fun a o e hN hF hl => hc a o e (fun e' => by rw [e', hLs] at e; cases e) hN hF hl
    by_cases heq : τ.N x = ((σ.stk.length + 1 : Nat) : Int)
    · have e : (τ.N x == ((σ.stk.length + 1 : Nat) : Int)) = true := by rw [heq]; simp
      rw [if_pos e]
      obtain ⟨new, est, _⟩ := J9.ex
      obtain ⟨lx, hFx, _⟩ := J9.wf.stkF x J9.x_in
      have hnd := J9.wf.nodup
      rw [est] at hnd
      have hxn : x ∉ new := J9.x_notnew est
      refine pop_all (s := { s with heap := h₉, toks := tk1 }) (U := σ.stk) (new := new) ok rA T9 (I9.own_mono fun k hk => by rw [est]; simp [hk]) hxm est hxn ?_ J9.wf.bound (by have := J9.wf.len; omega) hFx rfl rfl fun h' tk mm' xsN' xsF' fa' T' I' hc' => ?_
      · intro v hv hvU
        rw [List.nodup_append, List.nodup_cons] at hnd
        rcases List.mem_append.mp hv with hv | hv
        · exact hnd.2.2 v hv v (by simp [hvU]) rfl
        · simp only [List.mem_singleton] at hv; subst hv; exact hnd.2.1.1 hvU
      · refine wpAny_execs_nil (ends h' tk _ (post_pop hm1000 P J9 heq est) ⟨xsN', xsF', fa', I'⟩ (hcend.trans hc'))
    · have e : ¬ (τ.N x == ((σ.stk.length + 1 : Nat) : Int)) = true := by simpa using heq
      rw [if_neg e]
      exact wpAny_execs_nil (wpAny_execs_nil (ends h₉ tk1 τ (post_stay P J9 heq) ⟨xsN₉, xsF₉, fa₉, I9⟩ hcend))
end
end Mine

end
section
/- MDig -/
open PySem PySem.W PyProof.Rows
set_option maxRecDepth 100000
set_option linter.unusedVariables false
namespace Mine

section
variable {prog : Program} {w : World} {A : Around} {E : Value → Shared → Prop} {s : Shared}

/-- a loop over a list, by what holds of the heap and of the frame -/
theorem for_list {env : Env} {x : Str} {px : Pos} {body : List Stmt} {l : Addr} {items : Array Value} {R : Result → Shared → Prop} {m0 : Str → Option Value} (hh : A.handled = none) (hx : env.kindOf x = some .local)
    (hp : (env.scope.kind == .class || (env.scope.kind == .module && env.locals != env.globals)) = false) (hl : s.heap.IsList l items) (hL : ∃ o, s.heap.get? env.locals = some o)
    (J : Nat → Heap → (Str → Option Value) → Prop) (hns : ∀ i h m, J i h m → h.Ns env.locals m) (hlist : ∀ i h m, J i h m → h.IsList l items)
    (hbut : ∀ i h h' m It j, J i h m → s.heap.get? It = none → h.IsListIter It l j → Heap.ExtBut It h h' → J i h' m) (h0 : ∀ h', Sub s.heap h' → J 0 h' m0)
    (turn : ∀ i v h m It, items[i]? = some v → J i h m → s.heap.get? It = none → h.IsListIter It l (i + 1) → ∀ h₂ tk, h₂.Ns env.locals (fun y => if y = x then some v else m y) → Heap.SameBut env.locals h h₂ → h₂.IsListIter It l (i + 1) →
      wpAny (model prog w) A (execs body env) (fun f s₃ => match f with
        | .next | .cont => ∃ h₃ tk₃ m₃, s₃ = { s with heap := h₃, toks := tk₃ } ∧ J (i + 1) h₃ m₃ ∧ h₃.IsListIter It l (i + 1)
        | .brk => False
        | .ret v => R (.ok (.ret v)) s₃) (fun _ _ => False) { s with heap := h₂, toks := tk })
    (done : ∀ h tk m, J items.size h m → R (.ok .next) { s with heap := h, toks := tk }) :
    wpAny (model prog w) A (pyIter (.ref l)) (fun it s₂ => codeAny (model prog w) A (.forLoop (.Name x px) it body [] env) R s₂) E s := by
  refine wpAny_pyIter_list hl ?_
  generalize hIt : s.heap.objs.size = It
  have hsub1 : Sub s.heap (s.heap.push { cls := .type "list_iterator", data := .fields #[.ref l, .int 0 0] }) := fun b o e => Heap.get?_push_of_some _ e
  have hit0 : (s.heap.push { cls := .type "list_iterator", data := .fields #[.ref l, .int 0 0] }).IsListIter It l 0 := ⟨_, by rw [← hIt]; exact Heap.get?_push_size _ rfl, rfl, rfl⟩
  have hIt0 : s.heap.get? It = none := none_of_ge (by rw [hIt]; exact Nat.le_refl _)
  generalize hH1 : s.heap.push { cls := Value.type "list_iterator", data := .fields #[.ref l, .int 0 0] } = H1 at hsub1 hit0 ⊢
  have hItL : env.locals ≠ It := by
    intro e
    obtain ⟨o, ho⟩ := hL
    rw [e, hIt0] at ho; cases ho
  refine codeAny_forLoop (fun k s' => ∃ i h' tk m', s' = { s with heap := h', toks := tk } ∧ i ≤ items.size ∧ k = items.size + 1 - i ∧ J i h' m' ∧ h'.IsListIter It l i) ?_ (items.size + 1)
    ⟨0, H1, _, m0, rfl, Nat.zero_le _, rfl, h0 _ hsub1, hit0⟩
  rintro k s' ⟨i, h', tk, m', rfl, hi, rfl, hJ, hit⟩
  by_cases hlt : i < items.size
  · have hget : items[i]? = some items[i] := by simp [hlt]
    refine wpAny_pyNext_list_item hit (hlist _ _ _ hJ) hget fun h₁ hit₁ hs₁ => ?_
    have hJ₁ := hbut _ _ _ _ _ _ hJ hIt0 hit hs₁.extBut
    refine wpAny_assign_Name (wpAny_storeName_local hx (hns _ _ _ hJ₁) (fun h₂ hn₂ hs₂ => ?_) hp)
    refine wpAny_mono (turn i items[i] h₁ m' It hget hJ₁ hIt0 hit₁ h₂ _ hn₂ hs₂ (hit₁.extBut hs₂.extBut (Ne.symm hItL))) (fun f s₃ h₃ => ?_) fun _ _ e => e.elim
    cases f with
    | next =>
      obtain ⟨h₃, tk₃, m₃, rfl, hJ₃, hit₃⟩ := h₃
      exact ⟨items.size + 1 - (i + 1), by omega, i + 1, h₃, tk₃, m₃, rfl, hlt, rfl, hJ₃, hit₃⟩
    | cont =>
      obtain ⟨h₃, tk₃, m₃, rfl, hJ₃, hit₃⟩ := h₃
      exact ⟨items.size + 1 - (i + 1), by omega, i + 1, h₃, tk₃, m₃, rfl, hlt, rfl, hJ₃, hit₃⟩
    | brk => exact h₃.elim
    | ret v => exact h₃
  · have hin : i = items.size := by omega
    subst hin
    refine wpAny_pyNext_list_end hh hit (hlist _ _ _ hJ) (by simp) fun h₁ hs₁ => wpAny_execs_nil ?_
    exact done h₁ tk m' (hbut _ _ _ _ _ _ hJ hIt0 hit hs₁)
end

def dgStmt : Stmt := match PySem.Challenge.pw_kk0044_01.main.body with | _ :: _ :: s :: _ => s | _ => .Pass default
def dgParams : Arguments := match dgStmt with | .FunctionDef _ a _ _ _ _ _ _ _ _ => a | _ => { posonlyargs := [], args := [], vararg := none, kwonlyargs := [], kw_defaults := [], kwarg := none, defaults := [] }
def dgBody : List Stmt := match dgStmt with | .FunctionDef _ _ b _ _ _ _ _ _ _ => b | _ => []
def dgScope : Scope := match dgStmt with | .FunctionDef _ _ _ _ _ _ s _ _ _ => s | _ => default
abbrev dgEnv (L : Addr) : Env := envOf (Str.ofString "digraph") dgScope L 21 (.ref 20)

structure DgOk (c : Cfg) : Prop where
  fn : ∃ o pm, c.hs.get? 21 = some o ∧ o.data = .func (Calls.docDef (Str.ofString "digraph") dgParams dgBody dgScope pm (.ref 20) .none)
  code : c.hs.CodeRec (.ref 20) (Str.ofString "digraph")

/-- Cfg.Ok without what is made within digraph -/
structure OkS (prog : Program) (w : World) (c : Cfg) : Prop where
  m8 : c.m ≤ 8
  node : ∀ k, k < c.m → (nk prog w c).is c.hs k (c.nd k)
  nmOk : ∀ k, PyData.strOk (c.nm k) = true
  rows : ∀ k, k < c.m → c.hs.IsList (c.row k) ((c.rel k).map fun j => Value.ref (c.nd j)).toArray
  relm : ∀ v, ∀ w ∈ c.rel v, w < c.m
  rlen : ∀ v, (c.rel v).length ≤ 1000
  ownd : ∀ v, (c.own v).Nodup
  ownabc : ∀ v, ∀ a ∈ c.own v, a ∈ c.abc
  abcOk : ∀ a ∈ c.abc, PyData.strOk a = true
  abclen : c.abc.length ≤ 100
  fR : ∃ o fd, c.hs.get? c.lR = some o ∧ o.data = .func fd
  fFP : ∃ o fd, c.hs.get? c.lFP = some o ∧ o.data = .func fd
  callR : ∀ k, k < c.m → ∀ (A : Around) (E : Value → Shared → Prop) (s : Shared) (Q : Value → Shared → Prop), Room A → Sub c.hs s.heap →
    (∀ h' tk, Sub s.heap h' → Q (.ref (c.row k)) { s with heap := h', toks := tk }) → wpAny (model prog w) A (call (.ref c.lR) [.ref (c.nd k)]) Q E s
  callFP : ∀ k, k < c.m → ∀ (A : Around) (E : Value → Shared → Prop) (s : Shared) (Q : Value → Shared → Prop), Room A → Sub c.hs s.heap →
    (∀ h' tk fl, Sub s.heap h' → s.heap.get? fl = none → StrL c.abc h' fl (c.own k) → Q (.ref fl) { s with heap := h', toks := tk }) → wpAny (model prog w) A (call (.ref c.lFP) [.ref (c.nd k)]) Q E s
  top : ∃ mg mb, c.hs.Ns mainGlobals mg ∧ c.hs.Ns builtinsNs mb ∧ (∃ t, mg "MAXINT" = some (.int BIG t)) ∧ mg "traverse" = some (.ref 28) ∧ mg "len" = none ∧ mg "min" = none ∧
    mb "len" = some (.builtin "len") ∧ mb "min" = some (.builtin "min")
  nolimit : c.hs.NoLimit

section
variable {prog : Program} {w : World} {c : Cfg} {A : Around} {E : Value → Shared → Prop} {s : Shared} {L : Addr} {mm : Str → Option Value} {h h' : Heap}

def Cfg.made (c : Cfg) (dN dF sk : Addr) : Cfg := { c with dN := dN, dF := dF, sk := sk }
theorem OkS.ok (S : OkS prog w c) {dN dF sk : Addr} (h1 : c.hs.objs.size ≤ dN) (h2 : c.hs.objs.size ≤ dF) (h3 : c.hs.objs.size ≤ sk) (h4 : dN ≠ dF) (h5 : 1 < c.hs.objs.size) : (c.made dN dF sk).Ok prog w where
  m8 := S.m8
  node := S.node
  nmOk := S.nmOk
  rows := S.rows
  relm := S.relm
  rlen := S.rlen
  ownd := S.ownd
  ownabc := S.ownabc
  abcOk := S.abcOk
  abclen := S.abclen
  fR := S.fR
  fFP := S.fFP
  callR := S.callR
  callFP := S.callFP
  top := S.top
  nolimit := S.nolimit
  newN := h1
  newF := h2
  news := h3
  dNF := h4
  sysN := by
    have a : @LT.lt Nat _ 1 dN := Nat.lt_of_lt_of_le h5 h1
    exact beq_eq_false_iff_ne.mpr (Nat.ne_of_gt a)
  sysF := by
    have a : @LT.lt Nat _ 1 dF := Nat.lt_of_lt_of_le h5 h2
    exact beq_eq_false_iff_ne.mpr (Nat.ne_of_gt a)

theorem OkS.node_at (S : OkS prog w c) (hsub : Sub c.hs h) {k : Nat} (hk : k < c.m) : (nk prog w c).is h k (c.nd k) := by
  obtain ⟨o, items, n, ho, r⟩ := S.node k hk
  exact ⟨o, items, n, hsub _ _ ho, r⟩
theorem DictOK.extS (S : OkS prog w c) {d : Addr} {xs : List (Nat × Addr × Value)} (x : DictOK prog w c h d xs) (hd : ∀ o, h.get? d = some o → h'.get? d = some o) (hsub : Sub c.hs h') : DictOK prog w c h' d xs := by
  obtain ⟨⟨o, es, ep, ho, hc, hdat, he, his, hn⟩, hk⟩ := x
  refine ⟨⟨o, es, ep, hd _ ho, hc, hdat, he, fun x hx => ?_, hn⟩, hk⟩
  obtain ⟨h1, h2⟩ := hk x hx
  rw [h2]
  exact S.node_at hsub h1
end
end Mine

end
section
/- MDig2 -/
open PySem PySem.W PyProof.Rows
set_option maxRecDepth 100000
set_option linter.unusedVariables false
namespace Mine
section
variable {prog : Program} {w : World} {c : Cfg} {A : Around} {E : Value → Shared → Prop} {s : Shared} {L aX : Addr} {mm : Str → Option Value} {h h' : Heap} {U : List Nat} {σ τ : St Str} {xsN xsF : List (Nat × Addr × Value)} {fa : Nat → Addr}

structure DFr (c : Cfg) (L aX : Addr) (h : Heap) (mm : Str → Option Value) : Prop where
  fr : Fr c.hs L h mm
  X : mm (Str.ofString "X") = some (.ref aX)
  R : mm (Str.ofString "R") = some (.ref c.lR)
  FP : mm (Str.ofString "FP") = some (.ref c.lFP)

theorem DFr.sub (T : DFr c L aX h mm) (hk : Sub h h') : DFr c L aX h' mm := { T with fr := ⟨T.fr.ns.keeps hk, fun b o e => hk b o (T.fr.keep b o e), T.fr.above⟩ }
theorem DFr.but {a : Addr} (T : DFr c L aX h mm) (hk : Heap.ExtBut a h h') (hL : L ≠ a) (h0 : c.hs.get? a = none) : DFr c L aX h' mm :=
  { T with fr := ⟨T.fr.ns.extBut hk hL, fun b o e => hk b o (fun e' => by rw [e', h0] at e; cases e) (T.fr.keep b o e), T.fr.above⟩ }
theorem DFr.set {y : Str} {v : Value} (T : DFr c L aX h mm) (hn : h'.Ns L (fun z => if z = y then some v else mm z)) (hs : Heap.SameBut L h h') (hy : ([Str.ofString "X", Str.ofString "R", Str.ofString "FP"].all fun z => decide (z ≠ y)) = true) : DFr c L aX h' (fun z => if z = y then some v else mm z) := by
  simp only [List.all_cons, List.all_nil, Bool.and_true, Bool.and_eq_true, decide_eq_true_eq] at hy
  obtain ⟨h1, h2, h3⟩ := hy
  refine ⟨T.fr.set hn hs, ?_, ?_, ?_⟩
  · rw [if_neg h1]; exact T.X
  · rw [if_neg h2]; exact T.R
  · rw [if_neg h3]; exact T.FP
theorem DFr.hs0 (T : DFr c L aX h mm) : c.hs.get? L = none := none_of_ge T.fr.above
theorem DFr.notList (T : DFr c L aX h mm) : ∀ its, ¬ h.PlainList L its := notList_of_ns T.fr.ns
theorem DFr.L_lt (T : DFr c L aX h mm) : ∃ o, h.get? L = some o := by
  obtain ⟨o, _, _, ho, _⟩ := T.fr.ns
  exact ⟨o, ho⟩

theorem rdD {y : Str} {pos : Pos} {v : Value} {Q : Value → Shared → Prop} (T : DFr c L aX s.heap mm) (hv : mm y = some v) (h : Q v s) (hl : (dgEnv L).kindOf y = some .local := by rfl) (hd : (y == ("__debug__" : Str)) = false := by decide) :
    wpAny (model prog w) A (eval (.Name y pos) (dgEnv L)) Q E s := ld T.fr hv h (by rfl) hl hd
theorem storeD {y : Str} {v : Value} {Q : Unit → Shared → Prop} (T : DFr c L aX s.heap mm) (hl : (dgEnv L).kindOf y = some .local) (hy : ([Str.ofString "X", Str.ofString "R", Str.ofString "FP"].all fun z => decide (z ≠ y)) = true)
    (h : ∀ h', DFr c L aX h' (fun z => if z = y then some v else mm z) → Heap.SameBut L s.heap h' → Q () { s with heap := h', toks := s.toks + 1 }) : wpAny (model prog w) A (storeName (dgEnv L) y v) Q E s :=
  wpAny_storeName_local hl T.fr.ns (fun h' hn hs => h h' (T.set hn hs hy) hs) (by rfl)

/-- what is told of digraph's answer -/
structure Told (prog : Program) (w : World) (c : Cfg) (h : Heap) (dF : Addr) (xs : List (Nat × Addr × Value)) (fa : Nat → Addr) (fl : Nat → List Str) : Prop where
  dict : DictOK prog w c h dF xs
  val : ∀ k, k < c.m → valAt xs k = some (.ref (fa k))
  list : ∀ k, k < c.m → StrL c.abc h (fa k) (fl k)
  due : ∀ k, k < c.m → ∀ a, a ∈ fl k ↔ Due c.rel c.own k a
  sys : (dF == sysModules) = false
  fresh : c.hs.get? dF = none
  freshF : ∀ k, k < c.m → c.hs.get? (fa k) = none

theorem iter_ne {h0 h : Heap} {It a l : Addr} {j : Nat} (h1 : h0.get? It = none) (h2 : ∃ o, h0.get? a = some o) : a ≠ It := by
  rintro rfl
  obtain ⟨o, e⟩ := h2
  rw [h1] at e; cases e

theorem digraph_spec (S : OkS prog w c) (tr : TrOk c) (dg : DgOk c) {order : List Nat} {Q : Value → Shared → Prop} (hhs : c.hs = s.heap) (hX : c.oX = .ref aX) (hl : s.heap.IsList aX (order.map fun k => Value.ref (c.nd k)).toArray)
    (ho1 : ∀ k ∈ order, k < c.m) (ho2 : ∀ k, k < c.m → k ∈ order) (hh : A.handled = none) (hd : A.depth + 60 < recursionLimit) (hu : A.units + 500 < cLine)
    (h : ∀ h' tk dF xs fa fl, Sub s.heap h' → Told prog w c h' dF xs fa fl → Q (.ref dF) { s with heap := h', toks := tk }) :
    wpAny (model prog w) A (call (.ref 21) [.ref aX, .ref c.lR, .ref c.lFP]) Q E s := by
  obtain ⟨o, pm, ho, hdat⟩ := dg.fn
  rw [hhs] at ho
  have hm8 := S.m8
  have hsz1 : 1 < c.hs.objs.size := by
    rw [hhs]
    exact Nat.lt_trans (by decide) (Heap.lt_size ho)
  refine wpAny_call (call_plain_ret (binds := [(Str.ofString "X", .ref aX), (Str.ofString "R", .ref c.lR), (Str.ofString "FP", .ref c.lFP)])
    (by omega) ho hdat (by rw [← hhs]; exact S.nolimit) (by rw [← hhs]; exact dg.code) (by rfl) (locs (by rfl)) (fun h₁ F₁ => ?_) (by rfl) (by rfl) (by rfl) (by decide))
  generalize hL : s.heap.objs.size = L at F₁
  have D1 : DFr c L aX h₁ (fun y => List.lookup y [(Str.ofString "X", Value.ref aX), (Str.ofString "R", .ref c.lR), (Str.ofString "FP", .ref c.lFP)].reverse) :=
    ⟨by rw [hhs]; exact F₁, rfl, rfl, rfl⟩
  have rA : Room (A.deeper (dgEnv L)) := ⟨hh, by show A.depth + 1 + 20 < _; omega, by show A.units + 3 + 200 < _; omega⟩
  have hdA : (A.deeper (dgEnv L)).depth + 8 + 30 < recursionLimit := by show A.depth + 1 + 8 + 30 < _; omega
  have huA : (A.deeper (dgEnv L)).units + 10 * 8 + 300 < cLine := by show A.units + 3 + 10 * 8 + 300 < _; omega
  generalize A.deeper (dgEnv L) = A' at rA hdA huA
  clear hh hd hu
  have hlist : ∀ {h mm}, DFr c L aX h mm → h.IsList aX (order.map fun k => Value.ref (c.nd k)).toArray := fun {h mm} T => by
    rw [← hhs] at hl
    exact hl.at fun o e => T.fr.keep _ _ e
  show wpAny (model prog w) A' (execs dgBody (dgEnv L)) _ _ _
  unfold dgBody dgStmt PySem.Challenge.pw_kk0044_01
  dsimp only
  -- N = {}
  refine wpAny_execs_cons (wpAny_Assign_Name (wpAny_Dict_empty ?_) (by rfl))
  dsimp only
  have hLlt : @LT.lt Nat _ L h₁.objs.size := by obtain ⟨o', e⟩ := D1.L_lt; exact Heap.lt_size e
  have hsL : @LE.le Nat _ c.hs.objs.size L := D1.fr.above
  generalize hdN : h₁.objs.size = dN at hLlt ⊢
  have hN0 : c.hs.objs.size ≤ dN := Nat.le_of_lt (Nat.lt_of_le_of_lt hsL hLlt)
  have hLN : L ≠ dN := Nat.ne_of_lt hLlt
  have hsub2 : Sub h₁ (h₁.push { cls := .type "dict", data := .dict #[] }) := fun b o e => Heap.get?_push_of_some _ e
  have hnew2 : DictOK prog w c (h₁.push { cls := .type "dict", data := .dict #[] }) dN [] := ⟨by rw [← hdN]; exact Heap.DictOfH.new h₁, by simp⟩
  generalize h₁.push { cls := .type "dict", data := .dict #[] } = h₂ at hsub2 hnew2 ⊢
  have D2 := D1.sub hsub2
  refine storeD (s := { s with heap := h₂, toks := _ }) D2 (by rfl) (by decide) fun h₃ D3 hs3 => ?_
  have hnew3 : DictOK prog w c h₃ dN [] := hnew2.extS S (fun o e => hs3.extBut _ o (Ne.symm hLN) e) D3.fr.keep
  -- for x in X: N[x] = 0
  refine wpAny_execs_cons (wpAny_For (rdD (s := { s with heap := h₃, toks := _ }) D3 D3.X ?_) (by intro _; rfl))
  refine for_list (s := { s with heap := h₃, toks := _ }) (items := (order.map fun k => Value.ref (c.nd k)).toArray) (m0 := _) rA.1 (by rfl) (by rfl) (hlist D3) D3.L_lt
    (fun i h m => DFr c L aX h m ∧ m (Str.ofString "N") = some (.ref dN) ∧ ∃ xs, DictOK prog w c h dN xs ∧ ∀ k ∈ order.take i, ∃ t, valAt xs k = some (.int 0 t))
    (fun i h m J => J.1.fr.ns) (fun i h m J => hlist J.1) ?_ (fun h' hk => ⟨D3.sub hk, by rfl, [], hnew3.extS S (hk _) (D3.sub hk).fr.keep, by simp⟩) ?_ ?_
  · rintro i h h' m It j ⟨D, hm, xs, hx, hv⟩ hIt hit hb
    have hL' := iter_ne (l := aX) (j := j) (h := h) hIt D3.L_lt
    have h0 : c.hs.get? It = none := by
      cases e : c.hs.get? It with
      | none => rfl
      | some o' => rw [D3.fr.keep _ _ e] at hIt; cases hIt
    have D' := D.but hb hL' h0
    have hdNne : dN ≠ It := iter_ne (l := aX) (j := j) (h := h) hIt (by obtain ⟨o', _, _, e, _⟩ := hnew3.data; exact ⟨o', e⟩)
    exact ⟨D', hm, xs, hx.extS S (fun o e => hb _ o hdNne e) D'.fr.keep, hv⟩
  · rintro i v h m It hv ⟨D, hm, xs, hx, hval⟩ hIt hit h₄ tk hn hsb hit4
    have hi : i < order.length := by
      have := (Array.getElem?_eq_some_iff.mp hv).1
      simpa using this
    generalize hk : order[i] = k
    have hget : order[i]? = some k := by rw [← hk]; exact List.getElem?_eq_getElem hi
    have hvk : v = .ref (c.nd k) := by
      have : ((order.map fun k => Value.ref (c.nd k)).toArray)[i]? = some (.ref (c.nd k)) := by simp [hget]
      rw [this] at hv; exact (Option.some.inj hv).symm
    subst hvk
    have hkm : k < c.m := ho1 k (List.mem_of_getElem? hget)
    have D4 := D.set (y := Str.ofString "x") hn hsb (by decide)
    have hx4 : DictOK prog w c h₄ dN xs := hx.extS S (fun o e => hsb.extBut _ o (Ne.symm hLN) e) D4.fr.keep
    refine wpAny_execs_cons (wpAny_Assign_Subscript (wpAny_Constant_int (rdD (s := { s with heap := h₄, toks := _ }) D4 (v := .ref dN) ((if_neg (by decide)).trans hm) (rdD (s := { s with heap := h₄, toks := _ }) D4 (v := .ref (c.nd k)) (if_pos rfl) ?_))) (by rfl))
    refine wpAny_setItem_heap (knd := nk prog w c) (s := { s with heap := h₄, toks := _ }) rA.in1 (S.node_at D4.fr.keep hkm) hx4.1 (fun h₅ hd5 hs5 => ?_) (by have := hx4.len; rw [sizeLine_num]; omega)
    refine wpAny_execs_nil ⟨h₅, _, _, rfl, ⟨D4.but hs5.extBut hLN (none_of_ge hN0), (if_neg (by decide)).trans hm, _, ⟨hd5, mem_stored (P := fun a b => a < c.m ∧ b = c.nd a) hx4.2 ⟨hkm, rfl⟩⟩, ?_⟩, ?_⟩
    · intro j hj
      rw [valAt_stored]
      by_cases e : j = k
      · rw [if_pos e]; exact ⟨_, rfl⟩
      · rw [if_neg e]
        rw [List.take_add_one, hget] at hj
        rcases List.mem_append.mp hj with hj | hj
        · exact hval j hj
        · simp at hj; exact absurd hj e
    · exact hit4.extBut hs5.extBut (fun e => by
        obtain ⟨o', _, _, e', hd'⟩ := hx4.data
        obtain ⟨o2, ho2, hc2, hd2⟩ := hit4
        rw [e, e'] at ho2; cases ho2
        rw [hd'] at hd2; cases hd2)
  rintro h₆ tk₆ m₆ ⟨D6, hm6, xs6, hx6, hval6⟩
  have hval6' : ∀ k, k < c.m → ∃ t, valAt xs6 k = some (.int 0 t) := fun k hk => hval6 k (by
    have e : (order.map fun k => Value.ref (c.nd k)).toArray.size = order.length := by simp
    rw [e, List.take_length]; exact ho2 k hk)
  clear hval6
  -- stack = []
  refine wpAny_execs_cons (wpAny_Assign_Name (wpAny_List (Calls.spliced_nil ⟨by simp, ?_⟩)) (by rfl))
  dsimp only
  have hNlt : @LT.lt Nat _ dN h₆.objs.size := by obtain ⟨o', _, _, e, _⟩ := hx6.data; exact Heap.lt_size e
  have hLlt6 : @LT.lt Nat _ L h₆.objs.size := by obtain ⟨o', e⟩ := D6.L_lt; exact Heap.lt_size e
  generalize hsk : h₆.objs.size = sk at hNlt hLlt6 ⊢
  have hsub7 : Sub h₆ (h₆.push { cls := .type "list", data := .seq ([] : List Value).toArray }) := fun b o e => Heap.get?_push_of_some _ e
  have hsk7 : (h₆.push { cls := .type "list", data := .seq ([] : List Value).toArray }).PlainList sk #[] := ⟨0, by rw [← hsk]; exact Heap.get?_push_size _ rfl⟩
  generalize h₆.push { cls := Value.type "list", data := .seq ([] : List Value).toArray } = h₇ at hsub7 hsk7 ⊢
  have D7 := D6.sub hsub7
  have hx7 := hx6.extS S (hsub7 _) D7.fr.keep
  refine storeD (s := { s with heap := h₇, toks := _ }) D7 (by rfl) (by decide) fun h₈ D8 hs8 => ?_
  have hLsk : L ≠ sk := Nat.ne_of_lt hLlt6
  have hx8 := hx7.extS S (fun o e => hs8.extBut _ o (Ne.symm hLN) e) D8.fr.keep
  have hsk8 : h₈.PlainList sk #[] := hsk7.at fun o e => hs8.extBut _ o (Ne.symm hLsk) e
  -- F = {}
  refine wpAny_execs_cons (wpAny_Assign_Name (wpAny_Dict_empty ?_) (by rfl))
  dsimp only
  have hskl : @LT.lt Nat _ sk h₈.objs.size := by obtain ⟨n, e⟩ := hsk8; exact Heap.lt_size e
  have hNl8 : @LT.lt Nat _ dN h₈.objs.size := by obtain ⟨o', _, _, e, _⟩ := hx8.data; exact Heap.lt_size e
  have hLl8 : @LT.lt Nat _ L h₈.objs.size := by obtain ⟨o', e⟩ := D8.L_lt; exact Heap.lt_size e
  generalize hdF : h₈.objs.size = dF at hskl hNl8 hLl8 ⊢
  have hsub9 : Sub h₈ (h₈.push { cls := .type "dict", data := .dict #[] }) := fun b o e => Heap.get?_push_of_some _ e
  have hnew9 : DictOK prog w c (h₈.push { cls := .type "dict", data := .dict #[] }) dF [] := ⟨by rw [← hdF]; exact Heap.DictOfH.new h₈, by simp⟩
  generalize h₈.push { cls := .type "dict", data := .dict #[] } = h₉ at hsub9 hnew9 ⊢
  have D9 := D8.sub hsub9
  refine storeD (s := { s with heap := h₉, toks := _ }) D9 (by rfl) (by decide) fun h₁₀ D10 hs10 => ?_
  have hLF : L ≠ dF := Nat.ne_of_lt hLl8
  have hx10 := (hx8.extS S (hsub9 _) D9.fr.keep).extS S (fun o e => hs10.extBut _ o (Ne.symm hLN) e) D10.fr.keep
  have hF10 := hnew9.extS S (fun o e => hs10.extBut _ o (Ne.symm hLF) e) D10.fr.keep
  have hsk10 : h₁₀.PlainList sk #[] := hsk8.at fun o e => hs10.extBut _ o (Ne.symm hLsk) (hsub9 _ _ e)
  have hs1 : c.hs.objs.size ≤ dF := Nat.le_of_lt (Nat.lt_of_le_of_lt hsL hLl8)
  have hs2 : c.hs.objs.size ≤ sk := Nat.le_of_lt (Nat.lt_of_le_of_lt hsL hLlt6)
  have ok := S.ok (dN := dN) (dF := dF) (sk := sk) hN0 hs1 hs2 (Nat.ne_of_lt hNl8) hsz1
  have tr' : TrOk (c.made dN dF sk) := ⟨tr.fn, tr.code⟩
  have I10 : InvX prog w (c.made dN dF sk) [] ({ N := fun _ => 0, stk := [], F := fun _ => none } : St Str) h₁₀ xs6 [] (fun _ => 0) := by
    exact ⟨D10.fr.keep, hx10, fun k hk => hval6' k hk, hF10, fun k => rfl, hsk10, (fun k l e => nomatch e), (fun k hk => nomatch hk), fun k e => absurd rfl e⟩
  have TR : ∀ n, TravSpec prog w (c.made dN dF sk) n := trav_all ok tr'
  have hW0 := wf_start (m := c.m) (rel := c.rel) (own := c.own)
  -- for x in X: if N[x] == 0: traverse(..)
  refine wpAny_execs_cons (wpAny_For (rdD (s := { s with heap := h₁₀, toks := _ }) D10 D10.X ?_) (by intro _; rfl))
  refine for_list (s := { s with heap := h₁₀, toks := _ }) (items := (order.map fun k => Value.ref (c.nd k)).toArray) (m0 := _) rA.1 (by rfl) (by rfl) (hlist D10) D10.L_lt
    (fun i h m => DFr c L aX h m ∧ m (Str.ofString "N") = some (.ref dN) ∧ m (Str.ofString "stack") = some (.ref sk) ∧ m (Str.ofString "F") = some (.ref dF) ∧ ∃ τ : St Str, WF c.m c.rel c.own τ ∧ τ.stk = [] ∧ InvH prog w (c.made dN dF sk) [] τ h ∧ ∀ k ∈ order.take i, τ.N k = BIG)
    (fun i h m J => J.1.fr.ns) (fun i h m J => hlist J.1) ?_ (fun h' hk => ⟨D10.sub hk, (if_neg (by decide)).trans ((if_neg (by decide)).trans hm6), by rfl, by rfl, _, hW0, rfl, ⟨_, _, _, I10.ext ok hk⟩, by simp⟩) ?_ ?_
  · rintro i h h' m It j ⟨D, e1, e2, e3, τ, hW, hst, ⟨a, b, f, hI⟩, hB⟩ hIt hit hb
    have hL' := iter_ne (l := aX) (j := j) (h := h) hIt D10.L_lt
    have h0 : c.hs.get? It = none := by
      cases e : c.hs.get? It with
      | none => rfl
      | some o' => rw [D10.fr.keep _ _ e] at hIt; cases hIt
    have hdNne : dN ≠ It := iter_ne (l := aX) (j := j) (h := h) hIt (by obtain ⟨o', _, _, e, _⟩ := hx10.data; exact ⟨o', e⟩)
    have hdFne : dF ≠ It := iter_ne (l := aX) (j := j) (h := h) hIt (by obtain ⟨o', _, _, e, _⟩ := hF10.data; exact ⟨o', e⟩)
    exact ⟨D.but hb hL' h0, e1, e2, e3, τ, hW, hst, ⟨a, b, f, hI.but ok hb h0 (Ne.symm hdNne) (Ne.symm hdFne) (notList_of_iter hit)⟩, hB⟩
  · rintro i v h m It hv ⟨D, e1, e2, e3, τ, hW, hst, ⟨a, b, f, hI⟩, hB⟩ hIt hit h₁₁ tk hn hsb hit11
    have hi : i < order.length := by
      have := (Array.getElem?_eq_some_iff.mp hv).1
      simpa using this
    generalize hk : order[i] = k
    have hget : order[i]? = some k := by rw [← hk]; exact List.getElem?_eq_getElem hi
    have hvk : v = .ref (c.nd k) := by
      have : ((order.map fun k => Value.ref (c.nd k)).toArray)[i]? = some (.ref (c.nd k)) := by simp [hget]
      rw [this] at hv; exact (Option.some.inj hv).symm
    subst hvk
    have hkm : k < c.m := ho1 k (List.mem_of_getElem? hget)
    have D11 := D.set (y := Str.ofString "x") hn hsb (by decide)
    have I11 := hI.but ok hsb.extBut D.hs0 hLN hLF D.notList
    have mem_next : ∀ (τ' : St Str), (∀ j, τ.N j = BIG → τ'.N j = BIG) → τ'.N k = BIG → ∀ j ∈ order.take (i + 1), τ'.N j = BIG := fun τ' h1 h2 j hj => by
      rw [List.take_add_one, hget] at hj
      rcases List.mem_append.mp hj with hj | hj
      · exact h1 j (hB j hj)
      · simp at hj; subst hj; exact h2
    refine wpAny_execs_cons (wpAny_If (wpAny_isTrue_Compare1 (Subscript_ (rdD (s := { s with heap := h₁₁, toks := tk }) D11 (v := .ref dN) ((if_neg (by decide)).trans e1) (rdD (s := { s with heap := h₁₁, toks := tk }) D11 (v := .ref (c.nd k)) (if_pos rfl) ?_)))))
    refine tail_dict (c := c.made dN dF sk) (s := { s with heap := h₁₁, toks := tk }) I11.oN.1 (get_N (c := c.made dN dF sk) (s := { s with heap := h₁₁, toks := tk }) ok rA I11 hkm fun t tk2 => ?_) rfl
    refine wpAny_Constant_int ?_
    show wpAny (model prog w) A' (richCompare .Eq _ _) _ _ _
    refine wpAny_eq_int (wpAny_truthy_bool ?_)
    by_cases h0 : τ.N k = 0
    · have e : (τ.N k == 0) = true := by simp [h0]
      rw [if_pos e]
      obtain ⟨mg, mb, hg, hb, _, et, _⟩ := S.top
      refine wpAny_execs_cons (wpAny_Expr_any (wpAny_Call_NameR (ld_global_at (s := { s with heap := h₁₁, toks := _ }) D11.fr hg et ?_)) (by rfl) (by rfl))
      obtain ⟨o', pm', ho', hdat'⟩ := tr.fn
      refine callWith_fn (s := { s with heap := h₁₁, toks := _ }) ⟨o', _, D11.fr.keep _ _ ho', hdat'⟩ rfl ?_
      refine Calls.spliced_cons (rdD (s := { s with heap := h₁₁, toks := _ }) D11 (v := .ref (c.nd k)) (if_pos rfl) (Calls.spliced_cons (rdD (s := { s with heap := h₁₁, toks := _ }) D11 (v := .ref dN) ((if_neg (by decide)).trans e1) (Calls.spliced_cons (rdD (s := { s with heap := h₁₁, toks := _ }) D11 (v := .ref sk) ((if_neg (by decide)).trans e2) (Calls.spliced_cons (rdD (s := { s with heap := h₁₁, toks := _ }) D11 (v := .ref dF) ((if_neg (by decide)).trans e3)
        (Calls.spliced_cons (rdD (s := { s with heap := h₁₁, toks := _ }) D11 D11.X (Calls.spliced_cons (rdD (s := { s with heap := h₁₁, toks := _ }) D11 D11.R (Calls.spliced_cons (rdD (s := { s with heap := h₁₁, toks := _ }) D11 D11.FP (Calls.spliced_nil ?_))))))))))))))
      refine ⟨⟨o', _, D11.fr.keep _ _ ho', hdat'⟩, ?_⟩
      have hP : Pre (c.made dN dF sk).m (c.made dN dF sk).rel (c.made dN dF sk).own τ k := pre_top hW hst hkm h0
      rw [← hX]
      refine TR 8 A' _ { s with heap := h₁₁, toks := _ } τ k _ rA.1 hdA huA hP (by rw [hst]; exact hm8) (by rw [hst]; exact ⟨a, b, f, I11⟩) fun h' tk' τ' hPost hI' hch => ?_
      obtain ⟨hst', hkB⟩ := post_top hst hPost
      rw [hst'] at hI'
      obtain ⟨a', b', f', hI''⟩ := id hI'
      refine wpAny_execs_nil (wpAny_execs_nil ⟨h', tk', (fun z => if z = Str.ofString "x" then some (Value.ref (c.nd k)) else m z), rfl, ⟨?_, (if_neg (by decide)).trans e1, (if_neg (by decide)).trans e2, (if_neg (by decide)).trans e3, τ', hPost.wf, hst', hI', mem_next τ' (fun j hj => ?_) hkB⟩, ?_⟩)
      · exact { D11 with fr := ⟨D11.fr.ns.at' fun o e => hch L o e hLN hLF D11.notList, hI''.sub, D11.fr.above⟩ }
      · exact (hPost.same j (by rw [hj]; decide)).1.trans hj
      · obtain ⟨o2, ho2, hc2, hd2⟩ := hit11
        have hdNne : It ≠ dN := Ne.symm (iter_ne (l := aX) (j := i) (h := h) hIt (by obtain ⟨o', _, _, e, _⟩ := hx10.data; exact ⟨o', e⟩))
        have hdFne : It ≠ dF := Ne.symm (iter_ne (l := aX) (j := i) (h := h) hIt (by obtain ⟨o', _, _, e, _⟩ := hF10.data; exact ⟨o', e⟩))
        exact ⟨o2, hch It o2 ho2 hdNne hdFne (notList_of_iter ⟨o2, ho2, hc2, hd2⟩), hc2, hd2⟩
    · have e : ¬ (τ.N k == 0) = true := by simp [h0]
      rw [if_neg e]
      refine wpAny_execs_nil (wpAny_execs_nil ⟨h₁₁, _, _, rfl, ⟨D11, (if_neg (by decide)).trans e1, (if_neg (by decide)).trans e2, (if_neg (by decide)).trans e3, τ, hW, hst, ⟨a, b, f, I11⟩, mem_next τ (fun _ h => h) ?_⟩, hit11⟩)
      rcases hW.off k (by rw [hst]; simp) with h1 | h1
      · exact absurd h1 h0
      · exact h1
  rintro h₁₂ tk₁₂ m₁₂ ⟨D12, e1, e2, e3, τ, hW, hst, ⟨a, b, f, hI⟩, hB⟩
  have hall : ∀ k, k < c.m → τ.N k = BIG := fun k hk => hB k (by
    have e : (order.map fun k => Value.ref (c.nd k)).toArray.size = order.length := by simp
    rw [e, List.take_length]; exact ho2 k hk)
  -- return F
  refine wpAny_execs_cons (wpAny_Return_some (rdD (s := { s with heap := h₁₂, toks := tk₁₂ }) D12 e3 ?_))
  refine h h₁₂ tk₁₂ dF b f (fun k => (τ.F k).getD []) (by rw [← hhs]; exact hI.sub) ⟨hI.oF, ?_, ?_, ?_, ok.sysF, none_of_ge hs1, ?_⟩
  · intro k hk
    obtain ⟨ls, e, _⟩ := hW.blkF k (hall k hk)
    rw [hI.vF k, e]; rfl
  · intro k hk
    obtain ⟨ls, e, _⟩ := hW.blkF k (hall k hk)
    have : StrL c.abc h₁₂ (f k) ls := hI.ls k ls e
    simpa [e] using this
  · intro k hk a'
    obtain ⟨ls, e, _, hd⟩ := hW.blkF k (hall k hk)
    simpa [e] using hd a'
  · intro k hk
    obtain ⟨ls, e, _⟩ := hW.blkF k (hall k hk)
    exact (hI.new k (by rw [e]; exact fun e => nomatch e)).1
end
end Mine

end
section
/- MComp -/
open PySem PySem.W PyProof.Rows
set_option maxRecDepth 100000
set_option linter.unusedVariables false
namespace Mine

section
variable {M : Model} {A : Around} {E : Value → Shared → Prop} {s : Shared}

/-- the variables of a comprehension, cells and closure and all -/
theorem newEnv_comp {scope : Scope} {globals : Addr} {cl : List (Str × Addr)} {qual : Str} {code : Value} {env : Env} {builtins : Addr} {Q : Env → Shared → Prop}
    (h : Q (newEnv scope s.heap.objs.size globals (cellsFrom (s.heap.objs.size + 1) scope.names cl) qual none code (some env) builtins)
      { s with heap := pushCells (s.heap.push { cls := .type "dict", data := .dict #[] }) scope.names }) :
    wpAny M A (newFunctionEnv scope globals cl [] qual none code (some env) builtins) Q E s := by
  simp only [newFunctionEnv, Option.isSome_some, if_true]
  refine wpAny_bind (wpAny_alloc ?_)
  refine wpAny_bind (wpAny_layCells _ (fun name kind cells => by cases hkc : kind == NameKind.cell <;> simp [hkc]) _ _ _ _ ?_)
  rw [show ({ s with heap := s.heap.push { cls := .type "dict", data := .dict #[] } } : Shared).heap.objs.size = s.heap.objs.size + 1 from Heap.size_push ..]
  rw [List.forIn_nil]
  exact wpAny_bind (wpAny_pure (wpAny_pure h))
end

section
variable {prog : Program} {w : World} {A : Around} {E : Value → Shared → Prop} {s : Shared} {env : Env}

/-- a list comprehension of one clause: what is left is its loop -/
theorem comp_wrap {elt tgt iter : Expr} {ifs : List Expr} {scope : Scope} {pos pos' : Pos} {cl : List (Str × Addr)} {use : Option (Value → Sem Unit)} {Q : Value → Shared → Prop}
    (hclos : closureFor scope env = pure cl) (hkind : scope.kind = .function) (hnames : ∀ x ∈ scope.names, x.2 = .local → scope.names.lookup x.1 = some .local)
    (h : wpAny (model prog w) A (eval iter env) (fun xv s₁ => wpAny (model prog w) A (pyIter xv) (fun it s₂ =>
      (∀ h' (Q' : Value → Shared → Prop) (E' : Value → Shared → Prop), Sub s₂.heap h' → Q' it { s₂ with heap := h' } → wpAny (model prog w) A (pyIter it) Q' E' { s₂ with heap := h' }) ∧
      ∀ D C h₁, D = s₂.heap.objs.size → C = D + 1 → s₂.heap.get? D = none → s₂.heap.get? C = none → D ≠ C → Sub s₂.heap h₁ → h₁.PlainList D #[] → h₁.Ns C (fun _ => none) →
        (∃ h₀, h₀.objs.size = C + 1 ∧ h₁ = pushCells h₀ scope.names) →
        codeAny (model prog w) A (.compLoop (.ListComp elt [⟨tgt, iter, ifs, 0⟩] scope pos) 0 it (.ref D) (compEnvC scope (cellsFrom (C + 1) scope.names cl) C env)) (compPost (model prog w) A E use Q (.ref D) C) { s₂ with heap := h₁ }) E s₁) E s)
    (hs : ∀ x, foldedSetIterable iter env x = pure x := by intro _; rfl) :
    wpAny (model prog w) A (comprehension (.ListComp elt [⟨tgt, iter, ifs, 0⟩] scope pos) scope env pos' (newList []) false (eval iter env) use) Q E s := by
  refine wpAny_comprehension_free rfl hs hclos hkind hnames (wpAny_mono h (fun xv s₁ h₁ => wpAny_mono h₁ (fun it s₂ h₂ => ?_) fun _ _ e => e) fun _ _ e => e)
  obtain ⟨hself, hloop⟩ := h₂
  refine wpAny_newObj_type (newEnv_comp ?_)
  dsimp only
  generalize hH2 : s₂.heap.push { cls := .type "list", dict := none, data := .seq ([] : List Value).toArray } = H2
  have hC : H2.objs.size = s₂.heap.objs.size + 1 := by rw [← hH2, Heap.size_push]
  have hD2 : H2.PlainList s₂.heap.objs.size #[] := ⟨0, by rw [← hH2]; exact Heap.get?_push_size _ rfl⟩
  have sub2 : Sub s₂.heap H2 := fun b o e => by rw [← hH2]; exact Heap.get?_push_of_some _ e
  have sub3 : Sub H2 (pushCells (H2.push { cls := .type "dict", data := .dict #[] }) scope.names) := fun b o e => pushCells_keeps _ _ b o (Heap.get?_push_of_some _ e)
  have hns : (pushCells (H2.push { cls := .type "dict", data := .dict #[] }) scope.names).Ns H2.objs.size (fun _ => none) := (Heap.Ns.new H2 (.type "dict")).keeps (pushCells_keeps _ _)
  have hex : ∃ h₀ : Heap, h₀.objs.size = H2.objs.size + 1 ∧ pushCells (H2.push { cls := .type "dict", data := .dict #[] }) scope.names = pushCells h₀ scope.names := ⟨_, Heap.size_push .., rfl⟩
  have sub4 : Sub s₂.heap (pushCells (H2.push { cls := .type "dict", data := .dict #[] }) scope.names) := fun b o e => sub3 b o (sub2 b o e)
  have hl := hloop s₂.heap.objs.size H2.objs.size _ rfl hC (none_of_ge (Nat.le_refl _)) (none_of_ge (by rw [hC]; exact Nat.le_succ _)) (by rw [hC]; exact Nat.ne_of_lt (Nat.lt_succ_self _)) sub4 (hD2.at fun o e => sub3 _ o e) hns hex
  refine codeAny_compStart_list hl (hself _ _ _ sub4 hl)

/-- the loop of a list comprehension over a walk, by what holds of the heap -/
theorem comp_walk {elt iter : Expr} {x : Str} {px : Pos} {ifs : List Expr} {scope : Scope} {pos : Pos} {I D : Addr} {fp wr : List Addr} {n : Nat} {P : Nat → Value → Prop} {St : Nat → Heap → Prop} {R : Result → Shared → Prop}
    {cenv : Env} {m : Str → Option Value} (W : Walks prog w A I fp wr n P St) (hsz : n ≤ sizeLine)
    (hx : cenv.kindOf x = some .local) (hp : (cenv.scope.kind == .class || (cenv.scope.kind == .module && cenv.locals != cenv.globals)) = false)
    (hDC : D ≠ cenv.locals) (hDf : D ∉ fp) (hCf : cenv.locals ∉ fp)
    (hst : St 0 s.heap) (hacc : s.heap.PlainList D #[]) (hn : s.heap.Ns cenv.locals m)
    (J : Nat → List Value → Heap → Prop) (hJ0 : J 0 [] s.heap)
    (hJ : ∀ i ys h h', J i ys h → (∀ b o, b ≠ cenv.locals → b ∉ wr → b ≠ D → h.get? b = some o → h'.get? b = some o) → J i ys h')
    (turn : ∀ i v ys h tk m', i < n → P i v → J i ys h → h.Ns cenv.locals m' → m' x = some v → ((∀ b o, b ≠ cenv.locals → b ∉ wr → b ≠ D → s.heap.get? b = some o → h.get? b = some o) ∧ St (i + 1) h ∧ h.PlainList D ys.toArray) →
      wpAny (model prog w) A (forIn ifs true fun c r => if r = true then do let ok ← isTrue c cenv (eval c cenv); pure (ForInStep.yield ok) else pure (ForInStep.yield r))
        (fun ok s₃ => ∃ h₃ tk₃, s₃ = { s with heap := h₃, toks := tk₃ } ∧ Sub h h₃ ∧ if ok = true then
          wpAny (model prog w) A (eval elt cenv) (fun y s₄ => ∃ h₄ tk₄, s₄ = { s with heap := h₄, toks := tk₄ } ∧ Sub h₃ h₄ ∧ J (i + 1) (ys ++ [y]) h₄) (fun _ _ => False) s₃
          else J (i + 1) ys h₃) (fun _ _ => False) { s with heap := h, toks := tk })
    (done : ∀ h' tk m' ys, J n ys h' → ys.length ≤ n → h'.Ns cenv.locals m' → h'.PlainList D ys.toArray → (∀ b o, b ≠ cenv.locals → b ∉ wr → b ≠ D → s.heap.get? b = some o → h'.get? b = some o) → R (.ok .next) { s with heap := h', toks := tk }) :
    codeAny (model prog w) A (.compLoop (.ListComp elt [⟨.Name x px, iter, ifs, 0⟩] scope pos) 0 (.ref I) (.ref D) cenv) R s := by
  have hCw : cenv.locals ∉ wr := fun h => hCf (W.sub _ h)
  have hDw : D ∉ wr := fun h => hDf (W.sub _ h)
  refine codeAny_compLoop_tests
    (fun k s' => ∃ i h' tk m' ys, s' = { s with heap := h', toks := tk } ∧ i ≤ n ∧ k = n + 1 - i ∧ St i h' ∧ J i ys h' ∧ ys.length ≤ i ∧ h'.PlainList D ys.toArray ∧ h'.Ns cenv.locals m' ∧
      (∀ b o, b ≠ cenv.locals → b ∉ wr → b ≠ D → s.heap.get? b = some o → h'.get? b = some o)) ?_ (n + 1)
    ⟨0, s.heap, s.toks, m, [], rfl, Nat.zero_le _, rfl, hst, hJ0, Nat.le_refl _, hacc, hn, fun _ _ _ _ _ e => e⟩
  rintro k s' ⟨i, H, tk, m', ys, rfl, hi, rfl, hst', hJi, hlen, hacc', hn', hk⟩
  by_cases hlt : i < n
  · refine W.item i _ _ _ hlt hst' fun v h₁ tk₁ hPv hst₁ hk₁ => ?_
    refine wpAny_assign_Name (wpAny_storeName_local hx (hn'.at' fun o e => hk₁ _ o hCw e) (fun h₂ hn₂ hs₂ => ?_) hp)
    have up₂ : ∀ b o, b ≠ cenv.locals → b ∉ wr → H.get? b = some o → h₂.get? b = some o := fun b o hbC hbf e => hs₂.extBut b o hbC (hk₁ b o hbf e)
    have hst₂ : St (i + 1) h₂ := W.frame _ _ _ hst₁ fun b hb o e => hs₂.extBut b o (fun h => hCf (h ▸ hb)) e
    have hJ₂ : J i ys h₂ := hJ _ _ _ _ hJi fun b o h1 h2 _ e => up₂ b o h1 h2 e
    have hacc₂ : h₂.PlainList D ys.toArray := hacc'.at fun o e => up₂ D o hDC hDw e
    refine wpAny_mono (turn i v ys h₂ _ _ hlt hPv hJ₂ hn₂ (by simp) ⟨fun b o hbC hbf hbD e => up₂ b o hbC hbf (hk b o hbC hbf hbD e), hst₂, hacc₂⟩) (fun ok s₃ h₃ => ?_) fun _ _ e => e.elim
    obtain ⟨h₃, tk₃, rfl, hk₃, hrest⟩ := h₃
    have hst₃ : St (i + 1) h₃ := W.frame _ _ _ hst₂ fun b _ o e => hk₃ b o e
    have hacc₃ : h₃.PlainList D ys.toArray := hacc₂.at fun o e => hk₃ _ o e
    have hn₃ := hn₂.keeps hk₃
    cases ok with
    | false =>
      simp only [Bool.false_eq_true, if_false] at hrest ⊢
      exact ⟨n + 1 - (i + 1), by omega, i + 1, h₃, tk₃, _, ys, rfl, hlt, rfl, hst₃, hrest, Nat.le_succ_of_le hlen, hacc₃, hn₃, fun b o hbC hbf hbD e => hk₃ b o (up₂ b o hbC hbf (hk b o hbC hbf hbD e))⟩
    | true =>
      simp only [if_true] at hrest ⊢
      refine wpAny_mono hrest (fun y s₄ h₄ => ?_) fun _ _ e => e.elim
      obtain ⟨h₄, tk₄, rfl, hk₄, hJ₄⟩ := h₄
      refine wpAny_list_append_plain (hsz := by simp; omega) (hacc₃.at fun o e => hk₄ _ o e) fun h₅ hl₅ hs₅ => ?_
      refine ⟨n + 1 - (i + 1), by omega, i + 1, h₅, tk₄, _, ys ++ [y], rfl, hlt, rfl, ?_, hJ _ _ _ _ hJ₄ fun b o _ _ hb e => hs₅.extBut b o hb e, by simp; omega, by simpa using hl₅, (hn₃.keeps hk₄).sameBut hs₅ (Ne.symm hDC), ?_⟩
      · exact W.frame _ _ h₅ hst₃ fun b hb o e => hs₅.extBut b o (fun h => hDf (h ▸ hb)) (hk₄ b o e)
      · exact fun b o hbC hbf hbD e => hs₅.extBut b o hbD (hk₄ b o (hk₃ b o (up₂ b o hbC hbf (hk b o hbC hbf hbD e))))
  · have hin : i = n := by omega
    subst hin
    refine W.done _ _ _ hst' fun h₁ tk₁ hk₁ => ?_
    exact done h₁ tk₁ m' ys (hJ _ _ _ _ hJi fun b o _ h2 _ e => hk₁ b o h2 e) hlen (hn'.at' fun o e => hk₁ _ o hCw e) (hacc'.at fun o e => hk₁ _ o hDw e) fun b o hbC hbf hbD e => hk₁ b o hbf (hk b o hbC hbf hbD e)

/-- a loop over a walk, by what holds of the heap and of the frame -/
theorem for_walk {x : Str} {px : Pos} {body : List Stmt} {I : Addr} {fp wr : List Addr} {n : Nat} {P : Nat → Value → Prop} {St : Nat → Heap → Prop} {R : Result → Shared → Prop} {m0 : Str → Option Value}
    (W : Walks prog w A I fp wr n P St) (hx : env.kindOf x = some .local)
    (hp : (env.scope.kind == .class || (env.scope.kind == .module && env.locals != env.globals)) = false) (hst : St 0 s.heap) (hLf : env.locals ∉ fp)
    (J : Nat → Heap → (Str → Option Value) → Prop) (hns : ∀ i h m, J i h m → h.Ns env.locals m)
    (hbut : ∀ i h h' m, J i h m → (∀ b o, b ∉ wr → h.get? b = some o → h'.get? b = some o) → J i h' m) (h0 : J 0 s.heap m0)
    (turn : ∀ i v h m, i < n → P i v → J i h m → St (i + 1) h → ∀ h₂ tk, h₂.Ns env.locals (fun y => if y = x then some v else m y) → Heap.SameBut env.locals h h₂ → St (i + 1) h₂ →
      wpAny (model prog w) A (execs body env) (fun f s₃ => match f with
        | .next | .cont => ∃ h₃ tk₃ m₃, s₃ = { s with heap := h₃, toks := tk₃ } ∧ J (i + 1) h₃ m₃ ∧ St (i + 1) h₃
        | .brk => False
        | .ret v => R (.ok (.ret v)) s₃) (fun _ _ => False) { s with heap := h₂, toks := tk })
    (done : ∀ h tk m, J n h m → R (.ok .next) { s with heap := h, toks := tk }) :
    codeAny (model prog w) A (.forLoop (.Name x px) (.ref I) body [] env) R s := by
  have hLw : env.locals ∉ wr := fun h => hLf (W.sub _ h)
  refine codeAny_forLoop (fun k s' => ∃ i h' tk m', s' = { s with heap := h', toks := tk } ∧ i ≤ n ∧ k = n + 1 - i ∧ J i h' m' ∧ St i h') ?_ (n + 1)
    ⟨0, s.heap, s.toks, m0, rfl, Nat.zero_le _, rfl, h0, hst⟩
  rintro k s' ⟨i, h', tk, m', rfl, hi, rfl, hJ, hst'⟩
  by_cases hlt : i < n
  · refine W.item i _ _ _ hlt hst' fun v h₁ tk₁ hPv hst₁ hk₁ => ?_
    have hJ₁ := hbut _ _ _ _ hJ hk₁
    refine wpAny_assign_Name (wpAny_storeName_local hx (hns _ _ _ hJ₁) (fun h₂ hn₂ hs₂ => ?_) hp)
    have hst₂ : St (i + 1) h₂ := W.frame _ _ _ hst₁ fun b hb o e => hs₂.extBut b o (fun h => hLf (h ▸ hb)) e
    refine wpAny_mono (turn i v h₁ m' hlt hPv hJ₁ hst₁ h₂ _ hn₂ hs₂ hst₂) (fun f s₃ h₃ => ?_) fun _ _ e => e.elim
    cases f with
    | next =>
      obtain ⟨h₃, tk₃, m₃, rfl, hJ₃, hit₃⟩ := h₃
      exact ⟨n + 1 - (i + 1), by omega, i + 1, h₃, tk₃, m₃, rfl, hlt, rfl, hJ₃, hit₃⟩
    | cont =>
      obtain ⟨h₃, tk₃, m₃, rfl, hJ₃, hit₃⟩ := h₃
      exact ⟨n + 1 - (i + 1), by omega, i + 1, h₃, tk₃, m₃, rfl, hlt, rfl, hJ₃, hit₃⟩
    | brk => exact h₃.elim
    | ret v => exact h₃
  · have hin : i = n := by omega
    subst hin
    refine W.done _ _ _ hst' fun h₁ tk₁ hk₁ => wpAny_execs_nil ?_
    exact done h₁ tk₁ m' (hbut _ _ _ _ hJ hk₁)
end
end Mine

end
section
/- MLaw0 -/
open PySem PySem.W PyProof.Rows
set_option maxRecDepth 100000
set_option linter.unusedVariables false
namespace Mine

def lawStmt : Stmt := match PySem.Challenge.pw_kk0044_01.main.body with | _ :: _ :: _ :: _ :: _ :: s :: _ => s | _ => .Pass default
def lawScope : Scope := match lawStmt with | .FunctionDef _ _ _ _ _ _ s _ _ _ => s | _ => default
def lawBody : List Stmt := match lawStmt with | .FunctionDef _ _ b _ _ _ _ _ _ _ => b | _ => []
def lawS0 : Stmt := match lawBody with | s :: _ => s | _ => .Pass default
def lawS1 : Stmt := match lawBody with | _ :: s :: _ => s | _ => .Pass default
def lawS2 : Stmt := match lawBody with | _ :: _ :: s :: _ => s | _ => .Pass default
def lawS3 : Stmt := match lawBody with | _ :: _ :: _ :: s :: _ => s | _ => .Pass default
def lawS4 : Stmt := match lawBody with | _ :: _ :: _ :: _ :: s :: _ => s | _ => .Pass default
def lawS5 : Stmt := match lawBody with | _ :: _ :: _ :: _ :: _ :: s :: _ => s | _ => .Pass default
def lawS6 : Stmt := match lawBody with | _ :: _ :: _ :: _ :: _ :: _ :: s :: _ => s | _ => .Pass default
def lawS7 : Stmt := match lawBody with | _ :: _ :: _ :: _ :: _ :: _ :: _ :: s :: _ => s | _ => .Pass default
def lawS8 : Stmt := match lawBody with | _ :: _ :: _ :: _ :: _ :: _ :: _ :: _ :: s :: _ => s | _ => .Pass default
def lawS9 : Stmt := match lawBody with | _ :: _ :: _ :: _ :: _ :: _ :: _ :: _ :: _ :: s :: _ => s | _ => .Pass default
def lawS10 : Stmt := match lawBody with | _ :: _ :: _ :: _ :: _ :: _ :: _ :: _ :: _ :: _ :: s :: _ => s | _ => .Pass default
def lawS11 : Stmt := match lawBody with | _ :: _ :: _ :: _ :: _ :: _ :: _ :: _ :: _ :: _ :: _ :: s :: _ => s | _ => .Pass default
def lawS12 : Stmt := match lawBody with | _ :: _ :: _ :: _ :: _ :: _ :: _ :: _ :: _ :: _ :: _ :: _ :: s :: _ => s | _ => .Pass default
def lawS13 : Stmt := match lawBody with | _ :: _ :: _ :: _ :: _ :: _ :: _ :: _ :: _ :: _ :: _ :: _ :: _ :: s :: _ => s | _ => .Pass default
theorem lawBody_eq : lawBody = [lawS0, lawS1, lawS2, lawS3, lawS4, lawS5, lawS6, lawS7, lawS8, lawS9, lawS10, lawS11, lawS12, lawS13] := rfl
abbrev lawCells (L : Addr) : List (Str × Addr) := cellsFrom (L + 1) lawScope.names []
abbrev lawEnv (la L : Addr) : Env := envX (Str.ofString "law") lawScope L la (.ref 32) (lawCells L)
theorem lawCells_eq (L : Addr) : lawCells L = [(Str.ofString "related", L + 1 + 1 + 1 + 1 + 1), (Str.ofString "own", L + 1 + 1 + 1 + 1), (Str.ofString "met", L + 1 + 1 + 1), (Str.ofString "number", L + 1 + 1), (Str.ofString "nodes", L + 1)] := rfl

/-- the law's own frame: what is fixed (hb), its locals, its cells, the table of its inner codes -/
structure LF (hb : Heap) (L : Addr) (ps : Array Value) (h : Heap) (m cm : Str → Option Value) : Prop where
  ns : h.Ns L m
  cl : Cl L (lawCells L) h cm
  tab : h.get? 30 = some (tabObj ps)
  keep : Sub hb h
  noL : hb.get? L = none
  noC : ∀ n c, (lawCells L).lookup n = some c → hb.get? c = none
  noT : hb.get? 30 = none
  lt : @LT.lt Nat _ 30 L

def Held (hb : Heap) (L : Addr) (b : Addr) : Prop := (∃ o, hb.get? b = some o) ∨ b = L ∨ (∃ n, (lawCells L).lookup n = some b) ∨ b = 30

section
variable {la : Addr} {hb h h' : Heap} {L a : Addr} {ps : Array Value} {m cm : Str → Option Value}

theorem LF.held (T : LF hb L ps h m cm) {b : Addr} (hH : Held hb L b) : ∃ o, h.get? b = some o := by
  rcases hH with ⟨o, e⟩ | rfl | ⟨n, e⟩ | rfl
  · exact ⟨o, T.keep _ _ e⟩
  · obtain ⟨o, _, _, e, _⟩ := T.ns; exact ⟨o, e⟩
  · obtain ⟨o, e, _⟩ := T.cl.cell n b e; exact ⟨o, e⟩
  · exact ⟨_, T.tab⟩
theorem LF.new (T : LF hb L ps h m cm) {b : Addr} (hb' : h.get? b = none) : ¬ Held hb L b := fun hH => by
  obtain ⟨o, e⟩ := T.held hH
  rw [hb'] at e; cases e
theorem LF.at (T : LF hb L ps h m cm) (hk : ∀ b o, Held hb L b → h.get? b = some o → h'.get? b = some o) : LF hb L ps h' m cm where
  ns := T.ns.at' fun o e => hk _ o (.inr (.inl rfl)) e
  cl := ⟨fun n c e => by
    obtain ⟨o, ho, hd⟩ := T.cl.cell n c e
    exact ⟨o, hk _ o (.inr (.inr (.inl ⟨n, e⟩))) ho, hd⟩, T.cl.apart, T.cl.above⟩
  tab := hk _ _ (.inr (.inr (.inr rfl))) T.tab
  keep := fun b o e => hk b o (.inl ⟨o, e⟩) (T.keep b o e)
  noL := T.noL
  noC := T.noC
  noT := T.noT
  lt := T.lt
theorem LF.sub (T : LF hb L ps h m cm) (hk : Sub h h') : LF hb L ps h' m cm := T.at fun b o _ e => hk b o e
theorem LF.but (T : LF hb L ps h m cm) (hx : Heap.ExtBut a h h') (ha : ¬ Held hb L a) : LF hb L ps h' m cm := T.at fun b o hH e => hx b o (fun e' => ha (e' ▸ hH)) e
theorem LF.set {y : Str} {v : Value} (T : LF hb L ps h m cm) (hn : h'.Ns L (fun z => if z = y then some v else m z)) (hs : Heap.SameBut L h h') : LF hb L ps h' (fun z => if z = y then some v else m z) cm where
  ns := hn
  cl := T.cl.sameBut hs (Nat.le_refl _)
  tab := hs.extBut _ _ (by
    have := T.lt
    exact Nat.ne_of_lt this) T.tab
  keep := fun b o e => hs.extBut b o (fun e' => by rw [e', T.noL] at e; cases e) (T.keep b o e)
  noL := T.noL
  noC := T.noC
  noT := T.noT
  lt := T.lt
theorem LF.setC {x : Str} {c : Addr} {v : Value} (T : LF hb L ps h m cm) (hc : (lawCells L).lookup x = some c) (hv : h'.IsCell c (some v)) (hs : Heap.SameBut c h h') : LF hb L ps h' m (fun z => if z = x then some v else cm z) := by
  have hLc : @LT.lt Nat _ L c := T.cl.above x c (mem_of_lookup hc)
  refine ⟨T.ns.sameBut hs (Nat.ne_of_lt hLc), ⟨fun n c' e => ?_, T.cl.apart, T.cl.above⟩, hs.extBut _ _ ?_ T.tab, fun b o e => hs.extBut b o (fun e' => by rw [e', T.noC x c hc] at e; cases e) (T.keep b o e), T.noL, T.noC, T.noT, T.lt⟩
  · by_cases hn : n = x
    · subst hn; rw [hc] at e; cases e; simpa using hv
    · have hcc : c' ≠ c := fun q => hn (name_of_addr T.cl.apart (mem_of_lookup e) (q ▸ mem_of_lookup hc))
      simpa [hn] using (T.cl.cell n c' e).sameBut hs hcc
  · exact Nat.ne_of_lt (Nat.lt_trans T.lt hLc)
theorem LF.tabTo {ps' : Array Value} (T : LF hb L ps h m cm) (hx : Heap.ExtBut 30 h h') (ht : h'.get? 30 = some (tabObj ps')) : LF hb L ps' h' m cm where
  ns := T.ns.at' fun o e => hx _ o (by have := T.lt; exact Nat.ne_of_gt this) e
  cl := ⟨fun n c e => by
    obtain ⟨o, ho, hd⟩ := T.cl.cell n c e
    have hLc : @LT.lt Nat _ L c := T.cl.above n c (mem_of_lookup e)
    exact ⟨o, hx _ o (Nat.ne_of_gt (Nat.lt_trans T.lt hLc)) ho, hd⟩, T.cl.apart, T.cl.above⟩
  tab := ht
  keep := fun b o e => hx b o (fun e' => by rw [e', T.noT] at e; cases e) (T.keep b o e)
  noL := T.noL
  noC := T.noC
  noT := T.noT
  lt := T.lt

/-- all that stands now and is not the law's own to change is fixed from now on -/
theorem LF.rebase (T : LF hb L ps h m cm) (l : List Addr) (hl : ∀ b ∈ l, hb.get? b = none) : ∃ hb', LF hb' L ps h m cm ∧ Sub hb hb' ∧ (∀ b ∈ l, hb'.get? b = none) ∧ (∀ b o, h.get? b = some o → b ∉ l → ¬ Held hb L b → hb'.get? b = some o) := by
  refine ⟨hideAll h (l ++ 30 :: L :: (lawCells L).map (·.2)), ⟨T.ns, T.cl, T.tab, fun b o e => of_hideAll _ e, ?_, ?_, ?_, T.lt⟩, ?_, ?_, ?_⟩
  · exact hideAll_none _ (by simp)
  · intro n c e
    refine hideAll_none _ ?_
    have := List.mem_map_of_mem (f := (·.2)) (mem_of_lookup e)
    simp only [List.mem_append, List.mem_cons]
    exact .inr (.inr (.inr this))
  · exact hideAll_none _ (by simp)
  · intro b o e
    refine hideAll_get _ (T.keep b o e) fun hm => ?_
    rcases List.mem_append.mp hm with hm | hm
    · rw [hl b hm] at e; cases e
    · rcases List.mem_cons.mp hm with rfl | hm
      · rw [T.noT] at e; cases e
      · rcases List.mem_cons.mp hm with rfl | hm
        · rw [T.noL] at e; cases e
        · obtain ⟨q, hq, rfl⟩ := List.mem_map.mp hm
          have hq' : ∃ n, (lawCells L).lookup n = some q.2 := by
            rw [lawCells_eq] at hq ⊢
            simp only [List.mem_cons, List.not_mem_nil, or_false] at hq
            rcases hq with rfl | rfl | rfl | rfl | rfl
            · exact ⟨Str.ofString "related", rfl⟩
            · exact ⟨Str.ofString "own", rfl⟩
            · exact ⟨Str.ofString "met", rfl⟩
            · exact ⟨Str.ofString "number", rfl⟩
            · exact ⟨Str.ofString "nodes", rfl⟩
          obtain ⟨n, hn⟩ := hq'
          rw [T.noC n _ hn] at e; cases e
  · intro b hb'
    exact hideAll_none _ (List.mem_append_left _ hb')
  · intro b o e hbl hH
    refine hideAll_get _ e fun hm => ?_
    rcases List.mem_append.mp hm with hm | hm
    · exact hbl hm
    · rcases List.mem_cons.mp hm with rfl | hm
      · exact hH (.inr (.inr (.inr rfl)))
      · rcases List.mem_cons.mp hm with rfl | hm
        · exact hH (.inr (.inl rfl))
        · obtain ⟨q, hq, rfl⟩ := List.mem_map.mp hm
          refine hH (.inr (.inr (.inl ?_)))
          rw [lawCells_eq] at hq ⊢
          simp only [List.mem_cons, List.not_mem_nil, or_false] at hq
          rcases hq with rfl | rfl | rfl | rfl | rfl
          · exact ⟨Str.ofString "related", rfl⟩
          · exact ⟨Str.ofString "own", rfl⟩
          · exact ⟨Str.ofString "met", rfl⟩
          · exact ⟨Str.ofString "number", rfl⟩
          · exact ⟨Str.ofString "nodes", rfl⟩
end

/-- what of the module and of the builtins is read -/
structure GlobL (hb : Heap) (mg mb : Str → Option Value) : Prop where
  g : hb.Ns mainGlobals mg
  b : hb.Ns builtinsNs mb
  bat : hb.BuiltinsAt mg 30
  digraph : mg (Str.ofString "digraph") = some (.ref 21)
  traverse : mg (Str.ofString "traverse") = some (.ref 28)
  MAXINT : ∃ t, mg (Str.ofString "MAXINT") = some (.int BIG t)
  none : ∀ x ∈ [Str.ofString "range", Str.ofString "str", Str.ofString "len", Str.ofString "enumerate", Str.ofString "sorted", Str.ofString "min"], mg x = none
  boot : ∀ x ∈ [Str.ofString "range", Str.ofString "str", Str.ofString "len", Str.ofString "enumerate", Str.ofString "sorted", Str.ofString "min"], mb x = bootBuiltins x
  nolimit : hb.NoLimit
  codeHd : CodeHd hb 32 30

theorem GlobL.sub {hb hb' : Heap} {mg mb : Str → Option Value} (G : GlobL hb mg mb) (hk : Sub hb hb') : GlobL hb' mg mb :=
  ⟨G.g.keeps hk, G.b.keeps hk, G.bat.keeps hk, G.digraph, G.traverse, G.MAXINT, G.none, G.boot, by
    obtain ⟨mc, h1, h2⟩ := G.nolimit
    exact ⟨mc, h1.keeps hk, h2⟩, G.codeHd.keeps hk⟩

section
variable {la : Addr} {M : Model} {A : Around} {E : Value → Shared → Prop} {s : Shared} {hb h' : Heap} {L : Addr} {ps : Array Value} {m cm mg mb : Str → Option Value} {x : Str} {pos : Pos} {v : Value}

theorem rdL {Q : Value → Shared → Prop} (T : LF hb L ps s.heap m cm) (hv : m x = some v) (h : Q v s) (hx : (lawEnv la L).kindOf x = some .local := by rfl) (hd : (x == ("__debug__" : Str)) = false := by decide) :
    wpAny M A (eval (.Name x pos) (lawEnv la L)) Q E s := wpAny_Name (wpAny_loadName_local rfl hx T.ns hv h) hd
theorem rdC {c : Addr} {Q : Value → Shared → Prop} (T : LF hb L ps s.heap m cm) (hv : cm x = some v) (h : Q v s) (hc : (lawCells L).lookup x = some c := by rfl) (hx : (lawEnv la L).kindOf x = some .cell := by rfl)
    (hd : (x == ("__debug__" : Str)) = false := by decide) : wpAny M A (eval (.Name x pos) (lawEnv la L)) Q E s := wpAny_Name (wpAny_loadName_cell rfl hx hc (hv ▸ T.cl.cell x c hc) h) hd
theorem rdB {Q : Value → Shared → Prop} (T : LF hb L ps s.heap m cm) (G : GlobL hb mg mb) (hn : x ∈ [Str.ofString "range", Str.ofString "str", Str.ofString "len", Str.ofString "enumerate", Str.ofString "sorted", Str.ofString "min"])
    (hv : bootBuiltins x = some v) (h : Q v s) (hx : (lawEnv la L).kindOf x = some .globalImplicit := by rfl) (hd : (x == ("__debug__" : Str)) = false := by decide) :
    wpAny M A (eval (.Name x pos) (lawEnv la L)) Q E s :=
  Calls.Name_function_global rfl hx (Calls.loadGlobal_builtin (env := lawEnv la L) (G.g.keeps T.keep) (G.none x hn) (G.b.keeps T.keep) ((G.boot x hn).trans hv) h) hd
theorem rdG {Q : Value → Shared → Prop} (T : LF hb L ps s.heap m cm) (G : GlobL hb mg mb) (hv : mg x = some v) (h : Q v s) (hx : (lawEnv la L).kindOf x = some .globalImplicit := by rfl) (hd : (x == ("__debug__" : Str)) = false := by decide) :
    wpAny M A (eval (.Name x pos) (lawEnv la L)) Q E s :=
  Calls.Name_function_global rfl hx (Calls.loadGlobal_global (env := lawEnv la L) (G.g.keeps T.keep) hv h) hd
theorem stL {Q : Unit → Shared → Prop} (T : LF hb L ps s.heap m cm)
    (h : ∀ h', LF hb L ps h' (fun z => if z = x then some v else m z) cm → Heap.SameBut L s.heap h' → Q () { s with heap := h', toks := s.toks + 1 }) (hx : (lawEnv la L).kindOf x = some .local := by rfl) :
    wpAny M A (storeName (lawEnv la L) x v) Q E s := wpAny_storeName_local hx T.ns (fun h' hn hs => h h' (T.set hn hs) hs) (by rfl)
theorem stC' {c : Addr} {Q : Unit → Shared → Prop} (T : LF hb L ps s.heap m cm)
    (h : ∀ h', LF hb L ps h' m (fun z => if z = x then some v else cm z) → Heap.SameBut c s.heap h' → Q () { s with heap := h' }) (hc : (lawCells L).lookup x = some c := by rfl) (hx : (lawEnv la L).kindOf x = some .cell := by rfl) :
    wpAny M A (storeName (lawEnv la L) x v) Q E s := wpAny_storeName_cell rfl hx hc (T.cl.cell x c hc) fun h' hv hs => h h' (T.setC hc hv hs) hs
end
end Mine

end
section
/- MLaw1 -/
open PySem PySem.W PyProof.Rows
open PySem.Builtin.Int (intBits)
set_option maxRecDepth 100000
set_option linter.unusedVariables false
namespace Mine
section
variable {la : Addr} {prog : Program} {w : World} {A : Around} {E : Value → Shared → Prop} {s : Shared} {hb : Heap} {L lx : Addr} {ps : Array Value} {m cm mg mb : Str → Option Value} {vs : List Value} {ns : List Int} {Q : Flow → Shared → Prop}

theorem exec_S0 (T : LF hb L ps s.heap m cm) (hs : m (Str.ofString "script") = some (.ref lx)) (hl : hb.IsList lx vs.toArray) (hI : IntsAre vs ns) (hlay : PyData.layable0 (.list (ns.map .int)) = true)
    (h : ∀ h' tk i t, intBits i ≤ 2 ^ 20 → LF hb L ps h' (fun z => if z = Str.ofString "head" then some (.int i t) else m z) cm → Q .next { s with heap := h', toks := tk }) :
    wpAny (model prog w) A (exec lawS0 (lawEnv la L)) Q E s := by
  unfold lawS0 lawBody lawStmt PySem.Challenge.pw_kk0044_01
  dsimp only
  have hl' : s.heap.IsList lx vs.toArray := hl.at fun o e => T.keep _ _ e
  refine wpAny_Assign_Name (IfExp_ (isTrue_plain (rdL T hs (truthy_list_ints hl' hI hlay ?_)))) (by rfl)
  by_cases h0 : 0 < ns.length
  · rw [if_pos (by simpa using h0)]
    refine Subscript_ (rdL (s := { s with toks := _ }) T hs (wpAny_Constant_int ?_))
    cases hI with
    | nil => simp at h0
    | cons n t r =>
      refine tail_list (s := { s with toks := _ }) hl' (wpAny_getItem_list (s := { s with toks := _ }) (x := .int n t) hl' (by decide) (by decide) (by simp) ?_) rfl
      refine stL (s := { s with toks := _ }) T fun h' T' _ => h h' _ n t ?_ T'
      exact bits_getD (ns := n :: _) (i := 0) hlay
  · rw [if_neg (by simpa using h0)]
    refine wpAny_Constant_int ?_
    exact stL (s := { s with toks := _ }) T fun h' T' _ => h h' _ 5 _ (by decide) T'

theorem fmod8 (i : Int) : ∃ r : Nat, i.fmod 8 = r ∧ r < 8 := ⟨(i.fmod 8).toNat, by
  have := Int.fmod_nonneg_of_pos i (b := 8) (by decide)
  have := Int.fmod_lt_of_pos i (b := 8) (by decide)
  omega, by
  have := Int.fmod_nonneg_of_pos i (b := 8) (by decide)
  have := Int.fmod_lt_of_pos i (b := 8) (by decide)
  omega⟩

theorem exec_S1 {i : Int} {t : Tok} (T : LF hb L ps s.heap m cm) (hs : m (Str.ofString "head") = some (.int i t))
    (h : ∀ h' tk (k : Nat) t', 1 ≤ k → k ≤ 8 → LF hb L ps h' (fun z => if z = Str.ofString "many" then some (.int (k : Int) t') else m z) cm → Q .next { s with heap := h', toks := tk }) :
    wpAny (model prog w) A (exec lawS1 (lawEnv la L)) Q E s := by
  unfold lawS1 lawBody lawStmt PySem.Challenge.pw_kk0044_01
  dsimp only
  refine wpAny_Assign_Name (wpAny_BinOp (wpAny_Constant_int (wpAny_BinOp (rdL (s := { s with toks := _ }) T hs (wpAny_Constant_int (mod_int' (by decide) ?_)))))) (by rfl)
  refine PySem.P.add_int ?_
  obtain ⟨r, e, hr⟩ := fmod8 i
  rw [e, show (1 + (r : Int)) = ((1 + r : Nat) : Int) by push_cast; rfl]
  exact stL (s := { s with toks := _ }) T fun h' T' _ => h h' _ (1 + r) _ (by omega) (by omega) T'

theorem iscell_ne {h : Heap} {L c a : Addr} {cm : Str → Option Value} (T : LF hb L ps h m cm) {x : Str} (hc : (lawCells L).lookup x = some c) (ha : ¬ Held hb L a) : a ≠ c := fun e => ha (.inr (.inr (.inl ⟨x, e ▸ hc⟩)))
theorem neL {a : Addr} (ha : ¬ Held hb L a) : a ≠ L := fun e => ha (.inr (.inl e))

theorem exec_S2 (T : LF hb L ps s.heap m cm)
    (h : ∀ h' tk aN, LF hb L ps h' m (fun z => if z = Str.ofString "nodes" then some (.ref aN) else cm z) → h'.PlainList aN #[] → ¬ Held hb L aN → Q .next { s with heap := h', toks := tk }) :
    wpAny (model prog w) A (exec lawS2 (lawEnv la L)) Q E s := by
  unfold lawS2 lawBody lawStmt PySem.Challenge.pw_kk0044_01
  dsimp only
  refine wpAny_Assign_Name (wpAny_List (Calls.spliced_nil ⟨by simp, ?_⟩)) (by rfl)
  have hnew := T.new (none_of_ge (Nat.le_refl s.heap.objs.size))
  generalize ha : s.heap.objs.size = aN at hnew ⊢
  have hsub : Sub s.heap (s.heap.push { cls := .type "list", data := .seq ([] : List Value).toArray }) := fun b o e => Heap.get?_push_of_some _ e
  have hp : (s.heap.push { cls := .type "list", data := .seq ([] : List Value).toArray }).PlainList aN #[] := ⟨0, by rw [← ha]; exact Heap.get?_push_size _ rfl⟩
  generalize s.heap.push { cls := Value.type "list", data := .seq ([] : List Value).toArray } = h₁ at hsub hp ⊢
  have T1 := T.sub hsub
  exact stC' (c := L + 1) (s := { s with heap := h₁, toks := _ }) T1 fun h' T' hs => h h' _ aN T' (hp.at fun o e => hs.extBut _ o (iscell_ne T1 (x := Str.ofString "nodes") (c := L + 1) (by rfl) hnew) e) hnew
theorem exec_S3 {K : Type} [DecidableEq K] {knd : HeapKind prog w K} (T : LF hb L ps s.heap m cm)
    (h : ∀ h' tk aN, LF hb L ps h' m (fun z => if z = Str.ofString "related" then some (.ref aN) else cm z) → h'.DictOfH knd aN [] → ¬ Held hb L aN → (∃ c, Heap.ExtBut c s.heap h' ∧ (lawCells L).lookup (Str.ofString "related") = some c) → s.heap.get? aN = none → Q .next { s with heap := h', toks := tk }) :
    wpAny (model prog w) A (exec lawS3 (lawEnv la L)) Q E s := by
  unfold lawS3 lawBody lawStmt PySem.Challenge.pw_kk0044_01
  dsimp only
  refine wpAny_Assign_Name (wpAny_Dict_empty ?_) (by rfl)
  have h0 := none_of_ge (Nat.le_refl s.heap.objs.size)
  have hnew := T.new h0
  have hp := Heap.DictOfH.new (knd := knd) s.heap
  generalize ha : s.heap.objs.size = aN at hnew hp h0 ⊢
  have hsub : Sub s.heap (s.heap.push { cls := .type "dict", data := .dict #[] }) := fun b o e => Heap.get?_push_of_some _ e
  generalize s.heap.push { cls := Value.type "dict", data := .dict #[] } = h₁ at hsub hp ⊢
  have T1 := T.sub hsub
  refine stC' (c := L + 1 + 1 + 1 + 1 + 1) (s := { s with heap := h₁, toks := _ }) T1 fun h' T' hs => h h' _ aN T' ?_ hnew ⟨_, (fun b o hbc e => hs.extBut b o hbc (hsub b o e)), by rfl⟩ h0
  obtain ⟨o, es, ep, ho, hc, hdat, he, his, hn⟩ := hp
  exact ⟨o, es, ep, hs.extBut _ o (iscell_ne T1 (x := Str.ofString "related") (c := L + 1 + 1 + 1 + 1 + 1) (by rfl) hnew) ho, hc, hdat, he, (fun x hx => nomatch hx), hn⟩
theorem exec_S4 {K : Type} [DecidableEq K] {knd : HeapKind prog w K} (T : LF hb L ps s.heap m cm)
    (h : ∀ h' tk aN, LF hb L ps h' m (fun z => if z = Str.ofString "own" then some (.ref aN) else cm z) → h'.DictOfH knd aN [] → ¬ Held hb L aN → (∃ c, Heap.ExtBut c s.heap h' ∧ (lawCells L).lookup (Str.ofString "own") = some c) → s.heap.get? aN = none → Q .next { s with heap := h', toks := tk }) :
    wpAny (model prog w) A (exec lawS4 (lawEnv la L)) Q E s := by
  unfold lawS4 lawBody lawStmt PySem.Challenge.pw_kk0044_01
  dsimp only
  refine wpAny_Assign_Name (wpAny_Dict_empty ?_) (by rfl)
  have h0 := none_of_ge (Nat.le_refl s.heap.objs.size)
  have hnew := T.new h0
  have hp := Heap.DictOfH.new (knd := knd) s.heap
  generalize ha : s.heap.objs.size = aN at hnew hp h0 ⊢
  have hsub : Sub s.heap (s.heap.push { cls := .type "dict", data := .dict #[] }) := fun b o e => Heap.get?_push_of_some _ e
  generalize s.heap.push { cls := Value.type "dict", data := .dict #[] } = h₁ at hsub hp ⊢
  have T1 := T.sub hsub
  refine stC' (c := L + 1 + 1 + 1 + 1) (s := { s with heap := h₁, toks := _ }) T1 fun h' T' hs => h h' _ aN T' ?_ hnew ⟨_, (fun b o hbc e => hs.extBut b o hbc (hsub b o e)), by rfl⟩ h0
  obtain ⟨o, es, ep, ho, hc, hdat, he, his, hn⟩ := hp
  exact ⟨o, es, ep, hs.extBut _ o (iscell_ne T1 (x := Str.ofString "own") (c := L + 1 + 1 + 1 + 1) (by rfl) hnew) ho, hc, hdat, he, (fun x hx => nomatch hx), hn⟩
end
end Mine

end
section
/- MLaw2 -/
open PySem PySem.W PyProof.Rows
open PySem.Builtin.Int (intBits)
set_option maxRecDepth 100000
set_option linter.unusedVariables false
namespace Mine

def nmL (k : Nat) : Str := Str.ofString "n" ++ Str.ofString (toString ((k : Int).fmod 3))
theorem nmL_ok (k : Nat) : PyData.strOk (nmL k) = true := by
  unfold nmL
  have h1 := Int.fmod_nonneg_of_pos (k : Int) (b := 3) (by decide)
  have h2 := Int.fmod_lt_of_pos (k : Int) (b := 3) (by decide)
  have : (k : Int).fmod 3 = 0 ∨ (k : Int).fmod 3 = 1 ∨ (k : Int).fmod 3 = 2 := by omega
  rcases this with e | e | e <;> rw [e] <;> decide +kernel
theorem nmL_len (k : Nat) : (Str.ofString "n").length + (Str.ofString (toString ((k : Int).fmod 3))).length ≤ sizeLine := by
  have h1 := Int.fmod_nonneg_of_pos (k : Int) (b := 3) (by decide)
  have h2 := Int.fmod_lt_of_pos (k : Int) (b := 3) (by decide)
  have : (k : Int).fmod 3 = 0 ∨ (k : Int).fmod 3 = 1 ∨ (k : Int).fmod 3 = 2 := by omega
  rcases this with e | e | e <;> rw [e] <;> decide +kernel
theorem fmod3_log (k : Nat) : ((k : Int).fmod 3).natAbs.log2 < 1920 := by
  have h1 := Int.fmod_nonneg_of_pos (k : Int) (b := 3) (by decide)
  have h2 := Int.fmod_lt_of_pos (k : Int) (b := 3) (by decide)
  have : (k : Int).fmod 3 = 0 ∨ (k : Int).fmod 3 = 1 ∨ (k : Int).fmod 3 = 2 := by omega
  rcases this with e | e | e <;> rw [e] <;> decide +kernel

def RoomL (A : Around) : Prop := A.handled = none ∧ A.depth + 200 < recursionLimit ∧ A.units + 2000 < cLine

section
variable {la : Addr} {prog : Program} {w : World} {A : Around} {E : Value → Shared → Prop} {s : Shared} {hb h h' : Heap} {L lx aN aR aO : Addr} {ps : Array Value} {m cm mg mb : Str → Option Value} {vs : List Value} {ns : List Int} {Q : Flow → Shared → Prop}

/-- range(many) -/
theorem ev_range {n : Nat} {t : Tok} {p1 p2 p3 : Pos} {Q : Value → Shared → Prop} (G : GlobL hb mg mb) (T : LF hb L ps s.heap m cm) (hm : m (Str.ofString "many") = some (.int (n : Int) t))
    (h : ∀ r h' tk t u v, Sub s.heap h' → IsRange h' r 0 (n : Int) 1 t u v → Q (.ref r) { s with heap := h', toks := tk }) :
    wpAny (model prog w) A (eval (.Call (.Name (Str.ofString "range") p1) [.Name (Str.ofString "many") p2] [] p3) (lawEnv la L)) Q E s := by
  refine wpAny_Call_NameR (rdB T G (v := .type "range") (by simp) (by rfl) ?_)
  refine callWith_type1 (Calls.spliced_cons (rdL T hm (Calls.spliced_nil ?_)))
  exact call_range_1 (h _ _ _ _ _ _ (fun b o e => Heap.get?_push_of_some _ e) (IsRange.new _ _ _ _ _ _ _))

theorem range_small {n : Nat} (hn : n ≤ 8) : Builtin.Range.small 0 (n : Int) 1 = true := small_one (by decide) (by decide) (by omega) (by omega)
theorem range_size (n : Nat) : Builtin.Range.rangeSize 0 (n : Int) 1 = (n : Int) := by rw [rangeSize_one]; split <;> omega

theorem for_range_law {n : Nat} {t : Tok} {x : Str} {px p1 p2 p3 pos : Pos} {body : List Stmt} (r : RoomL A) (G : GlobL hb mg mb) (T : LF hb L ps s.heap m cm) (hm : m (Str.ofString "many") = some (.int (n : Int) t)) (hn : n ≤ 8)
    (hx : (lawEnv la L).kindOf x = some .local)
    (J : Addr → Nat → Heap → (Str → Option Value) → Prop) (hns : ∀ It i h m, J It i h m → h.Ns L m)
    (hbut : ∀ It i h h' m, s.heap.get? It = none → J It i h m → Heap.ExtBut It h h' → J It i h' m) (h0 : ∀ It h', s.heap.get? It = none → Sub s.heap h' → J It 0 h' m)
    (turn : ∀ It i h m, i < n → s.heap.get? It = none → J It i h m → ∀ h₂ tk t, h₂.Ns L (fun y => if y = x then some (.int (i : Int) t) else m y) → Heap.SameBut L h h₂ → (∃ o, h₂.get? It = some o) →
      wpAny (model prog w) A (execs body (lawEnv la L)) (fun f s₃ => match f with
        | .next | .cont => ∃ h₃ tk₃ m₃, s₃ = { s with heap := h₃, toks := tk₃ } ∧ J It (i + 1) h₃ m₃ ∧ (∀ o, h₂.get? It = some o → h₃.get? It = some o)
        | .brk => False
        | .ret v => Q (.ret v) s₃) (fun _ _ => False) { s with heap := h₂, toks := tk })
    (done : ∀ It h tk m, J It n h m → Q .next { s with heap := h, toks := tk }) :
    wpAny (model prog w) A (exec (.For (.Name x px) (.Call (.Name (Str.ofString "range") p1) [.Name (Str.ofString "many") p2] [] p3) body [] pos) (lawEnv la L)) Q E s := by
  refine wpAny_For (ev_range G T hm fun rg h₁ tk₁ t₁ u₁ v₁ hsub₁ hr => ?_) (by intro _; rfl)
  refine wpAny_pyIter_range (s := { s with heap := h₁, toks := tk₁ }) hr (range_small hn) ?_
  dsimp only
  have hIt0 : s.heap.get? h₁.objs.size = none := by
    cases e : s.heap.get? h₁.objs.size with
    | none => rfl
    | some o => exact absurd (Heap.lt_size (hsub₁ _ _ e)) (Nat.lt_irrefl _)
  have hsub₂ : ∀ o, Sub s.heap (h₁.push o) := fun o b ob e => Heap.get?_push_of_some _ (hsub₁ b ob e)
  have hst : IsRangeIter (h₁.push { cls := .type "range_iterator", data := .fields #[rawInt 0, rawInt (Builtin.Range.rangeSize 0 (n : Int) 1), rawInt 1] }) h₁.objs.size (0 + ((0 : Nat) : Int) * 1) ((n : Int) - ((0 : Nat) : Int)) 1 := by
    rw [range_size]
    simpa using Heap.get?_push_size _ rfl
  generalize h₁.objs.size = It at hIt0 hst ⊢
  have hsub₃ := hsub₂ { cls := .type "range_iterator", data := .fields #[rawInt 0, rawInt (Builtin.Range.rangeSize 0 (n : Int) 1), rawInt 1] }
  generalize h₁.push { cls := Value.type "range_iterator", data := .fields #[rawInt 0, rawInt (Builtin.Range.rangeSize 0 (n : Int) 1), rawInt 1] } = h₂ at hst hsub₃ ⊢
  have hLI : L ≠ It := by
    intro e
    obtain ⟨o, _, _, ho, _⟩ := T.ns
    rw [e, hIt0] at ho; cases ho
  refine for_walk (s := { s with heap := h₂, toks := _ }) (LCg.range_walks (prog := prog) (w := w) (I := It) r.1 0 n) (env := lawEnv la L) hx (by rfl) hst (fun hm => hLI (List.mem_singleton.mp hm)) (J It) (hns It)
    (fun i h h' m hJ hk => hbut It i h h' m hIt0 hJ fun b o hb e => hk b o (fun hm => hb (List.mem_singleton.mp hm)) e) (h0 It h₂ hIt0 hsub₃) ?_ ?_
  · rintro i v h m' hi ⟨tv, rfl⟩ hJ hst' h₂' tk hns' hsb hst''
    rw [show (0 : Int) + (i : Int) = (i : Int) by omega] at hns'
    refine wpAny_mono (turn It i h m' hi hIt0 hJ h₂' tk tv hns' hsb ⟨_, hst''⟩) (fun f s₃ hf => ?_) fun _ _ e => e
    cases f with
    | next => obtain ⟨h₃, tk₃, m₃, rfl, hJ₃, hk⟩ := hf; exact ⟨h₃, tk₃, m₃, rfl, hJ₃, hk _ hst''⟩
    | cont => obtain ⟨h₃, tk₃, m₃, rfl, hJ₃, hk⟩ := hf; exact ⟨h₃, tk₃, m₃, rfl, hJ₃, hk _ hst''⟩
    | brk => exact hf
    | ret v => exact hf
  · intro h tk m' hJ
    exact done It h tk m' hJ

theorem Held.of_base {hb' : Heap} {a : Addr} (ha : ¬ Held hb L a) (h0 : hb'.get? a = none) : ¬ Held hb' L a := fun hH => by
  rcases hH with ⟨o, e⟩ | e | e | e
  · rw [h0] at e; cases e
  · exact ha (.inr (.inl e))
  · exact ha (.inr (.inr (.inl e)))
  · exact ha (.inr (.inr (.inr e)))
theorem not_held_none {a : Addr} (ha : ¬ Held hb L a) : hb.get? a = none := by
  cases e : hb.get? a with
  | none => rfl
  | some o => exact absurd (.inl ⟨o, e⟩) ha

/-- the first loop: the nodes -/
theorem exec_S5 {n : Nat} {t : Tok} (r : RoomL A) (G : GlobL hb mg mb) (T : LF hb L ps s.heap m cm) (hm : m (Str.ofString "many") = some (.int (n : Int) t)) (hn : n ≤ 8)
    (hcN : cm (Str.ofString "nodes") = some (.ref aN)) (hN : s.heap.PlainList aN #[]) (hNh : ¬ Held hb L aN) {l : List Addr} (hl : ∀ b ∈ l, ¬ Held hb L b ∧ b ≠ aN ∧ ∃ o, s.heap.get? b = some o)
    (h : ∀ h' tk hb' (nd : Nat → Addr) m', LF hb' L ps h' m' cm → (∀ y, y ≠ Str.ofString "k" → m' y = m y) → Sub hb hb' → (∀ b ∈ l, hb'.get? b = none) → (∀ k, k < n → (nodeKind prog w nmL).is hb' k (nd k)) →
      hb'.PlainList aN ((List.range n).map fun k => Value.ref (nd k)).toArray → (∀ b ∈ l, ∀ o, s.heap.get? b = some o → h'.get? b = some o) → Q .next { s with heap := h', toks := tk }) :
    wpAny (model prog w) A (exec lawS5 (lawEnv la L)) Q E s := by
  unfold lawS5 lawBody lawStmt PySem.Challenge.pw_kk0044_01
  dsimp only
  have hNe : ∃ o, s.heap.get? aN = some o := by obtain ⟨n, e⟩ := hN; exact ⟨_, e⟩
  refine for_range_law r G T hm hn (by rfl)
    (fun It i h m' => ∃ hb', ∃ nd : Nat → Addr, LF hb' L ps h m' cm ∧ (∀ y, y ≠ Str.ofString "k" → m' y = m y) ∧ Sub hb hb' ∧ (∀ b ∈ It :: aN :: l, hb'.get? b = none) ∧ (∀ k, k < i → (nodeKind prog w nmL).is hb' k (nd k)) ∧
      h.PlainList aN ((List.range i).map fun k => Value.ref (nd k)).toArray ∧ (∀ b ∈ l, ∀ o, s.heap.get? b = some o → h.get? b = some o))
    (fun It i h m' ⟨hb', nd, T', _⟩ => T'.ns) ?_ ?_ ?_ ?_
  · rintro It i h h' m' hIt ⟨hb', nd, T', hmm, hsub, hnone, hnd, hpl, hlk⟩ hx
    have hne : ∀ b, (∃ o, s.heap.get? b = some o) → b ≠ It := fun b hb e => by obtain ⟨o, e'⟩ := hb; rw [e, hIt] at e'; cases e'
    exact ⟨hb', nd, T'.but hx (Held.of_base (T.new hIt) (hnone _ (by simp))), hmm, hsub, hnone, hnd, hpl.at fun o e => hx _ o (hne aN hNe) e, fun b hb o e => hx b o (hne b (hl b hb).2.2) (hlk b hb o e)⟩
  · intro It h' hIt hsub
    refine ⟨hb, fun _ => 0, T.sub hsub, fun _ _ => rfl, fun _ _ e => e, ?_, fun k hk => absurd hk (Nat.not_lt_zero _), by simpa using hN.at fun o e => hsub _ o e, fun b _ o e => hsub b o e⟩
    intro b hb'
    rcases List.mem_cons.mp hb' with rfl | hb'
    · exact not_held_none (T.new hIt)
    · rcases List.mem_cons.mp hb' with rfl | hb'
      · exact not_held_none hNh
      · exact not_held_none (hl b hb').1
  · rintro It i h m' hi hIt ⟨hb', nd, T', hmm, hsub, hnone, hnd, hpl, hlk⟩ h₂ tk t' hns hsb hItO
    have hNh' : ¬ Held hb' L aN := Held.of_base hNh (hnone _ (by simp))
    have T2 := T'.set hns hsb
    have G2 := G.sub hsub
    have hpl2 : h₂.PlainList aN ((List.range i).map fun k => Value.ref (nd k)).toArray := hpl.at fun o e => hsb.extBut _ o (neL hNh) e
    have hItL : L ≠ It := by
      intro e
      obtain ⟨o, _, _, ho, _⟩ := T.ns
      rw [e, hIt] at ho; cases ho
    refine wpAny_execs_cons (wpAny_Expr_any (wpAny_Call_append rfl rfl (by rfl) rfl (rdC (s := { s with heap := h₂, toks := tk }) T2 (c := L + 1) hcN ?_)))
    refine ⟨aN, _, rfl, PlainList.plainL hpl2, ?_⟩
    refine wpAny_Tuple (Calls.spliced_cons (rdL (s := { s with heap := h₂, toks := tk }) T2 (v := .int (i : Int) t') (if_pos rfl) (Calls.spliced_cons (wpAny_BinOp ?_))))
    refine wpAny_Constant_str (wpAny_Call_NameR (rdB (s := { s with heap := h₂, toks := _ }) T2 G2 (v := .type "str") (by simp) (by rfl) ?_))
    refine callWith_type1 (Calls.spliced_cons (wpAny_BinOp (rdL (s := { s with heap := h₂, toks := _ }) T2 (v := .int (i : Int) t') (if_pos rfl) (wpAny_Constant_int (mod_int' (by decide) (Calls.spliced_nil ?_))))))
    refine P.str_of_int (fmod3_log i) ?_
    refine add_str (fun t4 tk4 => Calls.spliced_nil ⟨(by show 2 ≤ sizeLine; rw [sizeLine_num]; decide), ?_⟩) (nmL_len i)
    dsimp only
    generalize hA : h₂.objs.size = aT
    have hnew : h₂.get? aT = none := none_of_ge (Nat.le_of_eq hA)
    have hsub3 : ∀ o, Sub h₂ (h₂.push o) := fun o b ob e => Heap.get?_push_of_some _ e
    have hk3 : (nodeKind prog w nmL).is (h₂.push { cls := .type "tuple", data := .seq [Value.int (i : Int) t', .str (Str.ofString "n" ++ Str.ofString (toString ((i : Int).fmod 3))) t4].toArray }) i aT := by
      refine ⟨_, _, 0, by rw [← hA]; exact Heap.get?_push_size _ rfl, rfl, rfl, ?_⟩
      refine .cons (by simp [mixKind, Value.isInt]) (.cons (by simp [mixKind, Value.isStrOf, nmL]) .nil)
    have hsub4 := hsub3 { cls := .type "tuple", data := .seq [Value.int (i : Int) t', .str (Str.ofString "n" ++ Str.ofString (toString ((i : Int).fmod 3))) t4].toArray }
    generalize h₂.push { cls := Value.type "tuple", data := .seq [Value.int (i : Int) t', .str (Str.ofString "n" ++ Str.ofString (toString ((i : Int).fmod 3))) t4].toArray } = h₃ at hk3 hsub4 ⊢
    have T3 := T2.sub hsub4
    obtain ⟨hb'', T4, hs4, hn4, hk4⟩ := T3.rebase (It :: aN :: l) hnone
    have hex : ∀ b ∈ It :: aN :: l, b ≠ aT := by
      intro b hb e
      subst e
      rcases List.mem_cons.mp hb with rfl | hb
      · obtain ⟨o, ho⟩ := hItO; rw [hnew] at ho; cases ho
      · rcases List.mem_cons.mp hb with rfl | hb
        · obtain ⟨n, ho⟩ := hpl2; rw [hnew] at ho; cases ho
        · obtain ⟨o, ho⟩ := (hl _ hb).2.2
          have := hsb.extBut _ o (neL (hl _ hb).1) (hlk _ hb o ho)
          rw [hnew] at this; cases this
    have hk5 : (nodeKind prog w nmL).is hb'' i aT := by
      obtain ⟨o, items, n, ho, r⟩ := hk3
      exact ⟨o, items, n, hk4 _ _ ho (fun hm => hex _ hm rfl) (T2.new hnew), r⟩
    have hpl3 := hpl2.at fun o e => hsub4 _ o e
    refine wpAny_list_append_plain (s := { s with heap := h₃, toks := _ }) hpl3 (fun h₄ hp4 hs4' => wpAny_execs_nil ?_) (by rw [sizeLine_num]; simp; omega)
    have hNh4 : ¬ Held hb'' L aN := Held.of_base hNh (hn4 _ (by simp))
    refine ⟨h₄, _, _, rfl, ⟨hb'', (fun j => if j = i then aT else nd j), T4.but hs4'.extBut hNh4, ?_, fun b o e => hs4 b o (hsub b o e), hn4, ?_, ?_, ?_⟩, ?_⟩
    · intro y hy
      rw [if_neg hy]; exact hmm y hy
    · intro k hk
      by_cases e : k = i
      · subst e; simpa using hk5
      · simp only [if_neg e]
        obtain ⟨o, items, n, ho, r⟩ := hnd k (by omega)
        exact ⟨o, items, n, hs4 _ _ ho, r⟩
    · rw [List.range_succ, List.map_append]
      have e1 : (List.range i).map (fun k => Value.ref (if k = i then aT else nd k)) = (List.range i).map fun k => Value.ref (nd k) := by
        refine List.map_congr_left fun k hk => ?_
        have : k ≠ i := Nat.ne_of_lt (List.mem_range.mp hk)
        simp [this]
      rw [e1]
      simpa using hp4
    · intro b hb o e
      have h1 := (hl b hb)
      exact hs4'.extBut _ o h1.2.1 (hsub4 _ _ (hsb.extBut _ o (neL h1.1) (hlk b hb o e)))
    · intro o e
      refine hs4'.extBut _ o ?_ (hsub4 _ _ e)
      rintro rfl
      obtain ⟨o', ho'⟩ := hNe
      rw [hIt] at ho'; cases ho'
  · rintro It hh tk m' ⟨hb', nd, T', hmm, hsub, hnone, hnd, hpl, hlk⟩
    obtain ⟨hb'', T4, hs4, hn4, hk4⟩ := T'.rebase l (fun b hb => hnone b (by simp [hb]))
    refine h hh tk hb'' nd m' T4 hmm (fun b o e => hs4 b o (hsub b o e)) hn4 (fun k hk => ?_) ?_ hlk
    · obtain ⟨o, items, n, ho, r⟩ := hnd k hk
      exact ⟨o, items, n, hs4 _ _ ho, r⟩
    · exact hpl.at fun o e => hk4 _ o e (fun hm => (hl _ hm).2.1 rfl) (Held.of_base hNh (hnone _ (by simp)))
end
end Mine

end
section
/- MComp2 -/
open PySem PySem.W PyProof.Rows
open PySem.Builtin.Int (intBits)
set_option maxRecDepth 100000
set_option linter.unusedVariables false
namespace Mine

section
variable {la : Addr} {prog : Program} {w : World} {A : Around} {E : Value → Shared → Prop} {R : Result → Shared → Prop} {s : Shared} {env : Env}

theorem compLoop_testsT {elt iter : Expr} {elts : List Expr} {k : Nat} {tp : Pos} {ifs : List Expr} {scope : Scope} {pos : Pos} {it acc : Value} (I : Nat → Shared → Prop)
    (turn : ∀ n s, I n s → wpAny (model prog w) A (pyNext it) (fun r s₁ => match r with
      | none => R (.ok .next) s₁
      | some v => wpAny (model prog w) A (letOwnedTupleGo (.Tuple elts k tp) it v) (fun _ s₁' => wpAny (model prog w) A (assign (.Tuple elts k tp) env v) (fun _ s₂ =>
          wpAny (model prog w) A (forIn ifs true fun c r => if r = true then do let ok ← isTrue c env (eval c env); pure (ForInStep.yield ok) else pure (ForInStep.yield r)) (fun ok s₃ =>
            if ok = true then wpAny (model prog w) A (eval elt env) (fun x s₄ =>
              wpAny (model prog w) A (call (.builtin "list.append") [acc, x]) (fun _ s₅ => ∃ m, m < n ∧ I m s₅) (notedBy (model prog w) A env fun e s' => R (.error e) s') s₄) (notedBy (model prog w) A env fun e s' => R (.error e) s') s₃
            else ∃ m, m < n ∧ I m s₃) (notedBy (model prog w) A env fun e s' => R (.error e) s') s₂) (notedBy (model prog w) A env fun e s' => R (.error e) s') s₁') (notedBy (model prog w) A env fun e s' => R (.error e) s') s₁) (notedBy (model prog w) A env fun e s' => R (.error e) s') s)
    (n : Nat) (h : I n s) :
    codeAny (model prog w) A (.compLoop (.ListComp elt [⟨.Tuple elts k tp, iter, ifs, 0⟩] scope pos) 0 it acc env) R s := by
  refine codeAny_loop rfl I (fun n s hI => ?_) n h
  show wpAny _ A ((compTurn (.ListComp elt [⟨.Tuple elts k tp, iter, ifs, 0⟩] scope pos) 0 it acc env).onRaise (fun x => do noteFrame x env; theTreesLotGoes x)) _ _ s
  refine wpAny_noted ?_
  rw [compTurn_list]
  refine wpAny_bind (wpAny_standAt (wpAny_bind (wpAny_mono (turn n s hI) (fun r s₁ h₁ => ?_) fun _ _ h' => h')))
  cases r with
  | none => exact wpAny_pure h₁
  | some v =>
    refine wpAny_bind (wpAny_mono h₁ (fun _ s₁' h₁' => ?_) fun _ _ h' => h')
    refine wpAny_bind (wpAny_mono h₁' (fun _ s₂ h₂ => wpAny_bind (wpAny_mono h₂ (fun ok s₃ h₃ => ?_) fun _ _ h' => h')) fun _ _ h' => h')
    cases ok with
    | false => exact wpAny_pure ⟨rfl, h₃⟩
    | true =>
      exact wpAny_bind (wpAny_bind (wpAny_mono h₃ (fun x s₄ h₄ => wpAny_bind (wpAny_mono h₄ (fun _ s₅ h₅ => wpAny_pure (wpAny_pure ⟨rfl, h₅⟩)) fun _ _ h' => h')) fun _ _ h' => h'))

/-- the same as comp_walk, for pairs -/
theorem comp_walkT {elt iter : Expr} {x y : Str} {px py tp : Pos} {kk : Nat} {ifs : List Expr} {scope : Scope} {pos : Pos} {I D : Addr} {fp wr : List Addr} {n : Nat} {P : Nat → Array Value → Prop} {St : Nat → Heap → Prop} {Mid : Nat → Addr → Heap → Prop}
    {cenv : Env} {m : Str → Option Value} (hh : A.handled = none) (W : WalksT prog w A I fp wr n P St Mid) (hsz : n ≤ sizeLine)
    (hP : ∀ i vals, P i vals → ∃ a b, vals = #[a, b])
    (hx : cenv.kindOf x = some .local) (hy : cenv.kindOf y = some .local) (hp : (cenv.scope.kind == .class || (cenv.scope.kind == .module && cenv.locals != cenv.globals)) = false)
    (hDC : D ≠ cenv.locals) (hDf : D ∉ fp) (hCf : cenv.locals ∉ fp)
    (hst : St 0 s.heap) (hacc : s.heap.PlainList D #[]) (hn : s.heap.Ns cenv.locals m)
    (J : Nat → List Value → Heap → Prop) (hJ0 : J 0 [] s.heap)
    (hJ : ∀ i ys h h', J i ys h → (∀ b o, b ≠ cenv.locals → b ∉ wr → b ≠ D → h.get? b = some o → h'.get? b = some o) → J i ys h')
    (turn : ∀ i a b ys h tk m', i < n → P i #[a, b] → J i ys h → h.Ns cenv.locals m' → (m' = fun z => if z = y then some b else if z = x then some a else m' z) → (∀ b o, b ≠ cenv.locals → b ∉ wr → b ≠ D → s.heap.get? b = some o → h.get? b = some o) →
      wpAny (model prog w) A (forIn ifs true fun c r => if r = true then do let ok ← isTrue c cenv (eval c cenv); pure (ForInStep.yield ok) else pure (ForInStep.yield r))
        (fun ok s₃ => ∃ h₃ tk₃, s₃ = { s with heap := h₃, toks := tk₃ } ∧ Sub h h₃ ∧ if ok = true then
          wpAny (model prog w) A (eval elt cenv) (fun y s₄ => ∃ h₄ tk₄, s₄ = { s with heap := h₄, toks := tk₄ } ∧ Sub h₃ h₄ ∧ J (i + 1) (ys ++ [y]) h₄) (fun _ _ => False) s₃
          else J (i + 1) ys h₃) (fun _ _ => False) { s with heap := h, toks := tk })
    (done : ∀ h' tk m' ys, J n ys h' → ys.length ≤ n → h'.Ns cenv.locals m' → h'.PlainList D ys.toArray → (∀ b o, b ≠ cenv.locals → b ∉ wr → b ≠ D → s.heap.get? b = some o → h'.get? b = some o) → R (.ok .next) { s with heap := h', toks := tk }) :
    codeAny (model prog w) A (.compLoop (.ListComp elt [⟨.Tuple [.Name x px, .Name y py] kk tp, iter, ifs, 0⟩] scope pos) 0 (.ref I) (.ref D) cenv) R s := by
  have hCw : cenv.locals ∉ wr := fun h => hCf (W.sub _ h)
  have hDw : D ∉ wr := fun h => hDf (W.sub _ h)
  refine compLoop_testsT
    (fun k s' => ∃ i h' tk m' ys, s' = { s with heap := h', toks := tk } ∧ i ≤ n ∧ k = n + 1 - i ∧ St i h' ∧ J i ys h' ∧ ys.length ≤ i ∧ h'.PlainList D ys.toArray ∧ h'.Ns cenv.locals m' ∧
      (∀ b o, b ≠ cenv.locals → b ∉ wr → b ≠ D → s.heap.get? b = some o → h'.get? b = some o)) ?_ (n + 1)
    ⟨0, s.heap, s.toks, m, [], rfl, Nat.zero_le _, rfl, hst, hJ0, Nat.le_refl _, hacc, hn, fun _ _ _ _ _ e => e⟩
  rintro k s' ⟨i, H, tk, m', ys, rfl, hi, rfl, hst', hJi, hlen, hacc', hn', hk⟩
  by_cases hlt : i < n
  · refine W.item i _ _ _ hlt hst' fun T vals h₁ tk₁ hPv hTlt hT hmid hk₁ => ?_
    obtain ⟨a, b, rfl⟩ := hP _ _ hPv
    have hTw := W.apart _ _ _ hmid
    refine W.go _ _ _ i T _ _ _ hmid fun h₁' hst₁ hk₁' => ?_
    have hT' : h₁'.IsTuple T #[a, b] := by
      obtain ⟨o, ho, r⟩ := hT
      exact ⟨o, hk₁' T o hTw ho, r⟩
    have hnn : h₁'.Ns cenv.locals m' := hn'.at' fun o e => hk₁' _ o hCw (hk₁ _ o hCw e)
    refine kcp_assign (s := { s with heap := h₁', toks := tk₁ }) hh hT' hx hy hp hnn fun h₂ tk₂ hn₂ hs₂ => ?_
    have up₂ : ∀ b o, b ≠ cenv.locals → b ∉ wr → H.get? b = some o → h₂.get? b = some o := fun b o hbC hbf e => hs₂ b o hbC (hk₁' b o hbf (hk₁ b o hbf e))
    have hst₂ : St (i + 1) h₂ := W.frame _ _ _ hst₁ fun b hb o e => hs₂ b o (fun h => hCf (h ▸ hb)) e
    have hJ₂ : J i ys h₂ := hJ _ _ _ _ hJi fun b o h1 h2 _ e => up₂ b o h1 h2 e
    have hacc₂ : h₂.PlainList D ys.toArray := hacc'.at fun o e => up₂ D o hDC hDw e
    refine wpAny_mono (turn i a b ys h₂ _ _ hlt hPv hJ₂ hn₂ ?_ (fun b o hbC hbf hbD e => up₂ b o hbC hbf (hk b o hbC hbf hbD e))) (fun ok s₃ h₃ => ?_) fun _ _ e => e.elim
    · funext z
      by_cases h1 : z = y
      · simp [h1]
      · by_cases h2 : z = x <;> simp [h1, h2]
    obtain ⟨h₃, tk₃, rfl, hk₃, hrest⟩ := h₃
    have hst₃ : St (i + 1) h₃ := W.frame _ _ _ hst₂ fun b _ o e => hk₃ b o e
    have hacc₃ : h₃.PlainList D ys.toArray := hacc₂.at fun o e => hk₃ _ o e
    have hn₃ := hn₂.keeps hk₃
    cases ok with
    | false =>
      simp only [Bool.false_eq_true, if_false] at hrest ⊢
      exact ⟨n + 1 - (i + 1), by omega, i + 1, h₃, tk₃, _, ys, rfl, hlt, rfl, hst₃, hrest, Nat.le_succ_of_le hlen, hacc₃, hn₃, fun b o hbC hbf hbD e => hk₃ b o (up₂ b o hbC hbf (hk b o hbC hbf hbD e))⟩
    | true =>
      simp only [if_true] at hrest ⊢
      refine wpAny_mono hrest (fun y s₄ h₄ => ?_) fun _ _ e => e.elim
      obtain ⟨h₄, tk₄, rfl, hk₄, hJ₄⟩ := h₄
      refine wpAny_list_append_plain (hsz := by simp; omega) (hacc₃.at fun o e => hk₄ _ o e) fun h₅ hl₅ hs₅ => ?_
      refine ⟨n + 1 - (i + 1), by omega, i + 1, h₅, tk₄, _, ys ++ [y], rfl, hlt, rfl, ?_, hJ _ _ _ _ hJ₄ fun b o _ _ hb e => hs₅.extBut b o hb e, by simp; omega, by simpa using hl₅, (hn₃.keeps hk₄).sameBut hs₅ (Ne.symm hDC), ?_⟩
      · exact W.frame _ _ h₅ hst₃ fun b hb o e => hs₅.extBut b o (fun h => hDf (h ▸ hb)) (hk₄ b o e)
      · exact fun b o hbC hbf hbD e => hs₅.extBut b o hbD (hk₄ b o (hk₃ b o (up₂ b o hbC hbf (hk b o hbC hbf hbD e))))
  · have hin : i = n := by omega
    subst hin
    refine W.done _ _ _ hst' fun h₁ tk₁ hk₁ => ?_
    exact done h₁ tk₁ m' ys (hJ _ _ _ _ hJi fun b o _ h2 _ e => hk₁ b o h2 e) hlen (hn'.at' fun o e => hk₁ _ o hCw e) (hacc'.at fun o e => hk₁ _ o hDw e) fun b o hbC hbf hbD e => hk₁ b o hbf (hk b o hbC hbf hbD e)

/-- reads in a comprehension's own frame -/
theorem rdXL {C : Addr} {m : Str → Option Value} {x : Str} {pos : Pos} {v : Value} {Q : Value → Shared → Prop} (hn : s.heap.Ns env.locals m) (hv : m x = some v) (h : Q v s)
    (hk : env.scope.kind = .function := by rfl) (hx : env.kindOf x = some .local := by rfl) (hd : (x == ("__debug__" : Str)) = false := by decide) :
    wpAny (model prog w) A (eval (.Name x pos) env) Q E s := wpAny_Name (wpAny_loadName_local hk hx hn hv h) hd
theorem rdXC {hb : Heap} {L c : Addr} {ps : Array Value} {m cm : Str → Option Value} {x : Str} {pos : Pos} {v : Value} {Q : Value → Shared → Prop} (T : LF hb L ps s.heap m cm) (hv : cm x = some v) (h : Q v s)
    (hc : (lawCells L).lookup x = some c := by rfl) (hce : env.cells.lookup x = some c := by rfl) (hk : env.scope.kind = .function := by rfl) (hx : env.kindOf x = some .cell := by rfl) (hd : (x == ("__debug__" : Str)) = false := by decide) :
    wpAny (model prog w) A (eval (.Name x pos) env) Q E s := wpAny_Name (wpAny_loadName_cell hk hx hce (hv ▸ T.cl.cell x c hc) h) hd

theorem dictAt {K : Type} [DecidableEq K] {knd : HeapKind prog w K} {h h' : Heap} {d : Addr} {xs : List (K × Addr × Value)} (x : h.DictOfH knd d xs) (hd : ∀ o, h.get? d = some o → h'.get? d = some o) (hk : ∀ y ∈ xs, knd.is h' y.1 y.2.1) : h'.DictOfH knd d xs := by
  obtain ⟨o, es, ep, ho, hc, hdat, he, his, hn⟩ := x
  exact ⟨o, es, ep, hd _ ho, hc, hdat, he, hk, hn⟩
theorem dict_data {K : Type} [DecidableEq K] {knd : HeapKind prog w K} {h : Heap} {d : Addr} {xs : List (K × Addr × Value)} (x : h.DictOfH knd d xs) : ∃ o es ep, h.get? d = some o ∧ o.data = .dict es ep := by
  obtain ⟨o, es, ep, ho, hc, hdat, he, his, hn⟩ := x
  exact ⟨o, es, ep, ho, hdat⟩
theorem is_sub {nm : Nat → Str} {h h' : Heap} {k : Nat} {a : Addr} (x : (nodeKind prog w nm).is h k a) (hs : Sub h h') : (nodeKind prog w nm).is h' k a := by
  obtain ⟨o, items, n, ho, r⟩ := x
  exact ⟨o, items, n, hs _ _ ho, r⟩
theorem is_some {nm : Nat → Str} {h : Heap} {k : Nat} {a : Addr} (x : (nodeKind prog w nm).is h k a) : ∃ o, h.get? a = some o := by
  obtain ⟨o, items, n, ho, r⟩ := x
  exact ⟨o, ho⟩

/-- name = [comprehension] in the law's frame -/
theorem comp_assign_law {elt tgt iter : Expr} {ifs : List Expr} {scope : Scope} {pos py spos : Pos} {y : Str} {cl : List (Str × Addr)} {L : Addr} {Q : Flow → Shared → Prop}
    (hsw : swapsWith (.ListComp elt [⟨tgt, iter, ifs, 0⟩] scope pos) (some (.Name y py)) spos.line (lawEnv la L) = pure true)
    (hclos : closureFor scope (lawEnv la L) = pure cl) (hkind : scope.kind = .function) (hnames : ∀ x ∈ scope.names, x.2 = .local → scope.names.lookup x.1 = some .local)
    (hy : (lawEnv la L).kindOf y = some .local)
    (h : wpAny (model prog w) A (eval iter (lawEnv la L)) (fun xv s₁ => wpAny (model prog w) A (pyIter xv) (fun it s₂ =>
      (∀ h' (Q' : Value → Shared → Prop) (E' : Value → Shared → Prop), Sub s₂.heap h' → Q' it { s₂ with heap := h' } → wpAny (model prog w) A (pyIter it) Q' E' { s₂ with heap := h' }) ∧
      ∀ D C h₁, D = s₂.heap.objs.size → C = D + 1 → s₂.heap.get? D = none → s₂.heap.get? C = none → D ≠ C → Sub s₂.heap h₁ → h₁.PlainList D #[] → h₁.Ns C (fun _ => none) →
        (∃ h₀, h₀.objs.size = C + 1 ∧ h₁ = pushCells h₀ scope.names) →
        codeAny (model prog w) A (.compLoop (.ListComp elt [⟨tgt, iter, ifs, 0⟩] scope pos) 0 it (.ref D) (compEnvC scope (cellsFrom (C + 1) scope.names cl) C (lawEnv la L)))
          (fun r s' => r = .ok .next ∧ ∃ h' tk hb ps m cm mC, s' = { s₂ with heap := h', toks := tk } ∧ LF hb L ps h' m cm ∧ h'.Ns C mC ∧ ¬ Held hb L C ∧
            ∀ h'' tk'', LF hb L ps h'' (fun z => if z = y then some (.ref D) else m z) cm → (∀ b o, b ≠ L → b ≠ C → h'.get? b = some o → h''.get? b = some o) → Q .next { s₂ with heap := h'', toks := tk'' }) { s₂ with heap := h₁ }) E s₁) E s)
    (hs : ∀ x, foldedSetIterable iter (lawEnv la L) x = pure x := by intro _; rfl) :
    wpAny (model prog w) A (exec (.Assign [.Name y py] (.ListComp elt [⟨tgt, iter, ifs, 0⟩] scope pos) spos) (lawEnv la L)) Q E s := by
  rw [exec_Assign_Name_used _ _ _ _ hsw]
  refine wpAny_bind (wpAny_standAt (wpAny_bind ?_))
  show wpAny _ A (do let _ ← comprehension (.ListComp elt [⟨tgt, iter, ifs, 0⟩] scope pos) scope (lawEnv la L) _ (newList []) false (eval iter (lawEnv la L)) (some (assign (.Name y py) (lawEnv la L)))) _ _ s
  refine wpAny_bind (wpAny_mono (comp_wrap (use := some (assign (.Name y py) (lawEnv la L))) (Q := fun _ s' => Q .next s') hclos hkind hnames
    (wpAny_mono h (fun xv s₁ h₁ => wpAny_mono h₁ (fun it s₂ h₂ => ⟨h₂.1, fun D C h₁ e1 e2 e3 e4 e5 e6 e7 e8 e9 => codeAny_mono (h₂.2 D C h₁ e1 e2 e3 e4 e5 e6 e7 e8 e9) ?_⟩) fun _ _ e => e) fun _ _ e => e) hs) (fun _ s' hq => wpAny_pure (wpAny_pure hq)) fun _ _ e => e)
  rintro r s' ⟨rfl, h', tk, hb, ps, m, cm, mC, rfl, T, hnC, hC, hQ⟩
  show wpAny _ A (assign (.Name y py) (lawEnv la L) (.ref D)) _ _ _
  refine wpAny_assign_Name (stL (s := { s₂ with heap := h', toks := tk }) T (fun h₂ T₂ hs₂ => ?_) hy)
  refine ⟨mC, hnC.sameBut hs₂ (fun e => hC (.inr (.inl e))), fun h₃ hs₃ => ?_⟩
  exact hQ h₃ _ (T₂.but hs₃.extBut hC) fun b o hbL hbC e => hs₃.extBut b o hbC (hs₂.extBut b o hbL e)

/-- [comprehension] as a value in the law's frame, or in any -/
theorem comp_value {elt tgt iter : Expr} {ifs : List Expr} {scope : Scope} {pos : Pos} {cl : List (Str × Addr)} {Q : Value → Shared → Prop}
    (hclos : closureFor scope env = pure cl) (hkind : scope.kind = .function) (hnames : ∀ x ∈ scope.names, x.2 = .local → scope.names.lookup x.1 = some .local)
    (h : wpAny (model prog w) A (eval iter env) (fun xv s₁ => wpAny (model prog w) A (pyIter xv) (fun it s₂ =>
      (∀ h' (Q' : Value → Shared → Prop) (E' : Value → Shared → Prop), Sub s₂.heap h' → Q' it { s₂ with heap := h' } → wpAny (model prog w) A (pyIter it) Q' E' { s₂ with heap := h' }) ∧
      ∀ D C h₁, D = s₂.heap.objs.size → C = D + 1 → s₂.heap.get? D = none → s₂.heap.get? C = none → D ≠ C → Sub s₂.heap h₁ → h₁.PlainList D #[] → h₁.Ns C (fun _ => none) →
        (∃ h₀, h₀.objs.size = C + 1 ∧ h₁ = pushCells h₀ scope.names) →
        codeAny (model prog w) A (.compLoop (.ListComp elt [⟨tgt, iter, ifs, 0⟩] scope pos) 0 it (.ref D) (compEnvC scope (cellsFrom (C + 1) scope.names cl) C env))
          (fun r s' => r = .ok .next ∧ ∃ h' tk mC, s' = { s₂ with heap := h', toks := tk } ∧ h'.Ns C mC ∧
            ∀ h'', Heap.SameBut C h' h'' → Q (.ref D) { s₂ with heap := h'', toks := tk }) { s₂ with heap := h₁ }) E s₁) E s)
    (hs : ∀ x, foldedSetIterable iter env x = pure x := by intro _; rfl) :
    wpAny (model prog w) A (eval (.ListComp elt [⟨tgt, iter, ifs, 0⟩] scope pos) env) Q E s := by
  rw [eval_ListComp]
  refine comp_wrap (use := none) hclos hkind hnames
    (wpAny_mono h (fun xv s₁ h₁ => wpAny_mono h₁ (fun it s₂ h₂ => ⟨h₂.1, fun D C h₁ e1 e2 e3 e4 e5 e6 e7 e8 e9 => codeAny_mono (h₂.2 D C h₁ e1 e2 e3 e4 e5 e6 e7 e8 e9) ?_⟩) fun _ _ e => e) fun _ _ e => e) hs
  rintro r s' ⟨rfl, h', tk, mC, rfl, hnC, hQ⟩
  exact ⟨mC, hnC, hQ⟩
end
end Mine

end
section
/- MLaw3 -/
open PySem PySem.W PyProof.Rows
open PySem.Builtin.Int (intBits)
set_option maxRecDepth 100000
set_option linter.unusedVariables false
namespace Mine

def lawF6 : List Stmt := match lawS6 with | .For _ _ b _ _ => b | _ => []
def lawS6a : Stmt := match lawF6 with | s :: _ => s | _ => .Pass default
def lawS6b : Stmt := match lawF6 with | _ :: s :: _ => s | _ => .Pass default
def lawS6c : Stmt := match lawF6 with | _ :: _ :: s :: _ => s | _ => .Pass default
def lawS6d : Stmt := match lawF6 with | _ :: _ :: _ :: s :: _ => s | _ => .Pass default
def lawS6e : Stmt := match lawF6 with | _ :: _ :: _ :: _ :: s :: _ => s | _ => .Pass default
theorem lawF6_eq : lawF6 = [lawS6a, lawS6b, lawS6c, lawS6d, lawS6e] := rfl

theorem pow_small (j : Nat) (hj : j ≤ 8) : ((2 : Int) ^ j ≠ 0) ∧ ∀ a, Builtin.divisionGoesByPylong a ((2 : Int) ^ j) = false := by
  have : j = 0 ∨ j = 1 ∨ j = 2 ∨ j = 3 ∨ j = 4 ∨ j = 5 ∨ j = 6 ∨ j = 7 ∨ j = 8 := by omega
  rcases this with e | e | e | e | e | e | e | e | e <;> subst e <;> exact ⟨by decide, fun a => PyProof.noPylong_small (by decide)⟩
theorem pow_bits (j : Nat) (hj : j ≤ 8) : (intBits 2 : Int) * (j : Int) ≤ 2 ^ 27 := by
  have : j = 0 ∨ j = 1 ∨ j = 2 ∨ j = 3 ∨ j = 4 ∨ j = 5 ∨ j = 6 ∨ j = 7 ∨ j = 8 := by omega
  rcases this with e | e | e | e | e | e | e | e | e <;> subst e <;> decide

section
variable {la : Addr} {prog : Program} {w : World} {A : Around} {E : Value → Shared → Prop} {s : Shared} {hb h h' : Heap} {L lx aN aR aO : Addr} {ps : Array Value} {m cm mg mb : Str → Option Value} {vs : List Value} {ns : List Int} {Q : Flow → Shared → Prop}

theorem script_len {p1 p2 p3 : Pos} {Q : Value → Shared → Prop} (G : GlobL hb mg mb) (T : LF hb L ps s.heap m cm) (hs : m (Str.ofString "script") = some (.ref lx)) (hl : hb.IsList lx vs.toArray) (hlen : vs.length ≤ 63)
    (h : ∀ tk t, Q (.int (vs.length : Int) t) { s with toks := tk }) : wpAny (model prog w) A (eval (.Call (.Name (Str.ofString "len") p1) [.Name (Str.ofString "script") p2] [] p3) (lawEnv la L)) Q E s := by
  have hl' : s.heap.IsList lx vs.toArray := hl.at fun o e => T.keep _ _ e
  refine wpAny_Call_NameR (rdB T G (v := .builtin "len") (by simp) (by rfl) ?_)
  refine callWith_bi rfl (Calls.spliced_cons (rdL T hs (Calls.spliced_nil ?_)))
  exact len_list hl' (by simp; omega) (by simpa using h _ _)

theorem exec_S6a {k : Nat} {i : Int} {t u : Tok} (G : GlobL hb mg mb) (T : LF hb L ps s.heap m cm) (hs : m (Str.ofString "script") = some (.ref lx)) (hl : hb.IsList lx vs.toArray) (hI : IntsAre vs ns) (hlen : ns.length ≤ 63)
    (hk : m (Str.ofString "k") = some (.int (k : Int) u)) (hk8 : k < 8) (hh : m (Str.ofString "head") = some (.int i t)) (hi : intBits i ≤ 2 ^ 20)
    (h : ∀ h' tk v t', LF hb L ps h' m (fun z => if z = Str.ofString "number" then some (.int v t') else cm z) → Heap.ExtBut (L + 1 + 1) s.heap h' → Q .next { s with heap := h', toks := tk }) :
    wpAny (model prog w) A (exec lawS6a (lawEnv la L)) Q E s := by
  unfold lawS6a lawF6 lawS6 lawBody lawStmt PySem.Challenge.pw_kk0044_01
  dsimp only
  have hl' : s.heap.IsList lx vs.toArray := hl.at fun o e => T.keep _ _ e
  have hvl : vs.length = ns.length := hI.length
  refine wpAny_Assign_Name (IfExp_ (wpAny_isTrue_Compare1 (wpAny_BinOp (rdL T hk (wpAny_Constant_int (P.add_int ?_)))))) (by rfl)
  refine script_len (s := { s with toks := _ }) G T hs hl (by omega) fun tk t2 => ?_
  show wpAny (model prog w) A (richCompare .Lt _ _) _ _ _
  refine wpAny_lt_int (wpAny_truthy_bool ?_)
  by_cases hlt : (k : Int) + 1 < (vs.length : Int)
  · rw [if_pos (by simpa using hlt)]
    have hk1 : k + 1 < vs.length := by omega
    refine Subscript_ (rdL (s := { s with toks := _ }) T hs (wpAny_BinOp (rdL (s := { s with toks := _ }) T hk (wpAny_Constant_int (P.add_int ?_)))))
    obtain ⟨t3, e3⟩ := hI.get (k + 1) (ns[k + 1]'(by omega)) (by simp)
    refine tail_list (s := { s with toks := _ }) hl' (wpAny_getItem_list (s := { s with toks := _ }) (x := .int (ns[k + 1]'(by omega)) t3) hl' (by omega) (by omega) ?_ ?_) rfl
    · have : ((k : Int) + 1).toNat = k + 1 := by omega
      rw [this]; simpa using e3
    · exact stC' (c := L + 1 + 1) (s := { s with toks := _ }) T fun h' T' hs' => h h' _ _ t3 T' hs'.extBut
  · rw [if_neg (by simpa using hlt)]
    have b1 : intBits (i + 3) ≤ 2 ^ 20 + 1 := bits_add (m := 2 ^ 20) (n := 2) hi (by decide)
    have b2 : intBits ((k : Int) + 2) ≤ 64 := intBits_le_64 (by omega) (by omega)
    have b3 : intBits ((k : Int)) ≤ 64 := intBits_le_64 (by omega) (by omega)
    have b4 : intBits ((i + 3) * ((k : Int) + 2)) ≤ 2 ^ 20 + 1 + 64 := bits_mul b1 b2
    have b5 : intBits (1025 * (k : Int)) ≤ 64 + 64 := bits_mul (m := 64) (by decide) b3
    refine wpAny_BinOp (wpAny_BinOp (wpAny_BinOp (wpAny_BinOp (rdL (s := { s with toks := _ }) T hh (wpAny_Constant_int (P.add_int (wpAny_BinOp (rdL (s := { s with toks := _ }) T hk (wpAny_Constant_int (P.add_int ?_))))))))))
    refine mul_int (wpAny_Constant_int ?_) (mulOk_of_bits b1 b2 (by decide))
    refine mul_int ?_ (mulOk_of_bits (n := 64) b4 (by decide) (by decide))
    refine wpAny_BinOp (wpAny_BinOp (wpAny_Constant_int (rdL (s := { s with toks := _ }) T hk ?_)))
    refine mul_int (rdL (s := { s with toks := _ }) T hk ?_) (mulOk_of_bits (m := 64) (by decide) b3 (by decide))
    refine mul_int (P.add_int ?_) (mulOk_of_bits b5 b3 (by decide))
    exact stC' (c := L + 1 + 1) (s := { s with toks := _ }) T fun h' T' hs' => h h' _ _ _ T' hs'.extBut
end
end Mine

end
section
/- MLaw4 -/
open PySem PySem.W PyProof.Rows
open PySem.Builtin.Int (intBits)
set_option maxRecDepth 100000
set_option linter.unusedVariables false
namespace Mine
section
variable {la : Addr} {prog : Program} {w : World} {A : Around} {E : Value → Shared → Prop} {s : Shared} {hb h h' : Heap} {L lx aN aR aO : Addr} {ps : Array Value} {m cm mg mb : Str → Option Value} {vs : List Value} {ns : List Int} {Q : Flow → Shared → Prop}

theorem exec_S6b {n : Nat} {v : Int} {t u : Tok} {nd : Nat → Addr} (r : RoomL A) (G : GlobL hb mg mb) (T : LF hb L ps s.heap m cm) (hm : m (Str.ofString "many") = some (.int (n : Int) t)) (hn : n ≤ 8)
    (hcN : cm (Str.ofString "nodes") = some (.ref aN)) (hN : hb.PlainList aN ((List.range n).map fun k => Value.ref (nd k)).toArray) (hnum : cm (Str.ofString "number") = some (.int v u))
    (h : ∀ h' tk D (rel : List Nat), LF hb L ps h' (fun z => if z = Str.ofString "row" then some (.ref D) else m z) cm → s.heap.get? D = none → h'.PlainList D (rel.map fun j => Value.ref (nd j)).toArray → (∀ j ∈ rel, j < n) → rel.length ≤ n →
      (∀ b o, b ≠ L → s.heap.get? b = some o → h'.get? b = some o) → Q .next { s with heap := h', toks := tk }) :
    wpAny (model prog w) A (exec lawS6b (lawEnv la L)) Q E s := by
  unfold lawS6b lawF6 lawS6 lawBody lawStmt PySem.Challenge.pw_kk0044_01
  dsimp only
  refine comp_assign_law (cl := [(Str.ofString "number", L + 1 + 1), (Str.ofString "nodes", L + 1)]) (by rfl) (by rfl) (by rfl) (by decide) (by rfl) (ev_range G T hm fun rg h₁ tk₁ t₁ u₁ v₁ hsub₁ hr => ?_)
  refine wpAny_pyIter_range (s := { s with heap := h₁, toks := tk₁ }) hr (range_small hn) ?_
  dsimp only
  have hIt0 : s.heap.get? h₁.objs.size = none := by
    cases e : s.heap.get? h₁.objs.size with
    | none => rfl
    | some o => exact absurd (Heap.lt_size (hsub₁ _ _ e)) (Nat.lt_irrefl _)
  have hsub₂ : ∀ o, Sub s.heap (h₁.push o) := fun o b ob e => Heap.get?_push_of_some _ (hsub₁ b ob e)
  have hst : IsRangeIter (h₁.push { cls := .type "range_iterator", data := .fields #[rawInt 0, rawInt (Builtin.Range.rangeSize 0 (n : Int) 1), rawInt 1] }) h₁.objs.size (0 + ((0 : Nat) : Int) * 1) ((n : Int) - ((0 : Nat) : Int)) 1 := by
    rw [range_size]
    simpa using Heap.get?_push_size _ rfl
  generalize h₁.objs.size = It at hIt0 hst ⊢
  have hsub₃ := hsub₂ { cls := .type "range_iterator", data := .fields #[rawInt 0, rawInt (Builtin.Range.rangeSize 0 (n : Int) 1), rawInt 1] }
  generalize h₁.push { cls := Value.type "range_iterator", data := .fields #[rawInt 0, rawInt (Builtin.Range.rangeSize 0 (n : Int) 1), rawInt 1] } = h₂ at hst hsub₃ ⊢
  have T2 := T.sub hsub₃
  have hItH := T.new hIt0
  refine ⟨fun h' Q' E' hs hQ => wpAny_pyIter_rangeiter (s := { s with heap := h', toks := tk₁ }) (hs _ _ hst) hQ, ?_⟩
  rintro D C h₃ _ _ hD0 hC0 hDC hsub₄ hDl hCn _
  have hDH := T2.new hD0
  have hCH := T2.new hC0
  have hDI : D ≠ It := fun e => by rw [e, show h₂.get? It = some _ from hst] at hD0; cases hD0
  have hCI : C ≠ It := fun e => by rw [e, show h₂.get? It = some _ from hst] at hC0; cases hC0
  have Jat : ∀ h h', LF hb L ps h m cm → (∀ b o, b ≠ C → b ∉ [It] → b ≠ D → h.get? b = some o → h'.get? b = some o) → LF hb L ps h' m cm := fun h h' T hk =>
    T.at fun b o hH e => hk b o (fun e' => hCH (e' ▸ hH)) (fun hm => hItH ((List.mem_singleton.mp hm) ▸ hH)) (fun e' => hDH (e' ▸ hH)) e
  refine comp_walk (s := { s with heap := h₃, toks := tk₁ }) (LCg.range_walks (prog := prog) (w := w) (I := It) r.1 0 n) (by rw [sizeLine_num]; omega) (by rfl) (by rfl) hDC (fun hm => hDI (List.mem_singleton.mp hm)) (fun hm => hCI (List.mem_singleton.mp hm)) (hsub₄ _ _ hst) hDl hCn
    (fun i ys h => LF hb L ps h m cm ∧ ∃ rel : List Nat, ys = rel.map (fun j => Value.ref (nd j)) ∧ ∀ j ∈ rel, j < n) ⟨T2.sub hsub₄, [], rfl, by simp⟩
    (fun i ys h h' ⟨TJ, r⟩ hk => ⟨Jat h h' TJ hk, r⟩) ?_ ?_
  · rintro i w' ys h₄ tk₄ m' hi ⟨tv, rfl⟩ ⟨T4, rel, rfl, hrel⟩ hn4 hj _
    rw [show (0 : Int) + (i : Int) = (i : Int) by omega] at hj
    obtain ⟨p1, p2⟩ := pow_small i (by omega)
    refine wpAny_tests_one (wpAny_isTrue_Compare1 (wpAny_BinOp (wpAny_BinOp (rdXC (s := { s with heap := h₄, toks := tk₄ }) T4 (c := L + 1 + 1) hnum (wpAny_BinOp (wpAny_Constant_int (rdXL (s := { s with heap := h₄, toks := _ }) (C := C) hn4 hj ?_)))))))
    refine pow_int (by omega) (pow_bits i (by omega)) ?_
    rw [show ((i : Int)).toNat = i by omega]
    refine floordiv_int p1 (wpAny_Constant_int (mod_int' (by decide) (wpAny_Constant_int ?_))) (.inl (p2 _))
    show wpAny (model prog w) A (richCompare .Eq _ _) _ _ _
    refine wpAny_eq_int (wpAny_truthy_bool ?_)
    refine ⟨h₄, _, rfl, fun b o e => e, ?_⟩
    split
    · refine Subscript_ (rdXC (s := { s with heap := h₄, toks := _ }) T4 (c := L + 1) hcN (rdXL (s := { s with heap := h₄, toks := _ }) (C := C) hn4 hj ?_))
      have hN4 : h₄.IsList aN ((List.range n).map fun k => Value.ref (nd k)).toArray := (hN.at fun o e => T4.keep _ _ e).isList
      refine tail_list (s := { s with heap := h₄, toks := _ }) hN4 (wpAny_getItem_list (s := { s with heap := h₄, toks := _ }) (x := .ref (nd i)) hN4 (by omega) (by omega) ?_ ?_) rfl
      · rw [show ((i : Int)).toNat = i by omega]
        simp [hi]
      · refine ⟨h₄, _, rfl, fun b o e => e, T4, rel ++ [i], by simp, ?_⟩
        intro j hj
        rcases List.mem_append.mp hj with hj | hj
        · exact hrel j hj
        · simp at hj; omega
    · exact ⟨T4, rel, rfl, hrel⟩
  · rintro h₅ tk₅ m' ys ⟨T5, rel, rfl, hrel⟩ hlen hn5 hD5 hk5
    refine ⟨rfl, h₅, tk₅, hb, ps, m, cm, m', rfl, T5, hn5, hCH, fun h₆ tk₆ T6 hk6 => ?_⟩
    have hDL : D ≠ L := neL hDH
    refine h h₆ tk₆ D rel T6 ?_ (hD5.at fun o e => hk6 _ o hDL hDC e) hrel (by simpa using hlen) ?_
    · cases e : s.heap.get? D with
      | none => rfl
      | some o => rw [hsub₃ _ _ e] at hD0; cases hD0
    · intro b o hbL e
      have e2 := hsub₃ _ _ e
      have hbC : b ≠ C := fun e' => by rw [e', hC0] at e2; cases e2
      have hbD : b ≠ D := fun e' => by rw [e', hD0] at e2; cases e2
      have hbI : b ≠ It := fun e' => by rw [e', hIt0] at e; cases e
      exact hk6 b o hbL hbC (hk5 b o hbC (fun hm => hbI (List.mem_singleton.mp hm)) hbD (hsub₄ _ _ e2))
end
end Mine

end
section
/- MLaw5 -/
open PySem PySem.W PyProof.Rows
open PySem.Builtin.Int (intBits)
set_option maxRecDepth 100000
set_option linter.unusedVariables false
namespace Mine

def abcS : Str := Str.ofString "abcdef"
def abcL : List Str := abcS.cps.toList.map fun c => (⟨#[c]⟩ : Str)
theorem abcL_nodup : abcL.Nodup := by decide +kernel
theorem abcL_len : abcL.length = 6 := by decide +kernel
theorem abcL_ok : ∀ a ∈ abcL, PyData.strOk a = true := by decide +kernel
theorem abcS_size : abcS.cps.size = 6 := by decide +kernel
theorem abcL_get {i c : Nat} (h : abcS.cps[i]? = some c) : abcL[i]? = some (⟨#[c]⟩ : Str) := by
  unfold abcL
  rw [List.getElem?_map, Array.getElem?_toList, h]; rfl
theorem take_notMem {α : Type} {l : List α} {i : Nat} {x : α} (hn : l.Nodup) (h : l[i]? = some x) : x ∉ l.take i := by
  obtain ⟨hi, e⟩ := List.getElem?_eq_some_iff.mp h
  intro hm
  obtain ⟨j, hj, e'⟩ := List.mem_take_iff_getElem.mp hm
  have : j = i := (List.getElem_inj hn).mp (e'.trans e.symm)
  omega

section
variable {la : Addr} {prog : Program} {w : World} {A : Around} {E : Value → Shared → Prop} {s : Shared} {hb h h' : Heap} {L lx aN aR aO : Addr} {ps : Array Value} {m cm mg mb : Str → Option Value} {vs : List Value} {ns : List Int} {Q : Flow → Shared → Prop}

theorem rev_tail {value slice : Expr} {its : Array Value} {D : Addr} {t : Tok} {tk : Nat} {Q : Value → Shared → Prop} (hl : s.heap.IsList D its) (hsz : its.size ≤ 100)
    (h : ∀ h₁ D', Sub s.heap h₁ → s.heap.get? D' = none → h₁.PlainList D' its.toList.reverse.toArray → Q (.ref D') { s with heap := h₁, toks := tk })
    (hs : subscripted slice false (.ref D) (.ref s.heap.objs.size) = operate [.ref D, .ref s.heap.objs.size] (getItem (.ref D) (.ref s.heap.objs.size))) :
    wpAny (model prog w) A (subscriptTail value slice (.ref D) (.ref s.heap.objs.size)) Q E { s with heap := s.heap.push { cls := .type "slice", data := .fields #[.none, .none, .int (-1) t] }, toks := tk } := by
  have hsub1 : Sub s.heap (s.heap.push { cls := .type "slice", data := .fields #[.none, .none, .int (-1) t] }) := fun b ob e => Heap.get?_push_of_some _ e
  have hl1 := hl.at fun o e => hsub1 _ _ e
  have hsl := Heap.IsSliceOf.new s.heap .none .none (.int (-1) t)
  have hfr : s.heap.get? (s.heap.push { cls := .type "slice", data := .fields #[.none, .none, .int (-1) t] }).objs.size = none := none_of_ge (by rw [Heap.size_push]; exact Nat.le_succ _)
  generalize s.heap.push { cls := Value.type "slice", data := .fields #[.none, .none, .int (-1) t] } = hS at hsub1 hl1 hsl hfr ⊢
  refine tail_any (s := { s with heap := hS, toks := tk }) (T := "list") hl1.typeIs slot_list_getitem.lookup (wpAny_getItem_list_slice (s := { s with heap := hS, toks := tk }) hl1 hsl .none .none (.int (-1) t) (by decide) ?_ (by rw [sizeLine_num]; omega)) hs
  rw [krv_pick]
  dsimp only
  exact h _ _ (fun b o e => Heap.get?_push_of_some _ (hsub1 b o e)) hfr ⟨0, Heap.get?_push_size _ rfl⟩

theorem exec_S6c {v : Int} {u : Tok} {nd : Nat → Addr} {D : Addr} {rel : List Nat} (T : LF hb L ps s.heap m cm) (hnum : cm (Str.ofString "number") = some (.int v u)) (hrow : m (Str.ofString "row") = some (.ref D))
    (hD : s.heap.PlainList D (rel.map fun j => Value.ref (nd j)).toArray) (hlen : rel.length ≤ 8)
    (h : ∀ h' tk D' (rel' : List Nat) m', LF hb L ps h' m' cm → m' (Str.ofString "row") = some (.ref D') → (∀ y, y ≠ Str.ofString "row" → m' y = m y) → (D' = D ∨ s.heap.get? D' = none) → h'.PlainList D' (rel'.map fun j => Value.ref (nd j)).toArray →
      (∀ j ∈ rel', j ∈ rel) → rel'.length = rel.length → (∀ b o, b ≠ L → s.heap.get? b = some o → h'.get? b = some o) → Q .next { s with heap := h', toks := tk }) :
    wpAny (model prog w) A (exec lawS6c (lawEnv la L)) Q E s := by
  unfold lawS6c lawF6 lawS6 lawBody lawStmt PySem.Challenge.pw_kk0044_01
  dsimp only
  refine wpAny_If (wpAny_isTrue_Compare1 (wpAny_BinOp (wpAny_BinOp (wpAny_BinOp (rdC (c := L + 1 + 1) T hnum (wpAny_Constant_int ?_))))))
  refine floordiv_int (by decide) (wpAny_Constant_int ?_) (.inl (PyProof.noPylong_small (by decide)))
  refine floordiv_int (by decide) (wpAny_Constant_int (mod_int' (by decide) (wpAny_Constant_int ?_))) (.inl (PyProof.noPylong_small (by decide)))
  show wpAny (model prog w) A (richCompare .Eq _ _) _ _ _
  refine wpAny_eq_int (wpAny_truthy_bool ?_)
  split
  · refine wpAny_execs_cons (wpAny_Assign_Name (Subscript_ (rdL (s := { s with toks := _ }) T hrow (wpAny_Slice ?_))) (by rfl))
    rw [evalPart_none]
    refine wpAny_pure ?_
    refine wpAny_pure ?_
    rw [evalPart_some]
    refine UnaryOp_ (wpAny_Constant_int (PyProof.Rows.neg_int ?_))
    refine rev_tail hD.isList (by simp; omega) (fun h₁ D' hsub hfresh hpl => ?_) rfl
    refine stL (s := { s with heap := h₁, toks := _ }) (T.sub hsub) fun h' T' hs' => wpAny_execs_nil ?_
    refine h h' _ D' rel.reverse _ T' (if_pos rfl) (fun y hy => if_neg hy) (.inr hfresh) ?_ (fun j hj => List.mem_reverse.mp hj) (by simp) (fun b o hbL e => hs'.extBut b o hbL (hsub b o e))
    have hDL : D' ≠ L := neL (T.new hfresh)
    have := hpl.at fun o e => hs'.extBut _ o hDL e
    simpa using this
  · refine wpAny_execs_nil ?_
    exact h s.heap _ D rel m T hrow (fun y _ => rfl) (.inl rfl) hD (fun _ h => h) rfl (fun b o _ e => e)

/-- nodes[k] -/
theorem ev_node {n k : Nat} {nd : Nat → Addr} {t : Tok} {p1 p2 p3 : Pos} {Q : Value → Shared → Prop} (T : LF hb L ps s.heap m cm) (hcN : cm (Str.ofString "nodes") = some (.ref aN)) (hN : hb.PlainList aN ((List.range n).map fun k => Value.ref (nd k)).toArray)
    (hk : m (Str.ofString "k") = some (.int (k : Int) t)) (hkn : k < n) (hn : n ≤ 8) (h : Q (.ref (nd k)) s) :
    wpAny (model prog w) A (eval (.Subscript (.Name (Str.ofString "nodes") p1) (.Name (Str.ofString "k") p2) p3) (lawEnv la L)) Q E s := by
  have hN4 : s.heap.IsList aN ((List.range n).map fun k => Value.ref (nd k)).toArray := (hN.at fun o e => T.keep _ _ e).isList
  refine Subscript_ (rdC (c := L + 1) T hcN (rdL T hk ?_))
  refine tail_list hN4 (wpAny_getItem_list (x := .ref (nd k)) hN4 (by omega) (by omega) ?_ h) rfl
  rw [show ((k : Int)).toNat = k by omega]
  simp [hkn]

theorem exec_S6d {n k : Nat} {nd : Nat → Addr} {t : Tok} {D : Addr} {xs : List (Nat × Addr × Value)} (r : RoomL A) (T : LF hb L ps s.heap m cm) (hrow : m (Str.ofString "row") = some (.ref D)) (hcR : cm (Str.ofString "related") = some (.ref aR))
    (hcN : cm (Str.ofString "nodes") = some (.ref aN)) (hN : hb.PlainList aN ((List.range n).map fun k => Value.ref (nd k)).toArray) (hnd : (nodeKind prog w nmL).is hb k (nd k))
    (hk : m (Str.ofString "k") = some (.int (k : Int) t)) (hkn : k < n) (hn : n ≤ 8) (hR : s.heap.DictOfH (nodeKind prog w nmL) aR xs) (hxs : xs.length ≤ 8)
    (h : ∀ h' tk, h'.DictOfH (nodeKind prog w nmL) aR (storedH xs k (nd k) (.ref D)) → Heap.SameBut aR s.heap h' → Q .next { s with heap := h', toks := tk }) :
    wpAny (model prog w) A (exec lawS6d (lawEnv la L)) Q E s := by
  unfold lawS6d lawF6 lawS6 lawBody lawStmt PySem.Challenge.pw_kk0044_01
  dsimp only
  refine wpAny_Assign_Subscript (rdL T hrow (rdC (c := L + 1 + 1 + 1 + 1 + 1) T hcR (ev_node T hcN hN hk hkn hn ?_))) (by rfl)
  refine wpAny_setItem_heap (knd := nodeKind prog w nmL) (by have := r.2.2; show A.units + 1 < cLine; omega) (is_sub hnd T.keep) hR (fun h' hd hs => h h' _ hd hs) (by rw [sizeLine_num]; omega)
end
end Mine

end
section
/- MLaw6 -/
open PySem PySem.W PyProof.Rows
open PySem.Builtin.Int (intBits)
set_option maxRecDepth 100000
set_option linter.unusedVariables false
namespace Mine
theorem abcS_iter : strIterType abcS = "str_ascii_iterator" := by decide +kernel

section
variable {la : Addr} {prog : Program} {w : World} {A : Around} {E : Value → Shared → Prop} {s : Shared} {hb h h' : Heap} {L lx aN aR aO : Addr} {ps : Array Value} {m cm mg mb : Str → Option Value} {vs : List Value} {ns : List Int} {Q : Flow → Shared → Prop}

theorem exec_S6e {n k : Nat} {nd : Nat → Addr} {t u : Tok} {v : Int} {xs : List (Nat × Addr × Value)} (r : RoomL A) (G : GlobL hb mg mb) (T : LF hb L ps s.heap m cm) (hcO : cm (Str.ofString "own") = some (.ref aO)) (hOH : ¬ Held hb L aO)
    (hcN : cm (Str.ofString "nodes") = some (.ref aN)) (hN : hb.PlainList aN ((List.range n).map fun k => Value.ref (nd k)).toArray) (hnd : (nodeKind prog w nmL).is hb k (nd k)) (hnum : cm (Str.ofString "number") = some (.int v u))
    (hk : m (Str.ofString "k") = some (.int (k : Int) t)) (hkn : k < n) (hn : n ≤ 8) (hO : s.heap.DictOfH (nodeKind prog w nmL) aO xs) (hxs : xs.length ≤ 8) (hkeys : ∀ y ∈ xs, (nodeKind prog w nmL).is hb y.1 y.2.1)
    (h : ∀ h' tk D ls, LF hb L ps h' m cm → h'.DictOfH (nodeKind prog w nmL) aO (storedH xs k (nd k) (.ref D)) → s.heap.get? D = none → StrL abcL h' D ls → (∀ b o, b ≠ aO → s.heap.get? b = some o → h'.get? b = some o) → Q .next { s with heap := h', toks := tk }) :
    wpAny (model prog w) A (exec lawS6e (lawEnv la L)) Q E s := by
  unfold lawS6e lawF6 lawS6 lawBody lawStmt PySem.Challenge.pw_kk0044_01
  dsimp only
  refine wpAny_Assign_Subscript (comp_value (cl := [(Str.ofString "number", L + 1 + 1)]) (by rfl) (by rfl) (by decide) (wpAny_Call_NameR (rdB T G (v := .type "enumerate") (by simp) (by rfl) ?_))) (by rfl)
  refine callWith_type1 (Calls.spliced_cons (wpAny_Constant_str (k := 0) (pos := default) (Calls.spliced_nil ?_)))
  refine call_enumerate_str fun h₁ he hit hsz hsub₁ => ?_
  dsimp only at he hit hsz hsub₁ ⊢
  have hItH := T.new (none_of_ge (Nat.le_refl s.heap.objs.size))
  have hEnH : ¬ Held hb L (s.heap.objs.size + 1) := T.new (none_of_ge (Nat.le_succ _))
  have hIt0 : s.heap.get? s.heap.objs.size = none := none_of_ge (Nat.le_refl _)
  have hEn0 : s.heap.get? (s.heap.objs.size + 1) = none := none_of_ge (Nat.le_succ _)
  have hne : s.heap.objs.size + 1 ≠ s.heap.objs.size := Nat.succ_ne_self _
  generalize s.heap.objs.size + 1 = En at he hEnH hEn0 hne ⊢
  generalize s.heap.objs.size = It at he hit hItH hIt0 hne hsz ⊢
  rw [show strIterType (Str.ofString "abcdef") = "str_ascii_iterator" from abcS_iter] at hit
  refine wpAny_pyIter_enum he ?_
  have T1 := T.sub hsub₁
  refine ⟨fun h' Q' E' hs hQ => wpAny_pyIter_enum (s := { s with heap := h', toks := s.toks + 1 }) (hs _ _ he) hQ, ?_⟩
  rintro D C h₃ _ _ hD0 hC0 hDC hsub₄ hDl hCn _
  have hDH := T1.new hD0
  have hCH := T1.new hC0
  obtain ⟨oi, hoi, ri⟩ := hit
  have hDE : D ≠ En := fun e => by rw [e, show h₁.get? En = some _ from he] at hD0; cases hD0
  have hCE : C ≠ En := fun e => by rw [e, show h₁.get? En = some _ from he] at hC0; cases hC0
  have hDI : D ≠ It := fun e => by rw [e, hoi] at hD0; cases hD0
  have hCI : C ≠ It := fun e => by rw [e, hoi] at hC0; cases hC0
  have Jat : ∀ h h', LF hb L ps h m cm → (∀ b o, b ≠ C → b ∉ [En, It] → b ≠ D → h.get? b = some o → h'.get? b = some o) → LF hb L ps h' m cm := fun h h' T hk =>
    T.at fun b o hH e => hk b o (fun e' => hCH (e' ▸ hH)) (fun hm => by
      rcases List.mem_cons.mp hm with rfl | hm
      · exact hEnH hH
      · exact hItH ((List.mem_singleton.mp hm) ▸ hH)) (fun e' => hDH (e' ▸ hH)) e
  have W := WalksT.enumerateD (Draws.strAscii (prog := prog) (w := w) (A := A.in1) r.1 It abcS s.toks) En hne (fun hm => hne (List.mem_singleton.mp hm)) (List.mem_singleton.mpr rfl)
  refine comp_walkT (s := { s with heap := h₃, toks := s.toks + 1 }) r.1 W (by rw [abcS_size, sizeLine_num]; decide) (fun i vals hP => by obtain ⟨t', x, _, e⟩ := hP; exact ⟨_, _, e⟩) (by rfl) (by rfl) (by rfl) hDC
    (fun hm => by rcases List.mem_cons.mp hm with e | hm; exact hDE e; exact hDI (List.mem_singleton.mp hm)) (fun hm => by rcases List.mem_cons.mp hm with e | hm; exact hCE e; exact hCI (List.mem_singleton.mp hm))
    ⟨⟨_, hsub₄ _ _ he⟩, oi, hsub₄ _ _ hoi, ri⟩ hDl hCn
    (fun i ys h => LF hb L ps h m cm ∧ ∃ ls : List Str, StrsAre ys ls ∧ ls.Nodup ∧ ∀ x ∈ ls, x ∈ abcL.take i) ⟨T1.sub hsub₄, [], .nil, by simp, by simp⟩
    (fun i ys h h' ⟨TJ, r⟩ hk => ⟨Jat h h' TJ hk, r⟩) ?_ ?_
  · rintro i a b ys h₄ tk₄ m' hi ⟨tv, x, ⟨c, u', hc, rfl⟩, hab⟩ ⟨T4, ls, hls, hnod, hmem⟩ hn4 hm4 _
    rw [abcS_size] at hi
    have hab' : [a, b] = [Value.int (i : Int) tv, .str ⟨#[c]⟩ u'] := congrArg Array.toList hab
    have ha : a = .int (i : Int) tv := by injection hab'
    have hb' : b = .str ⟨#[c]⟩ u' := by injection hab' with _ h2; injection h2
    have hj : m' (Str.ofString "j") = some (.int (i : Int) tv) := by rw [hm4, ← ha]; rfl
    have hl4 : m' (Str.ofString "letter") = some (.str ⟨#[c]⟩ u') := by rw [hm4, ← hb']; rfl
    obtain ⟨p1, p2⟩ := pow_small i (by omega)
    have hget := abcL_get hc
    have hgrow : ∀ x ∈ ls, x ∈ abcL.take (i + 1) := fun x hx => by
      rw [List.take_add_one]
      exact List.mem_append_left _ (hmem x hx)
    refine wpAny_tests_one (wpAny_isTrue_Compare1 (wpAny_BinOp (wpAny_BinOp (wpAny_BinOp (rdXC (s := { s with heap := h₄, toks := tk₄ }) T4 (c := L + 1 + 1) hnum (wpAny_Constant_int ?_))))))
    refine floordiv_int (by decide) (wpAny_BinOp (wpAny_Constant_int (rdXL (s := { s with heap := h₄, toks := _ }) (C := C) hn4 hj ?_))) (.inl (PyProof.noPylong_small (by decide)))
    refine pow_int (by omega) (pow_bits i (by omega)) ?_
    rw [show ((i : Int)).toNat = i by omega]
    refine floordiv_int p1 (wpAny_Constant_int (mod_int' (by decide) (wpAny_Constant_int ?_))) (.inl (p2 _))
    show wpAny (model prog w) A (richCompare .Eq _ _) _ _ _
    refine wpAny_eq_int (wpAny_truthy_bool ?_)
    refine ⟨h₄, _, rfl, fun b o e => e, ?_⟩
    split
    · refine rdXL (s := { s with heap := h₄, toks := _ }) (C := C) hn4 hl4 ?_
      refine ⟨h₄, _, rfl, fun b o e => e, T4, ls ++ [⟨#[c]⟩], strsAre_snoc hls, ?_, ?_⟩
      · rw [List.nodup_append]
        refine ⟨hnod, by simp, ?_⟩
        intro y hy z hz
        simp only [List.mem_singleton] at hz
        subst hz
        exact fun e => take_notMem abcL_nodup hget (e ▸ hmem y hy)
      · intro x hx
        rcases List.mem_append.mp hx with hx | hx
        · exact hgrow x hx
        · simp only [List.mem_singleton] at hx
          subst hx
          rw [List.take_add_one, hget]
          exact List.mem_append_right _ (by simp)
    · exact ⟨T4, ls, hls, hnod, hgrow⟩
  · rintro h₅ tk₅ m' ys ⟨T5, ls, hls, hnod, hmem⟩ hlen hn5 hD5 hk5
    refine ⟨rfl, h₅, tk₅, m', rfl, hn5, fun h₆ hs6 => ?_⟩
    have T6 := T5.but hs6.extBut hCH
    have hD6 := hD5.at fun o e => hs6.extBut _ o hDC e
    have all6 : ∀ b o, s.heap.get? b = some o → h₆.get? b = some o := fun b o e => by
      have e2 := hsub₁ _ _ e
      have hbC : b ≠ C := fun e' => by rw [e', hC0] at e2; cases e2
      have hbD : b ≠ D := fun e' => by rw [e', hD0] at e2; cases e2
      have hbI : b ≠ It := fun e' => by rw [e', hIt0] at e; cases e
      have hbE : b ≠ En := fun e' => by rw [e', hEn0] at e; cases e
      refine hs6.extBut b o hbC (hk5 b o hbC (fun hm => ?_) hbD (hsub₄ _ _ e2))
      rcases List.mem_cons.mp hm with e | hm
      · exact hbE e
      · exact hbI (List.mem_singleton.mp hm)
    have hO6 := dictAt hO (all6 _) fun y hy => is_sub (hkeys y hy) T6.keep
    refine rdC (s := { s with heap := h₆, toks := tk₅ }) (c := L + 1 + 1 + 1 + 1) T6 hcO (ev_node (s := { s with heap := h₆, toks := tk₅ }) T6 hcN hN hk hkn hn ?_)
    refine wpAny_setItem_heap (knd := nodeKind prog w nmL) (s := { s with heap := h₆, toks := tk₅ }) (by have := r.2.2; show A.units + 1 < cLine; omega) (is_sub hnd T6.keep) hO6 (fun h₇ hd hs => ?_) (by rw [sizeLine_num]; omega)
    have hDO : D ≠ aO := fun e => by
      obtain ⟨o, es, ep, ho, hdat⟩ := dict_data hO
      have := hsub₁ _ _ ho
      rw [← e, hD0] at this; cases this
    refine h h₇ _ D ls (T6.but hs.extBut hOH) hd ?_ ⟨ys, hD6.at fun o e => hs.extBut _ o hDO e, hls, hnod, fun x hx => List.mem_of_mem_take (hmem x hx)⟩ (fun b o hbO e => hs.extBut b o hbO (all6 b o e))
    cases e : s.heap.get? D with
    | none => rfl
    | some o => rw [hsub₁ _ _ e] at hD0; cases hD0
end
end Mine

end
section
/- MLaw7 -/
open PySem PySem.W PyProof.Rows
open PySem.Builtin.Int (intBits)
set_option maxRecDepth 100000
set_option linter.unusedVariables false
namespace Mine

def rowsOf (nd f : Nat → Addr) (n : Nat) : List (Nat × Addr × Value) := (List.range n).map fun k => (k, nd k, Value.ref (f k))
theorem rowsOf_none (nd f : Nat → Addr) (n : Nat) : atKey (rowsOf nd f n) n = none := by
  unfold atKey
  have : List.find? (fun x => decide (x.1 = n)) (rowsOf nd f n) = none := by
    rw [List.find?_eq_none]
    intro x hx
    unfold rowsOf at hx
    obtain ⟨k, hk, rfl⟩ := List.mem_map.mp hx
    have := List.mem_range.mp hk
    simp; omega
  rw [this]; rfl
theorem rowsOf_len (nd f : Nat → Addr) (n : Nat) : (rowsOf nd f n).length = n := by simp [rowsOf]
theorem rowsOf_succ (nd f : Nat → Addr) (n : Nat) (a : Addr) : rowsOf nd f n ++ [(n, nd n, Value.ref a)] = rowsOf nd (fun k => if k = n then a else f k) (n + 1) := by
  unfold rowsOf
  rw [List.range_succ, List.map_append]
  congr 1
  · refine List.map_congr_left fun k hk => ?_
    have : k ≠ n := Nat.ne_of_lt (List.mem_range.mp hk)
    simp [this]
  · simp
theorem rowsOf_at (nd f : Nat → Addr) {n k : Nat} (hk : k < n) : atKey (rowsOf nd f n) k = some (nd k, Value.ref (f k)) := by
  induction n with
  | zero => omega
  | succ n ih =>
    have e : rowsOf nd f (n + 1) = rowsOf nd f n ++ [(n, nd n, Value.ref (f n))] := by
      unfold rowsOf; rw [List.range_succ, List.map_append]; rfl
    rw [e]
    unfold atKey at ih ⊢
    rw [List.find?_append]
    by_cases h : k < n
    · have := ih h
      cases hf : List.find? (fun x => decide (x.1 = k)) (rowsOf nd f n) with
      | none => rw [hf] at this; cases this
      | some y => rw [hf] at this; simpa using this
    · have : k = n := by omega
      subst this
      have h0 := rowsOf_none nd f k
      unfold atKey at h0
      have h1 : List.find? (fun x => decide (x.1 = k)) (rowsOf nd f k) = none := by simpa using h0
      rw [h1]; simp
theorem rowsOf_key {nd f : Nat → Addr} {n : Nat} {y : Nat × Addr × Value} (hy : y ∈ rowsOf nd f n) : y.1 < n ∧ y.2.1 = nd y.1 := by
  unfold rowsOf at hy
  obtain ⟨k, hk, rfl⟩ := List.mem_map.mp hy
  exact ⟨List.mem_range.mp hk, rfl⟩

section
variable {la : Addr} {prog : Program} {w : World} {A : Around} {E : Value → Shared → Prop} {s : Shared} {hb h h' : Heap} {L lx aN aR aO : Addr} {ps : Array Value} {m cm mg mb : Str → Option Value} {vs : List Value} {ns : List Int} {Q : Flow → Shared → Prop}

structure Rows (hb : Heap) (nd : Nat → Addr) (n i : Nat) (row : Nat → Addr) (rel : Nat → List Nat) (ow : Nat → Addr) (own : Nat → List Str) : Prop where
  list : ∀ k, k < i → hb.PlainList (row k) ((rel k).map fun j => Value.ref (nd j)).toArray
  lt : ∀ k, k < i → ∀ j ∈ rel k, j < n
  len : ∀ k, k < i → (rel k).length ≤ 8
  own : ∀ k, k < i → StrL abcL hb (ow k) (own k)

theorem exec_S6 {n : Nat} {i₀ : Int} {t t₀ : Tok} {nd : Nat → Addr} (r : RoomL A) (G : GlobL hb mg mb) (T : LF hb L ps s.heap m cm) (hm : m (Str.ofString "many") = some (.int (n : Int) t)) (hn : n ≤ 8)
    (hs : m (Str.ofString "script") = some (.ref lx)) (hl : hb.IsList lx vs.toArray) (hI : IntsAre vs ns) (hlen : ns.length ≤ 63) (hh : m (Str.ofString "head") = some (.int i₀ t₀)) (hi₀ : intBits i₀ ≤ 2 ^ 20)
    (hcN : cm (Str.ofString "nodes") = some (.ref aN)) (hN : hb.PlainList aN ((List.range n).map fun k => Value.ref (nd k)).toArray) (hnd : ∀ k, k < n → (nodeKind prog w nmL).is hb k (nd k))
    (hcR : cm (Str.ofString "related") = some (.ref aR)) (hRH : ¬ Held hb L aR) (hR : s.heap.DictOfH (nodeKind prog w nmL) aR []) (hcO : cm (Str.ofString "own") = some (.ref aO)) (hOH : ¬ Held hb L aO) (hO : s.heap.DictOfH (nodeKind prog w nmL) aO []) (hRO : aR ≠ aO)
    (h : ∀ h' tk hb' m' cm' row rel ow own, LF hb' L ps h' m' cm' → (∀ y, y ≠ Str.ofString "k" → y ≠ Str.ofString "row" → m' y = m y) → (∀ y, y ≠ Str.ofString "number" → cm' y = cm y) → Sub hb hb' →
      hb'.DictOfH (nodeKind prog w nmL) aR (rowsOf nd row n) → hb'.DictOfH (nodeKind prog w nmL) aO (rowsOf nd ow n) → Rows hb' nd n n row rel ow own → Q .next { s with heap := h', toks := tk }) :
    wpAny (model prog w) A (exec lawS6 (lawEnv la L)) Q E s := by
  have e6 : ∃ px p1 p2 p3 pos, lawS6 = .For (.Name (Str.ofString "k") px) (.Call (.Name (Str.ofString "range") p1) [.Name (Str.ofString "many") p2] [] p3) lawF6 [] pos := ⟨_, _, _, _, _, rfl⟩
  obtain ⟨px, p1, p2, p3, pos, e6⟩ := e6
  rw [e6, lawF6_eq]
  have hRe : ∃ o, s.heap.get? aR = some o := by obtain ⟨o, _, _, e, _⟩ := dict_data hR; exact ⟨o, e⟩
  have hOe : ∃ o, s.heap.get? aO = some o := by obtain ⟨o, _, _, e, _⟩ := dict_data hO; exact ⟨o, e⟩
  have keys : ∀ (hb' : Heap) (f : Nat → Addr) (i : Nat), Sub hb hb' → i ≤ n → ∀ y ∈ rowsOf nd f i, (nodeKind prog w nmL).is hb' y.1 y.2.1 := fun hb' f i hsub hi y hy => by
    obtain ⟨h1, h2⟩ := rowsOf_key hy
    rw [h2]
    exact is_sub (hnd _ (by omega)) hsub
  refine for_range_law r G T hm hn (by rfl)
    (fun It i h m' => ∃ hb' cm', ∃ row : Nat → Addr, ∃ rel : Nat → List Nat, ∃ ow : Nat → Addr, ∃ own : Nat → List Str, i ≤ n ∧ LF hb' L ps h m' cm' ∧ (∀ y, y ≠ Str.ofString "k" → y ≠ Str.ofString "row" → m' y = m y) ∧ (∀ y, y ≠ Str.ofString "number" → cm' y = cm y) ∧ Sub hb hb' ∧
      (∀ b ∈ [It, aR, aO], hb'.get? b = none) ∧ h.DictOfH (nodeKind prog w nmL) aR (rowsOf nd row i) ∧ h.DictOfH (nodeKind prog w nmL) aO (rowsOf nd ow i) ∧ Rows hb' nd n i row rel ow own)
    (fun It i h m' ⟨hb', cm', _, _, _, _, _, T', _⟩ => T'.ns) ?_ ?_ ?_ ?_
  · rintro It i h h' m' hIt ⟨hb', cm', row, rel, ow, own, hin, T', hmm, hcc, hsub, hnone, hdR, hdO, hrows⟩ hx
    have hne : ∀ b, (∃ o, s.heap.get? b = some o) → b ≠ It := fun b hb e => by obtain ⟨o, e'⟩ := hb; rw [e, hIt] at e'; cases e'
    have T2 := T'.but hx (Held.of_base (T.new hIt) (hnone _ (by simp)))
    exact ⟨hb', cm', row, rel, ow, own, hin, T2, hmm, hcc, hsub, hnone, dictAt hdR (fun o e => hx _ o (hne aR hRe) e) (fun y hy => is_sub (keys hb' row i hsub hin y hy) T2.keep),
      dictAt hdO (fun o e => hx _ o (hne aO hOe) e) (fun y hy => is_sub (keys hb' ow i hsub hin y hy) T2.keep), hrows⟩
  · intro It h' hIt hsub
    have T2 := T.sub hsub
    refine ⟨hb, cm, fun _ => 0, fun _ => [], fun _ => 0, fun _ => [], Nat.zero_le _, T2, fun _ _ _ => rfl, fun _ _ => rfl, fun _ _ e => e, ?_, dictAt hR (hsub _) (fun y hy => nomatch hy), dictAt hO (hsub _) (fun y hy => nomatch hy),
      ⟨fun k hk => absurd hk (Nat.not_lt_zero _), fun k hk => absurd hk (Nat.not_lt_zero _), fun k hk => absurd hk (Nat.not_lt_zero _), fun k hk => absurd hk (Nat.not_lt_zero _)⟩⟩
    intro b hb'
    simp only [List.mem_cons, List.not_mem_nil, or_false] at hb'
    rcases hb' with rfl | rfl | rfl
    · exact not_held_none (T.new hIt)
    · exact not_held_none hRH
    · exact not_held_none hOH
  · rintro It i h m' hi hIt ⟨hb', cm', row, rel, ow, own, hin, T', hmm, hcc, hsub, hnone, hdR, hdO, hrows⟩ h₂ tk t' hns hsb hItO
    have ItH : ¬ Held hb' L It := Held.of_base (T.new hIt) (hnone _ (by simp))
    have RH : ¬ Held hb' L aR := Held.of_base hRH (hnone _ (by simp))
    have OH : ¬ Held hb' L aO := Held.of_base hOH (hnone _ (by simp))
    have hItR : It ≠ aR := fun e => by obtain ⟨o, e'⟩ := hRe; rw [← e, hIt] at e'; cases e'
    have hItOO : It ≠ aO := fun e => by obtain ⟨o, e'⟩ := hOe; rw [← e, hIt] at e'; cases e'
    have T2 := T'.set hns hsb
    have G2 := G.sub hsub
    have hN2 : hb'.PlainList aN ((List.range n).map fun k => Value.ref (nd k)).toArray := hN.at fun o e => hsub _ o e
    have hnd2 : (nodeKind prog w nmL).is hb' i (nd i) := is_sub (hnd i hi) hsub
    have cell : ∀ y, y ≠ Str.ofString "number" → ∀ v, cm y = some v → cm' y = some v := fun y hy v e => (hcc y hy).trans e
    have loc : ∀ y, y ≠ Str.ofString "k" → y ≠ Str.ofString "row" → ∀ v, m y = some v → m' y = some v := fun y h1 h2 v e => (hmm y h1 h2).trans e
    have hdR2 := dictAt hdR (fun o e => hsb.extBut _ o (neL RH) e) (fun y hy => is_sub (keys hb' row i hsub hin y hy) T2.keep)
    have hdO2 := dictAt hdO (fun o e => hsb.extBut _ o (neL OH) e) (fun y hy => is_sub (keys hb' ow i hsub hin y hy) T2.keep)
    -- number
    refine wpAny_execs_cons (exec_S6a (s := { s with heap := h₂, toks := tk }) (k := i) (u := t') G2 T2 ((if_neg (by decide)).trans (loc _ (by decide) (by decide) _ hs)) (hl.at fun o e => hsub _ o e) hI hlen (if_pos rfl) (by omega) ((if_neg (by decide)).trans (loc _ (by decide) (by decide) _ hh)) hi₀ fun h₃ tk₃ v t₃ T3 hx3 => ?_)
    have hcN3 : (fun z => if z = Str.ofString "number" then some (Value.int v t₃) else cm' z) (Str.ofString "nodes") = some (.ref aN) := (if_neg (by decide)).trans (cell _ (by decide) _ hcN)
    have hcR3 : (fun z => if z = Str.ofString "number" then some (Value.int v t₃) else cm' z) (Str.ofString "related") = some (.ref aR) := (if_neg (by decide)).trans (cell _ (by decide) _ hcR)
    have hcO3 : (fun z => if z = Str.ofString "number" then some (Value.int v t₃) else cm' z) (Str.ofString "own") = some (.ref aO) := (if_neg (by decide)).trans (cell _ (by decide) _ hcO)
    have hnum3 : (fun z => if z = Str.ofString "number" then some (Value.int v t₃) else cm' z) (Str.ofString "number") = some (.int v t₃) := if_pos rfl
    have hcc3 : ∀ y, y ≠ Str.ofString "number" → (fun z => if z = Str.ofString "number" then some (Value.int v t₃) else cm' z) y = cm y := fun y hy => (if_neg hy).trans (hcc y hy)
    generalize (fun z => if z = Str.ofString "number" then some (Value.int v t₃) else cm' z) = cm3 at T3 hcN3 hcR3 hcO3 hnum3 hcc3
    have up3 : ∀ b o, ¬ Held hb' L b → h₂.get? b = some o → h₃.get? b = some o := fun b o hbH e => hx3 b o (fun e' => hbH (.inr (.inr (.inl ⟨Str.ofString "number", by rw [e']; rfl⟩)))) e
    -- row
    refine wpAny_execs_cons (exec_S6b (s := { s with heap := h₃, toks := tk₃ }) (nd := nd) r G2 T3 ((if_neg (by decide)).trans (loc _ (by decide) (by decide) _ hm)) hn hcN3 hN2 hnum3 fun h₄ tk₄ D rl T4 hD0 hDl hrl hrlen up4 => ?_)
    refine wpAny_execs_cons (exec_S6c (s := { s with heap := h₄, toks := tk₄ }) (nd := nd) (D := D) T4 hnum3 (if_pos rfl) hDl (by omega) fun h₅ tk₅ D' rl' m5 T5 hrow5 hm5 hD' hDl5 hrl5 hlen5 up5 => ?_)
    have hk5 : m5 (Str.ofString "k") = some (.int (i : Int) t') := (hm5 _ (by decide)).trans ((if_neg (by decide)).trans (if_pos rfl))
    have up25 : ∀ b o, ¬ Held hb' L b → h₂.get? b = some o → h₅.get? b = some o := fun b o hbH e => up5 b o (neL hbH) (up4 b o (neL hbH) (up3 b o hbH e))
    have hDnew : ∀ b o, ¬ Held hb' L b → h₂.get? b = some o → b ≠ D' := fun b o hbH e e' => by
      rcases hD' with rfl | hD'
      · have := up3 b o hbH e; rw [e', hD0] at this; cases this
      · have := up4 b o (neL hbH) (up3 b o hbH e); rw [e', hD'] at this; cases this
    have hDH : ¬ Held hb' L D' := by
      rcases hD' with rfl | hD'
      · exact T3.new hD0
      · exact T4.new hD'
    have hdR5 := dictAt hdR2 (fun o e => up25 _ o RH e) (fun y hy => is_sub (keys hb' row i hsub hin y hy) T5.keep)
    have hdO5 := dictAt hdO2 (fun o e => up25 _ o OH e) (fun y hy => is_sub (keys hb' ow i hsub hin y hy) T5.keep)
    obtain ⟨oR, _, _, eR, _⟩ := dict_data hdR2
    obtain ⟨oO, _, _, eO, _⟩ := dict_data hdO2
    obtain ⟨oI, eI⟩ := hItO
    -- related[nodes[k]] = row
    refine wpAny_execs_cons (exec_S6d (s := { s with heap := h₅, toks := tk₅ }) (nd := nd) (D := D') r T5 hrow5 hcR3 hcN3 hN2 hnd2 hk5 hi hn hdR5 (by rw [rowsOf_len]; omega) fun h₆ tk₆ hdR6 hs6 => ?_)
    have T6 := T5.but hs6.extBut RH
    have hdO6 := dictAt hdO5 (fun o e => hs6.extBut _ o (Ne.symm hRO) e) (fun y hy => is_sub (keys hb' ow i hsub hin y hy) T6.keep)
    rw [storedH_new (rowsOf_none nd row i), rowsOf_succ] at hdR6
    -- own[nodes[k]] = [..]
    refine wpAny_execs_cons (exec_S6e (s := { s with heap := h₆, toks := tk₆ }) (nd := nd) r G2 T6 hcO3 OH hcN3 hN2 hnd2 hnum3 hk5 hi hn hdO6 (by rw [rowsOf_len]; omega) (fun y hy => keys hb' ow i hsub hin y hy) fun h₇ tk₇ W ls T7 hdO7 hW0 hW up7 => ?_)
    rw [storedH_new (rowsOf_none nd ow i), rowsOf_succ] at hdO7
    have hdR7 := dictAt hdR6 (fun o e => up7 _ o hRO e) (fun y hy => is_sub (keys hb' _ (i + 1) hsub hi y hy) T7.keep)
    have upI : h₆.get? It = some oI := hs6.extBut _ _ hItR (up25 _ _ ItH eI)
    obtain ⟨oR6, _, _, eR6, _⟩ := dict_data hdR6
    obtain ⟨oO6, _, _, eO6, _⟩ := dict_data hdO6
    have hWne : ∀ b ∈ [It, aR, aO], b ≠ W := by
      intro b hb e
      simp only [List.mem_cons, List.not_mem_nil, or_false] at hb
      rcases hb with rfl | rfl | rfl <;> rw [e] at * <;> simp_all
    have hDne : ∀ b ∈ [It, aR, aO], b ≠ D' := by
      intro b hb
      simp only [List.mem_cons, List.not_mem_nil, or_false] at hb
      rcases hb with rfl | rfl | rfl
      · exact hDnew _ _ ItH eI
      · exact hDnew _ _ RH eR
      · exact hDnew _ _ OH eO
    obtain ⟨hb'', T8, hs8, hn8, hk8⟩ := T7.rebase [It, aR, aO] hnone
    have hDl7 : h₇.PlainList D' (rl'.map fun j => Value.ref (nd j)).toArray := hDl5.at fun o e => up7 _ o (Ne.symm (hDne aO (by simp))) (hs6.extBut _ o (Ne.symm (hDne aR (by simp))) e)
    refine wpAny_execs_nil ⟨h₇, tk₇, m5, rfl, ⟨hb'', cm3, (fun k => if k = i then D' else row k), (fun k => if k = i then rl' else rel k), (fun k => if k = i then W else ow k), (fun k => if k = i then ls else own k), hi, T8, ?_, hcc3, fun b o e => hs8 b o (hsub b o e), hn8, hdR7, hdO7, ?_⟩, ?_⟩
    · intro y h1 h2
      exact (hm5 y h2).trans ((if_neg h2).trans ((if_neg h1).trans (hmm y h1 h2)))
    · have D8 : hb''.PlainList D' (rl'.map fun j => Value.ref (nd j)).toArray := hDl7.at fun o e => hk8 _ o e (fun hm => hDne _ hm rfl) hDH
      have W8 : StrL abcL hb'' W ls := hW.at fun o e => hk8 _ o e (fun hm => hWne _ hm rfl) (T6.new hW0)
      refine ⟨?_, ?_, ?_, ?_⟩
      · intro k hk
        by_cases e : k = i
        · subst e; simpa using D8
        · simp only [if_neg e]
          exact (hrows.list k (by omega)).at fun o e => hs8 _ o e
      · intro k hk
        by_cases e : k = i
        · subst e
          simp only [if_true]
          exact fun j hj => hrl j (hrl5 j hj)
        · simp only [if_neg e]
          exact hrows.lt k (by omega)
      · intro k hk
        by_cases e : k = i
        · subst e
          simp only [if_true]; omega
        · simp only [if_neg e]
          exact hrows.len k (by omega)
      · intro k hk
        by_cases e : k = i
        · subst e; simpa using W8
        · simp only [if_neg e]
          exact (hrows.own k (by omega)).at fun o e => hs8 _ o e
    · intro o e
      rw [eI] at e; cases e
      exact up7 _ _ hItOO upI
  · rintro It h' tk m' ⟨hb', cm', row, rel, ow, own, hin, T', hmm, hcc, hsub, hnone, hdR, hdO, hrows⟩
    obtain ⟨hb'', T8, hs8, hn8, hk8⟩ := T'.rebase [] (fun b hb => nomatch hb)
    have RH : ¬ Held hb' L aR := Held.of_base hRH (hnone _ (by simp))
    have OH : ¬ Held hb' L aO := Held.of_base hOH (hnone _ (by simp))
    exact h h' tk hb'' m' cm' row rel ow own T8 hmm hcc (fun b o e => hs8 b o (hsub b o e)) (dictAt hdR (fun o e => hk8 _ o e (fun hm => nomatch hm) RH) (fun y hy => keys hb'' row n (fun b o e => hs8 b o (hsub b o e)) (Nat.le_refl _) y hy))
      (dictAt hdO (fun o e => hk8 _ o e (fun hm => nomatch hm) OH) (fun y hy => keys hb'' ow n (fun b o e => hs8 b o (hsub b o e)) (Nat.le_refl _) y hy))
      ⟨fun k hk => (hrows.list k hk).at fun o e => hs8 _ o e, hrows.lt, hrows.len, fun k hk => (hrows.own k hk).at fun o e => hs8 _ o e⟩
end
end Mine

end
section
/- MLaw8 -/
open PySem PySem.W PyProof.Rows
open PySem.Builtin.Int (intBits)
set_option maxRecDepth 100000
set_option linter.unusedVariables false
namespace Mine

def nodeD (k : Nat) : PyData := .tuple [.int k, .str (nmL k)]
def rowD (rel : Nat → List Nat) (k : Nat) : PyData := .list ((rel k).map nodeD)
def entryD (rel : Nat → List Nat) (k : Nat) : PyData := .tuple [nodeD k, rowD rel k]

theorem readsAll_snoc {h : Heap} {v : Value} {d : PyData} {bs : List Addr} (r : Reads h v d bs) : ∀ {vs : List Value} {ds : List PyData} {as : List Addr}, ReadsAll h vs ds as → ∃ cs, ReadsAll h (vs ++ [v]) (ds ++ [d]) cs
  | _, _, _, .nil => ⟨_, .cons r .nil⟩
  | _, _, _, .cons h1 h2 => let ⟨_, q⟩ := readsAll_snoc r h2; ⟨_, .cons h1 q⟩

section
variable {la : Addr} {prog : Program} {w : World} {A : Around} {E : Value → Shared → Prop} {s : Shared} {env : Env} {hb h h' : Heap} {L lx aN aR aO : Addr} {ps : Array Value} {m cm mg mb : Str → Option Value}

theorem nodeD_reads {h : Heap} {k : Nat} {a : Addr} (hk : (nodeKind prog w nmL).is h k a) : Reads h (.ref a) (nodeD k) [] :=
  node_reads (c := { m := 0, nm := nmL, rel := fun _ => [], own := fun _ => [], abc := [], hs := h, nd := fun _ => 0, row := fun _ => 0, dN := 0, dF := 0, sk := 0, oX := .none, lR := 0, lFP := 0 }) hk
theorem nodes_reads {h : Heap} {nd : Nat → Addr} {n : Nat} (hnd : ∀ k, k < n → (nodeKind prog w nmL).is h k (nd k)) : ∀ l : List Nat, (∀ j ∈ l, j < n) → ReadsAll h (l.map fun j => Value.ref (nd j)) (l.map nodeD) []
  | [], _ => .nil
  | k :: r, hl => .cons (as := []) (nodeD_reads (hnd k (hl k (by simp)))) (nodes_reads hnd r fun j hj => hl j (by simp [hj]))

/-- first = head // 8 % many -/
theorem exec_S7 {n : Nat} {i : Int} {t u : Tok} {Q : Flow → Shared → Prop} (T : LF hb L ps s.heap m cm) (hm : m (Str.ofString "many") = some (.int (n : Int) t)) (hh : m (Str.ofString "head") = some (.int i u)) (hn : 1 ≤ n)
    (h : ∀ h' tk (f : Nat) t', f < n → LF hb L ps h' (fun z => if z = Str.ofString "first" then some (.int (f : Int) t') else m z) cm → Q .next { s with heap := h', toks := tk }) :
    wpAny (model prog w) A (exec lawS7 (lawEnv la L)) Q E s := by
  unfold lawS7 lawBody lawStmt PySem.Challenge.pw_kk0044_01
  dsimp only
  refine wpAny_Assign_Name (wpAny_BinOp (wpAny_BinOp (rdL T hh (wpAny_Constant_int ?_)))) (by rfl)
  refine floordiv_int (by decide) (rdL (s := { s with toks := _ }) T hm (mod_int' (by omega) ?_)) (.inl (PyProof.noPylong_small (by decide)))
  have h1 := Int.fmod_nonneg_of_pos (i.fdiv 8) (b := (n : Int)) (by omega)
  have h2 := Int.fmod_lt_of_pos (i.fdiv 8) (b := (n : Int)) (by omega)
  obtain ⟨f, hf⟩ : ∃ f : Nat, (i.fdiv 8).fmod (n : Int) = f := ⟨((i.fdiv 8).fmod (n : Int)).toNat, by omega⟩
  rw [hf] at h2 ⊢
  exact stL (s := { s with toks := _ }) T fun h' T' _ => h h' _ f _ (by omega) T'

theorem add_lists' {l b : Addr} {vs ws : List Value} {Q : Value → Shared → Prop} (hl : s.heap.IsList l vs.toArray) (hb : s.heap.IsList b ws.toArray)
    (h : ∀ h' D, Sub s.heap h' → s.heap.get? D = none → h'.PlainList D (vs ++ ws).toArray → Q (.ref D) { s with heap := h' }) (hsz : vs.length + ws.length ≤ 100) :
    wpAny (model prog w) A (binaryOp .Add (.ref l) (.ref b)) Q E s := by
  obtain ⟨⟨cls, dd, data, sl⟩, ho, hc, n, hd⟩ := id hl
  obtain ⟨⟨cls2, dd2, data2, sl2⟩, ho2, hc2, n2, hd2⟩ := id hb
  simp only at hc hd hc2 hd2
  subst hc hd hc2 hd2
  have e : vs.toArray ++ ws.toArray = (vs ++ ws).toArray := by simp
  refine concat_meets ⟨_, ho, rfl⟩ ⟨_, ho2, rfl⟩ noFill_list_add seq_list_add PySem.F.slot_list_add PySem.F.entry_list_add (PySem.F.args_list_add_2 _ _) (list_addW l b vs.toArray ws.toArray n n2 dd dd2 sl sl2 (by rw [sizeLine_num]; simp; omega)) ⟨ho, ho2, ?_⟩
  rw [e]
  exact h _ _ (fun b o e => Heap.get?_push_of_some _ e) (none_of_ge (Nat.le_refl _)) ⟨0, Heap.get?_push_size _ rfl⟩

/-- order = nodes[first:] + nodes[:first] -/
theorem exec_S8 {n f : Nat} {t : Tok} {nd : Nat → Addr} {Q : Flow → Shared → Prop} (T : LF hb L ps s.heap m cm) (hf : m (Str.ofString "first") = some (.int (f : Int) t)) (hfn : f < n) (hn : n ≤ 8)
    (hcN : cm (Str.ofString "nodes") = some (.ref aN)) (hN : hb.PlainList aN ((List.range n).map fun k => Value.ref (nd k)).toArray)
    (h : ∀ h' tk D hb' (order : List Nat), LF hb' L ps h' (fun z => if z = Str.ofString "order" then some (.ref D) else m z) cm → Sub hb hb' → hb'.PlainList D (order.map fun k => Value.ref (nd k)).toArray → (∀ k ∈ order, k < n) → (∀ k, k < n → k ∈ order) →
      Q .next { s with heap := h', toks := tk }) :
    wpAny (model prog w) A (exec lawS8 (lawEnv la L)) Q E s := by
  unfold lawS8 lawBody lawStmt PySem.Challenge.pw_kk0044_01
  dsimp only
  have hN0 : s.heap.IsList aN ((List.range n).map fun k => Value.ref (nd k)).toArray := (hN.at fun o e => T.keep _ _ e).isList
  have hsz : ((List.range n).map fun k => Value.ref (nd k)).toArray.size = n := by simp
  refine wpAny_Assign_Name (wpAny_BinOp (wpAny_Subscript_list_slice (rdC (c := L + 1) T hcN ?_))) (by rfl)
  rw [evalPart_some]
  refine rdL T hf ?_
  rw [evalPart_none]
  refine wpAny_pure ⟨aN, _, some (f : Int), none, rfl, hN0, by rw [hsz, sizeLine_num]; omega, .int _ _, .none, ?_⟩
  rw [slicePick_from _ f (by rw [hsz]; omega)]
  dsimp only
  have hsub1 : ∀ o o', Sub s.heap ((s.heap.push o).push o') := fun o o' b ob e => Heap.get?_push_of_some _ (Heap.get?_push_of_some _ e)
  have hl1 : ∀ o (l : List Value), ((s.heap.push o).push { cls := .type "list", data := .seq l.toArray }).PlainList (s.heap.objs.size + 1) l.toArray := fun o l => ⟨0, by
    have := Heap.get?_push_size (s.heap.push o) (o := { cls := .type "list", data := .seq l.toArray }) rfl
    rw [Heap.size_push] at this; exact this⟩
  have hsub2 := hsub1 { cls := .type "slice", data := .fields #[.int (f : Int) t, .none, .none] } { cls := .type "list", data := .seq (List.drop f ((List.range n).map fun k => Value.ref (nd k)).toArray.toList).toArray }
  have hl2 := hl1 { cls := .type "slice", data := .fields #[.int (f : Int) t, .none, .none] } (List.drop f ((List.range n).map fun k => Value.ref (nd k)).toArray.toList)
  generalize (s.heap.push { cls := Value.type "slice", data := .fields #[.int (f : Int) t, .none, .none] }).push { cls := Value.type "list", data := .seq (List.drop f ((List.range n).map fun k => Value.ref (nd k)).toArray.toList).toArray } = h₂ at hsub2 hl2 ⊢
  generalize s.heap.objs.size + 1 = D1 at hl2 ⊢
  have T2 := T.sub hsub2
  refine wpAny_Subscript_list_slice (s := { s with heap := h₂ }) (rdC (s := { s with heap := h₂ }) (c := L + 1) T2 hcN ?_)
  rw [evalPart_none]
  refine wpAny_pure ?_
  rw [evalPart_some]
  refine rdL (s := { s with heap := h₂ }) T2 hf ?_
  refine ⟨aN, _, none, some (f : Int), rfl, hN0.at fun o e => hsub2 _ _ e, by rw [hsz, sizeLine_num]; omega, .none, .int _ _, ?_⟩
  rw [slicePick_upto _ f (by rw [hsz]; omega)]
  dsimp only
  have hsub3' : ∀ o o', Sub h₂ ((h₂.push o).push o') := fun o o' b ob e => Heap.get?_push_of_some _ (Heap.get?_push_of_some _ e)
  have hl3' : ∀ o (l : List Value), ((h₂.push o).push { cls := .type "list", data := .seq l.toArray }).PlainList (h₂.objs.size + 1) l.toArray := fun o l => ⟨0, by
    have := Heap.get?_push_size (h₂.push o) (o := { cls := .type "list", data := .seq l.toArray }) rfl
    rw [Heap.size_push] at this; exact this⟩
  have hsub3 := hsub3' { cls := .type "slice", data := .fields #[.none, .int (f : Int) t, .none] } { cls := .type "list", data := .seq (List.take f ((List.range n).map fun k => Value.ref (nd k)).toArray.toList).toArray }
  have hl3 := hl3' { cls := .type "slice", data := .fields #[.none, .int (f : Int) t, .none] } (List.take f ((List.range n).map fun k => Value.ref (nd k)).toArray.toList)
  generalize (h₂.push { cls := Value.type "slice", data := .fields #[.none, .int (f : Int) t, .none] }).push { cls := Value.type "list", data := .seq (List.take f ((List.range n).map fun k => Value.ref (nd k)).toArray.toList).toArray } = h₃ at hsub3 hl3 ⊢
  generalize h₂.objs.size + 1 = D2 at hl3 ⊢
  refine add_lists' (s := { s with heap := h₃ }) (hl2.at fun o e => hsub3 _ _ e).isList hl3.isList (fun h₄ D hsub4 hD hDl => ?_) (by simp; omega)
  have T4 := (T2.sub hsub3).sub hsub4
  refine stL (s := { s with heap := h₄ }) T4 fun h₅ T5 hs5 => ?_
  have hDH := (T2.sub hsub3).new hD
  obtain ⟨hb', T6, hs6, _, hk6⟩ := T5.rebase [] (fun b hb => nomatch hb)
  refine h h₅ _ D hb' (List.drop f (List.range n) ++ List.take f (List.range n)) T6 hs6 ?_ ?_ ?_
  · have := hDl.at fun o e => hk6 _ o (hs5.extBut _ o (neL hDH) e) (fun hm => nomatch hm) hDH
    rw [List.map_append, List.map_drop, List.map_take]
    simpa only [List.toList_toArray] using this
  · intro k hk
    rcases List.mem_append.mp hk with hk | hk
    · exact List.mem_range.mp (List.mem_of_mem_drop hk)
    · exact List.mem_range.mp (List.mem_of_mem_take hk)
  · intro k hk
    have hm := List.mem_range.mpr hk
    rw [← List.take_append_drop f (List.range n)] at hm
    rcases List.mem_append.mp hm with hm | hm
    · exact List.mem_append_right _ hm
    · exact List.mem_append_left _ hm

/-- a copy of a list by a comprehension -/
theorem comp_copy {x : Str} {p px pos : Pos} {iter : Expr} {scope : Scope} {cl : List (Str × Addr)} {Q : Value → Shared → Prop} (hh : A.handled = none)
    (hclos : closureFor scope env = pure cl) (hkind : scope.kind = .function) (hnames : ∀ x ∈ scope.names, x.2 = .local → scope.names.lookup x.1 = some .local) (hx : scope.names.lookup x = some .local) (hd : (x == ("__debug__" : Str)) = false)
    (h : wpAny (model prog w) A (eval iter env) (fun v s₁ => ∃ l items, v = .ref l ∧ s₁.heap.IsList l items ∧ items.size ≤ 1000 ∧
      ∀ h' D tk, Sub s₁.heap h' → s₁.heap.get? D = none → h'.PlainList D items → Q (.ref D) { s₁ with heap := h', toks := tk }) E s)
    (hs : ∀ x, foldedSetIterable iter env x = pure x := by intro _; rfl) :
    wpAny (model prog w) A (eval (.ListComp (.Name x p) [⟨.Name x px, iter, [], 0⟩] scope pos) env) Q E s := by
  refine comp_value hclos hkind hnames (wpAny_mono h (fun v s₁ h₁ => ?_) fun _ _ e => e) hs
  obtain ⟨l, items, rfl, hl, hsz, hQ⟩ := h₁
  refine wpAny_pyIter_list hl ?_
  have hIt0 : s₁.heap.get? s₁.heap.objs.size = none := none_of_ge (Nat.le_refl _)
  have hsub1 : Sub s₁.heap (s₁.heap.push { cls := .type "list_iterator", data := .fields #[.ref l, .int 0 0] }) := fun b o e => Heap.get?_push_of_some _ e
  have hit0 : (s₁.heap.push { cls := .type "list_iterator", data := .fields #[.ref l, .int 0 0] }).IsListIter s₁.heap.objs.size l 0 := ⟨_, Heap.get?_push_size _ rfl, rfl, rfl⟩
  generalize s₁.heap.objs.size = It at hIt0 hit0 ⊢
  generalize s₁.heap.push { cls := Value.type "list_iterator", data := .fields #[.ref l, .int 0 0] } = h₂ at hsub1 hit0 ⊢
  have hlI : l ≠ It := fun e => by
    obtain ⟨o, ho, _⟩ := hl
    rw [e, hIt0] at ho; cases ho
  refine ⟨fun h' Q' E' hs hQ => wpAny_pyIter_listiter (s := { s₁ with heap := h' }) (hit0.at fun o e => hs _ _ e) hQ, ?_⟩
  rintro D C h₃ _ _ hD0 hC0 hDC hsub₄ hDl hCn _
  dsimp only at hD0 hC0 hsub₄
  have hl2 := hl.at fun o e => hsub1 _ _ e
  obtain ⟨oI, eI, _⟩ := id hit0
  obtain ⟨ol, el, _⟩ := id hl2
  have hDI : D ≠ It := fun e => by rw [e, eI] at hD0; cases hD0
  have hCI : C ≠ It := fun e => by rw [e, eI] at hC0; cases hC0
  have hDl' : D ≠ l := fun e => by rw [e, el] at hD0; cases hD0
  have hCl' : C ≠ l := fun e => by rw [e, el] at hC0; cases hC0
  refine comp_walk (s := { s₁ with heap := h₃ }) (Walks.list (prog := prog) (w := w) hh It l hlI items) (by rw [sizeLine_num]; omega) (lookup_relabel_local hx) (by simp [compEnvC, relabel, hkind]) hDC (by simp [hDI, hDl']) (by show C ∉ _; simp [hCI, hCl'])
    ⟨hit0.at fun o e => hsub₄ _ _ e, hl2.at fun o e => hsub₄ _ _ e⟩ hDl hCn (fun i ys h => ys = items.toList.take i) (by simp) (fun i ys h h' e _ => e) ?_ ?_
  · rintro i v ys h₄ tk₄ m' hi hv rfl hn4 hj _
    refine wpAny_tests_nil ⟨h₄, _, rfl, fun b o e => e, ?_⟩
    rw [if_pos rfl]
    refine wpAny_Name (wpAny_loadName_local (s := { s₁ with heap := h₄, toks := _ }) (by show scope.kind = _; exact hkind) (lookup_relabel_local hx) hn4 hj ?_) hd
    refine ⟨h₄, _, rfl, fun b o e => e, ?_⟩
    have : items.toList[i]? = some v := by simpa using hv
    rw [List.take_add_one, this]; rfl
  · rintro h₅ tk₅ m' ys rfl hlen hn5 hD5 hk5
    have e : items.toList.take items.size = items.toList := by rw [List.take_of_length_le (by simp)]
    rw [e] at hD5
    refine ⟨rfl, h₅, tk₅, m', rfl, hn5, fun h₆ hs6 => ?_⟩
    refine hQ h₆ D tk₅ (fun b o e => ?_) ?_ ?_
    · have e2 := hsub1 _ _ e
      have hbC : b ≠ C := fun e' => by rw [e', hC0] at e2; cases e2
      have hbD : b ≠ D := fun e' => by rw [e', hD0] at e2; cases e2
      have hbI : b ≠ It := fun e' => by rw [e', hIt0] at e; cases e
      exact hs6.extBut b o hbC (hk5 b o hbC (by simp [hbI]) hbD (hsub₄ _ _ e2))
    · cases e : s₁.heap.get? D with
      | none => rfl
      | some o => rw [hsub1 _ _ e] at hD0; cases hD0
    · have := hD5.at fun o e => hs6.extBut _ o hDC e
      simpa using this
end
end Mine

end
section
/- MLaw9 -/
open PySem PySem.W PyProof.Rows
open PySem.Builtin.Int (intBits)
set_option maxRecDepth 100000
set_option linter.unusedVariables false
namespace Mine

section
variable {la : Addr} {prog : Program} {w : World} {A : Around} {E : Value → Shared → Prop} {s : Shared} {env : Env} {hb h h' : Heap} {L lx aN aR aO : Addr} {ps : Array Value} {m cm mg mb : Str → Option Value}

/-- [elt for x in nodes] -/
theorem nodes_comp {n : Nat} {nd : Nat → Addr} {elt : Expr} {x : Str} {px p1 pos : Pos} {scope : Scope} {cl : List (Str × Addr)} {ent : Nat → PyData} {RR : Shared → Addr → Addr → Result → Shared → Prop} (r : RoomL A) (T : LF hb L ps s.heap m cm)
    (hcN : cm (Str.ofString "nodes") = some (.ref aN)) (hN : hb.PlainList aN ((List.range n).map fun k => Value.ref (nd k)).toArray) (hn : n ≤ 8) (hx : scope.names.lookup x = some .local) (hkind : scope.kind = .function)
    (elts : ∀ C k hb' h tk m', k < n → Sub hb hb' → LF hb' L ps h m cm → h.Ns C m' → m' x = some (.ref (nd k)) →
      wpAny (model prog w) A (eval elt (compEnvC scope (cellsFrom (C + 1) scope.names cl) C (lawEnv la L))) (fun y s₄ => ∃ h₄ tk₄, s₄ = { s with heap := h₄, toks := tk₄ } ∧ Sub h h₄ ∧
        ∀ hx : Heap, Sub hb' hx → (∀ b o, h.get? b = none → h₄.get? b = some o → hx.get? b = some o) → ∃ as, Reads hx y (ent k) as) (fun _ _ => False) { s with heap := h, toks := tk })
    (hRR : ∀ h₂ D C h' tk mC hb' as, LF hb' L ps h' m cm → Sub hb hb' → h'.Ns C mC → ¬ Held hb' L C → D ≠ C → Reads hb' (.ref D) (.list ((List.range n).map ent)) as → RR { s with heap := h₂ } D C (.ok .next) { s with heap := h', toks := tk }) :
    wpAny (model prog w) A (eval (.Name (Str.ofString "nodes") p1) (lawEnv la L)) (fun xv s₁ => wpAny (model prog w) A (pyIter xv) (fun it s₂ =>
      (∀ h' (Q' : Value → Shared → Prop) (E' : Value → Shared → Prop), Sub s₂.heap h' → Q' it { s₂ with heap := h' } → wpAny (model prog w) A (pyIter it) Q' E' { s₂ with heap := h' }) ∧
      ∀ D C h₁, D = s₂.heap.objs.size → C = D + 1 → s₂.heap.get? D = none → s₂.heap.get? C = none → D ≠ C → Sub s₂.heap h₁ → h₁.PlainList D #[] → h₁.Ns C (fun _ => none) →
        (∃ h₀, h₀.objs.size = C + 1 ∧ h₁ = pushCells h₀ scope.names) →
        codeAny (model prog w) A (.compLoop (.ListComp elt [⟨.Name x px, .Name (Str.ofString "nodes") p1, [], 0⟩] scope pos) 0 it (.ref D) (compEnvC scope (cellsFrom (C + 1) scope.names cl) C (lawEnv la L))) (RR s₂ D C) { s₂ with heap := h₁ }) E s₁) E s := by
  have hN0 : s.heap.IsList aN ((List.range n).map fun k => Value.ref (nd k)).toArray := (hN.at fun o e => T.keep _ _ e).isList
  have hsz : ((List.range n).map fun k => Value.ref (nd k)).toArray.size = n := by simp
  refine rdC (c := L + 1) T hcN ?_
  refine wpAny_pyIter_list hN0 ?_
  have hIt0 : s.heap.get? s.heap.objs.size = none := none_of_ge (Nat.le_refl _)
  have hsub1 : Sub s.heap (s.heap.push { cls := .type "list_iterator", data := .fields #[.ref aN, .int 0 0] }) := fun b o e => Heap.get?_push_of_some _ e
  have hit0 : (s.heap.push { cls := .type "list_iterator", data := .fields #[.ref aN, .int 0 0] }).IsListIter s.heap.objs.size aN 0 := ⟨_, Heap.get?_push_size _ rfl, rfl, rfl⟩
  generalize s.heap.objs.size = It at hIt0 hit0 ⊢
  generalize s.heap.push { cls := Value.type "list_iterator", data := .fields #[.ref aN, .int 0 0] } = h₂ at hsub1 hit0 ⊢
  have hlI : aN ≠ It := fun e => by
    obtain ⟨o, ho, _⟩ := hN0
    rw [e, hIt0] at ho; cases ho
  refine ⟨fun h' Q' E' hs hQ => wpAny_pyIter_listiter (s := { s with heap := h' }) (hit0.at fun o e => hs _ _ e) hQ, ?_⟩
  rintro D C h₃ _ _ hD0 hC0 hDC hsub₄ hDl hCn _
  dsimp only at hD0 hC0 hsub₄
  have T2 := T.sub hsub1
  have hItH := T.new hIt0
  have hDH := T2.new hD0
  have hCH := T2.new hC0
  have hl2 := hN0.at fun o e => hsub1 _ _ e
  obtain ⟨oI, eI, _⟩ := id hit0
  obtain ⟨ol, el, _⟩ := id hl2
  have hDI : D ≠ It := fun e => by rw [e, eI] at hD0; cases hD0
  have hCI : C ≠ It := fun e => by rw [e, eI] at hC0; cases hC0
  have hDl' : D ≠ aN := fun e => by rw [e, el] at hD0; cases hD0
  have hCl' : C ≠ aN := fun e => by rw [e, el] at hC0; cases hC0
  refine comp_walk (s := { s with heap := h₃ }) (Walks.list (prog := prog) (w := w) r.1 It aN hlI _) (by rw [sizeLine_num, hsz]; omega) (lookup_relabel_local hx) (by simp [compEnvC, relabel, hkind]) hDC (by simp [hDI, hDl']) (by show C ∉ _; simp [hCI, hCl'])
    ⟨hit0.at fun o e => hsub₄ _ _ e, hl2.at fun o e => hsub₄ _ _ e⟩ hDl hCn
    (fun i ys h => ∃ hb', LF hb' L ps h m cm ∧ Sub hb hb' ∧ (∀ b ∈ [C, It, D], hb'.get? b = none) ∧ ∃ as, ReadsAll hb' ys ((List.range i).map ent) as) ?_ ?_ ?_ ?_
  · refine ⟨hb, T2.sub hsub₄, fun _ _ e => e, ?_, [], .nil⟩
    intro b hb'
    simp only [List.mem_cons, List.not_mem_nil, or_false] at hb'
    rcases hb' with rfl | rfl | rfl
    · exact not_held_none hCH
    · exact not_held_none hItH
    · exact not_held_none hDH
  · rintro i ys h h' ⟨hb', T', hsub, hnone, hr⟩ hk
    have c1 := Held.of_base hCH (hnone C (by simp))
    have c2 := Held.of_base hItH (hnone It (by simp))
    have c3 := Held.of_base hDH (hnone D (by simp))
    exact ⟨hb', T'.at fun b o hH e => hk b o (fun (e' : b = C) => c1 (e' ▸ hH)) (fun hm => c2 ((List.mem_singleton.mp hm) ▸ hH)) (fun e' => c3 (e' ▸ hH)) e, hsub, hnone, hr⟩
  · rintro i v ys h₄ tk₄ m' hi hv ⟨hb', T', hsub, hnone, as, hr⟩ hn4 hj ⟨_, ⟨hst, _⟩, hD4⟩
    rw [hsz] at hi
    have hvi : v = .ref (nd i) := by
      have : ((List.range n).map fun k => Value.ref (nd k)).toArray[i]? = some (.ref (nd i)) := by simp [hi]
      rw [this] at hv; exact (Option.some.inj hv).symm
    subst hvi
    refine wpAny_tests_nil ⟨h₄, _, rfl, fun b o e => e, ?_⟩
    rw [if_pos rfl]
    refine wpAny_mono (elts C i hb' h₄ _ m' hi hsub T' hn4 hj) ?_ fun _ _ e => e
    rintro y s₄ ⟨h₅, tk₅, rfl, hs5, hread⟩
    have T5 := T'.sub hs5
    obtain ⟨hb'', T6, hs6, hn6, hk6⟩ := T5.rebase [C, It, D] hnone
    refine ⟨h₅, tk₅, rfl, hs5, hb'', T6, fun b o e => hs6 b o (hsub b o e), hn6, ?_⟩
    obtain ⟨bs, hy⟩ := hread hb'' hs6 fun b o e1 e2 => by
      refine hk6 b o e2 (fun hm => ?_) (T'.new e1)
      simp only [List.mem_cons, List.not_mem_nil, or_false] at hm
      rcases hm with rfl | rfl | rfl
      · obtain ⟨o', _, _, e', _⟩ := hn4; rw [show h₄.get? b = _ from e'] at e1; cases e1
      · obtain ⟨o', e', _⟩ := hst; rw [e'] at e1; cases e1
      · obtain ⟨n', e'⟩ := hD4; rw [e'] at e1; cases e1
    rw [List.range_succ, List.map_append]
    exact readsAll_snoc hy (ReadsAll.keeps hs6 hr)
  · rintro h₅ tk₅ m' ys ⟨hb', T', hsub, hnone, as, hr⟩ hlen hn5 hD5 hk5
    obtain ⟨hb'', T6, hs6, hn6, hk6⟩ := T'.rebase [C] fun b hb => hnone b (by simp at hb; simp [hb])
    rw [hsz] at hr
    have c1 := Held.of_base hCH (hnone C (by simp))
    have c3 := Held.of_base hDH (hnone D (by simp))
    obtain ⟨nD, eD⟩ := hD5
    have eD' := hk6 _ _ eD (fun hm => hDC (List.mem_singleton.mp hm)) c3
    refine hRR h₂ D C h₅ tk₅ m' hb'' (D :: as) T6 (fun b o e => hs6 b o (hsub b o e)) hn5 (Held.of_base c1 (hn6 C (by simp))) hDC ?_
    exact .list eD' rfl rfl (by simpa using ReadsAll.keeps hs6 hr)

theorem RoomL.in1 (r : RoomL A) : A.units + 1 < cLine := by have := r.2.2; omega

/-- what stands built -/
structure Built (prog : Program) (w : World) (hb : Heap) (aN aR aO : Addr) (nd : Nat → Addr) (n : Nat) (row : Nat → Addr) (rel : Nat → List Nat) (ow : Nat → Addr) (own : Nat → List Str) : Prop where
  n1 : 1 ≤ n
  n8 : n ≤ 8
  nodes : hb.PlainList aN ((List.range n).map fun k => Value.ref (nd k)).toArray
  node : ∀ k, k < n → (nodeKind prog w nmL).is hb k (nd k)
  related : hb.DictOfH (nodeKind prog w nmL) aR (rowsOf nd row n)
  owns : hb.DictOfH (nodeKind prog w nmL) aO (rowsOf nd ow n)
  rows : Rows hb nd n n row rel ow own

variable {la : Addr} {nd row ow : Nat → Addr} {n : Nat} {rel : Nat → List Nat} {own : Nat → List Str}
theorem Built.sub (B : Built prog w hb aN aR aO nd n row rel ow own) (hs : Sub hb h) : Built prog w h aN aR aO nd n row rel ow own where
  n1 := B.n1
  n8 := B.n8
  nodes := B.nodes.at fun o e => hs _ _ e
  node := fun k hk => is_sub (B.node k hk) hs
  related := dictAt B.related (hs _) fun y hy => by
    obtain ⟨h1, h2⟩ := rowsOf_key hy
    rw [h2]; exact is_sub (B.node _ h1) hs
  owns := dictAt B.owns (hs _) fun y hy => by
    obtain ⟨h1, h2⟩ := rowsOf_key hy
    rw [h2]; exact is_sub (B.node _ h1) hs
  rows := ⟨fun k hk => (B.rows.list k hk).at fun o e => hs _ o e, B.rows.lt, B.rows.len, fun k hk => (B.rows.own k hk).at fun o e => hs _ o e⟩

theorem Built.row_reads (B : Built prog w hb aN aR aO nd n row rel ow own) {k : Nat} (hk : k < n) : ∃ as, Reads hb (.ref (row k)) (rowD rel k) as := by
  obtain ⟨q, e⟩ := B.rows.list k hk
  exact ⟨_, .list e rfl rfl (by simpa using nodes_reads B.node (rel k) (B.rows.lt k hk))⟩

/-- related[node], own[node]: the dict's answer -/
theorem Built.get_row (B : Built prog w hb aN aR aO nd n row rel ow own) {k : Nat} (r : A.units + 1 < cLine) (hk : k < n) (hs : Sub hb s.heap) {Q : Value → Shared → Prop} (h : ∀ tk, Q (.ref (row k)) { s with toks := tk }) :
    wpAny (model prog w) A (getItem (.ref aR) (.ref (nd k))) Q E s :=
  wpAny_getItem_heap (knd := nodeKind prog w nmL) r (is_sub (B.node k hk) hs) ((B.sub hs).related) (rowsOf_at nd row hk) (h _)
theorem Built.get_own (B : Built prog w hb aN aR aO nd n row rel ow own) {k : Nat} (r : A.units + 1 < cLine) (hk : k < n) (hs : Sub hb s.heap) {Q : Value → Shared → Prop} (h : ∀ tk, Q (.ref (ow k)) { s with toks := tk }) :
    wpAny (model prog w) A (getItem (.ref aO) (.ref (nd k))) Q E s :=
  wpAny_getItem_heap (knd := nodeKind prog w nmL) r (is_sub (B.node k hk) hs) ((B.sub hs).owns) (rowsOf_at nd ow hk) (h _)
theorem dtail {d a : Addr} {value slice : Expr} {xs : List (Nat × Addr × Value)} {Q : Value → Shared → Prop} (I : s.heap.DictOfH (nodeKind prog w nmL) d xs) (h : wpAny (model prog w) A (getItem (.ref d) (.ref a)) Q E s)
    (hs : subscripted slice false (.ref d) (.ref a) = operate [.ref d, .ref a] (getItem (.ref d) (.ref a))) : wpAny (model prog w) A (subscriptTail value slice (.ref d) (.ref a)) Q E s :=
  tail_any I.typeIs slot_dict_getitem.lookup h hs

/-- before = [(x, [y for y in related[x]]) for x in nodes] -/
theorem exec_S9 {Q : Flow → Shared → Prop} (r : RoomL A) (B : Built prog w hb aN aR aO nd n row rel ow own) (T : LF hb L ps s.heap m cm) (hcN : cm (Str.ofString "nodes") = some (.ref aN)) (hcR : cm (Str.ofString "related") = some (.ref aR))
    (h : ∀ h' tk D hb' as, LF hb' L ps h' (fun z => if z = Str.ofString "before" then some (.ref D) else m z) cm → Sub hb hb' → Reads hb' (.ref D) (.list ((List.range n).map (entryD rel))) as → Q .next { s with heap := h', toks := tk }) :
    wpAny (model prog w) A (exec lawS9 (lawEnv la L)) Q E s := by
  unfold lawS9 lawBody lawStmt PySem.Challenge.pw_kk0044_01
  dsimp only
  refine comp_assign_law (cl := [(Str.ofString "related", L + 1 + 1 + 1 + 1 + 1)]) (by rfl) (by rfl) (by rfl) (by decide) (by rfl) ?_
  refine nodes_comp (ent := entryD rel) r T hcN B.nodes B.n8 ?_ ?_ ?_ ?_
  · rfl
  · rfl
  · intro C k hb' h₁ tk₁ m' hk hsub T1 hC hx
    have B1 := B.sub hsub
    have B2 := B1.sub T1.keep
    refine wpAny_Tuple (Calls.spliced_cons (rdXL (s := { s with heap := h₁, toks := tk₁ }) (C := C) hC hx (Calls.spliced_cons ?_)))
    refine comp_copy (x := Str.ofString "y") (cl := []) r.1 (by rfl) (by rfl) (by decide) (by rfl) (by decide) ?_
    refine Subscript_ (rdXC (s := { s with heap := h₁, toks := tk₁ }) T1 (c := L + 1 + 1 + 1 + 1 + 1) hcR (rdXL (s := { s with heap := h₁, toks := tk₁ }) (C := C) hC hx ?_))
    refine dtail (s := { s with heap := h₁, toks := tk₁ }) B2.related (B1.get_row (s := { s with heap := h₁, toks := tk₁ }) r.in1 hk T1.keep fun tk₂ => ?_) rfl
    refine ⟨row k, _, rfl, (B2.rows.list k hk).isList, by have := B.rows.len k hk; simp; omega, fun h₃ D tk₃ hs3 hD0 hDl => Calls.spliced_nil ⟨(by show 2 ≤ sizeLine; rw [sizeLine_num]; decide), ?_⟩⟩
    refine ⟨_, _, rfl, fun b o e => Heap.get?_push_of_some _ (hs3 b o e), fun hx hsx hnew => ?_⟩
    obtain ⟨nD, eD⟩ := hDl
    have eD' := hnew D _ hD0 (Heap.get?_push_of_some _ eD)
    have hT0 : h₁.get? h₃.objs.size = none := by
      cases e : h₁.get? h₃.objs.size with
      | none => rfl
      | some o => exact absurd (Heap.lt_size (hs3 _ _ e)) (Nat.lt_irrefl _)
    have eT := hnew h₃.objs.size _ hT0 (Heap.get?_push_size _ rfl)
    have Bx := B1.sub hsx
    exact ⟨_, .tuple eT rfl rfl (.cons (nodeD_reads (Bx.node k hk)) (.cons (.list eD' rfl rfl (by simpa using nodes_reads Bx.node (rel k) (B.rows.lt k hk))) .nil))⟩
  · intro h₀ D C h₁ tk₁ mC hb' as T1 hsub hC hCH hDC hR
    refine ⟨rfl, h₁, tk₁, hb', ps, m, cm, mC, rfl, T1, hC, hCH, fun h₂ tk₂ T2 _ => ?_⟩
    exact h h₂ tk₂ D hb' as T2 hsub hR
end
end Mine

end
section
/- MLaw10 -/
open PySem PySem.W PyProof.Rows
open PySem.Builtin.Int (intBits)
set_option maxRecDepth 100000
set_option linter.unusedVariables false
namespace Mine

def lamP : Expr → Arguments | .Lambda p _ _ _ => p | _ => { posonlyargs := [], args := [], vararg := none, kwonlyargs := [], kw_defaults := [], kwarg := none, defaults := [] }
def lamB : Expr → Expr | .Lambda _ b _ _ => b | e => e
def lamS : Expr → Scope | .Lambda _ _ s _ => s | _ => default
def lamPos : Expr → Pos | .Lambda _ _ _ p => p | _ => default
def lawR : Expr := match lawS10 with | .Assign _ (.Call _ [_, e, _] _ _) _ => e | _ => .Name (Str.ofString "") default
def lawF : Expr := match lawS10 with | .Assign _ (.Call _ [_, _, e] _ _) _ => e | _ => .Name (Str.ofString "") default
theorem lawR_eq : lawR = .Lambda (lamP lawR) (lamB lawR) (lamS lawR) (lamPos lawR) := rfl
theorem lawF_eq : lawF = .Lambda (lamP lawF) (lamB lawF) (lamS lawF) (lamPos lawF) := rfl

section
variable {la : Addr} {prog : Program} {w : World} {hF : Heap} {L aN aR aO f c' : Addr} {nd row ow : Nat → Addr} {n : Nat} {rel : Nat → List Nat} {own : Nat → List Str} {q : Str} {pm ctv : Value}

theorem rdFree {env : Env} {A : Around} {E : Value → Shared → Prop} {s : Shared} {x : Str} {pos : Pos} {c : Addr} {v : Value} {Q : Value → Shared → Prop} (hv : s.heap.IsCell c (some v)) (hc : env.cells.lookup x = some c) (h : Q v s)
    (hk : env.scope.kind = .function := by rfl) (hx : env.kindOf x = some .free := by rfl) (hd : (x == ("__debug__" : Str)) = false := by decide) (hn : (x == ("__classdict__" : Str)) = false := by decide) :
    wpAny (model prog w) A (eval (.Name x pos) env) Q E s := wpAny_Name (wpAny_loadName_free hk hx hc hv h hn) hd

theorem call_lamR (ho : hF.get? f = some (kla_obj (Str.ofString "<lambda>") q (lamP lawR) (lamB lawR) (lamS lawR) [(Str.ofString "related", L + 1 + 1 + 1 + 1 + 1)] pm c' ctv)) (hcd : hF.CodeRec (.ref c') q)
    (hcell : hF.IsCell (L + 1 + 1 + 1 + 1 + 1) (some (.ref aR))) (hlim : hF.NoLimit) (B : Built prog w hF aN aR aO nd n row rel ow own)
    {k : Nat} (hk : k < n) (A : Around) (E : Value → Shared → Prop) (s : Shared) (Q : Value → Shared → Prop) (r : Room A) (hs : Sub hF s.heap)
    (h : ∀ h' tk, Sub s.heap h' → Q (.ref (row k)) { s with heap := h', toks := tk }) : wpAny (model prog w) A (call (.ref f) [.ref (nd k)]) Q E s := by
  refine wpAny_call (kla_callFunE (by have := r.2.1; omega) (hs _ _ ho) rfl (by rfl) (by rfl) rfl ?_ ?_)
  · obtain ⟨c, o, vs, t, e1, e2, r2⟩ := hcd
    exact ⟨c, o, vs, t, e1, hs _ _ e2, r2⟩
  refine wpAny_of_eq (a := [(Str.ofString "x", Value.ref (nd k))]) (by rfl) ?_
  refine wpAny_newFunctionEnv (show ∀ x ∈ (lamS lawR).names, x.2 ≠ .cell by decide) (locs (by rfl)) (fun h₁ hn₁ hs₁ => ⟨?_, ?_⟩) (by rfl)
  · obtain ⟨mc, e1, e2⟩ := hlim
    refine ⟨mc, (e1.keeps hs).at' fun o e => hs₁.extBut _ o ?_ (Heap.get?_push_of_some _ e), e2⟩
    obtain ⟨o, _, _, e, _⟩ := e1.keeps hs
    exact Nat.ne_of_lt (Heap.lt_size e)
  have hsub : Sub s.heap h₁ := fun b o e => hs₁.extBut b o (Nat.ne_of_lt (Heap.lt_size e)) (Heap.get?_push_of_some _ e)
  have hsub2 : Sub hF h₁ := fun b o e => hsub b o (hs b o e)
  refine kla_codeExpr ?_
  have rd : ((A.deeper (newEnv (lamS lawR) s.heap.objs.size mainGlobals [(Str.ofString "related", L + 1 + 1 + 1 + 1 + 1)] (q ++ ".<locals>.") (some f) (.ref c') none builtinsNs)).units + 1 < cLine) := by
    have := r.2.2
    show A.units + 3 + 1 < cLine
    omega
  unfold lamB lawR lawS10 lawBody lawStmt PySem.Challenge.pw_kk0044_01
  dsimp only
  have B2 := B.sub hsub2
  refine Subscript_ (rdFree (s := { s with heap := h₁, toks := _ }) (hcell.keeps hsub2) (by rfl) (rdXL (s := { s with heap := h₁, toks := _ }) (C := s.heap.objs.size) hn₁ (by rfl) ?_))
  refine dtail (s := { s with heap := h₁, toks := _ }) B2.related (B.get_row (s := { s with heap := h₁, toks := _ }) rd hk hsub2 fun tk₂ => ?_) rfl
  exact h h₁ tk₂ hsub

theorem call_lamF (ho : hF.get? f = some (kla_obj (Str.ofString "<lambda>") q (lamP lawF) (lamB lawF) (lamS lawF) [(Str.ofString "own", L + 1 + 1 + 1 + 1)] pm c' ctv)) (hcd : hF.CodeRec (.ref c') q)
    (hcell : hF.IsCell (L + 1 + 1 + 1 + 1) (some (.ref aO))) (hlim : hF.NoLimit) (B : Built prog w hF aN aR aO nd n row rel ow own)
    {k : Nat} (hk : k < n) (A : Around) (E : Value → Shared → Prop) (s : Shared) (Q : Value → Shared → Prop) (r : Room A) (hs : Sub hF s.heap)
    (h : ∀ h' tk fl, Sub s.heap h' → s.heap.get? fl = none → StrL abcL h' fl (own k) → Q (.ref fl) { s with heap := h', toks := tk }) : wpAny (model prog w) A (call (.ref f) [.ref (nd k)]) Q E s := by
  refine wpAny_call (kla_callFunE (by have := r.2.1; omega) (hs _ _ ho) rfl (by rfl) (by rfl) rfl ?_ ?_)
  · obtain ⟨c, o, vs, t, e1, e2, r2⟩ := hcd
    exact ⟨c, o, vs, t, e1, hs _ _ e2, r2⟩
  refine wpAny_of_eq (a := [(Str.ofString "y", Value.ref (nd k))]) (by rfl) ?_
  refine wpAny_newFunctionEnv (show ∀ x ∈ (lamS lawF).names, x.2 ≠ .cell by decide) (locs (by rfl)) (fun h₁ hn₁ hs₁ => ⟨?_, ?_⟩) (by rfl)
  · obtain ⟨mc, e1, e2⟩ := hlim
    refine ⟨mc, (e1.keeps hs).at' fun o e => hs₁.extBut _ o ?_ (Heap.get?_push_of_some _ e), e2⟩
    obtain ⟨o, _, _, e, _⟩ := e1.keeps hs
    exact Nat.ne_of_lt (Heap.lt_size e)
  have hsub : Sub s.heap h₁ := fun b o e => hs₁.extBut b o (Nat.ne_of_lt (Heap.lt_size e)) (Heap.get?_push_of_some _ e)
  have hsub2 : Sub hF h₁ := fun b o e => hsub b o (hs b o e)
  refine kla_codeExpr ?_
  have rd : ((A.deeper (newEnv (lamS lawF) s.heap.objs.size mainGlobals [(Str.ofString "own", L + 1 + 1 + 1 + 1)] (q ++ ".<locals>.") (some f) (.ref c') none builtinsNs)).units + 1 < cLine) := by
    have := r.2.2
    show A.units + 3 + 1 < cLine
    omega
  unfold lamB lawF lawS10 lawBody lawStmt PySem.Challenge.pw_kk0044_01
  dsimp only
  have B2 := B.sub hsub2
  refine comp_copy (x := Str.ofString "letter") (cl := []) r.1 (by rfl) (by rfl) (by decide) (by rfl) (by decide) ?_
  refine Subscript_ (rdFree (s := { s with heap := h₁, toks := _ }) (hcell.keeps hsub2) (by rfl) (rdXL (s := { s with heap := h₁, toks := _ }) (C := s.heap.objs.size) hn₁ (by rfl) ?_))
  refine dtail (s := { s with heap := h₁, toks := _ }) B2.owns (B.get_own (s := { s with heap := h₁, toks := _ }) rd hk hsub2 fun tk₂ => ?_) rfl
  obtain ⟨vs, hp, hst, hnd, habc⟩ := B2.rows.own k hk
  refine ⟨ow k, _, rfl, hp.isList, ?_, fun h₃ D tk₃ hs3 hD0 hDl => ?_⟩
  · have := mem_len _ _ hnd habc
    have h2 := strsAre_len hst
    rw [abcL_len] at this
    simp; omega
  · refine h h₃ tk₃ D (fun b o e => hs3 b o (hsub b o e)) ?_ ⟨vs, hDl, hst, hnd, habc⟩
    cases e : s.heap.get? D with
    | none => rfl
    | some o => rw [hsub _ _ e] at hD0; cases hD0
end
end Mine

end
section
/- MLaw11 -/
open PySem PySem.W PyProof.Rows
open PySem.Builtin.Int (intBits)
set_option maxRecDepth 100000
set_option linter.unusedVariables false
namespace Mine

structure Fns (hb : Heap) : Prop where
  tr : ∃ o pm, hb.get? 28 = some o ∧ o.data = .func (Calls.docDef (Str.ofString "traverse") trParams trBody trScope pm (.ref 27) .none)
  trc : hb.CodeRec (.ref 27) (Str.ofString "traverse")
  dg : ∃ o pm, hb.get? 21 = some o ∧ o.data = .func (Calls.docDef (Str.ofString "digraph") dgParams dgBody dgScope pm (.ref 20) .none)
  dgc : hb.CodeRec (.ref 20) (Str.ofString "digraph")
theorem codeRec_sub {h h' : Heap} {c : Value} {q : Str} (x : h.CodeRec c q) (hs : Sub h h') : h'.CodeRec c q := by
  obtain ⟨a, o, vs, t, e1, e2, r⟩ := x
  exact ⟨a, o, vs, t, e1, hs _ _ e2, r⟩
theorem Fns.sub {hb h : Heap} (F : Fns hb) (hs : Sub hb h) : Fns h where
  tr := by obtain ⟨o, pm, e, r⟩ := F.tr; exact ⟨o, pm, hs _ _ e, r⟩
  trc := codeRec_sub F.trc hs
  dg := by obtain ⟨o, pm, e, r⟩ := F.dg; exact ⟨o, pm, hs _ _ e, r⟩
  dgc := codeRec_sub F.dgc hs

def relN (rel : Nat → List Nat) (n k : Nat) : List Nat := if k < n then rel k else []
def ownN (own : Nat → List Str) (n k : Nat) : List Str := if k < n then own k else []
def lawCfg (nd row : Nat → Addr) (n : Nat) (rel : Nat → List Nat) (own : Nat → List Str) (hF : Heap) (aX lR lF : Addr) : Cfg :=
  { m := n, nm := nmL, rel := relN rel n, own := ownN own n, abc := abcL, hs := hF, nd := nd, row := row, dN := 0, dF := 0, sk := 0, oX := .ref aX, lR := lR, lFP := lF }

section
variable {la : Addr} {prog : Program} {w : World} {A : Around} {E : Value → Shared → Prop} {s : Shared} {env : Env} {hb h h' : Heap} {L lx aN aR aO aX : Addr} {ps : Array Value} {m cm mg mb : Str → Option Value} {nd row ow : Nat → Addr} {n : Nat} {rel : Nat → List Nat} {own : Nat → List Str}

/-- a lambda is made -/
theorem mk_lambda {e : Expr} {clos : List (Str × Addr)} {Q : Value → Shared → Prop} (G : GlobL hb mg mb) (T : LF hb L ps s.heap m cm) (he : e = .Lambda (lamP e) (lamB e) (lamS e) (lamPos e)) (hdef : defaultsOf (lamP e) (lawEnv la L) = ([], []))
    (hcl : closureFor (lamS e) (lawEnv la L) = pure clos) (ht : TriplesOk ps.toList) (hnf : codeAmong (lamPos e) ps.toList = none)
    (h : ∀ f c' ctv h' tk, LF hb L (ps ++ #[rawInt (lamPos e).line, rawInt (lamPos e).col, .ref c']) h' m cm → Heap.ExtBut 30 s.heap h' → s.heap.get? f = none → s.heap.get? c' = none → h'.CodeRec (.ref c') ((lawEnv la L).qual ++ Str.ofString "<lambda>") →
      h'.get? f = some (kla_obj (Str.ofString "<lambda>") ((lawEnv la L).qual ++ Str.ofString "<lambda>") (lamP e) (lamB e) (lamS e) clos ((mg (Str.ofString "__name__")).getD .none) c' ctv) → Q (.ref f) { s with heap := h', toks := tk }) :
    wpAny (model prog w) A (eval e (lawEnv la L)) Q E s := by
  rw [he]
  have G2 := G.sub T.keep
  refine kla_eval hdef (kla_makeFunction (mg := mg) (P := 30) (c := 32) hcl rfl G2.g rfl G2.codeHd T.tab ht hnf (by decide) G2.bat fun c' ctv h' tk hx hge hlt hrec htb => ?_)
  have T2 := T.tabTo hx htb
  have hsz : s.heap.objs.size ≤ h'.objs.size := Nat.le_of_lt (Nat.lt_of_le_of_lt hge hlt)
  have hp : Sub h' (h'.push (kla_obj (Str.ofString "<lambda>") ((lawEnv la L).qual ++ Str.ofString "<lambda>") (lamP e) (lamB e) (lamS e) clos ((mg (Str.ofString "__name__")).getD .none) c' ctv)) := fun b o e => Heap.get?_push_of_some _ e
  exact h _ c' ctv _ tk (T2.sub hp) (fun b o hb e => hp b o (hx b o hb e)) (none_of_ge hsz) (none_of_ge hge) (codeRec_sub hrec hp) (Heap.get?_push_size _ rfl)

theorem law_oks (G : GlobL hb mg mb) (T : LF hb L ps h m cm) (B : Built prog w hb aN aR aO nd n row rel ow own) {lR lF cR cF : Addr} {q : Str} {pR pF tR tF : Value}
    (hcR : cm (Str.ofString "related") = some (.ref aR)) (hcO : cm (Str.ofString "own") = some (.ref aO))
    (eR : h.get? lR = some (kla_obj (Str.ofString "<lambda>") q (lamP lawR) (lamB lawR) (lamS lawR) [(Str.ofString "related", L + 1 + 1 + 1 + 1 + 1)] pR cR tR)) (rR : h.CodeRec (.ref cR) q)
    (eF : h.get? lF = some (kla_obj (Str.ofString "<lambda>") q (lamP lawF) (lamB lawF) (lamS lawF) [(Str.ofString "own", L + 1 + 1 + 1 + 1)] pF cF tF)) (rF : h.CodeRec (.ref cF) q) :
    OkS prog w (lawCfg nd row n rel own h aX lR lF) := by
  have G2 := G.sub T.keep
  have B2 := B.sub T.keep
  refine { m8 := B.n8, node := B2.node, nmOk := nmL_ok, rows := ?_, relm := ?_, rlen := ?_, ownd := ?_, ownabc := ?_, abcOk := abcL_ok, abclen := (by show abcL.length ≤ 100; rw [abcL_len]; decide), fR := ⟨_, _, eR, rfl⟩, fFP := ⟨_, _, eF, rfl⟩, callR := ?_, callFP := ?_, top := ?_, nolimit := G2.nolimit }
  · intro k hk
    have hk' : k < n := hk
    have := (B2.rows.list k hk').isList
    show h.IsList (row k) ((relN rel n k).map fun j => Value.ref (nd j)).toArray
    unfold relN
    rw [if_pos hk']
    exact this
  · intro v x hx
    have hx' : x ∈ relN rel n v := hx
    unfold relN at hx'
    split at hx'
    · rename_i hv; exact B.rows.lt v hv x hx'
    · cases hx'
  · intro v
    show (relN rel n v).length ≤ 1000
    unfold relN
    split
    · rename_i hv; have := B.rows.len v hv; omega
    · simp
  · intro v
    show (ownN own n v).Nodup
    unfold ownN
    split
    · rename_i hv; obtain ⟨_, _, _, hn, _⟩ := B.rows.own v hv; exact hn
    · simp
  · intro v a ha
    have ha' : a ∈ ownN own n v := ha
    unfold ownN at ha'
    split at ha'
    · rename_i hv; obtain ⟨_, _, _, _, hn⟩ := B.rows.own v hv; exact hn a ha'
    · cases ha'
  · intro k hk A E s Q r hs hQ
    exact call_lamR eR rR (by have := T.cl.cell (Str.ofString "related") _ (by rfl); rw [hcR] at this; exact this) G2.nolimit B2 hk A E s Q r hs hQ
  · intro k hk A E s Q r hs hQ
    have hk' : k < n := hk
    refine call_lamF eF rF (by have := T.cl.cell (Str.ofString "own") _ (by rfl); rw [hcO] at this; exact this) G2.nolimit B2 hk A E s Q r hs fun h' tk fl h1 h2 h3 => hQ h' tk fl h1 h2 ?_
    show StrL abcL h' fl (ownN own n k)
    unfold ownN
    rw [if_pos hk']
    exact h3
  · refine ⟨mg, mb, G2.g, G2.b, G.MAXINT, G.traverse, G.none _ (by simp), G.none _ (by simp), (G.boot (Str.ofString "len") (by simp)).trans (by rfl), (G.boot (Str.ofString "min") (by simp)).trans (by rfl)⟩

/-- told = digraph(order, lambda x: related[x], lambda y: [letter for letter in own[y]]) -/
theorem exec_S10 {order : List Nat} {Q : Flow → Shared → Prop} (r : RoomL A) (G : GlobL hb mg mb) (F : Fns hb) (B : Built prog w hb aN aR aO nd n row rel ow own) (T : LF hb L #[] s.heap m cm)
    (hcR : cm (Str.ofString "related") = some (.ref aR)) (hcO : cm (Str.ofString "own") = some (.ref aO)) (hX : m (Str.ofString "order") = some (.ref aX)) (hl : hb.PlainList aX (order.map fun k => Value.ref (nd k)).toArray)
    (ho1 : ∀ k ∈ order, k < n) (ho2 : ∀ k, k < n → k ∈ order)
    (h : ∀ h' tk dF hb' ps' xs (fa : Nat → Addr) (fl : Nat → List Str), LF hb' L ps' h' (fun z => if z = Str.ofString "told" then some (.ref dF) else m z) cm → Sub hb hb' → (dF == sysModules) = false → hb'.DictOfH (nodeKind prog w nmL) dF xs → (∀ x ∈ xs, x.1 < n ∧ x.2.1 = nd x.1) → (∀ k, k < n → valAt xs k = some (.ref (fa k))) →
      (∀ k, k < n → StrL abcL hb' (fa k) (fl k)) → (∀ k, k < n → ∀ a, a ∈ fl k ↔ Due (relN rel n) (ownN own n) k a) → Q .next { s with heap := h', toks := tk }) :
    wpAny (model prog w) A (exec lawS10 (lawEnv la L)) Q E s := by
  have e10 : ∃ p1 p2 p3 p4 p5, lawS10 = .Assign [.Name (Str.ofString "told") p1] (.Call (.Name (Str.ofString "digraph") p2) [.Name (Str.ofString "order") p3, lawR, lawF] [] p4) p5 := ⟨_, _, _, _, _, rfl⟩
  obtain ⟨p1, p2, p3, p4, p5, e10⟩ := e10
  rw [e10]
  have F2 := F.sub T.keep
  obtain ⟨od, pmd, eod, hdd⟩ := F2.dg
  refine wpAny_Assign_Name (wpAny_Call_NameR (rdG T G G.digraph ?_)) (by rfl)
  refine callWith_fn ⟨od, _, eod, hdd⟩ rfl ?_
  refine Calls.spliced_cons (rdL T hX (Calls.spliced_cons ?_))
  refine mk_lambda (clos := [(Str.ofString "related", L + 1 + 1 + 1 + 1 + 1)]) G T lawR_eq (by rfl) (by rfl) trivial (by rfl) fun lR cR tR h₁ tk₁ T1 hx1 hf1 hc1 rR1 eR1 => Calls.spliced_cons ?_
  refine mk_lambda (s := { s with heap := h₁, toks := tk₁ }) (clos := [(Str.ofString "own", L + 1 + 1 + 1 + 1)]) G T1 lawF_eq (by rfl) (by rfl) trivial (by rfl) fun lF cF tF h₂ tk₂ T2 hx2 hf2 hc2 rF2 eF2 => Calls.spliced_nil ?_
  dsimp only at hx2 hf2 hc2
  have hR30 : lR ≠ 30 := fun e => by rw [e, T.tab] at hf1; cases hf1
  have hc30 : cR ≠ 30 := fun e => by rw [e, T.tab] at hc1; cases hc1
  have eR2 := hx2 _ _ hR30 eR1
  have rR2 : h₂.CodeRec (.ref cR) ((lawEnv la L).qual ++ Str.ofString "<lambda>") := by
    obtain ⟨a, o, vs, t, e1, e2, r2⟩ := rR1
    cases e1
    exact ⟨cR, o, vs, t, rfl, hx2 _ _ hc30 e2, r2⟩
  have F3 := F.sub T2.keep
  obtain ⟨od2, pmd2, eod2, hdd2⟩ := F3.dg
  refine ⟨⟨od2, _, eod2, hdd2⟩, ?_⟩
  have S := law_oks (aX := aX) G T2 B hcR hcO eR2 rR2 eF2 rF2
  refine digraph_spec (c := lawCfg nd row n rel own h₂ aX lR lF) (s := { s with heap := h₂, toks := tk₂ }) (order := order) S ⟨F3.tr, F3.trc⟩ ⟨F3.dg, F3.dgc⟩ rfl rfl (hl.at fun o e => T2.keep _ _ e).isList ho1 ho2 r.1 (by have := r.2.1; omega) (by have := r.2.2; omega) fun h₃ tk₃ dF xs fa fl hsub3 told => ?_
  have T3 := T2.sub hsub3
  refine stL (s := { s with heap := h₃, toks := tk₃ }) T3 fun h₄ T4 hs4 => ?_
  obtain ⟨hb', T5, hs5, _, hk5⟩ := T4.rebase [] (fun b hb => nomatch hb)
  have dH : ¬ Held hb L dF := T2.new told.fresh
  have mv : ∀ b o, ¬ Held hb L b → h₃.get? b = some o → hb'.get? b = some o := fun b o hH e => hk5 b o (hs4.extBut _ o (neL hH) e) (fun hm => nomatch hm) hH
  have B5 := B.sub hs5
  refine h h₄ _ dF hb' _ xs fa fl T5 hs5 told.sys (dictAt told.dict.1 (fun o e => mv _ o dH e) fun y hy => ?_) told.dict.2 told.val (fun k hk => ?_) told.due
  · obtain ⟨h1, h2⟩ := told.dict.2 y hy
    rw [h2]
    exact B5.node _ h1
  · exact (told.list k hk).at fun o e => mv _ o (T2.new (told.freshF k hk)) e
end
end Mine

end
section
/- MDictI -/
open PySem PySem.W PyProof.Rows
open Sem (wp)
set_option maxRecDepth 100000
set_option linter.unusedVariables false
namespace Mine
section
variable {prog : Program} {w : World} {K : Type} [DecidableEq K] {knd : HeapKind prog w K} {A : Around} {E : Value → Shared → Prop} {s : Shared}

/-- a dict whose entries are known as they lie -/
def RawDict (h : Heap) (d : Addr) (es : Array DictEntry) (ep : Nat) : Prop := ∃ o, h.get? d = some o ∧ o.ExactDict ∧ o.data = .dict es ep

theorem key_step {it d : Addr} {i ep : Nat} {es : Array DictEntry} {P : PySem.Fin → Shared → Prop} (hit : s.heap.IsKeyIter it d i es.size ep) (hm : RawDict s.heap d es ep) (hlt : i < es.size)
    (h : ∀ h', h'.IsKeyIter it d (i + 1) es.size ep → Heap.SameBut it s.heap h' → P (.done (.ret es[i].key)) { s with heap := h' }) :
    wpAny (model prog w) A (Builtin.«dict_keyiterator.__next__» ⟨[.ref it], []⟩) P E s := by
  have hT := hit.typeIs
  obtain ⟨o, ho, hc, hd⟩ := id hit
  obtain ⟨od, hod, hcd, hdd⟩ := id hm
  unfold Builtin.«dict_keyiterator.__next__»
  wp_walk using wpAny_typeNameOfWhole_keyiter hT, wpAny_fieldsOf ho hd, wpAny_dictEntries hod hdd, wpAny_dictEpoch hod hdd
  have e : (if (i : Int) < 0 then none else es[((i : Nat) : Int).toNat]?) = some es[i] := by
    rw [if_neg (by omega), Int.toNat_natCast, Array.getElem?_eq_getElem hlt]
  rw [e]
  dsimp only
  wp_walk using wpAny_typeNameOfWhole_keyiter hT, wpAny_isOneOf_keyiter hT, wpAny_setField ho hd
  · show 0 + 1 < 4; decide
  · have hit2 : (s.heap.update it (Obj.mapFields (·.setIfInBounds 1 (rawInt ((i : Int) + 1))))).IsKeyIter it d (i + 1) es.size ep :=
      ⟨_, Heap.get?_update_self _ ho (Obj.isFreed_of_fields (Obj.data_mapFields hd _)), (Obj.cls_mapFields ..).trans hc, by rw [Obj.data_mapFields hd]; simp [rawInt]⟩
    have hsb := Heap.SameBut.update s.heap it (Obj.mapFields (·.setIfInBounds 1 (rawInt ((i : Int) + 1))))
    change wpAny _ _ _ _ _ { s with heap := s.heap.update it (Obj.mapFields (·.setIfInBounds 1 (rawInt ((i : Int) + 1)))) }
    generalize s.heap.update it (Obj.mapFields (·.setIfInBounds 1 (rawInt ((i : Int) + 1)))) = h2 at hit2 hsb ⊢
    have hT2 : ({ s with heap := h2 } : Shared).TypeIs (.ref it) "dict_keyiterator" := hit2.typeIs
    refine wpAny_bind (wpAny_holding ?_)
    refine wpAny_bind (wpAny_isOneOf_keyiter hT2 ?_)
    show wpAny _ _ (pure es[i].key) _ _ _
    exact wpAny_pure (wpAny_pure (h h2 hit2 hsb))

theorem key_stop {it d : Addr} {i ep : Nat} {es : Array DictEntry} {P : PySem.Fin → Shared → Prop} (hh : A.handled = none) (hit : s.heap.IsKeyIter it d i es.size ep) (hm : RawDict s.heap d es ep) (hge : es.size ≤ i)
    (h : ∀ h' x, Heap.ExtBut it s.heap h' → (∃ o, h'.get? x = some o ∧ o.cls = .type "StopIteration") → E (.ref x) { s with heap := h' }) :
    wpAny (model prog w) A (Builtin.«dict_keyiterator.__next__» ⟨[.ref it], []⟩) P E s := by
  have hT := hit.typeIs
  obtain ⟨o, ho, hc, hd⟩ := id hit
  obtain ⟨od, hod, hcd, hdd⟩ := id hm
  unfold Builtin.«dict_keyiterator.__next__»
  wp_walk using wpAny_typeNameOfWhole_keyiter hT, wpAny_fieldsOf ho hd, wpAny_dictEntries hod hdd, wpAny_dictEpoch hod hdd
  have e : (if (i : Int) < 0 then none else es[((i : Nat) : Int).toNat]?) = none := by
    rw [if_neg (by omega), Int.toNat_natCast, Array.getElem?_eq_none hge]
  rw [e]
  dsimp only
  wp_walk using wpAny_typeNameOfWhole_keyiter hT, wpAny_setField ho hd
  · show 0 < 4; decide
  · have hsb := Heap.SameBut.update s.heap it (Obj.mapFields (·.setIfInBounds 0 Value.none))
    change wpAny _ _ _ _ _ { s with heap := s.heap.update it (Obj.mapFields (·.setIfInBounds 0 Value.none)) }
    generalize s.heap.update it (Obj.mapFields (·.setIfInBounds 0 Value.none)) = h2 at hsb ⊢
    unfold newExc newTuple
    wp_walk
    refine wpAny_raiseNew_none hh (h _ _ ?_ ⟨_, Heap.get?_push_size _ rfl, rfl⟩)
    exact (hsb.extBut.push _).push _

theorem rawNext {it d : Addr} {i ep : Nat} {es : Array DictEntry} {Q : Option Value → Shared → Prop} (hit : s.heap.IsKeyIter it d i es.size ep)
    (hm : RawDict s.heap d es ep) (hlt : i < es.size) (hQ : ∀ h', h'.IsKeyIter it d (i + 1) es.size ep → Heap.SameBut it s.heap h' → Q (some es[i].key) { s with heap := h' }) :
    wpAny (model prog w) A (pyNext (.ref it)) Q E s := by
  unfold pyNext
  refine wpAny_bind (wpAny_attempt (wpAny_callSpecial?_slot (name := Str.ofString "__next__") hit.typeIs F.slot_dict_keyiterator_next
    (wpAny_call_entry F.slot_dict_keyiterator_next hit.typeIs F.entry_dict_keyiterator_next (key_step hit hm hlt fun h' h1 h2 => ⟨_, rfl, wpAny_pure (hQ h' h1 h2)⟩) (F.args_dict_keyiterator_next_1 _))))
theorem rawEnd {it d : Addr} {i ep : Nat} {es : Array DictEntry} {Q : Option Value → Shared → Prop} (hh : A.handled = none) (hit : s.heap.IsKeyIter it d i es.size ep)
    (hm : RawDict s.heap d es ep) (hge : es.size ≤ i) (hQ : ∀ h', Heap.ExtBut it s.heap h' → Q none { s with heap := h' }) : wpAny (model prog w) A (pyNext (.ref it)) Q E s := by
  unfold pyNext
  refine wpAny_bind (wpAny_attempt (wpAny_callSpecial?_slot (name := Str.ofString "__next__") hit.typeIs F.slot_dict_keyiterator_next
    (wpAny_call_entry F.slot_dict_keyiterator_next hit.typeIs F.entry_dict_keyiterator_next (key_stop hh hit hm hge fun h' x h1 ⟨o, h2, h3⟩ => ?_) (F.args_dict_keyiterator_next_1 _))))
  refine wpAny_bind (wpAny_isInstance (T := "StopIteration") (b := true) ⟨o, h2, h3⟩ isSubtype_stop ?_)
  exact wpAny_pure (hQ h' h1)

theorem RawDict.typeIs {d : Addr} {es : Array DictEntry} {ep : Nat} (x : RawDict s.heap d es ep) : s.TypeIs (.ref d) "dict" := let ⟨o, ho, hc, _⟩ := x; ⟨o, ho, hc.1⟩
theorem rawIter {d : Addr} {es : Array DictEntry} {ep : Nat} {Q : Value → Shared → Prop} (hsys : (d == sysModules) = false) (hm : RawDict s.heap d es ep)
    (hQ : Q (.ref s.heap.objs.size) { s with heap := s.heap.push { cls := .type "dict_keyiterator", data := .fields #[.ref d, .int 0 0, .int es.size 0, .int ep 0] } }) :
    wpAny (model prog w) A (pyIter (.ref d)) Q E s := by
  have hT := hm.typeIs
  obtain ⟨o, ho, hc, hdat⟩ := id hm
  refine wpAny_pyIter_slot hT F.slot_dict_iter (wpAny_call_entry F.slot_dict_iter hT F.entry_dict_iter ?_ (F.args_dict_iter_1 _))
  unfold Builtin.«dict.__iter__» Builtin.Dict.dictSlotNone Builtin.Dict.showsAll
  wp_walk using wpAny_notOrdered_dict hT, wpAny_dictEntries ho hdat, wpAny_dictEpoch ho hdat
  exact ⟨_, rfl, "dict_keyiterator", _, ⟨_, Heap.get?_push_size _ rfl, rfl⟩, F.slot_dict_keyiterator_next.lookup, hQ⟩

theorem walks_raw (hh : A.handled = none) (I d : Addr) (hne : d ≠ I) (es : Array DictEntry) (ep : Nat) :
    Walks prog w A I [I, d] [I] es.size (fun i v => ∃ e, es[i]? = some e ∧ v = e.key) (fun i h => h.IsKeyIter I d i es.size ep ∧ RawDict h d es ep) where
  sub := fun b hb => by simp at hb; simp [hb]
  frame := fun _ _ _ st hk => ⟨st.1.at fun o e => hk I (by simp) o e, by obtain ⟨o, e, r⟩ := st.2; exact ⟨o, hk d (by simp) o e, r⟩⟩
  item := fun i s Q E hi st hQ => by
    refine rawNext st.1 st.2 hi fun h' hit' hs' => ?_
    obtain ⟨o, e, r⟩ := st.2
    exact hQ _ h' s.toks ⟨es[i], by simp [hi], rfl⟩ ⟨hit', o, hs'.extBut _ _ hne e, r⟩ fun b o hb e => hs'.extBut b o (fun h => hb (by simp [h])) e
  done := fun s Q E st hQ => rawEnd hh st.1 st.2 (Nat.le_refl _) fun h' he' => hQ h' s.toks fun b o hb e => he' b o (fun h => hb (by simp [h])) e
  self := fun _ _ _ _ st hQ => wpAny_pyIter_keyiter st.1 hQ

theorem rawOf {h : Heap} {d : Addr} {xs : List (K × Addr × Value)} (x : h.DictOfH knd d xs) : ∃ es ep, RawDict h d es ep ∧ es.size = xs.length ∧ ∀ (i : Nat) (e : DictEntry), es[i]? = some e → ∃ y, xs[i]? = some y ∧ e.key = .ref y.2.1 := by
  obtain ⟨o, es, ep, ho, hc, hd, he, _⟩ := x
  refine ⟨es, ep, ⟨o, ho, hc, hd⟩, size_of_entries he, fun i e hi => ?_⟩
  rw [entry_at he] at hi
  cases hx : xs[i]? with
  | none => rw [hx] at hi; cases hi
  | some y =>
    rw [hx] at hi
    simp only [Option.map_some, Option.some.injEq] at hi
    exact ⟨y, rfl, by rw [← hi]; rfl⟩

/-- the keys of a dict of heap keys by a comprehension -/
theorem comp_keys {env : Env} {x : Str} {p px pos : Pos} {iter : Expr} {scope : Scope} {cl : List (Str × Addr)} {Q : Value → Shared → Prop} (hh : A.handled = none)
    (hclos : closureFor scope env = pure cl) (hkind : scope.kind = .function) (hnames : ∀ x ∈ scope.names, x.2 = .local → scope.names.lookup x.1 = some .local) (hx : scope.names.lookup x = some .local) (hd : (x == ("__debug__" : Str)) = false)
    (h : wpAny (model prog w) A (eval iter env) (fun v s₁ => ∃ d, ∃ xs : List (K × Addr × Value), v = .ref d ∧ (d == sysModules) = false ∧ s₁.heap.DictOfH knd d xs ∧ xs.length ≤ 1000 ∧
      ∀ h' D tk, Sub s₁.heap h' → s₁.heap.get? D = none → h'.PlainList D (xs.map fun y => Value.ref y.2.1).toArray → Q (.ref D) { s₁ with heap := h', toks := tk }) E s)
    (hs : ∀ x, foldedSetIterable iter env x = pure x := by intro _; rfl) :
    wpAny (model prog w) A (eval (.ListComp (.Name x p) [⟨.Name x px, iter, [], 0⟩] scope pos) env) Q E s := by
  refine comp_value hclos hkind hnames (wpAny_mono h (fun v s₁ h₁ => ?_) fun _ _ e => e) hs
  obtain ⟨l, xs, rfl, hsys, hl, hsz, hQ⟩ := h₁
  obtain ⟨es, ep, hraw, hes, hkey⟩ := rawOf hl
  refine rawIter hsys hraw ?_
  have hIt0 : s₁.heap.get? s₁.heap.objs.size = none := none_of_ge (Nat.le_refl _)
  have hsub1 : Sub s₁.heap (s₁.heap.push { cls := .type "dict_keyiterator", data := .fields #[.ref l, .int 0 0, .int es.size 0, .int ep 0] }) := fun b o e => Heap.get?_push_of_some _ e
  have hit0 : (s₁.heap.push { cls := .type "dict_keyiterator", data := .fields #[.ref l, .int 0 0, .int es.size 0, .int ep 0] }).IsKeyIter s₁.heap.objs.size l 0 es.size ep := ⟨_, Heap.get?_push_size _ rfl, rfl, rfl⟩
  generalize s₁.heap.objs.size = It at hIt0 hit0 ⊢
  generalize s₁.heap.push { cls := Value.type "dict_keyiterator", data := .fields #[.ref l, .int 0 0, .int es.size 0, .int ep 0] } = h₂ at hsub1 hit0 ⊢
  have hlI : l ≠ It := fun e => by
    obtain ⟨o, ho, _⟩ := hraw
    rw [e, hIt0] at ho; cases ho
  refine ⟨fun h' Q' E' hs hQ => wpAny_pyIter_keyiter (s := { s₁ with heap := h' }) (hit0.at fun o e => hs _ _ e) hQ, ?_⟩
  rintro D C h₃ _ _ hD0 hC0 hDC hsub₄ hDl hCn _
  dsimp only at hD0 hC0 hsub₄
  obtain ⟨oI, eI, _⟩ := id hit0
  obtain ⟨ol, el0, rl⟩ := id hraw
  have el := hsub1 _ _ el0
  have hDI : D ≠ It := fun e => by rw [e, eI] at hD0; cases hD0
  have hCI : C ≠ It := fun e => by rw [e, eI] at hC0; cases hC0
  have hDl' : D ≠ l := fun e => by rw [e, el] at hD0; cases hD0
  have hCl' : C ≠ l := fun e => by rw [e, el] at hC0; cases hC0
  refine comp_walk (s := { s₁ with heap := h₃ }) (walks_raw (prog := prog) (w := w) hh It l hlI es ep) (by rw [sizeLine_num]; omega) (lookup_relabel_local hx) (by simp [compEnvC, relabel, hkind]) hDC (by simp [hDI, hDl']) (by show C ∉ _; simp [hCI, hCl'])
    ⟨hit0.at fun o e => hsub₄ _ _ e, ol, hsub₄ _ _ el, rl⟩ hDl hCn (fun i ys h => ys = (xs.take i).map fun y => Value.ref y.2.1) (by simp) (fun i ys h h' e _ => e) ?_ ?_
  · rintro i v ys h₄ tk₄ m' hi ⟨e, he, rfl⟩ rfl hn4 hj _
    obtain ⟨y, hy, hky⟩ := hkey i e he
    refine wpAny_tests_nil ⟨h₄, _, rfl, fun b o e => e, ?_⟩
    rw [if_pos rfl]
    refine wpAny_Name (wpAny_loadName_local (s := { s₁ with heap := h₄, toks := _ }) (by show scope.kind = _; exact hkind) (lookup_relabel_local hx) hn4 hj ?_) hd
    refine ⟨h₄, _, rfl, fun b o e => e, ?_⟩
    rw [List.take_add_one, hy, hky]; simp
  · rintro h₅ tk₅ m' ys rfl hlen hn5 hD5 hk5
    rw [hes, List.take_length] at hD5
    refine ⟨rfl, h₅, tk₅, m', rfl, hn5, fun h₆ hs6 => ?_⟩
    refine hQ h₆ D tk₅ (fun b o e => ?_) ?_ (hD5.at fun o e => hs6.extBut _ o hDC e)
    · have e2 := hsub1 _ _ e
      have hbC : b ≠ C := fun e' => by rw [e', hC0] at e2; cases e2
      have hbD : b ≠ D := fun e' => by rw [e', hD0] at e2; cases e2
      have hbI : b ≠ It := fun e' => by rw [e', hIt0] at e; cases e
      exact hs6.extBut b o hbC (hk5 b o hbC (by simp [hbI]) hbD (hsub₄ _ _ e2))
    · cases e : s₁.heap.get? D with
      | none => rfl
      | some o => rw [hsub1 _ _ e] at hD0; cases hD0
end
end Mine

end
section
/- MSort -/
open PySem PySem.W PyProof.Rows
set_option maxRecDepth 100000
set_option linter.unusedVariables false
namespace Mine

/-- the asks of a tree are answered by lt, all within N -/
def Run {α : Type} (lt : Nat → Nat → Bool) (N : Nat) : KasT α → (α → Prop) → Prop
  | .ret a, Q => Q a
  | .ask i j k, Q => i < N ∧ j < N ∧ Run lt N (k (lt i j)) Q
theorem Run.mono {α : Type} {lt : Nat → Nat → Bool} {N : Nat} {Q Q' : α → Prop} : ∀ {t : KasT α}, Run lt N t Q → (∀ a, Q a → Q' a) → Run lt N t Q'
  | .ret a, h, hq => hq a h
  | .ask i j k, h, hq => ⟨h.1, h.2.1, Run.mono h.2.2 hq⟩
theorem Run.bind {α β : Type} {lt : Nat → Nat → Bool} {N : Nat} {f : α → KasT β} {Q : β → Prop} : ∀ {t : KasT α}, Run lt N t (fun a => Run lt N (f a) Q) → Run lt N (t.bind f) Q
  | .ret a, h => h
  | .ask i j k, h => ⟨h.1, h.2.1, Run.bind h.2.2⟩
theorem Run.wp {α : Type} {lt : Nat → Nat → Bool} {N : Nat} {cmp : Nat → Nat → (Bool → Shared → Prop) → Shared → Prop} {P : α → Prop} {Q : α → Shared → Prop} {s : Shared}
    (hc : ∀ i j, i < N → j < N → ∀ (C : Bool → Shared → Prop) (tk : Nat), (∀ tk', C (lt i j) { s with toks := tk' }) → cmp i j C { s with toks := tk }) :
    ∀ (t : KasT α) (tk : Nat), Run lt N t P → (∀ a tk', P a → Q a { s with toks := tk' }) → t.kasWp cmp Q { s with toks := tk }
  | .ret a, tk, h, hq => hq a tk h
  | .ask i j k, tk, h, hq => hc i j h.1 h.2.1 _ tk fun tk' => Run.wp hc (k (lt i j)) tk' h.2.2 hq

section
variable {f : Nat → Nat} {N : Nat}

/-- the places hold the numbers below N, each once -/
structure Good (N : Nat) (p : Array Nat) : Prop where
  size : p.size = N
  lt : ∀ k, k < N → p.getD k 0 < N
  inj : ∀ i j, i < N → j < N → p.getD i 0 = p.getD j 0 → i = j

theorem getD_of {p : Array Nat} {k : Nat} (h : k < p.size) : p[k]? = some (p.getD k 0) := by simp [Array.getD, h]
theorem getD_eq {p q : Array Nat} {k j : Nat} (h : p[k]? = q[j]?) (hk : k < p.size) (hj : j < q.size) : p.getD k 0 = q.getD j 0 := by
  rw [getD_of hk, getD_of hj] at h
  exact Option.some.inj h
theorem Good.range : Good N (List.toArray (List.range N)) where
  size := by simp
  lt := fun k hk => by simp [Array.getD, hk]
  inj := fun i j hi hj h => by simpa [Array.getD, hi, hj] using h

def Inj (f : Nat → Nat) (N : Nat) : Prop := ∀ i j, i < N → j < N → f i = f j → i = j
def g (f : Nat → Nat) (p : Array Nat) (k : Nat) : Nat := f (p.getD k 0)
def Inc (f : Nat → Nat) (p : Array Nat) (m : Nat) : Prop := ∀ k, 1 ≤ k → k < m → g f p (k - 1) < g f p k
def Dec (f : Nat → Nat) (p : Array Nat) (m : Nat) : Prop := ∀ k, 1 ≤ k → k < m → g f p k < g f p (k - 1)
def ltf (f : Nat → Nat) (i j : Nat) : Bool := decide (f i < f j)

theorem g_ne (hf : Inj f N) {p : Array Nat} (G : Good N p) {i j : Nat} (hi : i < N) (hj : j < N) (h : i ≠ j) : g f p i ≠ g f p j := fun e => h (G.inj i j hi hj (hf _ _ (G.lt i hi) (G.lt j hj) e))
theorem Inc.lt {p : Array Nat} {m : Nat} (h : Inc f p m) : ∀ (d i : Nat), i + d + 1 < m → g f p i < g f p (i + d + 1)
  | 0, i, hm => by have := h (i + 1) (by omega) hm; simpa using this
  | d + 1, i, hm => by
    have h1 := Inc.lt h d i (by omega)
    have h2 := h (i + d + 1 + 1) (by omega) (by omega)
    rw [Nat.add_sub_cancel] at h2
    exact Nat.lt_trans h1 h2

theorem run_asc (hf : Inj f N) {p : Array Nat} (G : Good N p) : ∀ (fuel n : Nat), 1 ≤ n → n + fuel ≤ N →
    Run (ltf f) N (kas_asc p fuel n) (fun n' => n ≤ n' ∧ n' ≤ n + fuel ∧ (∀ k, n ≤ k → k < n' → g f p (k - 1) < g f p k) ∧ (n' < n + fuel → g f p n' < g f p (n' - 1)))
  | 0, n, h1, h2 => ⟨Nat.le_refl _, Nat.le_refl _, fun k h3 h4 => by omega, fun h => by omega⟩
  | fuel + 1, n, h1, h2 => by
    refine ⟨G.lt n (by omega), G.lt (n - 1) (by omega), ?_⟩
    by_cases h : g f p n < g f p (n - 1)
    · have e : ltf f (p.getD n 0) (p.getD (n - 1) 0) = true := decide_eq_true h
      rw [e]
      exact ⟨Nat.le_refl _, by omega, fun k h3 h4 => by omega, fun _ => h⟩
    · have e : ltf f (p.getD n 0) (p.getD (n - 1) 0) = false := decide_eq_false h
      rw [e]
      have hne := g_ne hf G (i := n) (j := n - 1) (by omega) (by omega) (by omega)
      refine Run.mono (run_asc hf G fuel (n + 1) (by omega) (by omega)) fun n' ⟨a, b, c, d⟩ => ⟨by omega, by omega, fun k h3 h4 => ?_, fun h => d (by omega)⟩
      by_cases hk : k = n
      · subst hk; omega
      · exact c k (by omega) h4

theorem run_desc (hf : Inj f N) {p : Array Nat} (G : Good N p) : ∀ (fuel n : Nat), 1 ≤ n → n + fuel ≤ N →
    Run (ltf f) N (kas_desc fuel p n 0) (fun r => r.1 = p ∧ n ≤ r.2.1 ∧ r.2.1 ≤ n + fuel ∧ r.2.2 = 0 ∧ ∀ k, n ≤ k → k < r.2.1 → g f p k < g f p (k - 1))
  | 0, n, h1, h2 => ⟨rfl, Nat.le_refl _, Nat.le_refl _, rfl, fun k h3 (h4 : k < n) => by omega⟩
  | fuel + 1, n, h1, h2 => by
    refine ⟨G.lt n (by omega), G.lt (n - 1) (by omega), ?_⟩
    by_cases h : g f p n < g f p (n - 1)
    · have e : ltf f (p.getD n 0) (p.getD (n - 1) 0) = true := decide_eq_true h
      rw [e]
      simp only [if_true, Nat.lt_irrefl, gt_iff_lt, if_false]
      refine Run.mono (run_desc hf G fuel (n + 1) (by omega) (by omega)) fun r ⟨a, b, c, d, e⟩ => ⟨a, by omega, by omega, d, fun k h3 h4 => ?_⟩
      by_cases hk : k = n
      · subst hk; exact h
      · exact e k (by omega) h4
    · have e : ltf f (p.getD n 0) (p.getD (n - 1) 0) = false := decide_eq_false h
      rw [e]
      have hne := g_ne hf G (i := n) (j := n - 1) (by omega) (by omega) (by omega)
      simp only [Bool.false_eq_true, if_false]
      refine ⟨G.lt (n - 1) (by omega), G.lt n (by omega), ?_⟩
      have e2 : ltf f (p.getD (n - 1) 0) (p.getD n 0) = true := decide_eq_true (by unfold g at h hne; omega)
      rw [e2]
      simp only [if_true]
      exact ⟨rfl, Nat.le_refl _, Nat.le_add_right _ _, rfl, fun k h3 (h4 : k < n) => by omega⟩

theorem rev_get {p : Array Nat} {n : Nat} (hn : n ≤ p.size) {k : Nat} (hk : k < p.size) : (kas_rev p 0 n).getD k 0 = if k < n then p.getD (n - 1 - k) 0 else p.getD k 0 := by
  have hs : (kas_rev p 0 n).size = p.size := mirror_size ..
  have e := getElem?_mirror_all (xs := p) (i := 0) hn k
  by_cases h : k < n
  · rw [if_pos h]
    rw [if_pos ⟨Nat.zero_le _, h⟩] at e
    have e2 : (kas_rev p 0 n)[k]? = p[n - 1 - k]? := by
      have : 0 + n - 1 - k = n - 1 - k := by omega
      rw [this] at e; exact e
    exact getD_eq e2 (by omega) (by omega)
  · rw [if_neg h]
    rw [if_neg (by omega)] at e
    exact getD_eq (p := kas_rev p 0 n) e (by omega) hk
theorem Good.rev {p : Array Nat} (G : Good N p) {n : Nat} (hn : n ≤ N) : Good N (kas_rev p 0 n) where
  size := (mirror_size ..).trans G.size
  lt := fun k hk => by
    rw [rev_get (by rw [G.size]; exact hn) (by rw [G.size]; exact hk)]
    split
    · exact G.lt _ (by omega)
    · exact G.lt _ hk
  inj := fun i j hi hj h => by
    rw [rev_get (by rw [G.size]; exact hn) (by rw [G.size]; exact hi), rev_get (by rw [G.size]; exact hn) (by rw [G.size]; exact hj)] at h
    split at h <;> split at h
    · have := G.inj _ _ (by omega) (by omega) h; omega
    · have := G.inj _ _ (by omega) (by omega) h; omega
    · have := G.inj _ _ (by omega) (by omega) h; omega
    · exact G.inj _ _ hi hj h
theorem Inc.rev {p : Array Nat} (G : Good N p) {n : Nat} (hn : n ≤ N) (h : Dec f p n) : Inc f (kas_rev p 0 n) n := by
  intro k h1 h2
  unfold g
  rw [rev_get (by rw [G.size]; exact hn) (by rw [G.size]; omega), rev_get (by rw [G.size]; exact hn) (by rw [G.size]; omega), if_pos h2, if_pos (by omega)]
  have := h (n - 1 - (k - 1)) (by omega) (by omega)
  unfold g at this
  have e : n - 1 - (k - 1) - 1 = n - 1 - k := by omega
  rw [e] at this
  exact this

theorem run_tail3 (hf : Inj f N) {p : Array Nat} (G : Good N p) {n : Nat} (h1 : 1 ≤ n) (hn : n ≤ N) (hd : Dec f p n) :
    Run (ltf f) N (kas_tail3 n N p) (fun r => Good N r.2 ∧ 1 ≤ r.1 ∧ r.1 ≤ N ∧ Inc f r.2 r.1) := by
  refine Run.bind (Run.mono (run_asc hf (G.rev hn) (N - n) n h1 (by omega)) fun n' ⟨a, b, c, _⟩ => ?_)
  refine ⟨G.rev hn, Nat.le_trans h1 a, (by show n' ≤ N; omega), fun k h2 h3 => ?_⟩
  by_cases hk : k < n
  · exact Inc.rev G hn hd k h2 hk
  · exact c k (by omega) h3

theorem run_count (hf : Inj f N) (hN : 2 ≤ N) {p : Array Nat} (G : Good N p) :
    Run (ltf f) N (kas_count N p) (fun r => Good N r.2 ∧ 1 ≤ r.1 ∧ r.1 ≤ N ∧ Inc f r.2 r.1) := by
  refine Run.bind (Run.mono (run_asc hf G (N - 1) 1 (Nat.le_refl _) (by omega)) fun n ⟨a, b, c, d⟩ => ?_)
  by_cases h : (n == N) = true
  · rw [if_pos h]
    have : n = N := by simpa using h
    exact ⟨G, a, Nat.le_of_eq this, c⟩
  · rw [if_neg h]
    have hnN : n ≠ N := by simpa using h
    by_cases h1 : n > 1
    · rw [if_pos h1]
      refine ⟨G.lt 0 (by omega), G.lt (n - 1) (by omega), ?_⟩
      have hlt := Inc.lt c (n - 2) 0 (by omega)
      have e : 0 + (n - 2) + 1 = n - 1 := by omega
      rw [e] at hlt
      have e2 : ltf f (p.getD 0 0) (p.getD (n - 1) 0) = true := decide_eq_true hlt
      rw [e2]
      simp only [if_true]
      exact ⟨G, a, (by show n ≤ N; omega), c⟩
    · rw [if_neg h1]
      have hn1 : n = 1 := by omega
      subst hn1
      have hd := d (by omega)
      refine Run.bind (Run.mono (run_desc hf G (N - (1 + 1)) (1 + 1) (by omega) (by omega)) ?_)
      rintro ⟨p', n', q'⟩ ⟨e1, a1, a2, e2, a3⟩
      dsimp only at e1 e2 a1 a2 a3 ⊢
      subst e1; subst e2
      simp only [gt_iff_lt, Nat.lt_irrefl, if_false]
      refine run_tail3 hf G (by omega) (by omega) fun k h2 h3 => ?_
      by_cases hk : k = 1
      · subst hk; exact hd
      · exact a3 k (by omega) h3

theorem run_place (hf : Inj f N) {p : Array Nat} (G : Good N p) {k : Nat} (hk : k < N) : ∀ (fuel l r : Nat), l ≤ r → r ≤ k → r - l ≤ fuel → (∀ i, i < l → g f p i < g f p k) → (∀ i, r ≤ i → i < k → g f p k < g f p i) → Inc f p k →
    Run (ltf f) N (kas_place p k fuel l r) (fun l' => l' ≤ k ∧ (∀ i, i < l' → g f p i < g f p k) ∧ (∀ i, l' ≤ i → i < k → g f p k < g f p i))
  | 0, l, r, h1, h2, h3, h4, h5, _ => ⟨Nat.le_trans h1 h2, h4, fun i hi hk => h5 i (by omega) hk⟩
  | fuel + 1, l, r, h1, h2, h3, h4, h5, hI => by
    show Run (ltf f) N (if l ≥ r then .ret l else .ask (p.getD k 0) (p.getD ((l + r) / 2) 0) fun c => if c = true then kas_place p k fuel l ((l + r) / 2) else kas_place p k fuel ((l + r) / 2 + 1) r) _
    by_cases h : l ≥ r
    · rw [if_pos h]
      exact ⟨Nat.le_trans h1 h2, h4, fun i hi hk => h5 i (by omega) hk⟩
    · rw [if_neg h]
      have hm1 : l ≤ (l + r) / 2 := by omega
      have hm2 : (l + r) / 2 < r := by omega
      refine ⟨G.lt k hk, G.lt _ (by omega), ?_⟩
      by_cases hlt : g f p k < g f p ((l + r) / 2)
      · have e : ltf f (p.getD k 0) (p.getD ((l + r) / 2) 0) = true := decide_eq_true hlt
        rw [e]
        simp only [if_true]
        refine run_place hf G hk fuel l ((l + r) / 2) hm1 (by omega) (by omega) h4 (fun i hi hik => ?_) hI
        by_cases hi' : i = (l + r) / 2
        · subst hi'; exact hlt
        · have := Inc.lt hI (i - (l + r) / 2 - 1) ((l + r) / 2) (by omega)
          have e : (l + r) / 2 + (i - (l + r) / 2 - 1) + 1 = i := by omega
          rw [e] at this
          exact Nat.lt_trans hlt this
      · have e : ltf f (p.getD k 0) (p.getD ((l + r) / 2) 0) = false := decide_eq_false hlt
        rw [e]
        simp only [Bool.false_eq_true, if_false]
        have hne := g_ne hf G (i := k) (j := (l + r) / 2) hk (by omega) (by omega)
        refine run_place hf G hk fuel ((l + r) / 2 + 1) r (by omega) h2 (by omega) (fun i hi => ?_) h5 hI
        by_cases hi' : i = (l + r) / 2
        · subst hi'; omega
        · have := Inc.lt hI ((l + r) / 2 - i - 1) i (by omega)
          have e : i + ((l + r) / 2 - i - 1) + 1 = (l + r) / 2 := by omega
          rw [e] at this
          omega

theorem bubble_get {p : Array Nat} {k l : Nat} (hk : k < p.size) (hl : l ≤ k) {j : Nat} (hj : j < p.size) : (bubble p k (k - l)).getD j 0 = if j = l then p.getD k 0 else if l < j ∧ j ≤ k then p.getD (j - 1) 0 else p.getD j 0 := by
  have hs : (bubble p k (k - l)).size = p.size := bubble_size ..
  have e := getElem?_bubble (xs := p) hk (k - l) (by omega) j
  have e0 : k - (k - l) = l := by omega
  rw [e0] at e
  by_cases h1 : j = l
  · rw [if_pos h1] at e ⊢; exact getD_eq e (by omega) hk
  · rw [if_neg h1] at e ⊢
    by_cases h2 : l < j ∧ j ≤ k
    · rw [if_pos h2] at e ⊢; exact getD_eq e (by omega) (by omega)
    · rw [if_neg h2] at e ⊢; exact getD_eq e (by omega) hj
theorem Good.bubble {p : Array Nat} (G : Good N p) {k l : Nat} (hk : k < N) (hl : l ≤ k) : Good N (bubble p k (k - l)) where
  size := (bubble_size ..).trans G.size
  lt := fun j hj => by
    rw [bubble_get (by rw [G.size]; exact hk) hl (by rw [G.size]; exact hj)]
    split
    · exact G.lt _ hk
    · split
      · exact G.lt _ (by omega)
      · exact G.lt _ hj
  inj := fun i j hi hj h => by
    rw [bubble_get (by rw [G.size]; exact hk) hl (by rw [G.size]; exact hi), bubble_get (by rw [G.size]; exact hk) hl (by rw [G.size]; exact hj)] at h
    repeat' split at h
    all_goals (have h' := G.inj _ _ (by omega) (by omega) h; omega)

theorem run_bin (hf : Inj f N) : ∀ (fuel k : Nat) (p : Array Nat), Good N p → k + fuel = N → Inc f p k → Run (ltf f) N (kas_bin fuel p k) (fun p' => Good N p' ∧ Inc f p' N)
  | 0, k, p, G, hk, hI => ⟨G, (show k = N by omega) ▸ hI⟩
  | fuel + 1, k, p, G, hk, hI => by
    have hkN : k < N := by omega
    refine Run.bind (Run.mono (run_place hf G hkN k 0 k (Nat.zero_le _) (Nat.le_refl _) (Nat.le_refl _) (fun i hi => absurd hi (Nat.not_lt_zero _)) (fun i h1 h2 => by omega) hI) fun l ⟨a, b, c⟩ => ?_)
    refine run_bin hf fuel (k + 1) _ (G.bubble hkN a) (by omega) fun j h1 h2 => ?_
    unfold g
    rw [bubble_get (by rw [G.size]; exact hkN) a (by rw [G.size]; omega), bubble_get (by rw [G.size]; exact hkN) a (by rw [G.size]; omega)]
    have b' := b
    have c' := c
    unfold g at b' c'
    have hI' : ∀ k', 1 ≤ k' → k' < k → f (p.getD (k' - 1) 0) < f (p.getD k' 0) := hI
    by_cases hj : j = l
    · subst hj
      rw [if_neg (by omega), if_neg (by omega), if_pos rfl]
      exact b' (j - 1) (by omega)
    · rw [if_neg hj]
      by_cases hjl : j < l
      · rw [if_neg (by omega), if_neg (by omega), if_neg (by omega)]
        exact hI' j h1 (by omega)
      · rw [if_pos (show l < j ∧ j ≤ k by omega)]
        by_cases hj1 : j - 1 = l
        · rw [if_pos hj1]
          exact c' (j - 1) (by omega) (by omega)
        · rw [if_neg hj1, if_pos (by omega)]
          exact hI' (j - 1) (by omega) (by omega)

/-- the sort of the model puts the places in the order of f -/
theorem run_sort (hf : Inj f N) (hN : 2 ≤ N) : Run (ltf f) N (kas_sort N) (fun p => Good N p ∧ Inc f p N) := by
  refine Run.bind (Run.mono (run_count hf hN Good.range) ?_)
  rintro ⟨m, p⟩ ⟨G, a, b, hI⟩
  dsimp only at G a b hI ⊢
  by_cases h : m < N
  · rw [if_pos h]
    have e : max m 1 = m := by omega
    rw [e]
    exact run_bin hf (N - m) m p G (by omega) hI
  · rw [if_neg h]
    have e : m = N := by omega
    exact ⟨G, e ▸ hI⟩

/-- N numbers below N that rise: the k-th is k -/
theorem rise_id {h : Nat → Nat} (hlt : ∀ k, k < N → h k < N) (hinc : ∀ k, 1 ≤ k → k < N → h (k - 1) < h k) : ∀ k, k < N → h k = k := by
  have up : ∀ k, k < N → k ≤ h k := by
    intro k
    induction k with
    | zero => intro _; exact Nat.zero_le _
    | succ k ih =>
      intro hk
      have h1 := ih (by omega)
      have h2 := hinc (k + 1) (by omega) hk
      simp only [Nat.add_sub_cancel] at h2
      omega
  have down : ∀ d k, k + d + 1 = N → h k + d + 1 ≤ N := by
    intro d
    induction d with
    | zero => intro k hk; have := hlt k (by omega); omega
    | succ d ih =>
      intro k hk
      have h1 := ih (k + 1) (by omega)
      have h2 := hinc (k + 1) (by omega) (by omega)
      simp only [Nat.add_sub_cancel] at h2
      omega
  intro k hk
  have h1 := up k hk
  have h2 := down (N - k - 1) k (by omega)
  omega
end
end Mine

end
section
/- MSort2 -/
open PySem PySem.W PyProof.Rows
set_option maxRecDepth 100000
set_option linter.unusedVariables false
namespace Mine

/-- all objects that stand, but the one at L -/
def allNews (L : Addr) (h : Heap) : List (Addr × Obj) := (List.range h.objs.size).filterMap fun a => if a = L then none else (h.get? a).map fun o => (a, o)
theorem mem_allNews {L : Addr} {h : Heap} {a : Addr} {o : Obj} : (a, o) ∈ allNews L h ↔ a ≠ L ∧ h.get? a = some o := by
  unfold allNews
  rw [List.mem_filterMap]
  constructor
  · rintro ⟨b, hb, e⟩
    by_cases hL : b = L
    · rw [if_pos hL] at e; cases e
    · rw [if_neg hL] at e
      cases ho : h.get? b with
      | none => rw [ho] at e; cases e
      | some o' =>
        rw [ho] at e
        simp only [Option.map_some, Option.some.injEq, Prod.mk.injEq] at e
        obtain ⟨rfl, rfl⟩ := e
        exact ⟨hL, ho⟩
  · rintro ⟨hL, ho⟩
    exact ⟨a, List.mem_range.mpr (Heap.lt_size ho), by rw [if_neg hL, ho]; rfl⟩
theorem empty_get (a : Addr) : ({} : Heap).get? a = none := none_of_ge (Nat.zero_le _)
theorem allNews_news (L : Addr) (h : Heap) : News {} L h (allNews L h) := fun p hp => by
  obtain ⟨h1, h2⟩ := mem_allNews.mp (show (p.1, p.2) ∈ allNews L h from hp)
  exact ⟨h2, h1, empty_get _⟩
theorem fr_empty {L : Addr} {h : Heap} {m : Str → Option Value} (hn : h.Ns L m) : Fr {} L h m := ⟨hn, (fun b o e => by rw [empty_get] at e; cases e), Nat.zero_le _⟩

section
variable {prog : Program} {w : World} {A : Around} {E : Value → Shared → Prop} {s : Shared} {L : Addr} {m : Str → Option Value} {nd : Nat → Addr} {n : Nat}

theorem node_items {h : Heap} {k : Nat} {a : Addr} (hk : (nodeKind prog w nmL).is h k a) : ∃ o items c t t', h.get? a = some o ∧ o.cls = .type "tuple" ∧ o.data = .seq items c ∧ items.toList = [.int (k : Int) t, .str (nmL k) t'] := by
  obtain ⟨o, items, c, ho, hc, hd, hi⟩ := hk
  unfold nodeKey at hi
  have : ∃ t t', items.toList = [.int (k : Int) t, .str (nmL k) t'] := by
    generalize items.toList = l at hi
    cases hi with
    | cons h1 h2 =>
      cases h2 with
      | cons h3 h4 =>
        cases h4
        obtain ⟨t, rfl⟩ := Value.isInt_shape h1
        obtain ⟨t', rfl⟩ := Value.isStrOf_shape h3
        exact ⟨t, t', rfl⟩
  obtain ⟨t, t', e⟩ := this
  exact ⟨o, items, c, t, t', ho, hc, hd, e⟩

/-- one node is asked against another -/
theorem node_lt {a b : Addr} {j k : Nat} {Q : Bool → Shared → Prop} (ha : (nodeKind prog w nmL).is s.heap j a) (hb : (nodeKind prog w nmL).is s.heap k b) (h : ∀ tk, Q (decide (j < k)) { s with toks := tk }) :
    wpAny (model prog w) A (keyLt' (tuples' true) (.ref a) (.ref b)) Q E s := by
  obtain ⟨oa, ia, ca, ta, ta', ea, _, da, la⟩ := node_items ha
  obtain ⟨ob, ib, cb, tb, tb', eb, _, db, lb⟩ := node_items hb
  refine kat_lt ea da eb db ?_
  have sa : ia.size = 2 := by rw [← Array.length_toList, la]; rfl
  have sb : ib.size = 2 := by rw [← Array.length_toList, lb]; rfl
  rw [la, lb, sa, sb]
  refine kat_cons (wpAny_eqBool_int ?_)
  by_cases hjk : j = k
  · subst hjk
    have e : ((j : Int) == (j : Int)) = true := by simp
    rw [e]
    refine kat_yes (kat_cons (wpAny_eqBool_str ?_))
    have e2 : decide (nmL j = nmL j) = true := by simp
    have e3 : (decide (j < j)) = decide (2 < 2) := by simp
    first
      | rw [e2]
      | skip
    refine kat_go (fun _ => kat_yes (kat_nil ?_)) (fun h0 => ?_)
    · rw [e3] at h; exact h _
    · simp at h0
  · have e : ((j : Int) == (k : Int)) = false := by simp; omega
    rw [e]
    refine kat_no (oneLt_int ?_)
    have e4 : decide ((j : Int) < (k : Int)) = decide (j < k) := by
      by_cases h1 : j < k
      · rw [decide_eq_true h1]; exact decide_eq_true (by omega)
      · rw [decide_eq_false h1]; exact decide_eq_false (by omega)
    rw [e4]
    exact h _

theorem firsts_of {h : Heap} (hnd : ∀ k, k < n → (nodeKind prog w nmL).is h k (nd k)) : ∀ ks : List Nat, (∀ k ∈ ks, k < n) → ∃ fs : List Value, KatTups h (ks.map fun k => Value.ref (nd k)) fs ∧ fs.length = ks.length ∧ ∀ v ∈ fs, ∃ i t, v = .int i t
  | [], _ => ⟨[], .nil, rfl, fun v hv => nomatch hv⟩
  | k :: r, hk => by
    obtain ⟨fs, h1, h2, h3⟩ := firsts_of hnd r fun j hj => hk j (by simp [hj])
    obtain ⟨o, items, c, t, t', e, hc, hd, hi⟩ := node_items (hnd k (hk k (by simp)))
    refine ⟨.int (k : Int) t :: fs, .cons e hc hd ?_ h1, by simp [h2], fun v hv => ?_⟩
    · rw [← Array.getElem?_toList, hi]; rfl
    · rcases List.mem_cons.mp hv with rfl | hv
      · exact ⟨_, _, rfl⟩
      · exact h3 v hv

theorem sorted_nodes2 {l : Addr} {ks : List Nat} {Q : Value → Shared → Prop} (hn : s.heap.Ns L m) (hnd : ∀ k, k < n → (nodeKind prog w nmL).is s.heap k (nd k)) (hl : s.heap.IsList l (ks.map fun k => Value.ref (nd k)).toArray)
    (hlen : ks.length = n) (hlt : ∀ k ∈ ks, k < n) (hnod : ks.Nodup) (h2 : 2 ≤ n) (h8 : n ≤ 8)
    (h : ∀ h' D tk, h'.Ns L m → (∀ b o, b ≠ L → s.heap.get? b = some o → h'.get? b = some o) → s.heap.get? D = none → D ≠ L → h'.PlainList D ((List.range n).map fun k => Value.ref (nd k)).toArray → Q (.ref D) { s with heap := h', toks := tk }) :
    wpAny (model prog w) A (call (.builtin "sorted") [.ref l]) Q E s := by
  have hvl : (ks.map fun k => Value.ref (nd k)).length = n := by simp [hlen]
  refine kat_sorted (h₀ := {}) (L := L) (m := m) (news := allNews L s.heap) (fr_empty hn) (allNews_news L s.heap) hl (by omega) (by omega) fun D e1 h' F' N' hD => ?_
  have keep : ∀ b o, b ≠ L → s.heap.get? b = some o → h'.get? b = some o := fun b o hb e => (N' (b, o) (List.mem_cons_of_mem _ (mem_allNews.mpr ⟨hb, e⟩))).1
  have hDL : D ≠ L := (N' _ (.head _)).2.1
  have hD0 : s.heap.get? D = none := by
    cases e : s.heap.get? D with
    | none => rfl
    | some o => exact absurd (hD (D, o) (mem_allNews.mpr ⟨hDL, e⟩)) (Nat.lt_irrefl _)
  have hnd' : ∀ k, k < n → (nodeKind prog w nmL).is h' k (nd k) := fun k hk => by
    obtain ⟨o, items, c, ho, r⟩ := hnd k hk
    refine ⟨o, items, c, keep _ _ (fun e => ?_) ho, r⟩
    obtain ⟨o', es, ep, ho', hd', _⟩ := hn
    rw [e, ho'] at ho; cases ho
    rw [hd'] at r
    exact nomatch r.2.1
  obtain ⟨fs, t1, t2, t3⟩ := firsts_of hnd' ks hlt
  refine kat_kind (s := { s with heap := h' }) (T := .type "int") t1 (by omega) (fun v hv => by obtain ⟨i, t, rfl⟩ := t3 v hv; exact Looks.of_pure rfl) (by decide) ?_
  have ek : (Value.type "int" != Value.type "tuple") = true := by decide
  rw [ek, hvl]
  have hf : Inj (fun i => ks.getD i 0) n := fun i j hi hj e => by
    have e1 : ks.getD i 0 = ks[i]'(by omega) := by simp [hlen, hi]
    have e2 : ks.getD j 0 = ks[j]'(by omega) := by simp [hlen, hj]
    dsimp only at e
    rw [e1, e2] at e
    exact (List.getElem_inj hnod).mp e
  have hfl : ∀ i, i < n → ks.getD i 0 < n := fun i hi => by
    have e1 : ks.getD i 0 = ks[i]'(by omega) := by simp [hlen, hi]
    rw [e1]; exact hlt _ (List.getElem_mem _)
  have hv : ∀ i, i < n → (ks.map fun k => Value.ref (nd k)).getD i Value.none = .ref (nd (ks.getD i 0)) := fun i hi => by
    simp [hlen, hi]
  refine Run.wp (s := { s with heap := h' }) (lt := ltf fun i => ks.getD i 0) (N := n) ?_ _ _ (run_sort hf h2) ?_
  · intro i j hi hj C tk hC
    unfold kas_ask
    rw [hv i hi, hv j hj]
    exact node_lt (s := { s with heap := h', toks := tk }) (hnd' _ (hfl i hi)) (hnd' _ (hfl j hj)) hC
  · rintro p tk' ⟨G, hI⟩
    have hid := rise_id (h := g (fun i => ks.getD i 0) p) (fun k hk => hfl _ (G.lt k hk)) hI
    have hout : (p.toList.map fun i => (ks.map fun k => Value.ref (nd k)).getD i Value.none) = (List.range n).map fun k => Value.ref (nd k) := by
      apply List.ext_getElem?
      intro k
      rw [List.getElem?_map, List.getElem?_map, Array.getElem?_toList]
      by_cases hk : k < n
      · rw [getD_of (by rw [G.size]; exact hk), List.getElem?_range hk]
        simp only [Option.map_some, Option.some.injEq]
        rw [hv _ (G.lt k hk)]
        have := hid k hk
        unfold g at this
        dsimp only at this
        rw [this]
      · have e1 : p[k]? = none := by simp [G.size]; omega
        have e2 : (List.range n)[k]? = none := by simp; omega
        rw [e1, e2]; rfl
    rw [hout]
    refine KasFin.intro (s := { s with heap := h', toks := tk' }) F' N' (.head fun q hq e => ?_) fun h'' c F'' N'' => ?_
    · have := hD q hq
      rw [e] at this; exact Nat.lt_irrefl _ this
    · refine h h'' D tk' F''.ns (fun b o hb e => (N'' (b, o) (List.mem_cons_of_mem _ (mem_allNews.mpr ⟨hb, e⟩))).1) hD0 hDL ⟨c, (N'' _ (.head _)).1⟩

/-- a list of one is sorted as it lies -/
theorem list_sort_one {a : Addr} {v : Value} {c : Nat} {P : PySem.Fin → Shared → Prop} (ho : s.heap.get? a = some (seqObj "list" [v].toArray c))
    (h : ∀ h' e, (∀ b o, b ≠ a → s.heap.get? b = some o → h'.get? b = some o) → h'.get? a = some (seqObj "list" [v].toArray e) → P (.done (.ret .none)) { s with heap := h' }) :
    wpAny (model prog w) A (Builtin.«list.sort» ⟨[.ref a], []⟩) P E s := by
  have ha : a < s.heap.objs.size := Heap.lt_size ho
  have s1 := Heap.SameBut.update s.heap a (Obj.mapSeq fun _ => (#[] : Array Value))
  obtain ⟨e1, ho1⟩ : ∃ e1, (s.heap.update a (Obj.mapSeq fun _ => (#[] : Array Value))).get? a = some (seqObj "list" #[] e1) := ⟨_, get?_update_seq ho fun _ => #[]⟩
  rw [list_sort_plain]
  refine wpAny_bind (listItems_at ho rfl ?_)
  refine wpAny_bind (listUpdate_at ho rfl ?_ (by rw [List.size_toArray, sizeLine_eq]; show 1 ≤ _; decide) (Nat.zero_le _))
  refine wpAny_bind (seqEpoch_at ho1 rfl ?_)
  refine wpAny_bind (wpAny_newTuple ?_ (by show 1 ≤ _; rw [sizeLine_eq]; decide))
  refine wpAny_bind (wpAny_newList ?_ (Nat.zero_le _))
  refine wpAny_holding ?_
  have s2 : ∀ b o, b ≠ a → s.heap.get? b = some o → (((s.heap.update a (Obj.mapSeq fun _ => (#[] : Array Value))).push (seqObj "tuple" [v].toArray 0)).push (seqObj "list" #[] 0)).get? b = some o := fun b o hb e =>
    Heap.get?_push_of_some _ (Heap.get?_push_of_some _ (s1.extBut b o hb e))
  have ho3 : (((s.heap.update a (Obj.mapSeq fun _ => (#[] : Array Value))).push (seqObj "tuple" [v].toArray 0)).push (seqObj "list" #[] 0)).get? a = some (seqObj "list" #[] e1) := Heap.get?_push_of_some _ (Heap.get?_push_of_some _ ho1)
  show wpAny (model prog w) A _ P E { s with heap := ((s.heap.update a (Obj.mapSeq fun _ => (#[] : Array Value))).push (seqObj "tuple" [v].toArray 0)).push (seqObj "list" #[] 0) }
  generalize ((s.heap.update a (Obj.mapSeq fun _ => (#[] : Array Value))).push (seqObj "tuple" [v].toArray 0)).push (seqObj "list" #[] 0) = h3 at s2 ho3 ⊢
  dsimp only
  have hlt : [v].toArray.size < 2 := by simp
  rw [if_pos hlt, if_pos hlt]
  refine wpAny_bind (wpAny_pure ?_)
  rw [StateT.run_pure]
  refine wpAny_bind (wpAny_pure ?_)
  dsimp only
  refine wpAny_bind (seqEpoch_at (s := { s with heap := h3 }) ho3 rfl ?_)
  refine wpAny_bind (listUpdate_at (s := { s with heap := h3 }) ho3 rfl ?_ (Nat.zero_le _) (by show ((pairsOf [v]).map (·.2)).size ≤ _; rw [Array.size_map, pairsOf_size, sizeLine_eq]; show 1 ≤ _; decide))
  simp only [bne_self_eq_false, Bool.false_eq_true, if_false]
  have s4 := Heap.SameBut.update h3 a (Obj.mapSeq fun _ => (pairsOf [v]).map (·.2))
  obtain ⟨c2, hc2⟩ : ∃ c2, (h3.update a (Obj.mapSeq fun _ => (pairsOf [v]).map (·.2))).get? a = some (seqObj "list" ((pairsOf [v]).map (·.2)) c2) := ⟨_, get?_update_seq ho3 fun _ => (pairsOf [v]).map (·.2)⟩
  have e2 : (pairsOf [v]).map (·.2) = [v].toArray := by simp [pairsOf]
  refine wpAny_pure (h _ c2 (fun b o hb e => s4.extBut b o hb (s2 b o hb e)) ?_)
  exact hc2.trans (by rw [e2])

theorem sorted_one {l : Addr} {v : Value} {Q : Value → Shared → Prop} (hl : s.heap.IsList l [v].toArray)
    (h : ∀ h' D, Sub s.heap h' → s.heap.get? D = none → h'.PlainList D [v].toArray → Q (.ref D) { s with heap := h' }) :
    wpAny (model prog w) A (call (.builtin "sorted") [.ref l]) Q E s := by
  refine Calls.call_function_entry kind_sorted plain_sorted entry_sorted (args_sorted1 _) ?_
  unfold Builtin.«sorted»
  refine wpAny_bind (m := checkCount "sorted" 1 1 _) (wpAny_pure ?_)
  refine wpAny_bind (collect_list hl ?_ (by rw [sizeLine_eq]; show 1 ≤ _; decide))
  refine wpAny_bind (wpAny_newList ?_ (by rw [sizeLine_eq]; show 1 ≤ _; decide))
  have hsz : ((s.heap.push (seqObj "list" #[] 0)).update s.heap.objs.size (Obj.mapSeq (· ++ [v].toArray))).objs.size = s.heap.objs.size + 1 := by
    rw [Heap.size_update, size_push']
  have hoL : (((s.heap.push (seqObj "list" #[] 0)).update s.heap.objs.size (Obj.mapSeq (· ++ [v].toArray))).push (seqObj "list" [v].toArray 0)).get? (s.heap.objs.size + 1) = some (seqObj "list" [v].toArray 0) := by
    rw [← hsz]; exact Heap.get?_push_size _ rfl
  have keep : ∀ b o, s.heap.get? b = some o → (((s.heap.push (seqObj "list" #[] 0)).update s.heap.objs.size (Obj.mapSeq (· ++ [v].toArray))).push (seqObj "list" [v].toArray 0)).get? b = some o := fun b o q => by
    have hlt : b < s.heap.objs.size := Heap.lt_size q
    rw [Heap.get?_push_ne _ _ _ (by rw [hsz]; exact Nat.ne_of_lt (Nat.lt_succ_of_lt hlt)), Heap.get?_update_ne _ _ _ _ (Nat.ne_of_lt hlt), Heap.get?_push_ne _ _ _ (Nat.ne_of_lt hlt)]
    exact q
  have hnone : s.heap.get? (s.heap.objs.size + 1) = none := none_of_ge (Nat.le_succ _)
  show wpAny _ _ _ _ _ { s with heap := ((s.heap.push (seqObj "list" #[] 0)).update s.heap.objs.size (Obj.mapSeq (· ++ [v].toArray))).push (seqObj "list" [v].toArray 0) }
  rw [hsz]
  refine wpAny_bind (wpAny_holding (wpAny_call_entry slot_list_sort ⟨_, hoL, rfl⟩ entry_list_sort ?body (args_list_sort _)))
  case body =>
    refine list_sort_one (s := { s with heap := ((s.heap.push (seqObj "list" #[] 0)).update s.heap.objs.size (Obj.mapSeq (· ++ [v].toArray))).push (seqObj "list" [v].toArray 0) }) hoL fun h' e hk hp => ?_
    exact ⟨_, rfl, wpAny_pure ⟨_, rfl, h h' _ (fun b o q => hk b o (fun e' => by rw [e', hnone] at q; cases q) (keep b o q)) hnone ⟨e, hp⟩⟩⟩

theorem sorted_nodes {l : Addr} {ks : List Nat} {Q : Value → Shared → Prop} (hn : s.heap.Ns L m) (hnd : ∀ k, k < n → (nodeKind prog w nmL).is s.heap k (nd k)) (hl : s.heap.IsList l (ks.map fun k => Value.ref (nd k)).toArray)
    (hlen : ks.length = n) (hlt : ∀ k ∈ ks, k < n) (hnod : ks.Nodup) (h1 : 1 ≤ n) (h8 : n ≤ 8)
    (h : ∀ h' D tk, h'.Ns L m → (∀ b o, b ≠ L → s.heap.get? b = some o → h'.get? b = some o) → s.heap.get? D = none → D ≠ L → h'.PlainList D ((List.range n).map fun k => Value.ref (nd k)).toArray → Q (.ref D) { s with heap := h', toks := tk }) :
    wpAny (model prog w) A (call (.builtin "sorted") [.ref l]) Q E s := by
  by_cases h2 : 2 ≤ n
  · exact sorted_nodes2 hn hnd hl hlen hlt hnod h2 h8 h
  · have e1 : n = 1 := by omega
    subst e1
    obtain ⟨k, rfl⟩ : ∃ k, ks = [k] := by
      match ks, hlen with
      | [k], _ => exact ⟨k, rfl⟩
    have hk : k = 0 := by have := hlt k (by simp); omega
    subst hk
    refine sorted_one hl fun h' D hs hD hp => ?_
    refine h h' D s.toks (hn.keeps hs) (fun b o _ e => hs b o e) hD (fun e => ?_) (by simpa using hp)
    obtain ⟨o, _, _, ho, _⟩ := hn
    rw [e, ho] at hD; cases hD
end
end Mine

end
section
/- MLaw12 -/
open PySem PySem.W PyProof.Rows
open PySem.Builtin.Int (intBits)
set_option maxRecDepth 100000
set_option linter.unusedVariables false
namespace Mine

theorem nodeD_can (k : Nat) : (nodeD k).canLay0 = true := by simp [nodeD, PyData.canLay0, PyData.canLayAll0, nmL_ok]
theorem nodesD_can : ∀ l : List Nat, PyData.canLayAll0 (l.map nodeD) = true
  | [] => rfl
  | k :: r => by
    simp only [List.map_cons, PyData.canLayAll0, Bool.and_eq_true]
    exact ⟨nodeD_can k, nodesD_can r⟩
theorem entryD_can (rel : Nat → List Nat) (k : Nat) : (entryD rel k).canLay0 = true := by
  simp only [entryD, rowD, PyData.canLay0, PyData.canLayAll0, Bool.and_eq_true, Bool.and_true]
  exact ⟨nodeD_can k, nodesD_can _⟩
theorem entriesD_can (rel : Nat → List Nat) : ∀ l : List Nat, PyData.canLayAll0 (l.map (entryD rel)) = true
  | [] => rfl
  | k :: r => by
    simp only [List.map_cons, PyData.canLayAll0, Bool.and_eq_true]
    exact ⟨entryD_can rel k, entriesD_can rel r⟩
theorem nodeD_depth (k : Nat) : (nodeD k).depth ≤ 1 := by simp [nodeD, PyData.depth, PyData.depthAll]
theorem nodesD_depth : ∀ l : List Nat, PyData.depthAll (l.map nodeD) ≤ 1
  | [] => by simp [PyData.depthAll]
  | k :: r => by
    simp only [List.map_cons, PyData.depthAll]
    exact Nat.max_le.mpr ⟨nodeD_depth k, nodesD_depth r⟩
theorem rowD_depth (rel : Nat → List Nat) (k : Nat) : (rowD rel k).depth ≤ 2 := by
  have := nodesD_depth (rel k)
  simp only [rowD, PyData.depth]; omega
theorem entryD_depth (rel : Nat → List Nat) (k : Nat) : (entryD rel k).depth ≤ 3 := by
  have h1 := nodeD_depth k
  have h2 := rowD_depth rel k
  simp only [entryD, PyData.depth, PyData.depthAll]; omega
theorem entriesD_depth (rel : Nat → List Nat) : ∀ l : List Nat, PyData.depthAll (l.map (entryD rel)) ≤ 3
  | [] => by simp [PyData.depthAll]
  | k :: r => by
    simp only [List.map_cons, PyData.depthAll]
    exact Nat.max_le.mpr ⟨entryD_depth rel k, entriesD_depth rel r⟩

section
variable {la : Addr} {prog : Program} {w : World} {A : Around} {E : Value → Shared → Prop} {s : Shared} {env : Env} {hb h h' : Heap} {L lx aN aR aO aX : Addr} {ps : Array Value} {m cm mg mb : Str → Option Value} {nd row ow : Nat → Addr} {n : Nat} {rel : Nat → List Nat} {own : Nat → List Str}

theorem LF.nsAt (T : LF hb L ps h m cm) (hn : h'.Ns L m) (hk : ∀ b o, b ≠ L → h.get? b = some o → h'.get? b = some o) : LF hb L ps h' m cm where
  ns := hn
  cl := ⟨fun n c e => by
    obtain ⟨o, ho, hd⟩ := T.cl.cell n c e
    have hLc : @LT.lt Nat _ L c := T.cl.above n c (mem_of_lookup e)
    exact ⟨o, hk _ o (Nat.ne_of_gt hLc) ho, hd⟩, T.cl.apart, T.cl.above⟩
  tab := hk _ _ (by have := T.lt; exact Nat.ne_of_lt this) T.tab
  keep := fun b o e => hk b o (fun e' => by rw [e', T.noL] at e; cases e) (T.keep b o e)
  noL := T.noL
  noC := T.noC
  noT := T.noT
  lt := T.lt

theorem ne_same {a b : Value} {d : PyData} {as bs : List Addr} {Q : Value → Shared → Prop} (ra : Reads s.heap a d as) (rb : Reads s.heap b d bs) (hc : d.canLay0 = true) (hd : A.units + d.depth < cLine) (h : Q (.bool false) s) :
    wpAny (model prog w) A (compareOp .NotEq a b) Q E s := by
  show wpAny (model prog w) A (richCompare .NotEq _ _) Q E s
  refine neOver prog w A E s _ _ d d as bs Q ra rb hc hc (by rw [Nat.min_self]; exact hd) ?_
  rw [SeqAt.eqv_refl d hc]; exact h

theorem node_ne_L (T : LF hb L ps s.heap m cm) {b : Addr} (hb' : ∃ o, hb.get? b = some o) : b ≠ L := fun e => by
  obtain ⟨o, e'⟩ := hb'
  rw [e, T.noL] at e'; cases e'

structure ToldL (prog : Program) (w : World) (hb : Heap) (nd : Nat → Addr) (n : Nat) (dF : Addr) (xs : List (Nat × Addr × Value)) (fa : Nat → Addr) (fl : Nat → List Str) : Prop where
  sys : (dF == sysModules) = false
  dict : hb.DictOfH (nodeKind prog w nmL) dF xs
  keys : ∀ x ∈ xs, x.1 < n ∧ x.2.1 = nd x.1
  val : ∀ k, k < n → valAt xs k = some (.ref (fa k))
  list : ∀ k, k < n → StrL abcL hb (fa k) (fl k)

variable {la : Addr} {dF : Addr} {xs : List (Nat × Addr × Value)} {fa : Nat → Addr} {fl : Nat → List Str}
theorem ToldL.nodup (D : ToldL prog w hb nd n dF xs fa fl) : (xs.map (·.1)).Nodup := by
  obtain ⟨o, es, ep, _, _, _, _, _, hn⟩ := D.dict
  exact hn
theorem ToldL.len (D : ToldL prog w hb nd n dF xs fa fl) : (xs.map (·.1)).length = n := by
  have h1 := nodup_length_le n (xs.map (·.1)) D.nodup (fun k hk => by
    obtain ⟨y, hy, rfl⟩ := List.mem_map.mp hk
    exact (D.keys y hy).1)
  have h2 := mem_len (List.range n) (xs.map (·.1)) List.nodup_range (fun k hk => by
    obtain ⟨p, e1, _⟩ := atKey_of_val (D.val k (List.mem_range.mp hk))
    exact List.mem_map.mpr ⟨(k, p), atKey_addr e1, rfl⟩)
  rw [List.length_range] at h2
  omega
theorem ToldL.sub (D : ToldL prog w hb nd n dF xs fa fl) (hnd : ∀ k, k < n → (nodeKind prog w nmL).is hb k (nd k)) (hs : Sub hb h) : ToldL prog w h nd n dF xs fa fl where
  sys := D.sys
  dict := dictAt D.dict (hs _) fun y hy => by
    obtain ⟨h1, h2⟩ := D.keys y hy
    rw [h2]; exact is_sub (hnd _ h1) hs
  keys := D.keys
  val := D.val
  list := fun k hk => (D.list k hk).at fun o e => hs _ o e

/-- if sorted([x for x in told]) != sorted(nodes) or [(x, related[x]) for x in nodes] != before: return False -/
theorem exec_S11 {aB : Addr} {as : List Addr} {Q : Flow → Shared → Prop} (r : RoomL A) (G : GlobL hb mg mb) (B : Built prog w hb aN aR aO nd n row rel ow own) (T : LF hb L ps s.heap m cm) (D : ToldL prog w hb nd n dF xs fa fl)
    (hcN : cm (Str.ofString "nodes") = some (.ref aN)) (hcR : cm (Str.ofString "related") = some (.ref aR)) (hT : m (Str.ofString "told") = some (.ref dF)) (hB : m (Str.ofString "before") = some (.ref aB)) (rB : Reads hb (.ref aB) (.list ((List.range n).map (entryD rel))) as)
    (h : ∀ h' tk hb', LF hb' L ps h' m cm → Sub hb hb' → Q .next { s with heap := h', toks := tk }) :
    wpAny (model prog w) A (exec lawS11 (lawEnv la L)) Q E s := by
  unfold lawS11 lawBody lawStmt PySem.Challenge.pw_kk0044_01
  dsimp only
  have hlen : xs.length = n := by have := D.len; simpa using this
  have hn8 := B.n8
  refine wpAny_If (isTrue_or (wpAny_isTrue_Compare1 (wpAny_Call_NameR (rdB T G (v := .builtin "sorted") (by simp) (by rfl) ?_))))
  refine callWith_bi rfl (Calls.spliced_cons ?_)
  refine comp_keys (K := Nat) (knd := nodeKind prog w nmL) (x := Str.ofString "x") (cl := []) r.1 (by rfl) (by rfl) (by decide) (by rfl) (by decide) ?_
  refine rdL T hT ⟨dF, xs, rfl, D.sys, (D.sub B.node T.keep).dict, by omega, fun h₁ D1 tk₁ hs1 hD0 hD1 => Calls.spliced_nil ?_⟩
  have T1 := T.sub hs1
  have B1 := B.sub T1.keep
  have e1 : (xs.map fun y => Value.ref y.2.1) = (xs.map (·.1)).map fun k => Value.ref (nd k) := by
    rw [List.map_map]
    exact List.map_congr_left fun y hy => by show Value.ref y.2.1 = Value.ref (nd y.1); rw [(D.keys y hy).2]
  rw [e1] at hD1
  refine sorted_nodes (s := { s with heap := h₁, toks := tk₁ }) (n := n) (ks := xs.map (·.1)) T1.ns B1.node hD1.isList D.len (fun k hk => by obtain ⟨y, hy, rfl⟩ := List.mem_map.mp hk; exact (D.keys y hy).1) D.nodup B.n1 B.n8 fun h₂ D2 tk₂ hn2 hk2 hD20 hD2L hD2 => ?_
  have T2 := T1.nsAt hn2 hk2
  have B2 := B.sub T2.keep
  refine wpAny_Call_NameR (rdB (s := { s with heap := h₂, toks := tk₂ }) T2 G (v := .builtin "sorted") (by simp) (by rfl) ?_)
  refine callWith_bi rfl (Calls.spliced_cons (rdC (s := { s with heap := h₂, toks := tk₂ }) (c := L + 1) T2 hcN (Calls.spliced_nil ?_)))
  refine sorted_nodes (s := { s with heap := h₂, toks := tk₂ }) (n := n) (ks := List.range n) T2.ns B2.node B2.nodes.isList (by simp) (fun k hk => List.mem_range.mp hk) List.nodup_range B.n1 B.n8 fun h₃ D3 tk₃ hn3 hk3 hD30 hD3L hD3 => ?_
  have T3 := T2.nsAt hn3 hk3
  have B3 := B.sub T3.keep
  have hD2' := hD2.at fun o e => hk3 _ o hD2L e
  have rd : ∀ {D'}, h₃.PlainList D' ((List.range n).map fun k => Value.ref (nd k)).toArray → Reads h₃ (.ref D') (.list ((List.range n).map nodeD)) [D'] := fun {D'} hp => by
    obtain ⟨c, e⟩ := hp
    exact .list (as := []) e rfl rfl (by simpa using nodes_reads B3.node (List.range n) (fun j hj => List.mem_range.mp hj))
  refine ne_same (s := { s with heap := h₃, toks := tk₃ }) (rd hD2') (rd hD3) (by simp only [PyData.canLay0]; exact nodesD_can _) ?_ (wpAny_truthy_bool ?_)
  · have := nodesD_depth (List.range n)
    have := r.2.2
    simp only [PyData.depth]; omega
  rw [if_neg (by simp)]
  refine isTrue_or (wpAny_isTrue_Compare1 ?_)
  refine comp_value (s := { s with heap := h₃, toks := tk₃ }) (cl := [(Str.ofString "related", L + 1 + 1 + 1 + 1 + 1)]) (by rfl) (by rfl) (by decide) ?_
  refine nodes_comp (s := { s with heap := h₃, toks := tk₃ }) (ent := entryD rel) r T3 hcN B.nodes B.n8 ?_ ?_ ?_ ?_
  · rfl
  · rfl
  · intro C k hb' h₁ tk₁ m' hk hsub T1 hC hx
    have B1 := B.sub hsub
    have B2 := B1.sub T1.keep
    refine wpAny_Tuple (Calls.spliced_cons (rdXL (s := { s with heap := h₁, toks := tk₁ }) (C := C) hC hx (Calls.spliced_cons ?_)))
    refine Subscript_ (rdXC (s := { s with heap := h₁, toks := tk₁ }) T1 (c := L + 1 + 1 + 1 + 1 + 1) hcR (rdXL (s := { s with heap := h₁, toks := tk₁ }) (C := C) hC hx ?_))
    refine dtail (s := { s with heap := h₁, toks := tk₁ }) B2.related (B1.get_row (s := { s with heap := h₁, toks := tk₁ }) r.in1 hk T1.keep fun tk₂ => ?_) rfl
    refine Calls.spliced_nil ⟨(by show 2 ≤ sizeLine; rw [sizeLine_num]; decide), _, _, rfl, fun b o e => Heap.get?_push_of_some _ e, fun hx hsx hnew => ?_⟩
    have hT0 : h₁.get? h₁.objs.size = none := none_of_ge (Nat.le_refl _)
    have eT := hnew h₁.objs.size _ hT0 (Heap.get?_push_size _ rfl)
    have Bx := B1.sub hsx
    obtain ⟨as', hr⟩ := Bx.row_reads hk
    exact ⟨_, .tuple eT rfl rfl (.cons (nodeD_reads (Bx.node k hk)) (.cons hr .nil))⟩
  · intro h₀ D4 C h₄ tk₄ mC hb' as' T4 hsub hC hCH hDC hR
    refine ⟨rfl, h₄, tk₄, mC, rfl, hC, fun h₅ hs5 => ?_⟩
    have T5 := T4.but hs5.extBut hCH
    refine rdL (s := { s with heap := h₅, toks := tk₄ }) T5 hB ?_
    refine ne_same (s := { s with heap := h₅, toks := tk₄ }) (Reads.keeps T5.keep hR) (Reads.keeps (fun b o e => T5.keep b o (hsub b o e)) rB) (by simp only [PyData.canLay0]; exact entriesD_can rel _) ?_ (wpAny_truthy_bool ?_)
    · have := entriesD_depth rel (List.range n)
      have := r.2.2
      simp only [PyData.depth]; omega
    rw [if_neg (by simp)]
    refine isTrue_or_nil ?_
    rw [if_neg (by simp)]
    exact wpAny_execs_nil (h h₅ tk₄ hb' T5 hsub)
end
end Mine

end
section
/- MLaw13 -/
open PySem PySem.W PyProof.Rows PySem.Spec
set_option maxRecDepth 100000
set_option linter.unusedVariables false
namespace Mine

theorem closed_reach {rel : Nat → List Nat} {x : Nat} {ms : List Nat} (hx : x ∈ ms) (hsub : ∀ y ∈ ms, Reach rel x y) (hcl : ∀ y ∈ ms, ∀ z ∈ rel y, z ∈ ms) (y : Nat) : y ∈ ms ↔ Reach rel x y := by
  refine ⟨hsub y, fun h => ?_⟩
  have : ∀ a b, Reach rel a b → a ∈ ms → b ∈ ms := by
    intro a b h
    induction h with
    | refl _ => exact fun h => h
    | step h1 _ ih => exact fun h => ih (hcl _ h _ h1)
  exact this x y h hx
theorem Reach.snoc {rel : Nat → List Nat} {x y z : Nat} (h : Reach rel x y) (hz : z ∈ rel y) : Reach rel x z := h.trans (.step hz (.refl _))

theorem due_iff {rel : Nat → List Nat} {own : Nat → List Str} {n x : Nat} {ms : List Nat} (hlt : ∀ y ∈ ms, y < n) (hr : ∀ y, y ∈ ms ↔ Reach (relN rel n) x y) (a : Str) : (∃ y ∈ ms, a ∈ own y) ↔ Due (relN rel n) (ownN own n) x a := by
  constructor
  · rintro ⟨y, hy, ha⟩
    refine ⟨y, (hr y).mp hy, ?_⟩
    unfold ownN; rw [if_pos (hlt y hy)]; exact ha
  · rintro ⟨y, hy, ha⟩
    have hm := (hr y).mpr hy
    refine ⟨y, hm, ?_⟩
    unfold ownN at ha; rw [if_pos (hlt y hm)] at ha; exact ha

theorem rise_unique {α : Type} {f : α → Nat} : ∀ {l₁ l₂ : List α}, l₁.Pairwise (fun a b => f a < f b) → l₂.Pairwise (fun a b => f a < f b) → (∀ a, a ∈ l₁ ↔ a ∈ l₂) → l₁ = l₂
  | [], [], _, _, _ => rfl
  | [], b :: r, _, _, h => by have := (h b).mpr (by simp); cases this
  | a :: r, [], _, _, h => by have := (h a).mp (by simp); cases this
  | a :: r, b :: t, h1, h2, h => by
    rw [List.pairwise_cons] at h1 h2
    have hab : a = b := by
      have ha := (h a).mp (by simp)
      have hb := (h b).mpr (by simp)
      rcases List.mem_cons.mp ha with e | ha
      · exact e
      · rcases List.mem_cons.mp hb with e | hb
        · exact e.symm
        · have x1 := h2.1 a ha
          have x2 := h1.1 b hb
          omega
    subst hab
    congr 1
    refine rise_unique h1.2 h2.2 fun c => ⟨fun hc => ?_, fun hc => ?_⟩
    · rcases List.mem_cons.mp ((h c).mp (by simp [hc])) with e | hc'
      · subst e; have := h1.1 c hc; omega
      · exact hc'
    · rcases List.mem_cons.mp ((h c).mpr (by simp [hc])) with e | hc'
      · subst e; have := h2.1 c hc; omega
      · exact hc'

def ix (a : Str) : Nat := abcL.idxOf a
theorem ix_le : ∀ a ∈ abcL, ∀ b ∈ abcL, ltCps b.cps.toList a.cps.toList = false → ix a ≤ ix b := by decide +kernel
theorem ix_inj : ∀ a ∈ abcL, ∀ b ∈ abcL, ix a = ix b → a = b := by decide +kernel
theorem ix_abc : abcL.Pairwise (fun a b => ix a < ix b) := by decide +kernel

theorem rising_ix : ∀ (p : Str) (l : List Str), (p :: l).Nodup → (∀ a ∈ p :: l, a ∈ abcL) → risingS p l = true → (p :: l).Pairwise (fun a b => ix a < ix b)
  | p, [], _, _, _ => by simp
  | p, x :: r, hn, hm, h => by
    simp only [risingS, Bool.and_eq_true, Bool.not_eq_true'] at h
    have ih := rising_ix x r (List.nodup_cons.mp hn).2 (fun a ha => hm a (List.mem_cons_of_mem _ ha)) h.2
    have hp := hm p (by simp)
    have hx := hm x (by simp)
    have h1 := ix_le p hp x hx h.1
    have hne : p ≠ x := fun e => (List.nodup_cons.mp hn).1 (by simp [e])
    have h2 : ix p < ix x := by
      have : ix p ≠ ix x := fun e => hne (ix_inj p hp x hx e)
      omega
    rw [List.pairwise_cons]
    refine ⟨fun a ha => ?_, ih⟩
    rcases List.mem_cons.mp ha with rfl | ha
    · exact h2
    · exact Nat.lt_trans h2 ((List.pairwise_cons.mp ih).1 a ha)

theorem letters_eq {ss : List Str} {p : Str → Bool} (hn : ss.Nodup) (hm : ∀ a ∈ ss, a ∈ abcL) (hs : sortedS ss = true) (h : ∀ a ∈ abcL, a ∈ ss ↔ p a = true) : ss = abcL.filter p := by
  refine rise_unique (f := ix) ?_ (ix_abc.filter p) fun a => ?_
  · cases ss with
    | nil => simp
    | cons x r => exact rising_ix x r hn hm hs
  · rw [List.mem_filter]
    exact ⟨fun ha => ⟨hm a ha, (h a (hm a ha)).mp ha⟩, fun ⟨h1, h2⟩ => (h a h1).mpr h2⟩
end Mine

end
section
/- MLaw14 -/
open PySem PySem.W PyProof.Rows PySem.Spec
set_option maxRecDepth 100000
set_option linter.unusedVariables false
namespace Mine

def lawF12 : List Stmt := match lawS12 with | .For _ _ b _ _ => b | _ => []
def lawS12a : Stmt := match lawF12 with | s :: _ => s | _ => .Pass default
def lawS12b : Stmt := match lawF12 with | _ :: s :: _ => s | _ => .Pass default
def lawS12c : Stmt := match lawF12 with | _ :: _ :: s :: _ => s | _ => .Pass default
def lawS12d : Stmt := match lawF12 with | _ :: _ :: _ :: s :: _ => s | _ => .Pass default
def lawS12e : Stmt := match lawF12 with | _ :: _ :: _ :: _ :: s :: _ => s | _ => .Pass default
theorem lawF12_eq : lawF12 = [lawS12a, lawS12b, lawS12c, lawS12d, lawS12e] := rfl

theorem any_nodes (j : Nat) : ∀ l : List Nat, (l.map nodeD).any (fun y => y.eqv (nodeD j)) = decide (j ∈ l)
  | [] => by simp
  | k :: r => by
    rw [List.map_cons, List.any_cons, any_nodes j r]
    have e : (nodeD k).eqv (nodeD j) = decide (k = j) := node_eqv nmL k j
    rw [e]
    by_cases hk : k = j
    · subst hk; simp
    · have : ¬ j = k := fun e => hk e.symm
      simp [hk, this]

section
variable {la : Addr} {prog : Program} {w : World} {A : Around} {E : Value → Shared → Prop} {s : Shared} {hb h h' : Heap} {L aN aR aO aM : Addr} {ps : Array Value} {m cm mg mb : Str → Option Value} {nd row ow : Nat → Addr} {n : Nat} {rel : Nat → List Nat} {own : Nat → List Str}

/-- the nodes met: what holds between two turns -/
structure Met (rel : Nat → List Nat) (n x : Nat) (ms : List Nat) : Prop where
  nodup : ms.Nodup
  lt : ∀ y ∈ ms, y < n
  reach : ∀ y ∈ ms, Reach (relN rel n) x y
  mem : x ∈ ms
theorem Met.len {x : Nat} {ms : List Nat} (M : Met rel n x ms) : ms.length ≤ n := nodup_length_le n ms M.nodup M.lt
theorem Met.snoc {x v z : Nat} {ms : List Nat} (M : Met rel n x ms) (hv : v ∈ ms) (hz : z ∈ rel v) (hzn : z < n) (hnew : z ∉ ms) : Met rel n x (ms ++ [z]) where
  nodup := by
    rw [List.nodup_append]
    refine ⟨M.nodup, by simp, ?_⟩
    intro a ha b hb
    simp only [List.mem_singleton] at hb
    subst hb
    exact fun e => hnew (e ▸ ha)
  lt := fun y hy => by
    rcases List.mem_append.mp hy with hy | hy
    · exact M.lt y hy
    · simp at hy; omega
  reach := fun y hy => by
    rcases List.mem_append.mp hy with hy | hy
    · exact M.reach y hy
    · simp at hy; subst hy
      refine (M.reach v hv).snoc ?_
      unfold relN; rw [if_pos (M.lt v hv)]; exact hz
  mem := List.mem_append_left _ M.mem

theorem met_reads {h : Heap} {ms : List Nat} (hnd : ∀ k, k < n → (nodeKind prog w nmL).is h k (nd k)) (hlt : ∀ y ∈ ms, y < n) (hp : h.PlainList aM (ms.map fun k => Value.ref (nd k)).toArray) : Reads h (.ref aM) (.list (ms.map nodeD)) [aM] := by
  obtain ⟨c, e⟩ := hp
  exact .list (as := []) e rfl rfl (by simpa using nodes_reads hnd ms hlt)

/-- while at < len(met): for y in related[met[at]]: ... -/
theorem exec_S12c {x : Nat} {t : Tok} {Q : Flow → Shared → Prop} (r : RoomL A) (G : GlobL hb mg mb) (B : Built prog w hb aN aR aO nd n row rel ow own) (T : LF hb L ps s.heap m cm) (hx : x < n)
    (hcM : cm (Str.ofString "met") = some (.ref aM)) (hcR : cm (Str.ofString "related") = some (.ref aR)) (hat : m (Str.ofString "at") = some (.int ((0 : Nat) : Int) t)) (hM : s.heap.PlainList aM [Value.ref (nd x)].toArray) (hMH : ¬ Held hb L aM)
    (h : ∀ h' tk m' (ms : List Nat), LF hb L ps h' m' cm → (∀ y, y ≠ Str.ofString "at" → y ≠ Str.ofString "y" → m' y = m y) → h'.PlainList aM (ms.map fun k => Value.ref (nd k)).toArray → (∀ y ∈ ms, y < n) → ms.length ≤ n → (∀ y, y ∈ ms ↔ Reach (relN rel n) x y) →
      (∀ b o, b ≠ L → b ≠ aM → s.heap.get? b = some o → h'.get? b = some o) → Q .next { s with heap := h', toks := tk }) :
    wpAny (model prog w) A (exec lawS12c (lawEnv la L)) Q E s := by
  unfold lawS12c lawF12 lawS12 lawBody lawStmt PySem.Challenge.pw_kk0044_01
  dsimp only
  have hn8 := B.n8
  obtain ⟨oM, eM⟩ : ∃ o, s.heap.get? aM = some o := by obtain ⟨c, e⟩ := hM; exact ⟨_, e⟩
  refine wpAny_While ?_
  refine codeAny_whileLoop (fun k s' => ∃ at', ∃ ms : List Nat, ∃ h' tk m' t', s' = { s with heap := h', toks := tk } ∧ k = n + 1 - at' ∧ LF hb L ps h' m' cm ∧ (∀ y, y ≠ Str.ofString "at" → y ≠ Str.ofString "y" → m' y = m y) ∧ m' (Str.ofString "at") = some (.int ((at' : Nat) : Int) t') ∧
      h'.PlainList aM ((ms : List Nat).map fun k => Value.ref (nd k)).toArray ∧ Met rel n x ms ∧ at' ≤ ms.length ∧ (∀ v ∈ ms.take at', ∀ z ∈ rel v, z ∈ ms) ∧ (∀ b o, b ≠ L → b ≠ aM → s.heap.get? b = some o → h'.get? b = some o)) ?_ (n + 1)
    ⟨0, [x], s.heap, s.toks, m, t, rfl, rfl, T, fun _ _ _ => rfl, hat, by simpa using hM, ⟨by simp, fun y hy => by simp at hy; omega, fun y hy => by simp at hy; subst hy; exact .refl _, by simp⟩, Nat.zero_le _, by simp, fun b o _ _ e => e⟩
  rintro k s' ⟨at', ms, h₁, tk₁, m₁, t₁, rfl, rfl, T1, hm1, hat1, hM1, M, hle, hcl, hk1⟩
  have hlen := M.len
  refine wpAny_isTrue_Compare1 (rdL (s := { s with heap := h₁, toks := tk₁ }) T1 hat1 (wpAny_Call_NameR (rdB (s := { s with heap := h₁, toks := tk₁ }) T1 G (v := .builtin "len") (by simp) (by rfl) ?_)))
  refine callWith_bi rfl (Calls.spliced_cons (rdC (s := { s with heap := h₁, toks := tk₁ }) (c := L + 1 + 1 + 1) T1 hcM (Calls.spliced_nil ?_)))
  refine len_list (s := { s with heap := h₁, toks := tk₁ }) hM1.isList (by simp; omega) ?_
  show wpAny (model prog w) A (richCompare .Lt _ _) _ _ _
  refine wpAny_lt_int (wpAny_truthy_bool ?_)
  have hsz : ((ms.map fun k => Value.ref (nd k)).toArray.size : Int) = ms.length := by simp
  rw [hsz]
  by_cases hlt : at' < ms.length
  · rw [if_pos (by simp; omega)]
    have B1 := B.sub T1.keep
    generalize hv : ms[at'] = v
    have hget : ms[at']? = some v := by rw [← hv]; exact List.getElem?_eq_getElem hlt
    have hvm : v ∈ ms := List.mem_of_getElem? hget
    have hvn := M.lt v hvm
    refine wpAny_execs_cons (wpAny_For (Subscript_ (rdC (s := { s with heap := h₁, toks := _ }) (c := L + 1 + 1 + 1 + 1 + 1) T1 hcR (Subscript_ (rdC (s := { s with heap := h₁, toks := _ }) (c := L + 1 + 1 + 1) T1 hcM (rdL (s := { s with heap := h₁, toks := _ }) T1 hat1 ?_))))) (by intro _; rfl))
    refine tail_list (s := { s with heap := h₁, toks := _ }) hM1.isList (wpAny_getItem_list (s := { s with heap := h₁, toks := _ }) (x := .ref (nd v)) hM1.isList (by omega) (by omega) ?_ ?_) rfl
    · rw [show (((at' : Nat) : Int)).toNat = at' by omega]
      simp [hget]
    refine dtail (s := { s with heap := h₁, toks := _ }) B1.related (B.get_row (s := { s with heap := h₁, toks := _ }) r.in1 hvn T1.keep fun tk₂ => ?_) rfl
    have hrow1 := (B1.rows.list v hvn).isList
    refine for_list (s := { s with heap := h₁, toks := tk₂ }) (items := ((rel v).map fun j => Value.ref (nd j)).toArray) (m0 := m₁) r.1 (by rfl) (by rfl) hrow1 (by obtain ⟨o, _, _, e, _⟩ := T1.ns; exact ⟨o, e⟩)
      (fun i h m' => ∃ ms' : List Nat, LF hb L ps h m' cm ∧ (∀ y, y ≠ Str.ofString "y" → m' y = m₁ y) ∧ h.PlainList aM ((ms' : List Nat).map fun k => Value.ref (nd k)).toArray ∧ Met rel n x ms' ∧ (∃ ext, ms' = ms ++ ext) ∧ (∀ z ∈ (rel v).take i, z ∈ ms') ∧
        (∀ b o, b ≠ L → b ≠ aM → s.heap.get? b = some o → h.get? b = some o))
      (fun i h m' ⟨ms', T', _⟩ => T'.ns) (fun i h m' ⟨ms', T', _⟩ => (B.rows.list v hvn).isList.at fun o e => T'.keep _ _ e) ?_ ?_ ?_ ?_
    · rintro i h h' m' It j ⟨ms', T', hm', hp', M', hext, hz, hk⟩ hIt hit hx'
      dsimp only at hIt
      have hItH := T1.new hIt
      have hMI : aM ≠ It := fun e => by obtain ⟨c, e'⟩ := hM1; rw [e, hIt] at e'; cases e'
      refine ⟨ms', T'.but hx' hItH, hm', hp'.at fun o e => hx' _ o hMI e, M', hext, hz, fun b o hbL hbM e => hx' b o (fun e' => ?_) (hk b o hbL hbM e)⟩
      have := hk1 b o hbL hbM e
      rw [e', hIt] at this; cases this
    · intro h' hs'
      exact ⟨ms, T1.sub hs', fun _ _ => rfl, hM1.at fun o e => hs' _ o e, M, ⟨[], by simp⟩, by simp, fun b o hbL hbM e => hs' b o (hk1 b o hbL hbM e)⟩
    · rintro i v' h₂ m₂ It hitem ⟨ms', T', hm', hp', M', ⟨ext, hext⟩, hz, hk⟩ hIt hit h₃ tk₃ hn3 hs3 hit3
      dsimp only at hIt
      have hi : i < (rel v).length := by
        have := (Array.getElem?_eq_some_iff.mp hitem).1
        simpa using this
      generalize hj : (rel v)[i] = j
      have hgetj : (rel v)[i]? = some j := by rw [← hj]; exact List.getElem?_eq_getElem hi
      have hvj : v' = .ref (nd j) := by
        have : ((rel v).map fun j => Value.ref (nd j)).toArray[i]? = some (.ref (nd j)) := by simp [hgetj]
        rw [this] at hitem; exact (Option.some.inj hitem).symm
      subst hvj
      have hjm : j ∈ rel v := List.mem_of_getElem? hgetj
      have hjn := B.rows.lt v hvn j hjm
      have T3 := T'.set hn3 hs3
      have hp3 := hp'.at fun o e => hs3.extBut _ o (neL hMH) e
      have B3 := B.sub T3.keep
      have hzn : ∀ ms'' : List Nat, (∀ z ∈ ms', z ∈ ms'') → j ∈ ms'' → ∀ z ∈ (rel v).take (i + 1), z ∈ ms'' := fun ms'' h1 h2 z hz' => by
        rw [List.take_add_one, hgetj] at hz'
        rcases List.mem_append.mp hz' with hz' | hz'
        · exact h1 z (hz z hz')
        · simp at hz'; subst hz'; exact h2
      have upk : ∀ b o, b ≠ L → b ≠ aM → s.heap.get? b = some o → h₃.get? b = some o := fun b o hbL hbM e => hs3.extBut b o hbL (hk b o hbL hbM e)
      have hm3 : ∀ y, y ≠ Str.ofString "y" → (fun z => if z = Str.ofString "y" then some (Value.ref (nd j)) else m₂ z) y = m₁ y := fun y hy => (if_neg hy).trans (hm' y hy)
      refine wpAny_execs_cons (wpAny_If (wpAny_isTrue_Compare1 (rdL (s := { s with heap := h₃, toks := tk₃ }) T3 (v := .ref (nd j)) (if_pos rfl) (rdC (s := { s with heap := h₃, toks := tk₃ }) (c := L + 1 + 1 + 1) T3 hcM ?_))))
      refine SeqAt.notIn_list_reads (s := { s with heap := h₃, toks := tk₃ }) (met_reads B3.node M'.lt hp3) (nodeD_reads (B3.node j hjn)) (nodesD_can _) (nodeD_can _) ?_ ?_
      · have h1 := nodesD_depth ms'
        have h2 := r.2.2
        omega
      rw [any_nodes]
      refine wpAny_truthy_bool ?_
      by_cases hin : j ∈ ms'
      · rw [if_neg (by simp [hin])]
        exact wpAny_execs_nil (wpAny_execs_nil ⟨h₃, _, _, rfl, ⟨ms', T3, hm3, hp3, M', ⟨ext, hext⟩, hzn ms' (fun _ h => h) hin, upk⟩, hit3⟩)
      · rw [if_pos (by simp [hin])]
        refine wpAny_execs_cons (wpAny_Expr_any (wpAny_Call_append rfl rfl (by rfl) rfl (rdC (s := { s with heap := h₃, toks := tk₃ }) (c := L + 1 + 1 + 1) T3 hcM ?_)))
        refine ⟨aM, _, rfl, PlainList.plainL hp3, rdL (s := { s with heap := h₃, toks := tk₃ }) T3 (v := .ref (nd j)) (if_pos rfl) ?_⟩
        have hl' := M'.len
        refine wpAny_list_append_plain (s := { s with heap := h₃, toks := tk₃ }) hp3 (fun h₄ hp4 hs4 => ?_) (by rw [sizeLine_num]; simp; omega)
        have hM4 : Met rel n x (ms' ++ [j]) := M'.snoc (v := v) (by rw [hext]; exact List.mem_append_left _ hvm) hjm hjn hin
        refine wpAny_execs_nil (wpAny_execs_nil ⟨h₄, _, _, rfl, ⟨ms' ++ [j], T3.but hs4.extBut hMH, hm3, by simpa using hp4, hM4, ⟨ext ++ [j], by rw [hext]; simp⟩, hzn _ (fun z hz => List.mem_append_left _ hz) (by simp), fun b o hbL hbM e => hs4.extBut b o hbM (upk b o hbL hbM e)⟩, ?_⟩)
        obtain ⟨o, e, rr⟩ := hit3
        refine ⟨o, hs4.extBut _ o ?_ e, rr⟩
        rintro rfl
        obtain ⟨c, e'⟩ := hM1
        rw [hIt] at e'; cases e'
    · rintro h₂ tk₃ m₂ ⟨ms', T', hm', hp', M', ⟨ext, hext⟩, hz, hk⟩
      have hz' : ∀ z ∈ rel v, z ∈ ms' := fun z hz0 => hz z (by
        have e : ((rel v).map fun j => Value.ref (nd j)).toArray.size = (rel v).length := by simp
        rw [e, List.take_length]; exact hz0)
      have hat2 : m₂ (Str.ofString "at") = some (.int ((at' : Nat) : Int) t₁) := (hm' _ (by decide)).trans hat1
      refine wpAny_execs_cons (wpAny_Assign_Name (wpAny_BinOp (rdL (s := { s with heap := h₂, toks := tk₃ }) T' hat2 (wpAny_Constant_int (P.add_int ?_)))) (by rfl))
      refine stL (s := { s with heap := h₂, toks := _ }) T' fun h₄ T4 hs4 => wpAny_execs_nil ?_
      refine ⟨n + 1 - (at' + 1), by have := M.len; omega, at' + 1, ms', h₄, _, _, _, rfl, rfl, T4, fun y h1 h2 => (if_neg h1).trans ((hm' y h2).trans (hm1 y h1 h2)), if_pos (by push_cast; rfl), hp'.at fun o e => hs4.extBut _ o (neL hMH) e, M', ?_, ?_, fun b o hbL hbM e => hs4.extBut b o hbL (hk b o hbL hbM e)⟩
      · rw [hext, List.length_append]; omega
      · intro u hu z hz0
        have e : ms'.take (at' + 1) = ms.take at' ++ [v] := by
          rw [hext, List.take_append_of_le_length (by omega), List.take_add_one, hget]; rfl
        rw [e] at hu
        rcases List.mem_append.mp hu with hu | hu
        · rw [hext]; exact List.mem_append_left _ (hcl u hu z hz0)
        · simp at hu; subst hu; exact hz' z hz0
  · rw [if_neg (by simp; omega)]
    have hal : at' = ms.length := by omega
    subst hal
    rw [List.take_length] at hcl
    refine wpAny_execs_nil (h h₁ _ m₁ ms T1 hm1 hM1 M.lt hlen (fun y => closed_reach M.mem M.reach (fun u hu z hz => hcl u hu z ?_) y) hk1)
    unfold relN at hz
    rw [if_pos (M.lt u hu)] at hz
    exact hz
end
end Mine

end
section
/- MLaw15 -/
open PySem PySem.W PyProof.Rows PySem.Spec
set_option maxRecDepth 100000
set_option linter.unusedVariables false
namespace Mine

section
variable {la : Addr} {prog : Program} {w : World} {A : Around} {E : Value → Shared → Prop} {s : Shared}

/-- the loop of a list comprehension whose variable is a cell -/
theorem comp_walkC {elt iter : Expr} {x : Str} {px : Pos} {ifs : List Expr} {scope : Scope} {pos : Pos} {I D cc : Addr} {fp wr : List Addr} {n : Nat} {P : Nat → Value → Prop} {St : Nat → Heap → Prop} {R : Result → Shared → Prop}
    {cenv : Env} {m : Str → Option Value} {v0 : Option Value} (W : Walks prog w A I fp wr n P St) (hsz : n ≤ sizeLine)
    (hx : cenv.kindOf x = some .cell) (hck : cenv.scope.kind = .function) (hlk : cenv.cells.lookup x = some cc)
    (hDC : D ≠ cenv.locals) (hDf : D ∉ fp) (hCf : cenv.locals ∉ fp) (hcf : cc ∉ fp) (hcD : cc ≠ D) (hcC : cc ≠ cenv.locals)
    (hst : St 0 s.heap) (hacc : s.heap.PlainList D #[]) (hn : s.heap.Ns cenv.locals m) (hcell : s.heap.IsCell cc v0)
    (J : Nat → List Value → Heap → Prop) (hJ0 : J 0 [] s.heap)
    (hJ : ∀ i ys h h', J i ys h → (∀ b o, b ≠ cenv.locals → b ≠ cc → b ∉ wr → b ≠ D → h.get? b = some o → h'.get? b = some o) → J i ys h')
    (turn : ∀ i v ys h tk m', i < n → P i v → J i ys h → h.Ns cenv.locals m' → h.IsCell cc (some v) →
      wpAny (model prog w) A (forIn ifs true fun c r => if r = true then do let ok ← isTrue c cenv (eval c cenv); pure (ForInStep.yield ok) else pure (ForInStep.yield r))
        (fun ok s₃ => ∃ h₃ tk₃, s₃ = { s with heap := h₃, toks := tk₃ } ∧ Sub h h₃ ∧ if ok = true then
          wpAny (model prog w) A (eval elt cenv) (fun y s₄ => ∃ h₄ tk₄, s₄ = { s with heap := h₄, toks := tk₄ } ∧ Sub h₃ h₄ ∧ J (i + 1) (ys ++ [y]) h₄) (fun _ _ => False) s₃
          else J (i + 1) ys h₃) (fun _ _ => False) { s with heap := h, toks := tk })
    (done : ∀ h' tk m' ys, J n ys h' → ys.length ≤ n → h'.Ns cenv.locals m' → h'.PlainList D ys.toArray → (∀ b o, b ≠ cenv.locals → b ≠ cc → b ∉ wr → b ≠ D → s.heap.get? b = some o → h'.get? b = some o) → R (.ok .next) { s with heap := h', toks := tk }) :
    codeAny (model prog w) A (.compLoop (.ListComp elt [⟨.Name x px, iter, ifs, 0⟩] scope pos) 0 (.ref I) (.ref D) cenv) R s := by
  have hCw : cenv.locals ∉ wr := fun h => hCf (W.sub _ h)
  have hDw : D ∉ wr := fun h => hDf (W.sub _ h)
  have hcw : cc ∉ wr := fun h => hcf (W.sub _ h)
  refine codeAny_compLoop_tests
    (fun k s' => ∃ i h' tk m' ys v, s' = { s with heap := h', toks := tk } ∧ i ≤ n ∧ k = n + 1 - i ∧ St i h' ∧ J i ys h' ∧ ys.length ≤ i ∧ h'.PlainList D ys.toArray ∧ h'.Ns cenv.locals m' ∧ h'.IsCell cc v ∧
      (∀ b o, b ≠ cenv.locals → b ≠ cc → b ∉ wr → b ≠ D → s.heap.get? b = some o → h'.get? b = some o)) ?_ (n + 1)
    ⟨0, s.heap, s.toks, m, [], v0, rfl, Nat.zero_le _, rfl, hst, hJ0, Nat.le_refl _, hacc, hn, hcell, fun _ _ _ _ _ _ e => e⟩
  rintro k s' ⟨i, H, tk, m', ys, v₀, rfl, hi, rfl, hst', hJi, hlen, hacc', hn', hc', hk⟩
  by_cases hlt : i < n
  · refine W.item i _ _ _ hlt hst' fun v h₁ tk₁ hPv hst₁ hk₁ => ?_
    have hc1 : h₁.IsCell cc v₀ := by obtain ⟨o, e, r⟩ := hc'; exact ⟨o, hk₁ _ o hcw e, r⟩
    refine wpAny_assign_Name (wpAny_storeName_cell (s := { s with heap := h₁, toks := tk₁ }) hck hx hlk hc1 fun h₂ hv₂ hs₂ => ?_)
    have hn₂ : h₂.Ns cenv.locals m' := (hn'.at' fun o e => hk₁ _ o hCw e).sameBut hs₂ (Ne.symm hcC)
    have up₂ : ∀ b o, b ≠ cc → b ∉ wr → H.get? b = some o → h₂.get? b = some o := fun b o hbc hbf e => hs₂.extBut b o hbc (hk₁ b o hbf e)
    have hst₂ : St (i + 1) h₂ := W.frame _ _ _ hst₁ fun b hb o e => hs₂.extBut b o (fun h => hcf (h ▸ hb)) e
    have hJ₂ : J i ys h₂ := hJ _ _ _ _ hJi fun b o _ h1 h2 _ e => up₂ b o h1 h2 e
    have hacc₂ : h₂.PlainList D ys.toArray := hacc'.at fun o e => up₂ D o (Ne.symm hcD) hDw e
    refine wpAny_mono (turn i v ys h₂ _ _ hlt hPv hJ₂ hn₂ hv₂) (fun ok s₃ h₃ => ?_) fun _ _ e => e.elim
    obtain ⟨h₃, tk₃, rfl, hk₃, hrest⟩ := h₃
    have hst₃ : St (i + 1) h₃ := W.frame _ _ _ hst₂ fun b _ o e => hk₃ b o e
    have hacc₃ : h₃.PlainList D ys.toArray := hacc₂.at fun o e => hk₃ _ o e
    have hn₃ := hn₂.keeps hk₃
    have hv₃ := hv₂.keeps hk₃
    cases ok with
    | false =>
      simp only [Bool.false_eq_true, if_false] at hrest ⊢
      exact ⟨n + 1 - (i + 1), by omega, i + 1, h₃, tk₃, _, ys, _, rfl, hlt, rfl, hst₃, hrest, Nat.le_succ_of_le hlen, hacc₃, hn₃, hv₃, fun b o hbC hbc hbf hbD e => hk₃ b o (up₂ b o hbc hbf (hk b o hbC hbc hbf hbD e))⟩
    | true =>
      simp only [if_true] at hrest ⊢
      refine wpAny_mono hrest (fun y s₄ h₄ => ?_) fun _ _ e => e.elim
      obtain ⟨h₄, tk₄, rfl, hk₄, hJ₄⟩ := h₄
      refine wpAny_list_append_plain (hsz := by simp; omega) (hacc₃.at fun o e => hk₄ _ o e) fun h₅ hl₅ hs₅ => ?_
      refine ⟨n + 1 - (i + 1), by omega, i + 1, h₅, tk₄, _, ys ++ [y], _, rfl, hlt, rfl, ?_, hJ _ _ _ _ hJ₄ fun b o _ _ _ hb e => hs₅.extBut b o hb e, by simp; omega, by simpa using hl₅, (hn₃.keeps hk₄).sameBut hs₅ (Ne.symm hDC), (hv₃.keeps hk₄).sameBut hs₅ hcD, ?_⟩
      · exact W.frame _ _ h₅ hst₃ fun b hb o e => hs₅.extBut b o (fun h => hDf (h ▸ hb)) (hk₄ b o e)
      · exact fun b o hbC hbc hbf hbD e => hs₅.extBut b o hbD (hk₄ b o (hk₃ b o (up₂ b o hbc hbf (hk b o hbC hbc hbf hbD e))))
  · have hin : i = n := by omega
    subst hin
    refine W.done _ _ _ hst' fun h₁ tk₁ hk₁ => ?_
    exact done h₁ tk₁ m' ys (hJ _ _ _ _ hJi fun b o _ _ h2 _ e => hk₁ b o h2 e) hlen (hn'.at' fun o e => hk₁ _ o hCw e) (hacc'.at fun o e => hk₁ _ o hDw e) fun b o hbC hbc hbf hbD e => hk₁ b o hbf (hk b o hbC hbc hbf hbD e)

theorem any_letters (a : Str) (ss : List Str) : (ss.map PyData.str).any (fun y => y.eqv (.str a)) = decide (a ∈ ss) := any_strs a ss

variable {la : Addr} {env : Env} {hb h h' : Heap} {L aN aR aO aM : Addr} {ps : Array Value} {m cm mg mb : Str → Option Value} {nd row ow : Nat → Addr} {n : Nat} {rel : Nat → List Nat} {own : Nat → List Str}

theorem rdXB {x : Str} {pos : Pos} {v : Value} {Q : Value → Shared → Prop} (T : LF hb L ps s.heap m cm) (G : GlobL hb mg mb) (hn : x ∈ [Str.ofString "range", Str.ofString "str", Str.ofString "len", Str.ofString "enumerate", Str.ofString "sorted", Str.ofString "min"])
    (hv : bootBuiltins x = some v) (h : Q v s) (hg : env.globals = mainGlobals) (hbi : env.builtins = builtinsNs) (hk : env.scope.kind = .function := by rfl) (hx : env.kindOf x = some .globalImplicit := by rfl) (hd : (x == ("__debug__" : Str)) = false := by decide) :
    wpAny (model prog w) A (eval (.Name x pos) env) Q E s :=
  Calls.Name_function_global hk hx (Calls.loadGlobal_builtin (by rw [hg]; exact G.g.keeps T.keep) (G.none x hn) (by rw [hbi]; exact G.b.keeps T.keep) ((G.boot x hn).trans hv) h) hd
end
end Mine

end
section
/- MLaw16 -/
open PySem PySem.W PyProof.Rows PySem.Spec
set_option maxRecDepth 100000
set_option linter.unusedVariables false
namespace Mine

section
variable {la : Addr} {prog : Program} {w : World} {A : Around} {E : Value → Shared → Prop} {s : Shared} {hb h h' : Heap} {L aN aR aO aM : Addr} {ps : Array Value} {m cm mg mb : Str → Option Value} {nd row ow : Nat → Addr} {n : Nat} {rel : Nat → List Nat} {own : Nat → List Str}

def isDue (own : Nat → List Str) (ms : List Nat) (a : Str) : Bool := decide (0 < (ms.filter fun y => decide (a ∈ own y)).length)
theorem isDue_iff {ms : List Nat} {a : Str} : isDue own ms a = true ↔ ∃ y ∈ ms, a ∈ own y := by
  unfold isDue
  rw [decide_eq_true_iff]
  constructor
  · intro h
    obtain ⟨y, hy⟩ := List.exists_mem_of_length_pos h
    rw [List.mem_filter] at hy
    exact ⟨y, hy.1, by simpa using hy.2⟩
  · rintro ⟨y, hy, ha⟩
    exact List.length_pos_of_mem (List.mem_filter.mpr ⟨hy, by simpa using ha⟩)

/-- due = [letter for letter in 'abcdef' if len([y for y in met if letter in own[y]]) > 0] -/
theorem exec_S12d {ms : List Nat} {Q : Flow → Shared → Prop} (r : RoomL A) (G : GlobL hb mg mb) (B : Built prog w hb aN aR aO nd n row rel ow own) (T : LF hb L ps s.heap m cm)
    (hcM : cm (Str.ofString "met") = some (.ref aM)) (hcO : cm (Str.ofString "own") = some (.ref aO)) (hM : s.heap.PlainList aM (ms.map fun k => Value.ref (nd k)).toArray) (hlt : ∀ y ∈ ms, y < n) (hlen : ms.length ≤ n)
    (h : ∀ h' tk D vs, LF hb L ps h' (fun z => if z = Str.ofString "due" then some (.ref D) else m z) cm → h'.PlainList D vs.toArray → StrsAre vs (abcL.filter (isDue own ms)) → D ≠ L → s.heap.get? D = none → (∀ b o, b ≠ L → s.heap.get? b = some o → h'.get? b = some o) → Q .next { s with heap := h', toks := tk }) :
    wpAny (model prog w) A (exec lawS12d (lawEnv la L)) Q E s := by
  unfold lawS12d lawF12 lawS12 lawBody lawStmt PySem.Challenge.pw_kk0044_01
  dsimp only
  have hn8 := B.n8
  refine comp_assign_law (cl := [(Str.ofString "own", L + 1 + 1 + 1 + 1), (Str.ofString "met", L + 1 + 1 + 1)]) (by rfl) (by rfl) (by rfl) (by decide) (by rfl) ?_
  refine wpAny_Constant_str ?_
  refine wpAny_pyIter_ascii (x := abcS) (by decide +kernel) ?_
  dsimp only
  have hIt0 : s.heap.get? s.heap.objs.size = none := none_of_ge (Nat.le_refl _)
  have hsub1 : Sub s.heap (s.heap.push { cls := .type "str_ascii_iterator", data := .fields #[.str abcS s.toks, .int 0 0] }) := fun b o e => Heap.get?_push_of_some _ e
  have hit0 : (s.heap.push { cls := .type "str_ascii_iterator", data := .fields #[.str abcS s.toks, .int 0 0] }).IsStrIter s.heap.objs.size "str_ascii_iterator" abcS s.toks 0 := ⟨_, Heap.get?_push_size _ rfl, rfl, rfl⟩
  generalize s.heap.objs.size = It at hIt0 hit0 ⊢
  generalize s.heap.push { cls := Value.type "str_ascii_iterator", data := .fields #[.str abcS s.toks, .int 0 0] } = h₂ at hsub1 hit0 ⊢
  obtain ⟨oI, eI, rI⟩ := id hit0
  refine ⟨fun h' Q' E' hs hQ => wpAny_pyIter_striter_ascii (s := { s with heap := h', toks := _ }) ⟨oI, hs _ _ eI, rI⟩ hQ, ?_⟩
  rintro D C h₃ hDe hCe hD0 hC0 hDC hsub₄ hDl hCn ⟨h₀, hh0, hpc⟩
  have T2 := T.sub hsub1
  have hCH := T2.new hC0
  have hDH := T2.new hD0
  have hcc0 : h₂.get? (C + 1) = none := none_of_ge (by rw [hCe, hDe]; omega)
  have hcell : h₃.IsCell (C + 1) none := by
    refine ⟨{ cls := .type "cell", data := .cell none }, ?_, rfl⟩
    rw [hpc, ← hh0]
    exact Heap.get?_push_size h₀ rfl
  have hDI : D ≠ It := fun e => by rw [e, eI] at hD0; cases hD0
  have hCI : C ≠ It := fun e => by rw [e, eI] at hC0; cases hC0
  have hcI : C + 1 ≠ It := fun e => by rw [e, eI] at hcc0; cases hcc0
  have hcD : C + 1 ≠ D := by rw [hCe]; omega
  have hcC : C + 1 ≠ C := Nat.succ_ne_self _
  have fresh : ∀ b, (∃ o, s.heap.get? b = some o) → b ≠ C ∧ b ≠ C + 1 ∧ b ≠ It ∧ b ≠ D := by
    rintro b ⟨o, e⟩
    have e2 := hsub1 _ _ e
    exact ⟨(fun e' => by rw [e', hC0] at e2; cases e2), (fun e' => by rw [e', hcc0] at e2; cases e2), (fun e' => by rw [e', hIt0] at e; cases e), (fun e' => by rw [e', hD0] at e2; cases e2)⟩
  refine comp_walkC (s := { s with heap := h₃, toks := _ }) (cc := C + 1) (v0 := none) (Walks.strAscii (prog := prog) (w := w) r.1 It abcS s.toks) (by rw [abcS_size, sizeLine_num]; decide) (by rfl) (by rfl) (by rfl) hDC (by simp [hDI]) (by show C ∉ _; simp [hCI]) (by simp [hcI]) hcD hcC
    ⟨oI, hsub₄ _ _ eI, rI⟩ hDl hCn hcell
    (fun i ys h => Sub s.heap h ∧ StrsAre ys ((abcL.take i).filter (isDue own ms))) ⟨fun b o e => hsub₄ _ _ (hsub1 _ _ e), .nil⟩ ?_ ?_ ?_
  · rintro i ys h h' ⟨hs, hy⟩ hk
    refine ⟨fun b o e => ?_, hy⟩
    obtain ⟨f1, f2, f3, f4⟩ := fresh b ⟨o, e⟩
    exact hk b o f1 f2 (by simp [f3]) f4 (hs b o e)
  · rintro i v ys h₄ tk₄ m' hi ⟨c, u, hc, rfl⟩ ⟨hs4, hy⟩ hn4 hv4
    rw [abcS_size] at hi
    have hget := abcL_get hc
    generalize hA : (⟨#[c]⟩ : Str) = a at hget hv4
    have T4 := T.sub hs4
    have B4 := B.sub T4.keep
    have hM4 : h₄.PlainList aM (ms.map fun k => Value.ref (nd k)).toArray := hM.at fun o e => hs4 _ o e
    have haOk : PyData.strOk a = true := abcL_ok a (List.mem_of_getElem? hget)
    refine wpAny_tests_one (wpAny_isTrue_Compare1 (wpAny_Call_NameR (rdXB (s := { s with heap := h₄, toks := tk₄ }) T4 G (v := .builtin "len") (by simp) (by rfl) ?_ (by rfl) (by rfl))))
    refine callWith_bi rfl (Calls.spliced_cons ?_)
    refine comp_value (s := { s with heap := h₄, toks := tk₄ }) (cl := [(Str.ofString "own", L + 1 + 1 + 1 + 1), (Str.ofString "letter", C + 1)]) (by rfl) (by rfl) (by decide) ?_
    refine rdXC (s := { s with heap := h₄, toks := tk₄ }) T4 (c := L + 1 + 1 + 1) hcM ?_
    refine wpAny_pyIter_list (s := { s with heap := h₄, toks := tk₄ }) hM4.isList ?_
    dsimp only
    have hJ0 : h₄.get? h₄.objs.size = none := none_of_ge (Nat.le_refl _)
    have hsub5 : Sub h₄ (h₄.push { cls := .type "list_iterator", data := .fields #[.ref aM, .int 0 0] }) := fun b o e => Heap.get?_push_of_some _ e
    have hjt0 : (h₄.push { cls := .type "list_iterator", data := .fields #[.ref aM, .int 0 0] }).IsListIter h₄.objs.size aM 0 := ⟨_, Heap.get?_push_size _ rfl, rfl, rfl⟩
    generalize h₄.objs.size = Jt at hJ0 hjt0 ⊢
    generalize h₄.push { cls := Value.type "list_iterator", data := .fields #[.ref aM, .int 0 0] } = h₅ at hsub5 hjt0 ⊢
    obtain ⟨oM, eM⟩ : ∃ o, h₄.get? aM = some o := by obtain ⟨c, e⟩ := hM4; exact ⟨_, e⟩
    have hMJ : aM ≠ Jt := fun e => by rw [e, hJ0] at eM; cases eM
    refine ⟨fun h' Q' E' hs hQ => wpAny_pyIter_listiter (s := { s with heap := h', toks := tk₄ }) (hjt0.at fun o e => hs _ _ e) hQ, ?_⟩
    rintro D2 C2 h₆ _ _ hD20 hC20 hDC2 hsub6 hDl2 hCn2 _
    obtain ⟨oJ, eJ, _⟩ := id hjt0
    have eM5 := hsub5 _ _ eM
    have hD2J : D2 ≠ Jt := fun e => by rw [e, eJ] at hD20; cases hD20
    have hC2J : C2 ≠ Jt := fun e => by rw [e, eJ] at hC20; cases hC20
    have hD2M : D2 ≠ aM := fun e => by rw [e, eM5] at hD20; cases hD20
    have hC2M : C2 ≠ aM := fun e => by rw [e, eM5] at hC20; cases hC20
    have fresh2 : ∀ b, (∃ o, h₄.get? b = some o) → b ≠ C2 ∧ b ≠ Jt ∧ b ≠ D2 := by
      rintro b ⟨o, e⟩
      have e2 := hsub5 _ _ e
      exact ⟨(fun e' => by rw [e', hC20] at e2; cases e2), (fun e' => by rw [e', hJ0] at e; cases e), (fun e' => by rw [e', hD20] at e2; cases e2)⟩
    refine comp_walk (s := { s with heap := h₆, toks := tk₄ }) (Walks.list (prog := prog) (w := w) r.1 Jt aM hMJ _) (by rw [sizeLine_num]; simp; omega) (by rfl) (by rfl) hDC2 (by simp [hD2J, hD2M]) (by show C2 ∉ _; simp [hC2J, hC2M])
      ⟨hjt0.at fun o e => hsub6 _ _ e, hM4.isList.at fun o e => hsub6 _ _ (hsub5 _ _ e)⟩ hDl2 hCn2
      (fun i ys h => Sub h₄ h ∧ ys = ((ms.take i).filter fun y => decide (a ∈ own y)).map fun k => Value.ref (nd k)) ⟨fun b o e => hsub6 _ _ (hsub5 _ _ e), rfl⟩ ?_ ?_ ?_
    · rintro i ys h h' ⟨hs, hy⟩ hk
      refine ⟨fun b o e => ?_, hy⟩
      obtain ⟨f1, f2, f3⟩ := fresh2 b ⟨o, e⟩
      exact hk b o f1 (by simp [f2]) f3 (hs b o e)
    · rintro i' v' ys' h₇ tk₇ m7 hi' hitem ⟨hs7, rfl⟩ hn7 hj7 _
      have hsz : (ms.map fun k => Value.ref (nd k)).toArray.size = ms.length := by simp
      rw [hsz] at hi'
      generalize hk : ms[i'] = k
      have hgetk : ms[i']? = some k := by rw [← hk]; exact List.getElem?_eq_getElem hi'
      have hvk : v' = .ref (nd k) := by
        have : (ms.map fun k => Value.ref (nd k)).toArray[i']? = some (.ref (nd k)) := by simp [hgetk]
        rw [this] at hitem; exact (Option.some.inj hitem).symm
      subst hvk
      have hkn := hlt k (List.mem_of_getElem? hgetk)
      have T7 := T4.sub hs7
      have B7 := B.sub T7.keep
      have hl7 : h₇.IsCell (C + 1) (some (.str a u)) := hv4.keeps hs7
      refine wpAny_tests_one (wpAny_isTrue_Compare1 (wpAny_Name (wpAny_loadName_cell (s := { s with heap := h₇, toks := tk₇ }) (by rfl) (by rfl) (by rfl) hl7 ?_) (by decide)))
      refine Subscript_ (rdXC (s := { s with heap := h₇, toks := tk₇ }) T7 (c := L + 1 + 1 + 1 + 1) hcO (rdXL (s := { s with heap := h₇, toks := tk₇ }) (C := C2) hn7 hj7 ?_))
      refine dtail (s := { s with heap := h₇, toks := tk₇ }) B7.owns (B.get_own (s := { s with heap := h₇, toks := tk₇ }) r.in1 hkn T7.keep fun tk8 => ?_) rfl
      have hO7 := B7.rows.own k hkn
      obtain ⟨_, _, _, _, habc⟩ := id hO7
      refine SeqAt.in_list_reads (s := { s with heap := h₇, toks := tk8 }) (as := [ow k]) (bs := []) (d := .str a) hO7.reads (.str a u) (canLay_strs fun y hy => abcL_ok y (habc y hy)) haOk (by rw [depth_strs]; have := r.2.2; simp; omega) ?_
      rw [any_letters]
      refine wpAny_truthy_bool ⟨h₇, tk8, rfl, fun b o e => e, ?_⟩
      have etake : ms.take (i' + 1) = ms.take i' ++ [k] := by rw [List.take_add_one, hgetk]; rfl
      by_cases hin : a ∈ own k
      · rw [if_pos (by simp [hin])]
        refine rdXL (s := { s with heap := h₇, toks := tk8 }) (C := C2) hn7 hj7 ⟨h₇, tk8, rfl, fun b o e => e, hs7, ?_⟩
        rw [etake, List.filter_append]; simp [hin]
      · rw [if_neg (by simp [hin])]
        refine ⟨hs7, ?_⟩
        rw [etake, List.filter_append]; simp [hin]
    · rintro h₇ tk₇ m7 ys' ⟨hs7, rfl⟩ hlen7 hn7 hD7 hk7
      have hsz : (ms.map fun k => Value.ref (nd k)).toArray.size = ms.length := by simp
      rw [hsz, List.take_length] at hD7
      refine ⟨rfl, h₇, tk₇, m7, rfl, hn7, fun h₈ hs8 => Calls.spliced_nil ?_⟩
      have hD8 := hD7.at fun o e => hs8.extBut _ o hDC2 e
      have hs48 : Sub h₄ h₈ := fun b o e => hs8.extBut b o (fresh2 b ⟨o, e⟩).1 (hs7 b o e)
      have hfl : (ms.filter fun y => decide (a ∈ own y)).length ≤ ms.length := List.length_filter_le _ _
      refine len_list (s := { s with heap := h₈, toks := tk₇ }) hD8.isList (by simp; omega) (wpAny_Constant_int ?_)
      show wpAny (model prog w) A (compareOp .Gt _ _) _ _ _
      refine PyProof.Rows.gt_int (wpAny_truthy_bool ?_)
      have hsz8 : ((((ms.filter fun y => decide (a ∈ own y)).map fun k => Value.ref (nd k)).toArray.size : Nat) : Int) = (ms.filter fun y => decide (a ∈ own y)).length := by simp
      rw [hsz8]
      have etake : abcL.take (i + 1) = abcL.take i ++ [a] := by rw [List.take_add_one, hget]; rfl
      have hs8' : Sub s.heap h₈ := fun b o e => hs48 b o (hs4 b o e)
      refine ⟨h₈, _, rfl, hs48, ?_⟩
      by_cases hp : isDue own ms a = true
      · have hp' : 0 < (ms.filter fun y => decide (a ∈ own y)).length := by unfold isDue at hp; exact of_decide_eq_true hp
        rw [if_pos (decide_eq_true (by omega))]
        refine wpAny_Name (wpAny_loadName_cell (s := { s with heap := h₈, toks := _ }) (by rfl) (by rfl) (by rfl) (hv4.keeps hs48) ?_) (by decide)
        refine ⟨h₈, _, rfl, fun b o e => e, hs8', ?_⟩
        rw [etake, List.filter_append]
        simp only [List.filter_cons, hp, if_true, List.filter_nil]
        exact strsAre_snoc hy
      · have hp' : ¬ 0 < (ms.filter fun y => decide (a ∈ own y)).length := by unfold isDue at hp; simpa using hp
        rw [if_neg (by rw [decide_eq_true_iff]; omega)]
        refine ⟨hs8', ?_⟩
        rw [etake, List.filter_append]
        simp only [List.filter_cons, hp, List.filter_nil]
        simpa using hy
  · rintro h₅ tk₅ m' ys ⟨hs5, hy⟩ hlen5 hn5 hD5 hk5
    have e6 : abcL.take abcS.cps.size = abcL := by rw [abcS_size]; exact List.take_of_length_le (by rw [abcL_len]; decide)
    rw [e6] at hy
    have T5 := T.sub hs5
    refine ⟨rfl, h₅, tk₅, hb, ps, m, cm, m', rfl, T5, hn5, hCH, fun h₆ tk₆ T6 hk6 => ?_⟩
    have hDL := neL hDH
    refine h h₆ tk₆ D ys T6 (hD5.at fun o e => hk6 _ o hDL hDC e) hy hDL ?_ fun b o hbL e => hk6 b o hbL (fresh b ⟨o, e⟩).1 (hs5 b o e)
    cases e : s.heap.get? D with
    | none => rfl
    | some o => rw [hsub1 _ _ e] at hD0; cases hD0
end
end Mine

end
section
/- MLaw17 -/
open PySem PySem.W PyProof.Rows PySem.Spec
set_option maxRecDepth 100000
set_option linter.unusedVariables false
namespace Mine

section
variable {la : Addr} {prog : Program} {w : World} {A : Around} {E : Value → Shared → Prop} {s : Shared} {hb h h' : Heap} {L aN aR aO aM : Addr} {ps : Array Value} {m cm mg mb : Str → Option Value} {nd row ow : Nat → Addr} {n : Nat} {rel : Nat → List Nat} {own : Nat → List Str}
  {dF : Addr} {xs : List (Nat × Addr × Value)} {fa : Nat → Addr} {fl : Nat → List Str}

theorem exec_S12a {v : Value} {Q : Flow → Shared → Prop} (T : LF hb L ps s.heap m cm) (hx : m (Str.ofString "x") = some v)
    (h : ∀ h' tk aM, LF hb L ps h' m (fun z => if z = Str.ofString "met" then some (.ref aM) else cm z) → h'.PlainList aM [v].toArray → ¬ Held hb L aM → s.heap.get? aM = none → (∀ b o, b ≠ L + 1 + 1 + 1 → s.heap.get? b = some o → h'.get? b = some o) → Q .next { s with heap := h', toks := tk }) :
    wpAny (model prog w) A (exec lawS12a (lawEnv la L)) Q E s := by
  unfold lawS12a lawF12 lawS12 lawBody lawStmt PySem.Challenge.pw_kk0044_01
  dsimp only
  refine wpAny_Assign_Name (wpAny_List (Calls.spliced_cons (rdL T hx (Calls.spliced_nil ⟨(by show 1 ≤ sizeLine; rw [sizeLine_num]; decide), ?_⟩)))) (by rfl)
  have h0 := none_of_ge (Nat.le_refl s.heap.objs.size)
  have hnew := T.new h0
  generalize ha : s.heap.objs.size = aM at hnew h0 ⊢
  have hsub : Sub s.heap (s.heap.push { cls := .type "list", data := .seq [v].toArray }) := fun b o e => Heap.get?_push_of_some _ e
  have hp : (s.heap.push { cls := .type "list", data := .seq [v].toArray }).PlainList aM [v].toArray := ⟨0, by rw [← ha]; exact Heap.get?_push_size _ rfl⟩
  generalize s.heap.push { cls := Value.type "list", data := .seq [v].toArray } = h₁ at hsub hp ⊢
  have T1 := T.sub hsub
  exact stC' (c := L + 1 + 1 + 1) (s := { s with heap := h₁, toks := _ }) T1 fun h' T' hs => h h' _ aM T' (hp.at fun o e => hs.extBut _ o (iscell_ne T1 (x := Str.ofString "met") (c := L + 1 + 1 + 1) (by rfl) hnew) e) hnew h0 fun b o hbc e => hs.extBut b o hbc (hsub b o e)

theorem exec_S12b {Q : Flow → Shared → Prop} (T : LF hb L ps s.heap m cm)
    (h : ∀ h' tk t, LF hb L ps h' (fun z => if z = Str.ofString "at" then some (.int ((0 : Nat) : Int) t) else m z) cm → Heap.SameBut L s.heap h' → Q .next { s with heap := h', toks := tk }) :
    wpAny (model prog w) A (exec lawS12b (lawEnv la L)) Q E s := by
  unfold lawS12b lawF12 lawS12 lawBody lawStmt PySem.Challenge.pw_kk0044_01
  dsimp only
  refine wpAny_Assign_Name (wpAny_Constant_int ?_) (by rfl)
  exact stL (s := { s with toks := _ }) T fun h' T' hs => h h' _ _ T' hs

theorem ToldL.get {k : Nat} {Q : Value → Shared → Prop} (D : ToldL prog w s.heap nd n dF xs fa fl) (hu : A.units + 1 < cLine) (hk : k < n) (hn : (nodeKind prog w nmL).is s.heap k (nd k)) (h : ∀ tk, Q (.ref (fa k)) { s with toks := tk }) :
    wpAny (model prog w) A (getItem (.ref dF) (.ref (nd k))) Q E s := by
  obtain ⟨p, ep, hp2⟩ := atKey_of_val (D.val k hk)
  exact wpAny_getItem_heap (knd := nodeKind prog w nmL) hu hn D.dict ep (by rw [hp2]; exact h _)

theorem exec_S12e {x : Nat} {ms : List Nat} {aD : Addr} {vs : List Value} {Q : Flow → Shared → Prop} (r : RoomL A) (G : GlobL hb mg mb) (B : Built prog w hb aN aR aO nd n row rel ow own) (D : ToldL prog w hb nd n dF xs fa fl) (T : LF hb L ps s.heap m cm) (hx : x < n)
    (hT : m (Str.ofString "told") = some (.ref dF)) (hmx : m (Str.ofString "x") = some (.ref (nd x))) (hD : m (Str.ofString "due") = some (.ref aD)) (hpD : s.heap.PlainList aD vs.toArray) (hvs : StrsAre vs (abcL.filter (isDue own ms))) (hDL : aD ≠ L)
    (hlt : ∀ y ∈ ms, y < n) (hr : ∀ y, y ∈ ms ↔ Reach (relN rel n) x y) (hdue : ∀ a, a ∈ fl x ↔ Due (relN rel n) (ownN own n) x a)
    (h : ∀ h' tk, LF hb L ps h' m cm → (∀ b o, b ≠ L → s.heap.get? b = some o → h'.get? b = some o) → Q .next { s with heap := h', toks := tk }) :
    wpAny (model prog w) A (exec lawS12e (lawEnv la L)) Q E s := by
  unfold lawS12e lawF12 lawS12 lawBody lawStmt PySem.Challenge.pw_kk0044_01
  dsimp only
  have B1 := B.sub T.keep
  have D1 := D.sub B.node T.keep
  refine wpAny_If (wpAny_isTrue_Compare1 (wpAny_Call_NameR (rdB T G (v := .builtin "sorted") (by simp) (by rfl) ?_)))
  refine callWith_bi rfl (Calls.spliced_cons (Subscript_ (rdL T hT (rdL T hmx ?_))))
  refine dtail D1.dict (D1.get r.in1 hx (B1.node x hx) fun tk₁ => Calls.spliced_nil ?_) rfl
  obtain ⟨ws, hpl, hws, hnd, habc⟩ := D1.list x hx
  have hwl : ws.length < 64 := by
    have := mem_len _ _ hnd habc
    have h2 := strsAre_len hws
    rw [abcL_len] at this
    omega
  refine sorted_N_str (s := { s with toks := _ }) (h₀ := {}) (L := L) (m := m) (news := allNews L s.heap) (fr_empty T.ns) (allNews_news L s.heap) hpl.isList hws hwl fun h₁ vs' ss' e F' N' hS' hperm hsort => ?_
  have keep : ∀ b o, b ≠ L → s.heap.get? b = some o → h₁.get? b = some o := fun b o hb' e => (N' (b, o) (List.mem_cons_of_mem _ (mem_allNews.mpr ⟨hb', e⟩))).1
  have T2 := T.nsAt F'.ns keep
  have eS := (N' _ (.head _)).1
  have hss : ss' = abcL.filter (isDue own ms) := by
    refine letters_eq (hperm.nodup_iff.mpr hnd) (fun a ha => habc a (hperm.mem_iff.mp ha)) hsort fun a _ => ?_
    rw [hperm.mem_iff, hdue a, isDue_iff]
    exact (due_iff hlt hr a).symm
  refine rdL (s := { s with heap := h₁, toks := _ }) T2 hD ?_
  obtain ⟨c, eD⟩ := hpD
  have eD' := keep _ _ hDL eD
  have rS : Reads h₁ (.ref (s.heap.objs.size + 1)) (.list ((abcL.filter (isDue own ms)).map .str)) [s.heap.objs.size + 1] := by
    rw [← hss]
    exact .list (as := []) eS rfl rfl (by simpa using readsAll_strs h₁ hS')
  have rD : Reads h₁ (.ref aD) (.list ((abcL.filter (isDue own ms)).map .str)) [aD] := .list (as := []) eD' rfl rfl (by simpa using readsAll_strs h₁ hvs)
  refine ne_same (s := { s with heap := h₁, toks := _ }) rS rD (by simp only [PyData.canLay0]; exact canLay_strs fun y hy => abcL_ok y (List.mem_filter.mp hy).1) (by simp only [PyData.depth]; rw [depth_strs]; have := r.2.2; omega) (wpAny_truthy_bool ?_)
  rw [if_neg (by simp)]
  exact wpAny_execs_nil (h h₁ _ T2 keep)

/-- for x in nodes: ... -/
theorem exec_S12 {Q : Flow → Shared → Prop} (r : RoomL A) (G : GlobL hb mg mb) (B : Built prog w hb aN aR aO nd n row rel ow own) (D : ToldL prog w hb nd n dF xs fa fl) (T : LF hb L ps s.heap m cm)
    (hcN : cm (Str.ofString "nodes") = some (.ref aN)) (hcR : cm (Str.ofString "related") = some (.ref aR)) (hcO : cm (Str.ofString "own") = some (.ref aO)) (hT : m (Str.ofString "told") = some (.ref dF))
    (hdue : ∀ k, k < n → ∀ a, a ∈ fl k ↔ Due (relN rel n) (ownN own n) k a)
    (h : ∀ h' tk m' cm', LF hb L ps h' m' cm' → Q .next { s with heap := h', toks := tk }) :
    wpAny (model prog w) A (exec lawS12 (lawEnv la L)) Q E s := by
  have e12 : ∃ px p1 pos, lawS12 = .For (.Name (Str.ofString "x") px) (.Name (Str.ofString "nodes") p1) lawF12 [] pos := ⟨_, _, _, rfl⟩
  obtain ⟨px, p1, pos, e12⟩ := e12
  rw [e12, lawF12_eq]
  have hN0 := (B.sub T.keep).nodes
  refine wpAny_For (rdC (c := L + 1) T hcN ?_) (by intro _; rfl)
  refine for_list (items := ((List.range n).map fun k => Value.ref (nd k)).toArray) (m0 := m) r.1 (by rfl) (by rfl) hN0.isList (by obtain ⟨o, _, _, e, _⟩ := T.ns; exact ⟨o, e⟩)
    (fun i h m' => ∃ cm', LF hb L ps h m' cm' ∧ (∀ y, y ≠ Str.ofString "x" → y ≠ Str.ofString "y" → y ≠ Str.ofString "at" → y ≠ Str.ofString "due" → m' y = m y) ∧ (∀ z, z ≠ Str.ofString "met" → cm' z = cm z))
    (fun i h m' ⟨cm', T', _⟩ => T'.ns) (fun i h m' ⟨cm', T', _⟩ => ((B.sub T'.keep).nodes).isList) ?_ ?_ ?_ ?_
  · rintro i h h' m' It j ⟨cm', T', r⟩ hIt hit hx
    exact ⟨cm', T'.but hx (T.new hIt), r⟩
  · intro h' hs
    exact ⟨cm, T.sub hs, fun _ _ _ _ _ => rfl, fun _ _ => rfl⟩
  · rintro i v h₁ m₁ It hitem ⟨cm', T', hm', hcm'⟩ hIt hit h₂ tk₂ hn2 hs2 hit2
    have hi : i < n := by
      have := (Array.getElem?_eq_some_iff.mp hitem).1
      simpa using this
    have hv : v = .ref (nd i) := by
      have : ((List.range n).map fun k => Value.ref (nd k)).toArray[i]? = some (.ref (nd i)) := by simp [hi]
      rw [this] at hitem; exact (Option.some.inj hitem).symm
    subst hv
    have hItH := T.new hIt
    obtain ⟨oI, eI, rI⟩ := hit2
    have T2 := T'.set hn2 hs2
    refine wpAny_execs_cons (exec_S12a (s := { s with heap := h₂, toks := tk₂ }) T2 (v := .ref (nd i)) (if_pos rfl) fun h₃ tk₃ aM T3 hM3 hMH hM0 up3 => ?_)
    have eI3 : h₃.get? It = some oI := up3 _ _ (iscell_ne T' (x := Str.ofString "met") (c := L + 1 + 1 + 1) (by rfl) hItH) eI
    have hMI : It ≠ aM := fun e => by
      dsimp only at hM0
      rw [← e, eI] at hM0; cases hM0
    have hItL := neL hItH
    refine wpAny_execs_cons (exec_S12b (s := { s with heap := h₃, toks := tk₃ }) T3 fun h₄ tk₄ t₄ T4 hs4 => ?_)
    have hM4 := hM3.at fun o e => hs4.extBut _ o (neL hMH) e
    have cellv : ∀ z v, z ≠ Str.ofString "met" → cm z = some v → (fun z => if z = Str.ofString "met" then some (Value.ref aM) else cm' z) z = some v := fun z v hz e => (if_neg hz).trans ((hcm' z hz).trans e)
    refine wpAny_execs_cons (exec_S12c (s := { s with heap := h₄, toks := tk₄ }) r G B T4 hi (if_pos rfl) (cellv _ _ (by decide) hcR) (if_pos rfl) hM4 hMH fun h₅ tk₅ m₅ ms T5 hm5 hM5 hlt hlen hr hk5 => ?_)
    refine wpAny_execs_cons (exec_S12d (s := { s with heap := h₅, toks := tk₅ }) r G B T5 (if_pos rfl) (cellv _ _ (by decide) hcO) hM5 hlt hlen fun h₆ tk₆ aD vs T6 hD6 hvs hDL hD0 hk6 => ?_)
    have loc : ∀ y, y ≠ Str.ofString "x" → y ≠ Str.ofString "y" → y ≠ Str.ofString "at" → y ≠ Str.ofString "due" → m₅ y = m y := fun y h1 h2 h3 h4 =>
      (hm5 y h3 h2).trans ((if_neg h3).trans ((if_neg h1).trans (hm' y h1 h2 h3 h4)))
    have hx5 : m₅ (Str.ofString "x") = some (.ref (nd i)) := (hm5 _ (by decide) (by decide)).trans ((if_neg (by decide)).trans (if_pos rfl))
    refine wpAny_execs_cons (exec_S12e (s := { s with heap := h₆, toks := tk₆ }) r G B D T6 hi ((if_neg (by decide)).trans ((loc _ (by decide) (by decide) (by decide) (by decide)).trans hT)) ((if_neg (by decide)).trans hx5) (if_pos rfl) hD6 hvs hDL hlt hr (hdue i hi) fun h₇ tk₇ T7 hk7 => ?_)
    refine wpAny_execs_nil ⟨h₇, tk₇, _, rfl, ⟨_, T7, fun y h1 h2 h3 h4 => (if_neg h4).trans (loc y h1 h2 h3 h4), fun z hz => (if_neg hz).trans (hcm' z hz)⟩, oI, ?_, rI⟩
    exact hk7 _ _ hItL (hk6 _ _ hItL (hk5 _ _ hItL hMI (hs4.extBut _ _ hItL eI3)))
  · rintro h₁ tk₁ m₁ ⟨cm', T', _⟩
    exact h h₁ tk₁ m₁ cm' T'

/-- return True -/
theorem exec_S13 {Q : Flow → Shared → Prop} (h : Q (.ret (.bool true)) s) : wpAny (model prog w) A (exec lawS13 (lawEnv la L)) Q E s := by
  unfold lawS13 lawBody lawStmt PySem.Challenge.pw_kk0044_01
  dsimp only
  exact wpAny_Return_some (Constant_bool h)
end
end Mine

end
section
/- MLaw18 -/
open PySem PySem.W PyProof.Rows PySem.Spec
set_option maxRecDepth 100000
set_option linter.unusedVariables false
namespace Mine

section
variable {la : Addr} {prog : Program} {w : World} {A : Around} {E : Value → Shared → Prop} {s : Shared} {gb : Heap} {L lx : Addr} {m cm mg mb : Str → Option Value} {vs : List Value} {ns : List Int}

theorem dict_nil {h h' : Heap} {d : Addr} (x : h.DictOfH (nodeKind prog w nmL) d []) (hd : ∀ o, h.get? d = some o → h'.get? d = some o) : h'.DictOfH (nodeKind prog w nmL) d [] := dictAt x hd fun y hy => nomatch hy

theorem law_walk {Q : Flow → Shared → Prop} (r : RoomL A) (G : GlobL gb mg mb) (F : Fns gb) (T : LF gb L #[] s.heap m cm) (hs : m (Str.ofString "script") = some (.ref lx)) (hl : gb.IsList lx vs.toArray) (hI : IntsAre vs ns)
    (hlen : ns.length ≤ 63) (hlay : PyData.layable0 (.list (ns.map .int)) = true)
    (h : ∀ h' tk m' ps', h'.Ns L m' → Sub gb h' → h'.get? 30 = some (tabObj ps') → Q (.ret (.bool true)) { s with heap := h', toks := tk }) :
    wpAny (model prog w) A (execs lawBody (lawEnv la L)) Q E s := by
  rw [lawBody_eq]
  -- head, many
  refine wpAny_execs_cons (exec_S0 T hs hl hI hlay fun h1 tk1 i0 t0 hi0 T1 => ?_)
  refine wpAny_execs_cons (exec_S1 (s := { s with heap := h1, toks := tk1 }) T1 (i := i0) (t := t0) (if_pos rfl) fun h2 tk2 n tn hn1 hn8 T2 => ?_)
  have m2 : ∃ m2, m2 = (fun z => if z = Str.ofString "many" then some (Value.int (n : Int) tn) else if z = Str.ofString "head" then some (Value.int i0 t0) else m z) := ⟨_, rfl⟩
  obtain ⟨m2, em2⟩ := m2
  have hm2 : m2 (Str.ofString "many") = some (.int (n : Int) tn) := by rw [em2]; exact if_pos rfl
  have hh2 : m2 (Str.ofString "head") = some (.int i0 t0) := by rw [em2]; exact (if_neg (by decide)).trans (if_pos rfl)
  have hs2 : m2 (Str.ofString "script") = some (.ref lx) := by rw [em2]; exact (if_neg (by decide)).trans ((if_neg (by decide)).trans hs)
  rw [← em2] at T2
  -- nodes, related, own
  refine wpAny_execs_cons (exec_S2 (s := { s with heap := h2, toks := tk2 }) T2 fun h3 tk3 aN T3 hN3 hNH => ?_)
  refine wpAny_execs_cons (exec_S3 (knd := nodeKind prog w nmL) (s := { s with heap := h3, toks := tk3 }) T3 fun h4 tk4 aR T4 hR4 hRH ⟨cR, hxR, hcR⟩ hR0 => ?_)
  dsimp only at hxR hR0
  have hN4 := hN3.at fun o e => hxR _ o (iscell_ne T3 hcR hNH) e
  have hNR : aN ≠ aR := fun e => by obtain ⟨c, e'⟩ := hN3; rw [e, hR0] at e'; cases e'
  refine wpAny_execs_cons (exec_S4 (knd := nodeKind prog w nmL) (s := { s with heap := h4, toks := tk4 }) T4 fun h5 tk5 aO T5 hO5 hOH ⟨cO, hxO, hcO⟩ hO0 => ?_)
  dsimp only at hxO hO0
  have hN5 := hN4.at fun o e => hxO _ o (iscell_ne T4 hcO hNH) e
  have hNO : aN ≠ aO := fun e => by obtain ⟨c, e'⟩ := hN4; rw [e, hO0] at e'; cases e'
  have hRO : aR ≠ aO := fun e => by obtain ⟨o, _, _, e', _⟩ := dict_data hR4; rw [e, hO0] at e'; cases e'
  have hR5 := dict_nil hR4 fun o e => hxO _ o (iscell_ne T4 hcO hRH) e
  have cm5 : ∃ cm5, cm5 = (fun z => if z = Str.ofString "own" then some (Value.ref aO) else if z = Str.ofString "related" then some (Value.ref aR) else if z = Str.ofString "nodes" then some (Value.ref aN) else cm z) := ⟨_, rfl⟩
  obtain ⟨cm5, ecm5⟩ := cm5
  have cO5 : cm5 (Str.ofString "own") = some (.ref aO) := by rw [ecm5]; exact if_pos rfl
  have cR5 : cm5 (Str.ofString "related") = some (.ref aR) := by rw [ecm5]; exact (if_neg (by decide)).trans (if_pos rfl)
  have cN5 : cm5 (Str.ofString "nodes") = some (.ref aN) := by rw [ecm5]; exact (if_neg (by decide)).trans ((if_neg (by decide)).trans (if_pos rfl))
  rw [← ecm5] at T5
  -- the nodes
  refine wpAny_execs_cons (exec_S5 (s := { s with heap := h5, toks := tk5 }) r G T5 hm2 hn8 cN5 hN5 hNH (l := [aR, aO]) ?_ fun h6 tk6 hb6 nd m6 T6 hm6 hs6 hno6 hnd6 hN6 hk6 => ?_)
  · intro b hb
    simp only [List.mem_cons, List.not_mem_nil, or_false] at hb
    rcases hb with rfl | rfl
    · obtain ⟨o, _, _, e, _⟩ := dict_data hR5
      exact ⟨hRH, Ne.symm hNR, o, e⟩
    · obtain ⟨o, _, _, e, _⟩ := dict_data hO5
      exact ⟨hOH, Ne.symm hNO, o, e⟩
  dsimp only at hk6
  have hR6 := dict_nil hR5 fun o e => hk6 _ (by simp) o e
  have hO6 := dict_nil hO5 fun o e => hk6 _ (by simp) o e
  have RH6 := Held.of_base hRH (hno6 _ (by simp))
  have OH6 := Held.of_base hOH (hno6 _ (by simp))
  -- rows and letters
  refine wpAny_execs_cons (exec_S6 (s := { s with heap := h6, toks := tk6 }) (nd := nd) r (G.sub hs6) T6 ((hm6 _ (by decide)).trans hm2) hn8 ((hm6 _ (by decide)).trans hs2) (hl.at fun o e => hs6 _ o e) hI hlen ((hm6 _ (by decide)).trans hh2) hi0 cN5 hN6 hnd6 cR5 RH6 hR6 cO5 OH6 hO6 hRO
    fun h7 tk7 hb7 m7 cm7 row rel ow own T7 hm7 hc7 hs7 hR7 hO7 rows => ?_)
  have B7 : Built prog w hb7 aN aR aO nd n row rel ow own := ⟨hn1, hn8, hN6.at fun o e => hs7 _ o e, fun k hk => is_sub (hnd6 k hk) hs7, hR7, hO7, rows⟩
  have G7 := (G.sub hs6).sub hs7
  have F7 := (F.sub hs6).sub hs7
  have cN7 : cm7 (Str.ofString "nodes") = some (.ref aN) := (hc7 _ (by decide)).trans cN5
  have cR7 : cm7 (Str.ofString "related") = some (.ref aR) := (hc7 _ (by decide)).trans cR5
  have cO7 : cm7 (Str.ofString "own") = some (.ref aO) := (hc7 _ (by decide)).trans cO5
  have hm7' : m7 (Str.ofString "many") = some (.int (n : Int) tn) := (hm7 _ (by decide) (by decide)).trans ((hm6 _ (by decide)).trans hm2)
  have hh7 : m7 (Str.ofString "head") = some (.int i0 t0) := (hm7 _ (by decide) (by decide)).trans ((hm6 _ (by decide)).trans hh2)
  -- first, order, before
  refine wpAny_execs_cons (exec_S7 (s := { s with heap := h7, toks := tk7 }) T7 hm7' hh7 hn1 fun h8 tk8 f t8 hf T8 => ?_)
  refine wpAny_execs_cons (exec_S8 (s := { s with heap := h8, toks := tk8 }) (nd := nd) T8 (if_pos rfl) hf hn8 cN7 B7.nodes fun h9 tk9 aX hb9 order T9 hs9 hX9 ho1 ho2 => ?_)
  have B9 := B7.sub hs9
  refine wpAny_execs_cons (exec_S9 (s := { s with heap := h9, toks := tk9 }) r B9 T9 cN7 cR7 fun h10 tk10 aB hb10 as T10 hs10 rB => ?_)
  have B10 := B9.sub hs10
  have G10 := (G7.sub hs9).sub hs10
  have F10 := (F7.sub hs9).sub hs10
  -- told
  refine wpAny_execs_cons (exec_S10 (s := { s with heap := h10, toks := tk10 }) r G10 F10 B10 T10 cR7 cO7 ((if_neg (by decide)).trans (if_pos rfl)) (hX9.at fun o e => hs10 _ o e) ho1 ho2 fun h11 tk11 dF hb11 ps11 xs fa fl T11 hs11 hsys hdict hkeys hval hlist hdue => ?_)
  have B11 := B10.sub hs11
  have G11 := G10.sub hs11
  have D11 : ToldL prog w hb11 nd n dF xs fa fl := ⟨hsys, hdict, hkeys, hval, hlist⟩
  -- the checks
  refine wpAny_execs_cons (exec_S11 (s := { s with heap := h11, toks := tk11 }) r G11 B11 T11 D11 cN7 cR7 (if_pos rfl) ((if_neg (by decide)).trans (if_pos rfl)) (Reads.keeps hs11 rB) fun h12 tk12 hb12 T12 hs12 => ?_)
  have B12 := B11.sub hs12
  have G12 := G11.sub hs12
  have D12 := D11.sub B11.node hs12
  refine wpAny_execs_cons (exec_S12 (s := { s with heap := h12, toks := tk12 }) r G12 B12 D12 T12 cN7 cR7 cO7 (if_pos rfl) hdue fun h13 tk13 m13 cm13 T13 => ?_)
  refine wpAny_execs_cons (exec_S13 (s := { s with heap := h13, toks := tk13 }) ?_)
  exact h h13 tk13 m13 ps11 T13.ns (fun b o e => T13.keep _ _ (hs12 _ _ (hs11 _ _ (hs10 _ _ (hs9 _ _ (hs7 _ _ (hs6 _ _ e))))))) T13.tab
end
end Mine

end
section
/- MFin -/
open PySem PySem.W PyProof.Rows PySem.Spec
set_option maxRecDepth 100000
set_option linter.unusedVariables false
namespace Mine

/-- what of the heap that the module leaves is read -/
structure LawK (K : Frag) : Prop where
  dg : ∃ o pm, K.lookup 21 = some o ∧ o.data = .func (Calls.docDef (Str.ofString "digraph") dgParams dgBody dgScope pm (.ref 20) .none)
  dgc : ∃ o vs t, K.lookup 20 = some o ∧ o.data = .fields vs ∧ vs[1]? = some (.str (Str.ofString "digraph") t)
  tr : ∃ o pm, K.lookup 28 = some o ∧ o.data = .func (Calls.docDef (Str.ofString "traverse") trParams trBody trScope pm (.ref 27) .none)
  trc : ∃ o vs t, K.lookup 27 = some o ∧ o.data = .fields vs ∧ vs[1]? = some (.str (Str.ofString "traverse") t)
  g1 : nsIn K mainGlobals (Str.ofString "digraph") = some (some (.ref 21))
  g2 : nsIn K mainGlobals (Str.ofString "traverse") = some (some (.ref 28))
  g3 : ∃ t, nsIn K mainGlobals (Str.ofString "MAXINT") = some (some (.int BIG t))
  g4 : ∀ x ∈ [Str.ofString "range", Str.ofString "str", Str.ofString "len", Str.ofString "enumerate", Str.ofString "sorted", Str.ofString "min"], nsIn K mainGlobals x = some none

section
variable {la : Addr} {prog : Program} {w : World} {A : Around} {E : Value → Shared → Prop} {s : Shared} {K : Frag} {p : Program} {loose : List Str} {mean : ExcName → Option Value} {gb h₁ : Heap} {tk₁ : Nat} {L lx : Addr} {ml cmf mg mb : Str → Option Value} {w0 w1 w2 w3 w4 : Obj} {vs : List Value} {ns : List Int}

theorem fns_of (X : K.In gb) (k : LawK K) : Fns gb where
  tr := by obtain ⟨o, pm, e, r⟩ := k.tr; exact ⟨o, pm, X _ _ e, r⟩
  trc := by obtain ⟨o, vs, t, e, r⟩ := k.trc; exact ⟨_, o, vs, t, rfl, X _ _ e, r⟩
  dg := by obtain ⟨o, pm, e, r⟩ := k.dg; exact ⟨o, pm, X _ _ e, r⟩
  dgc := by obtain ⟨o, vs, t, e, r⟩ := k.dgc; exact ⟨_, o, vs, t, rfl, X _ _ e, r⟩

theorem glob_of (X : K.In gb) (k : LawK K) (T : Top p loose mean mg mb gb) (h30 : gb.get? 30 = none) (C : CodeHd gb 32 30) : GlobL gb mg mb where
  g := T.g
  b := T.b
  bat := by
    obtain ⟨bm, ob, b1, b2, b3, b4, b5, b6⟩ := T.bmain
    refine ⟨bm, ob, b1, b2, fun q => ?_, fun q => ?_, b3, b4, b5, b6⟩
    · obtain ⟨o, es, ep, e, hd, _⟩ := T.g
      rw [q, e] at b3; cases b3; rw [hd] at b6; cases b6
    · rw [q, h30] at b3; cases b3
  digraph := mg_of X T.g k.g1
  traverse := mg_of X T.g k.g2
  MAXINT := by obtain ⟨t, e⟩ := k.g3; exact ⟨t, mg_of X T.g e⟩
  none := fun x hx => mg_none_of X T.g (k.g4 x hx)
  boot := fun x hx => T.builtins x (by
    simp only [List.mem_cons, List.not_mem_nil, or_false] at hx
    rcases hx with rfl | rfl | rfl | rfl | rfl | rfl <;> decide)
  nolimit := T.nolimit
  codeHd := C

theorem law_final {Q : Flow → Shared → Prop} (X : K.In gb) (k : LawK K) (T : Top p loose mean mg mb gb) (F : Fr gb L h₁ ml)
    (N : News gb L h₁ [(L + 1 + 1 + 1 + 1 + 1, w4), (L + 1 + 1 + 1 + 1, w3), (L + 1 + 1 + 1, w2), (L + 1 + 1, w1), (L + 1, w0), (30, tabObj #[])])
    (d4 : w4.data = .cell (cmf (Str.ofString "related"))) (d3 : w3.data = .cell (cmf (Str.ofString "own"))) (d2 : w2.data = .cell (cmf (Str.ofString "met"))) (d1 : w1.data = .cell (cmf (Str.ofString "number"))) (d0 : w0.data = .cell (cmf (Str.ofString "nodes")))
    (l0 : @LT.lt Nat _ 30 L) (C : CodeHd gb 32 30) (hl : gb.IsList lx vs.toArray) (hI : IntsAre vs ns) (hlen : ¬ ((63 : Nat) : Int) < (ns.length : Int)) (hlay : PyData.layable0 (.list (ns.map .int)) = true)
    (hs : ml (Str.ofString "script") = some (.ref lx)) (hA : A.handled = none) (hd : A.depth + 200 < recursionLimit) (hu : A.units + 2000 < cLine)
    (h : ∀ h' tk m', Fr gb L h' m' → GrownAll [(32, 30)] h' → Q (.ret (.bool true)) { s with heap := h', toks := tk }) :
    wpAny (model prog w) A (execs lawBody (lawEnv la L)) Q E { s with heap := h₁, toks := tk₁ } := by
  have n4 := N (L + 1 + 1 + 1 + 1 + 1, w4) (by simp)
  have n3 := N (L + 1 + 1 + 1 + 1, w3) (by simp)
  have n2 := N (L + 1 + 1 + 1, w2) (by simp)
  have n1 := N (L + 1 + 1, w1) (by simp)
  have n0 := N (L + 1, w0) (by simp)
  have nT := N (30, tabObj #[]) (by simp)
  have cells : ∀ nm c, (lawCells L).lookup nm = some c → ∃ o, h₁.get? c = some o ∧ o.data = .cell (cmf nm) ∧ gb.get? c = none := by
    intro nm c e
    have hm := mem_of_lookup e
    rw [lawCells_eq] at hm
    simp only [List.mem_cons, Prod.mk.injEq, List.not_mem_nil, or_false] at hm
    rcases hm with ⟨rfl, rfl⟩ | ⟨rfl, rfl⟩ | ⟨rfl, rfl⟩ | ⟨rfl, rfl⟩ | ⟨rfl, rfl⟩
    · exact ⟨w4, n4.1, d4, n4.2.2⟩
    · exact ⟨w3, n3.1, d3, n3.2.2⟩
    · exact ⟨w2, n2.1, d2, n2.2.2⟩
    · exact ⟨w1, n1.1, d1, n1.2.2⟩
    · exact ⟨w0, n0.1, d0, n0.2.2⟩
  have T1 : LF gb L #[] h₁ ml cmf := by
    refine ⟨F.ns, ⟨fun nm c e => ?_, ?_, ?_⟩, nT.1, F.keep, none_of_ge F.above, fun nm c e => ?_, nT.2.2, l0⟩
    · obtain ⟨o, e1, e2, _⟩ := cells nm c e
      exact ⟨o, e1, e2⟩
    · rw [lawCells_eq]
      simp only [List.pairwise_cons, List.mem_cons, List.not_mem_nil, or_false, forall_eq_or_imp, forall_eq, false_imp_iff, implies_true, List.Pairwise.nil, and_true]
      show _ ∧ _
      refine ⟨⟨?_, ?_, ?_, ?_⟩, ⟨?_, ?_, ?_⟩, ⟨?_, ?_⟩, ?_⟩ <;> (apply Nat.ne_of_gt; show @LT.lt Nat _ _ _; omega)
    · intro nm c hm
      rw [lawCells_eq] at hm
      simp only [List.mem_cons, Prod.mk.injEq, List.not_mem_nil, or_false] at hm
      rcases hm with ⟨rfl, rfl⟩ | ⟨rfl, rfl⟩ | ⟨rfl, rfl⟩ | ⟨rfl, rfl⟩ | ⟨rfl, rfl⟩ <;> (show @LT.lt Nat _ _ _; omega)
    · obtain ⟨o, _, _, e3⟩ := cells nm c e
      exact e3
  refine law_walk (s := { s with heap := h₁, toks := tk₁ }) ⟨hA, hd, hu⟩ (glob_of X k T nT.2.2 C) (fns_of X k) T1 hs hl hI (by omega) hlay fun h' tk m' ps' hn hs' ht => ?_
  exact h h' tk m' ⟨hn, hs', F.above⟩ ⟨⟨ps', ht⟩, trivial⟩
end
end Mine

end
open PySem PySem.W PyProof.Rows
set_option maxRecDepth 100000 in
set_option maxHeartbeats 8000000 in
theorem PySem.Challenge.cw_kk0044_01_holds : PySem.Challenge.rw_kk0044_01.Holds := by
  w_on
  o_law
  k_head
  case hw => w_witness2
  k_go0
  all_goals (try k_fold)
  refine Mine.law_final (by assumption) ?lawK (by assumption) (by assumption) (by assumption) (by assumption) (by assumption) (by assumption) (by assumption) (by assumption) (by assumption) (by assumption) (by assumption) (by assumption) (by assumption) (by assumption) ?lawS ?lawA ?lawD ?lawU ?lawH
  case lawK =>
    exact ⟨⟨_, _, rfl, rfl⟩, ⟨_, _, _, rfl, rfl, rfl⟩, ⟨_, _, rfl, rfl⟩, ⟨_, _, _, rfl, rfl, rfl⟩, rfl, rfl, ⟨_, rfl⟩, by
      intro x hx
      simp only [List.mem_cons, List.not_mem_nil, or_false] at hx
      rcases hx with rfl | rfl | rfl | rfl | rfl | rfl <;> rfl⟩
  case lawS => rfl
  case lawA => rfl
  case lawD => show callerA.depth + 1 + 200 < recursionLimit; decide
  case lawU => show callerA.units + 3 + 2000 < cLine; decide
  case lawH =>
    intro h' tk m' hF hG
    refine ⟨?_, hG⟩
    wrow_close
