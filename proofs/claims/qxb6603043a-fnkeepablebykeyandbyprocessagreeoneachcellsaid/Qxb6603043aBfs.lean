/- The plain law of the breadth-first labelling. 'c y': the label of 'y', or -1. -/
import Derived.Test.Qxb6603043aUF
namespace Go.Proofs.Qxb6603043a.UF

/-- How many of the first 'm' bear no label. -/
def unl (c : Nat → Int) : Nat → Nat
  | 0 => 0
  | m + 1 => unl c m + if c m < 0 then 1 else 0

theorem unl_le (c : Nat → Int) (m : Nat) : unl c m ≤ m := by
  induction m with
  | zero => simp [unl]
  | succ m ih => simp only [unl]; split <;> omega

theorem unl_upd {c : Nat → Int} {y : Nat} {v : Int} (hy : c y < 0) (hv : 0 ≤ v) (m : Nat) : unl (upd c y v) m + (if y < m then 1 else 0) = unl c m := by
  induction m with
  | zero => simp [unl]
  | succ m ih =>
    simp only [unl]
    by_cases e : y = m
    · subst e
      rw [upd_same, if_neg (by omega), if_pos (by omega), if_pos hy]
      rw [if_neg (by omega)] at ih
      omega
    · rw [upd_other c v (fun e2 => e e2.symm)]
      by_cases h : y < m
      · have e1 : (if y < m + 1 then 1 else 0 : Nat) = 1 := if_pos (by omega)
        rw [e1]
        rw [if_pos h] at ih
        omega
      · have e1 : (if y < m + 1 then 1 else 0 : Nat) = 0 := if_neg (by omega)
        rw [e1]
        rw [if_neg h] at ih
        omega

/-- At the head of the outer loop: all below 's' are labelled; labels are least and connected; neighbours of the labelled bear the same. -/
structure Closed (n : Nat) (adj : Nat → Nat → Prop) (s : Nat) (c : Nat → Int) : Prop where
  lo : ∀ y, y < n → -1 ≤ c y
  all : ∀ y, y < s → y < n → 0 ≤ c y
  le : ∀ y, y < n → 0 ≤ c y → c y ≤ y
  conn : ∀ y, y < n → 0 ≤ c y → Conn n adj y (c y).toNat
  same : ∀ x y, x < n → y < n → adj x y → 0 ≤ c x → c y = c x

theorem Closed.start (n : Nat) (adj : Nat → Nat → Prop) : Closed n adj 0 (fun _ => -1) :=
  ⟨fun _ _ => Int.le_refl _, fun y hy => by omega, fun y _ h => absurd h (by decide), fun y _ h => absurd h (by decide), fun x y _ _ _ h => absurd h (by decide)⟩

theorem Closed.skip {n : Nat} {adj : Nat → Nat → Prop} {s : Nat} {c : Nat → Int} (h : Closed n adj s c) (hs : 0 ≤ c s) : Closed n adj (s + 1) c :=
  ⟨h.lo, fun y hy hn => by
    by_cases e : y = s
    · rw [e]; exact hs
    · exact h.all y (by omega) hn, h.le, h.conn, h.same⟩

/-- Inside: 'c0' is the labelling at the outer head; 'qu' the queue of those that 's' labels; its first 'hd' are done, and of the next one its neighbours below 'k'. -/
structure Wave (n : Nat) (adj : Nat → Nat → Prop) (s : Nat) (c0 c : Nat → Int) (qu : List Nat) (hd k : Nat) : Prop where
  old : ∀ y, y < n → 0 ≤ c0 y → c y = c0 y
  new : ∀ y, y < n → c0 y < 0 → 0 ≤ c y → c y = (s : Int) ∧ y ∈ qu
  lo : ∀ y, y < n → -1 ≤ c y
  mem : ∀ y, y ∈ qu → y < n ∧ c0 y < 0 ∧ c y = (s : Int) ∧ Conn n adj y s
  done : ∀ i x, i < hd → qu[i]? = some x → ∀ y, y < n → adj x y → 0 ≤ c y
  here : ∀ x, qu[hd]? = some x → ∀ y, y < k → y < n → adj x y → 0 ≤ c y
  size : qu.length + unl c n ≤ n
  src : s ∈ qu

theorem Wave.start {n : Nat} {adj : Nat → Nat → Prop} {s : Nat} {c0 : Nat → Int} (h : Closed n adj s c0) (hs : s < n) (hc : c0 s < 0) : Wave n adj s c0 (upd c0 s (s : Int)) [s] 0 0 := by
  refine ⟨fun y _ h0 => ?_, fun y hy h0 h1 => ?_, fun y hy => ?_, fun y hy => ?_, fun i x hi => by omega, fun x _ y hy => by omega, ?_, by simp⟩
  · by_cases e : y = s
    · subst e; omega
    · rw [upd_other _ _ e]
  · by_cases e : y = s
    · subst e; rw [upd_same]; simp
    · rw [upd_other _ _ e] at h1; omega
  · by_cases e : y = s
    · subst e; rw [upd_same]; omega
    · rw [upd_other _ _ e]; exact h.lo y hy
  · have e : y = s := by simpa using hy
    subst e
    rw [upd_same]
    exact ⟨hs, hc, rfl, Conn.refl _⟩
  · have := unl_upd (y := s) (v := (s : Int)) hc (by omega) n
    rw [if_pos hs] at this
    have h2 := unl_le c0 n
    simp
    omega

/-- The neighbour 'k' of the queue's head is labelled now. -/
theorem Wave.hit {n : Nat} {adj : Nat → Nat → Prop} {s : Nat} {c0 c : Nat → Int} {qu : List Nat} {hd k x : Nat} (h : Wave n adj s c0 c qu hd k) (hx : qu[hd]? = some x) (hk : k < n) (hc : c k < 0) (ha : adj k x) : Wave n adj s c0 (upd c k (s : Int)) (qu ++ [k]) hd (k + 1) := by
  have hxm := h.mem x (List.mem_of_getElem? hx)
  have hhd : hd < qu.length := (List.getElem?_eq_some_iff.1 hx).1
  have h00 : c0 k < 0 := by
    rcases Int.lt_or_le (c0 k) 0 with h1 | h1
    · exact h1
    · have := h.old k hk h1
      omega
  have up : ∀ y, 0 ≤ c y → 0 ≤ upd c k (s : Int) y := fun y hy => by
    by_cases e : y = k
    · subst e; rw [upd_same]; omega
    · rw [upd_other _ _ e]; exact hy
  refine ⟨fun y hy h0 => ?_, fun y hy h0 h1 => ?_, fun y hy => ?_, fun y hy => ?_, fun i z hi hz y hy hadj => ?_, fun z hz y hy hn hadj => ?_, ?_, by simp [h.src]⟩
  · have := h.old y hy h0
    rw [upd_other _ _ (fun e => by rw [e] at h0; omega)]
    exact this
  · by_cases e : y = k
    · subst e; rw [upd_same]; simp
    · rw [upd_other _ _ e] at h1 ⊢
      obtain ⟨a, b⟩ := h.new y hy h0 h1
      exact ⟨a, by simp [b]⟩
  · by_cases e : y = k
    · subst e; rw [upd_same]; omega
    · rw [upd_other _ _ e]; exact h.lo y hy
  · rcases List.mem_append.1 hy with h1 | h1
    · obtain ⟨a, b, cc, d⟩ := h.mem y h1
      refine ⟨a, b, ?_, d⟩
      rw [upd_other _ _ (fun e => by rw [e] at cc; omega)]
      exact cc
    · have e : y = k := by simpa using h1
      subst e
      rw [upd_same]
      exact ⟨hk, h00, rfl, (Conn.of_adj hk hxm.1 ha).trans hxm.2.2.2⟩
  · rw [List.getElem?_append_left (by omega)] at hz
    exact up y (h.done i z hi hz y hy hadj)
  · rw [List.getElem?_append_left hhd] at hz
    by_cases e : y = k
    · subst e; rw [upd_same]; omega
    · exact up y (h.here z hz y (by omega) hn hadj)
  · have := unl_upd (y := k) (v := (s : Int)) hc (by omega) n
    rw [if_pos hk] at this
    have := h.size
    simp
    omega

/-- The neighbour is labelled already, or is none. -/
theorem Wave.miss {n : Nat} {adj : Nat → Nat → Prop} {s : Nat} {c0 c : Nat → Int} {qu : List Nat} {hd k x : Nat} (h : Wave n adj s c0 c qu hd k) (hx : qu[hd]? = some x) (hm : 0 ≤ c k ∨ ¬ adj x k) : Wave n adj s c0 c qu hd (k + 1) := by
  refine ⟨h.old, h.new, h.lo, h.mem, h.done, fun z hz y hy hn hadj => ?_, h.size, h.src⟩
  have e : z = x := by rw [hx] at hz; exact (Option.some.inj hz).symm
  subst e
  by_cases ey : y = k
  · subst ey
    rcases hm with h1 | h1
    · exact h1
    · exact absurd hadj h1
  · exact h.here z hz y (by omega) hn hadj

theorem Wave.next {n : Nat} {adj : Nat → Nat → Prop} {s : Nat} {c0 c : Nat → Int} {qu : List Nat} {hd : Nat} (h : Wave n adj s c0 c qu hd n) : Wave n adj s c0 c qu (hd + 1) 0 := by
  refine ⟨h.old, h.new, h.lo, h.mem, fun i x hi hx y hy hadj => ?_, fun x _ y hy => by omega, h.size, h.src⟩
  by_cases e : i = hd
  · subst e; exact h.here x hx y hy hy hadj
  · exact h.done i x (by omega) hx y hy hadj

theorem Wave.close {n : Nat} {adj : Nat → Nat → Prop} (symm : ∀ a b, adj a b → adj b a) {s : Nat} {c0 c : Nat → Int} {qu : List Nat} {hd : Nat} (h0 : Closed n adj s c0) (h : Wave n adj s c0 c qu hd 0) (hd' : qu.length ≤ hd) : Closed n adj (s + 1) c := by
  have key : ∀ y, y < n → 0 ≤ c y → (0 ≤ c0 y ∧ c y = c0 y) ∨ (c0 y < 0 ∧ c y = (s : Int) ∧ y ∈ qu) := fun y hy h1 => by
    rcases Int.lt_or_le (c0 y) 0 with h2 | h2
    · exact .inr ⟨h2, h.new y hy h2 h1⟩
    · exact .inl ⟨h2, h.old y hy h2⟩
  refine ⟨h.lo, fun y hy hn => ?_, fun y hy h1 => ?_, fun y hy h1 => ?_, fun x y hx hy hadj h1 => ?_⟩
  · by_cases e : y = s
    · have := (h.mem s h.src).2.2.1
      rw [e]; omega
    · have h1 := h0.all y (by omega) hn
      rw [h.old y hn h1]; exact h1
  · rcases key y hy h1 with ⟨a, b⟩ | ⟨a, b, _⟩
    · rw [b]; exact h0.le y hy a
    · rw [b]
      rcases Nat.lt_or_ge y s with h2 | h2
      · have := h0.all y h2 hy; omega
      · omega
  · rcases key y hy h1 with ⟨a, b⟩ | ⟨a, b, m⟩
    · rw [b]; exact h0.conn y hy a
    · rw [b]; exact (h.mem y m).2.2.2
  · rcases key x hx h1 with ⟨a, b⟩ | ⟨a, b, m⟩
    · have := h0.same x y hx hy hadj a
      rw [b, h.old y hy (by omega), this]
    · obtain ⟨i, hi⟩ := List.getElem?_of_mem m
      have hil : i < qu.length := (List.getElem?_eq_some_iff.1 hi).1
      have h2 := h.done i x (by omega) hi y hy hadj
      rcases key y hy h2 with ⟨a', b'⟩ | ⟨a', b', _⟩
      · have := h0.same y x hy hx (symm _ _ hadj) a'
        omega
      · rw [b, b']

theorem Closed.isLab {n : Nat} {adj : Nat → Nat → Prop} {c : Nat → Int} (h : Closed n adj n c) : IsLab n adj (fun y => (c y).toNat) :=
  ⟨fun y hy => by have := h.le y hy (h.all y hy hy); omega, fun y hy => h.conn y hy (h.all y hy hy), fun i j hi hj e => by rw [h.same i j hi hj e (h.all i hi hi)]⟩

end Go.Proofs.Qxb6603043a.UF
