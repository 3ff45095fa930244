namespace Go.Proofs.Ybulkdicc

/-- A span: where it starts, where it ends, its operator. -/
structure Sp (α : Type) where
  s : Nat
  e : Nat
  o : α

/-- What 'settle' answers. -/
def settleL {α : Type} (op : α) : List (Sp α) → List (Nat × Nat) → List (Sp α)
  | K, [] => K
  | [], m :: F => ⟨m.1, m.2, op⟩ :: settleL op [] F
  | k :: K, m :: F =>
    if k.e ≤ m.1 then k :: settleL op K (m :: F)
    else if k.s < m.2 then settleL op (k :: K) F
    else ⟨m.1, m.2, op⟩ :: settleL op (k :: K) F
termination_by K F => K.length + F.length

/-- The law's merge by starts. -/
def mergeL {α : Type} : List (Sp α) → List (Sp α) → List (Sp α)
  | K, [] => K
  | [], i :: I => i :: I
  | k :: K, i :: I => if k.s < i.s then k :: mergeL K (i :: I) else i :: mergeL (k :: K) I
termination_by K I => K.length + I.length

def ov {α : Type} (m : Nat × Nat) (k : Sp α) : Bool := decide (m.1 < k.e) && decide (k.s < m.2)
def insL {α : Type} (op : α) (K : List (Sp α)) (F : List (Nat × Nat)) : List (Sp α) := (F.filter fun m => !K.any (ov m)).map fun m => ⟨m.1, m.2, op⟩

def OrdK {α : Type} : Nat → List (Sp α) → Prop
  | _, [] => True
  | lo, k :: K => lo ≤ k.s ∧ k.s < k.e ∧ OrdK k.e K
def OrdF : Nat → List (Nat × Nat) → Prop
  | _, [] => True
  | lo, m :: F => lo ≤ m.1 ∧ m.1 < m.2 ∧ OrdF m.2 F

theorem OrdK.mono {α : Type} {a b : Nat} {K : List (Sp α)} (h : OrdK b K) (hab : a ≤ b) : OrdK a K := by
  cases K with
  | nil => trivial
  | cons k K => exact ⟨Nat.le_trans hab h.1, h.2.1, h.2.2⟩
theorem OrdF.mono {a b : Nat} {K : List (Nat × Nat)} (h : OrdF b K) (hab : a ≤ b) : OrdF a K := by
  cases K with
  | nil => trivial
  | cons k K => exact ⟨Nat.le_trans hab h.1, h.2.1, h.2.2⟩
theorem OrdK.all {α : Type} : ∀ {lo : Nat} {K : List (Sp α)}, OrdK lo K → ∀ k ∈ K, lo ≤ k.s ∧ k.s < k.e
  | _, [], _, _, h => by cases h
  | lo, q :: K, h, k, hk => by
    rcases List.mem_cons.1 hk with rfl | hk
    · exact ⟨h.1, h.2.1⟩
    · have := OrdK.all h.2.2 k hk
      have h1 := h.1
      have h2 := h.2.1
      exact ⟨by omega, this.2⟩
theorem OrdF.all : ∀ {lo : Nat} {K : List (Nat × Nat)}, OrdF lo K → ∀ k ∈ K, lo ≤ k.1 ∧ k.1 < k.2
  | _, [], _, _, h => by cases h
  | lo, q :: K, h, k, hk => by
    rcases List.mem_cons.1 hk with rfl | hk
    · exact ⟨h.1, h.2.1⟩
    · have := OrdF.all h.2.2 k hk
      have h1 := h.1
      have h2 := h.2.1
      exact ⟨by omega, this.2⟩

theorem mergeL_front {α : Type} (k : Sp α) (K I : List (Sp α)) (h : ∀ i ∈ I, k.s < i.s) : mergeL (k :: K) I = k :: mergeL K I := by
  cases I with
  | nil => simp [mergeL]
  | cons i I => rw [mergeL, if_pos (h i (by simp))]

theorem insL_drop {α : Type} (op : α) (k : Sp α) (K : List (Sp α)) (F : List (Nat × Nat)) (h : ∀ m ∈ F, k.e ≤ m.1) : insL op (k :: K) F = insL op K F := by
  unfold insL
  congr 1
  apply List.filter_congr
  intro m hm
  have h1 := h m hm
  have : ov m k = false := by simp [ov]; omega
  simp [this]

/-- THE PLAIN LAW: the model's merge is what 'settle' answers. -/
theorem merge_settle {α : Type} (op : α) (K : List (Sp α)) (F : List (Nat × Nat)) : ∀ (a b : Nat), OrdK a K → OrdF b F → mergeL K (insL op K F) = settleL op K F := by
  fun_induction settleL op K F with
  | case1 K => intro a b _ _; simp [insL, mergeL]
  | case2 m F ih =>
    intro a b hk hf
    have := ih 0 0 trivial (hf.2.2.mono (Nat.zero_le _))
    have h2 : ∀ I : List (Sp α), mergeL [] I = I := fun I => by cases I <;> simp [mergeL]
    rw [h2] at this ⊢
    rw [← this]
    simp [insL]
  | case3 k K m F hle ih =>
    intro a b hk hf
    have hall : ∀ q ∈ m :: F, k.e ≤ q.1 := by
      intro q hq
      rcases List.mem_cons.1 hq with rfl | hq
      · exact hle
      · have h1 := (OrdF.all hf.2.2 q hq).1
        have h2 := hf.2.1
        omega
    rw [insL_drop op k K _ hall, mergeL_front, ih _ _ hk.2.2 hf]
    intro i hi
    simp only [insL, List.mem_map, List.mem_filter] at hi
    obtain ⟨q, ⟨hq, _⟩, rfl⟩ := hi
    have h1 := hall q hq
    have h2 := hk.2.1
    show k.s < q.1
    omega
  | case4 k K m F hn hlt ih =>
    intro a b hk hf
    rw [← ih _ _ hk hf.2.2]
    congr 1
    have : ov m k = true := by simp [ov]; omega
    simp [insL, this]
  | case5 k K m F hn hlt ih =>
    intro a b hk hf
    rw [← ih _ _ hk hf.2.2]
    have h1 : ov m k = false := by simp [ov]; omega
    have h2 : ∀ q ∈ K, ov m q = false := by
      intro q hq
      have := (OrdK.all hk.2.2 q hq).1
      have h3 := hk.2.1
      simp [ov]; omega
    have h3 : K.any (ov m) = false := by
      rw [List.any_eq_false]; intro q hq; simp [h2 q hq]
    have h4 : insL op (k :: K) (m :: F) = ⟨m.1, m.2, op⟩ :: insL op (k :: K) F := by
      simp [insL, h1, h3]
    rw [h4, mergeL, if_neg]
    show ¬ k.s < m.1
    have := hf.2.1
    omega

end Go.Proofs.Ybulkdicc
