/-
  OWN WORK. A region that draws, walked by an invariant: whatever the order, what holds of the operations that have come up holds at the end.
-/
import Derived.WalkKit
import Derived.Orders
namespace Go.Proofs.YbulkdcwkDoor

/-- How many of the first n are not listed. -/
def unl : Nat → (Nat → Bool) → Nat
  | 0, _ => 0
  | n + 1, L => unl n L + (if L n then 0 else 1)

def mark (L : Nat → Bool) (i : Nat) : Nat → Bool := fun j => if j = i then true else L j

theorem unl_out {n i : Nat} {L : Nat → Bool} (h : n ≤ i) : unl n (mark L i) = unl n L := by
  induction n with
  | zero => rfl
  | succ n ih =>
    have hne : n ≠ i := by omega
    have := ih (by omega)
    simp only [unl, mark, hne, if_false]
    change unl n (mark L i) + _ = _
    rw [this]

theorem unl_mark {n i : Nat} {L : Nat → Bool} (hi : i < n) (h : L i = false) : unl n (mark L i) + 1 = unl n L := by
  induction n with
  | zero => omega
  | succ n ih =>
    by_cases e : i = n
    · subst e
      have := unl_out (L := L) (Nat.le_refl i)
      simp only [unl, this, h]
      simp [mark]
    · have := ih (by omega)
      have hne : n ≠ i := fun h => e h.symm
      simp only [unl, mark, hne, if_false] at this ⊢
      change unl n (mark L i) + 1 = unl n L at this
      change unl n (mark L i) + _ + 1 = _
      omega

theorem unl_zero {n : Nat} {L : Nat → Bool} (h : unl n L = 0) : ∀ j, j < n → L j = true := by
  induction n with
  | zero => intro j hj; omega
  | succ n ih =>
    simp only [unl] at h
    intro j hj
    by_cases e : j = n
    · subst e
      cases hL : L j with
      | true => rfl
      | false => simp [hL] at h
    · exact ih (by omega) j (by omega)

/-- The least that is not listed. -/
theorem least_out (L : Nat → Bool) : ∀ n, (∀ j, j < n → L j = true) ∨ ∃ i, i < n ∧ L i = false ∧ ∀ j, j < i → L j = true
  | 0 => .inl fun j hj => absurd hj (Nat.not_lt_zero _)
  | n + 1 => by
    rcases least_out L n with h | ⟨i, hi, h1, h2⟩
    · cases hL : L n with
      | true =>
        refine .inl fun j hj => ?_
        by_cases e : j = n
        · subst e; exact hL
        · exact h j (by omega)
      | false => exact .inr ⟨n, by omega, hL, h⟩
    · exact .inr ⟨i, by omega, h1, h2⟩

section
variable {P : Program} {ops : Array Oper} {Q : Exit → Act → World → Prop}

theorem wpAny_inv (I : (Nat → Bool) → Act → World → Prop)
    (hstep : ∀ (L : Nat → Bool) (a : Act) (w : World) (i : Nat) (o : Oper), I L a w → L i = false → ops[i]? = some o → (∀ e ∈ o.after, Region.binds .any e = true → L e.on = true) → o.wp P a w (fun a' w' => I (mark L i) a' w') Q)
    (hend : ∀ (L : Nat → Bool) (a : Act) (w : World), I L a w → (∀ j, j < ops.size → L j = true) → Q .normal a w)
    (hgd : ∀ (i : Nat) (o : Oper), ops[i]? = some o → o.guard = none) (hlow : ∀ (i : Nat) (o : Oper), ops[i]? = some o → ∀ e ∈ o.after, e.on < i) :
    ∀ (fuel : Nat) (listed : Array Bool) (a : Act) (w : World), listed.size = ops.size → unl ops.size (fun j => listed.getD j false) ≤ fuel → I (fun j => listed.getD j false) a w → wpAny P .any ops Q fuel listed a w
  | 0, listed, a, w, hs, hf, hI => by
    have hall := unl_zero (Nat.le_zero.1 hf)
    refine ⟨?_, hend _ _ _ hI hall⟩
    apply List.eq_nil_iff_forall_not_mem.2
    intro i hi
    obtain ⟨h1, o, ho, _⟩ := mem_ready.1 hi
    have hlt : i < ops.size := (Array.getElem?_eq_some_iff.1 ho).1
    have h2 : listed.getD i false = true := hall i hlt
    have h3 : i < listed.size := by omega
    simp [h3] at h1 h2
    rw [h1] at h2
    cases h2
  | fuel + 1, listed, a, w, hs, hf, hI => by
    refine ⟨fun hr => ?_, fun i hi => ?_⟩
    · rcases least_out (fun j => listed.getD j false) ops.size with hall | ⟨i, hi, h1, h2⟩
      · exact hend _ _ _ hI hall
      · exfalso
        have : i ∈ Region.ready .any ops listed := by
          refine mem_ready.2 ⟨?_, ops[i], by simp [hi], fun e he _ => ?_⟩
          · have h3 : i < listed.size := by omega
            simp [h3] at h1 ⊢
            exact h1
          · exact h2 _ (hlow i ops[i] (by simp [hi]) e he)
        rw [hr] at this
        cases this
    · obtain ⟨h1, o, ho, hdep⟩ := mem_ready.1 hi
      have hlt : i < ops.size := (Array.getElem?_eq_some_iff.1 ho).1
      have h3 : i < listed.size := by omega
      have hL : listed.getD i false = false := by
        simp [h3] at h1 ⊢
        exact h1
      have hmark : (fun j => (listed.setIfInBounds i true).getD j false) = mark (fun j => listed.getD j false) i := by
        funext j
        unfold mark
        by_cases e : j = i
        · subst e
          simp [h3]
        · have e' : ¬ i = j := fun h => e h.symm
          simp only [Array.getD_eq_getD_getElem?, Array.getElem?_setIfInBounds, e', e, if_false]
      unfold wpOp
      simp only [ho]
      have hw : Region.wanted o (yielded ops a.tmps) = true := by simp [Region.wanted, hgd i o ho]
      rw [if_pos hw]
      refine .inl (Oper.wp_mono (fun a' w' hI' => ?_) (hstep _ a w i o hI hL ho hdep))
      refine wpAny_inv I hstep hend hgd hlow fuel _ a' w' (by simp [hs]) ?_ ?_
      · rw [hmark]
        have := unl_mark (L := fun j => listed.getD j false) hlt hL
        omega
      · rw [hmark]
        exact hI'

theorem unl_le (n : Nat) (L : Nat → Bool) : unl n L ≤ n := by
  induction n with
  | zero => exact Nat.le_refl _
  | succ n ih =>
    simp only [unl]
    split <;> omega

theorem wp_region_inv {id : Nat} {a0 : Act} {w0 : World} (I : (Nat → Bool) → Act → World → Prop) (hm : P.follows .mixedOrders = true)
    (h0 : I (fun _ => false) a0 w0.drew)
    (hstep : ∀ (L : Nat → Bool) (a : Act) (w : World) (i : Nat) (o : Oper), I L a w → L i = false → ops[i]? = some o → (∀ e ∈ o.after, Region.binds .any e = true → L e.on = true) → o.wp P a w (fun a' w' => I (mark L i) a' w') Q)
    (hend : ∀ (L : Nat → Bool) (a : Act) (w : World), I L a w → (∀ j, j < ops.size → L j = true) → Q .normal a w)
    (hgd : ∀ (i : Nat) (o : Oper), ops[i]? = some o → o.guard = none) (hlow : ∀ (i : Nat) (o : Oper), ops[i]? = some o → ∀ e ∈ o.after, e.on < i) : (Code.region id ops true).wp P Q a0 w0 := by
  refine wp_region_any hm (wpAny_inv I hstep hend hgd hlow _ _ _ _ (by simp) (unl_le _ _) ?_)
  have : (fun j => (Array.replicate ops.size false).getD j false) = fun _ => false := by
    funext j
    by_cases h : j < ops.size
    · simp [h]
    · simp [h]
  rw [this]
  exact h0
end

/-! ### the frame: the slots ds hold vals, the others what they held -/

def setAll (t : Array Value) (ds : List Nat) (vals : Nat → Value) : Array Value := ds.foldl (fun t d => t.setIfInBounds d (vals d)) t

theorem size_setAll (ds : List Nat) (vals : Nat → Value) : ∀ t, (setAll t ds vals).size = t.size := by
  induction ds with
  | nil => intro t; rfl
  | cons d ds ih =>
    intro t
    show (setAll (t.setIfInBounds d (vals d)) ds vals).size = t.size
    rw [ih]; simp

theorem get_setAll (vals : Nat → Value) (k : Nat) : ∀ (ds : List Nat) (t : Array Value), (setAll t ds vals)[k]? = if k ∈ ds ∧ k < t.size then some (vals k) else t[k]? := by
  intro ds
  induction ds with
  | nil => intro t; simp [setAll]
  | cons d ds ih =>
    intro t
    show (setAll (t.setIfInBounds d (vals d)) ds vals)[k]? = _
    rw [ih]
    simp only [Array.size_setIfInBounds, List.mem_cons]
    by_cases hk : k < t.size
    · by_cases h1 : k ∈ ds
      · simp [h1, hk]
      · by_cases h2 : k = d
        · subst h2
          simp [h1, hk]
        · have h2' : ¬ d = k := fun h => h2 h.symm
          simp [h1, h2, h2']
    · simp [hk]

def upv (vals : Nat → Value) (d : Nat) (v : Value) : Nat → Value := fun k => if k = d then v else vals k

/-- The frame. -/
def fr (a0 : Act) (ds : List Nat) (vals : Nat → Value) : Act := { a0 with tmps := setAll a0.tmps ds vals }

theorem fr_put {a0 : Act} {ds : List Nat} {vals : Nat → Value} {d : Nat} (hd : d ∈ ds) (v : Value) : (fr a0 ds vals).put (some d) v = fr a0 ds (upv vals d v) := by
  unfold fr Act.put
  dsimp only
  congr 1
  apply Array.ext_getElem?
  intro k
  rw [Array.getElem?_setIfInBounds, get_setAll, size_setAll, get_setAll]
  by_cases e : d = k
  · subst e
    by_cases hk : d < a0.tmps.size
    · simp [hd, hk, upv]
    · simp [hk]
  · have e' : ¬ k = d := fun h => e h.symm
    simp only [e, if_false, upv, e']

theorem fr_self (a0 : Act) (ds : List Nat) : a0 = fr a0 ds (fun k => a0.tmps.getD k undef) := by
  unfold fr
  have : setAll a0.tmps ds (fun k => a0.tmps.getD k undef) = a0.tmps := by
    apply Array.ext_getElem?
    intro k
    rw [get_setAll]
    split
    · rename_i h
      simp [h.2]
    · rfl
  rw [this]

theorem fr_in {a0 : Act} {ds : List Nat} {vals : Nat → Value} {k : Nat} (hk : k ∈ ds) (hlt : k < a0.tmps.size) : (fr a0 ds vals).eval (.tmp k) = vals k := by
  show (setAll a0.tmps ds vals).getD k undef = vals k
  rw [Array.getD_eq_getD_getElem?, get_setAll, if_pos ⟨hk, hlt⟩]
  rfl

theorem fr_out {a0 : Act} {ds : List Nat} {vals : Nat → Value} {k : Nat} (hk : k ∉ ds) : (fr a0 ds vals).eval (.tmp k) = a0.eval (.tmp k) := by
  show (setAll a0.tmps ds vals).getD k undef = a0.tmps.getD k undef
  rw [Array.getD_eq_getD_getElem?, get_setAll, if_neg (fun h => hk h.1), Array.getD_eq_getD_getElem?]

/-- The same, the frame told by the slots' values. -/
theorem wp_region_fr {P : Program} {ops : Array Oper} {Q : Exit → Act → World → Prop} {id : Nat} {a0 : Act} {w0 : World} (ds : List Nat) (J : (Nat → Bool) → (Nat → Value) → World → Prop) (hm : P.follows .mixedOrders = true)
    (h0 : ∀ vals, J (fun _ => false) vals w0.drew)
    (hstep : ∀ (L : Nat → Bool) (vals : Nat → Value) (W : World) (i : Nat) (o : Oper), J L vals W → L i = false → ops[i]? = some o → (∀ e ∈ o.after, Region.binds .any e = true → L e.on = true) → o.wp P (fr a0 ds vals) W (fun a' W' => ∃ vals', a' = fr a0 ds vals' ∧ J (mark L i) vals' W') Q)
    (hend : ∀ (L : Nat → Bool) (vals : Nat → Value) (W : World), J L vals W → (∀ j, j < ops.size → L j = true) → Q .normal (fr a0 ds vals) W)
    (hgd : ∀ (i : Nat) (o : Oper), ops[i]? = some o → o.guard = none) (hlow : ∀ (i : Nat) (o : Oper), ops[i]? = some o → ∀ e ∈ o.after, e.on < i) : (Code.region id ops true).wp P Q a0 w0 := by
  refine wp_region_inv (fun L a W => ∃ vals, a = fr a0 ds vals ∧ J L vals W) hm ⟨_, fr_self a0 ds, h0 _⟩ ?_ ?_ hgd hlow
  · rintro L a W i o ⟨vals, rfl, hJ⟩ hL ho hd
    exact hstep L vals W i o hJ hL ho hd
  · rintro L a W ⟨vals, rfl, hJ⟩ hall
    exact hend L vals W hJ hall

theorem wp_value {P : Program} {o : Oper} {a : Act} {w w' : World} {K : Act → World → Prop} {Q : Exit → Act → World → Prop} {v : Value} (h : (execOp a.eval o).run P w = .ok (.value v) w') (hk : K (a.put o.dst v) w') : o.wp P a w K Q := by
  unfold Oper.wp
  rw [h]
  exact hk

theorem wp_enter {P : Program} {o : Oper} {a : Act} {w : World} {K : Act → World → Prop} {Q : Exit → Act → World → Prop} {f : FuncId} {args : Array Value} {v : Value} {R : World → Prop} (h : (execOp a.eval o).run P w = .ok (.enter f args) w) (hc : Calls P f args w fun e w' => e = .returned v ∧ R w') (hk : ∀ w', R w' → K (a.put o.dst v) w') : o.wp P a w K Q := by
  unfold Oper.wp
  rw [h]
  refine hc.mono ?_
  rintro _ w' ⟨rfl, hR⟩
  exact hk w' hR

end Go.Proofs.YbulkdcwkDoor
