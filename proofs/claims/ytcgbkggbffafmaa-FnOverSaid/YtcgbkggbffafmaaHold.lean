/- A drawn region whose loads may be taken first though it stores at its end: the condition on the world is shown behind each operation but those of a list N (the stores), each of which waits for what is taken. In the make of the kit's law for a held region. No program in sight. -/
import Derived.Deep.RegionHeld3
import Derived.Deep.CutBlock
namespace Go.Proofs.Ytcgbkggbffafmaa
section
variable {P : Program} {ops : Array Oper} {Q : Exit → Act → World → Prop} {md : Region.Mode} {S : World → Prop} {N : List Nat}

def anyN (P : Program) (md : Region.Mode) (ops : Array Oper) (Q : Exit → Act → World → Prop) (S : World → Prop) (N : List Nat) : Nat → Array Bool → Act → World → Prop
  | 0, listed, a, w => Region.ready md ops listed = [] ∧ Q .normal a w
  | fuel + 1, listed, a, w =>
    (Region.ready md ops listed = [] → Q .normal a w) ∧
    ∀ i ∈ Region.ready md ops listed, wpOp P ops Q i (fun a' w' => (i ∉ N → S w') ∧ anyN P md ops Q S N fuel (listed.setIfInBounds i true) a' w') a w

theorem any_of_N : ∀ (fuel : Nat) (listed : Array Bool) (a : Act) (w : World), anyN P md ops Q S N fuel listed a w → wpAny P md ops Q fuel listed a w
  | 0, _, _, _, h => h
  | fuel + 1, _, _, _, h => ⟨h.1, fun i hi => wpOp_mono (fun a' w' h' => any_of_N fuel _ a' w' h'.2) (h.2 i hi)⟩

/-- Each operation of the list waits for number i. -/
def waits (md : Region.Mode) (ops : Array Oper) (N : List Nat) (i : Nat) : Bool :=
  N.all fun j => match ops[j]? with
    | some o => o.after.any fun e => Region.binds md e && e.on == i
    | none => true

/-- A chain from number i: each of its operations waits for the one ahead. -/
def chainOf (md : Region.Mode) (ops : Array Oper) : Nat → List Nat → Bool
  | _, [] => true
  | i, c :: cs => waits md ops [c] i && chainOf md ops c cs
/-- A chain from number i that holds the list N. -/
def chainOk (md : Region.Mode) (ops : Array Oper) (N : List Nat) (i : Nat) (path : List Nat) : Bool :=
  chainOf md ops i path && N.all fun j => path.contains j

theorem waits_spec {L : List Nat} {x j : Nat} {listed : Array Bool} (h : waits md ops L x = true) (hj : j ∈ Region.ready md ops listed) (hx : listed.getD x false = false) : j ∉ L := fun hm => by
  obtain ⟨_, oj, hoj, hall⟩ := mem_ready.1 hj
  have h2 := List.all_eq_true.1 h j hm
  simp only [hoj, Array.any_eq_true', Bool.and_eq_true, beq_iff_eq] at h2
  obtain ⟨e, he, hb, ho⟩ := h2
  have h3 := hall e he hb
  rw [ho, hx] at h3
  cases h3

theorem chainOf_spec {j : Nat} {listed : Array Bool} (hj : j ∈ Region.ready md ops listed) :
    ∀ (path : List Nat) (x : Nat), chainOf md ops x path = true → listed.getD x false = false → (∀ c ∈ path, listed.getD c false = false) → j ∉ path
  | [], x, h, hx, _ => by simp
  | c :: cs, x, h, hx, hc => by
    simp only [chainOf, Bool.and_eq_true] at h
    have h1 := waits_spec h.1 hj hx
    have h2 := chainOf_spec hj cs c h.2 (hc c (by simp)) (fun d hd => hc d (by simp [hd]))
    refine fun hm => ?_
    rcases List.mem_cons.1 hm with rfl | hm
    · exact h1 (by simp)
    · exact h2 hm

theorem chain_spec {j : Nat} {listed : Array Bool} (hj : j ∈ Region.ready md ops listed) (path : List Nat) (x : Nat) (h : chainOk md ops N x path = true)
    (hx : listed.getD x false = false) (hc : ∀ c ∈ path, listed.getD c false = false) : j ∉ path ∧ j ∉ N := by
  simp only [chainOk, Bool.and_eq_true] at h
  have h1 := chainOf_spec hj path x h.1 hx hc
  refine ⟨h1, fun hm => h1 ?_⟩
  have h2 := List.all_eq_true.1 h.2 j hm
  simpa using h2

theorem unlisted_of_ready {i : Nat} {listed : Array Bool} (hr : i ∈ Region.ready md ops listed) : listed.getD i false = false := by
  have h0 := (mem_ready.1 hr).1
  rcases Nat.lt_or_ge i listed.size with h' | h'
  · simp [h'] at h0 ⊢; exact h0
  · simp [Array.getElem?_eq_none h'] at h0

theorem anyN_first {path : List Nat} {i : Nat} {oi : Oper} {v : Value} (hi : ops[i]? = some oi) (hsel : ∀ (j : Nat) (o : Oper) cs b, ops[j]? = some o → o.op ≠ .select cs b)
    (hQ : ∀ c a w, Q (.panic c) (a.put oi.dst v) w → Q (.panic c) a w) (hN : chainOk md ops N i path = true) :
    ∀ (fuel : Nat) (listed : Array Bool) (a : Act) (w : World),
      (∀ j oj, ops[j]? = some oj → j ≠ i → listed.getD j true = false → (∀ e ∈ oj.after, Region.binds md e = true → e.on ≠ i) → oi.apart ops oj = true) →
      (∀ c ∈ path, listed.getD c false = false) → i ∈ Region.ready md ops listed → YieldsIf P ops S oi v a → S w →
      anyN P md ops Q S N fuel (listed.setIfInBounds i true) (a.put oi.dst v) w → anyN P md ops Q S N (fuel + 1) listed a w := by
  intro fuel
  induction fuel with
  | zero =>
    intro listed a w _ hp hr hy hS H
    refine ⟨fun h => (by rw [h] at hr; cases hr), fun j hj => ?_⟩
    by_cases hji : j = i
    · subst hji; exact hy.wpOp hi hS ⟨fun _ => hS, H⟩
    · have := ready_mono hj hji
      rw [H.1] at this
      cases this
  | succ fuel ih =>
    intro listed a w hfree hp hr hy hS H
    refine ⟨fun h => (by rw [h] at hr; cases hr), fun j hj => ?_⟩
    by_cases hji : j = i
    · subst hji; exact hy.wpOp hi hS ⟨fun _ => hS, H⟩
    · have h1 := H.2 j (ready_mono hj hji)
      obtain ⟨hjun, oj, hoj, hall⟩ := mem_ready.1 hj
      have hnot : ∀ e ∈ oj.after, Region.binds md e = true → e.on ≠ i := fun e he hb heq => by
        have h1 := hall e he hb
        have h0 := (mem_ready.1 hr).1
        rw [heq] at h1
        rcases Nat.lt_or_ge i listed.size with h' | h'
        · simp [h'] at h0 h1; rw [h0] at h1; cases h1
        · simp [Array.getElem?_eq_none h'] at h1
      obtain ⟨hjp, hjN⟩ := chain_spec hj path i hN (unlisted_of_ready hr) hp
      have hp' : ∀ c ∈ path, (listed.setIfInBounds j true).getD c false = false := fun c hc => by
        rw [getD_set_ne false (show j ≠ c from fun h => hjp (by rw [h]; exact hc))]; exact hp c hc
      have h2 := wpOp_putIf hoj (hfree j oj hoj hji hjun hnot) (fun cs b => hsel i oi cs b hi) (fun cs b => hsel j oj cs b hoj) hQ hy h1
      have hfree' : ∀ k ok, ops[k]? = some ok → k ≠ i → (listed.setIfInBounds j true).getD k true = false →
          (∀ e ∈ ok.after, Region.binds md e = true → e.on ≠ i) → oi.apart ops ok = true := fun k ok hk hki hun hno => by
        refine hfree k ok hk hki ?_ hno
        by_cases hjk : j = k
        · subst hjk; exact hjun
        · rw [getD_set_ne true hjk] at hun; exact hun
      refine wpOp_mono (fun a' w' h3 => ⟨h3.2.1, ih (listed.setIfInBounds j true) a' w' hfree' hp' (ready_mono hr (Ne.symm hji)) h3.1 (h3.2.1 hjN) ?_⟩) h2
      rw [Array.setIfInBounds_comm _ _ hji]
      exact h3.2.2

theorem anyN_take (path : List Nat) {i : Nat} {oi : Oper} {v : Value} {fuel : Nat} {listed : Array Bool} {a : Act} {w : World} (hi : ops[i]? = some oi)
    (hs : Region.noSelect ops = true) (hf : Region.free md ops listed i = true) (hr : (Region.ready md ops listed).contains i = true) (hN : chainOk md ops N i path = true) (hp : path.all (fun c => !listed.getD c false) = true)
    (hQ : ∀ c a w, Q (.panic c) (a.put oi.dst v) w → Q (.panic c) a w) (hy : YieldsIf P ops S oi v a) (hS : S w)
    (h : anyN P md ops Q S N fuel (listed.setIfInBounds i true) (a.put oi.dst v) w) : anyN P md ops Q S N (fuel + 1) listed a w :=
  anyN_first hi (Region.noSelect_spec hs) hQ hN fuel listed a w (Region.free_spec hi hf) (fun c hc => by have := List.all_eq_true.1 hp c hc; simpa using this) (by simpa using hr) hy hS h

theorem anyN_done {listed : Array Bool} {a : Act} {w : World} (hr : Region.ready md ops listed = []) (h : Q .normal a w) :
    ∀ fuel, anyN P md ops Q S N fuel listed a w
  | 0 => ⟨hr, h⟩
  | _ + 1 => ⟨fun _ => h, by rw [hr]; simp⟩

theorem region_N {id : Nat} {a : Act} {w : World} (hm : P.follows .mixedOrders = true) (hS : S w.drew)
    (h : S w.drew → anyN P .any ops Q S N ops.size (Array.replicate ops.size false) a w.drew) : (Code.region id ops true).wp P Q a w :=
  wp_region_any hm (any_of_N _ _ _ _ (h hS))

def AllN (P : Program) (md : Region.Mode) (ops : Array Oper) (Q : Exit → Act → World → Prop) (S : World → Prop) (N : List Nat) (fuel : Nat) (listed : Array Bool) (a : Act) (w : World) (rs : List Nat) : Prop :=
  ∀ i ∈ rs, wpOp P ops Q i (fun a' w' => (i ∉ N → S w') ∧ anyN P md ops Q S N fuel (listed.setIfInBounds i true) a' w') a w

theorem AllN.nil {fuel : Nat} {listed : Array Bool} {a : Act} {w : World} : AllN P md ops Q S N fuel listed a w [] := fun _ h => by cases h

/-- An operation behind which S is shown anew. -/
theorem AllN.cons {fuel : Nat} {listed : Array Bool} {a : Act} {w : World} {i : Nat} {o : Oper} {rs : List Nat} (ho : ops[i]? = some o)
    (h : ∀ K' : Act → World → Prop, Shut (∀ a w, S w → (S w → anyN P md ops Q S N fuel (listed.setIfInBounds i true) a w) → K' a w) → if Region.wanted o (yielded ops a.tmps) = true then Oper.wp P o a w K' Q else K' (a.put o.dst undef) w)
    (hs : AllN P md ops Q S N fuel listed a w rs) : AllN P md ops Q S N fuel listed a w (i :: rs) := fun j hj => by
  rcases List.mem_cons.1 hj with rfl | hj
  · exact wpOp_step ho (fun K' hK => h K' (fun a w hS hW => hK a w ⟨fun _ => hS, hW hS⟩))
  · exact hs j hj

/-- An operation of the list N: S is not shown behind it. -/
theorem AllN.last {fuel : Nat} {listed : Array Bool} {a : Act} {w : World} {i : Nat} {o : Oper} {rs : List Nat} (ho : ops[i]? = some o) (hn : i ∈ N)
    (h : ∀ K' : Act → World → Prop, Shut (∀ a w, anyN P md ops Q S N fuel (listed.setIfInBounds i true) a w → K' a w) → if Region.wanted o (yielded ops a.tmps) = true then Oper.wp P o a w K' Q else K' (a.put o.dst undef) w)
    (hs : AllN P md ops Q S N fuel listed a w rs) : AllN P md ops Q S N fuel listed a w (i :: rs) := fun j hj => by
  rcases List.mem_cons.1 hj with rfl | hj
  · exact wpOp_step ho (fun K' hK => h K' (fun a w hW => hK a w ⟨fun hno => absurd hn hno, hW⟩))
  · exact hs j hj

theorem anyN_ready {rs : List Nat} {fuel : Nat} {listed : Array Bool} {a : Act} {w : World} (hr : Region.ready md ops listed = rs) (hne : rs ≠ [])
    (h : AllN P md ops Q S N fuel listed a w rs) : anyN P md ops Q S N (fuel + 1) listed a w :=
  ⟨fun h0 => absurd (hr ▸ h0) hne, hr ▸ h⟩

/-- The beginning, the world named: R is shown of the world behind the draw. -/
theorem region_R {id : Nat} {a : Act} {w : World} (R : World → Prop) (hm : P.follows .mixedOrders = true) (hR : R w.drew)
    (h : ∀ W, R W → anyN P .any ops Q S N ops.size (Array.replicate ops.size false) a W) : (Code.region id ops true).wp P Q a w :=
  wp_region_any hm (any_of_N _ _ _ _ (h _ hR))

theorem named {α : Type} {K : α → World → Prop} (R : World → Prop) {a : α} {w : World} (h : R w) (k : ∀ W, R W → K a W) : K a w := k w h
theorem wp_named {c : Code} {a : Act} {w : World} (R : World → Prop) (h : R w) (k : ∀ W, R W → c.wp P Q a W) : c.wp P Q a w := k w h
end
end Go.Proofs.Ytcgbkggbffafmaa
