/-
  THE PLAIN SIDE OF THE TREES: a forest of nodes, each a list of children that lie ahead of it. No walk here.
-/
import Derived.Test.Qxb6000433aTreeGroup
namespace Go.Proofs.Qxb6000433a

def nd0 : Nd := ⟨0, 0, -1, -1, 0, 0, 0, 0, 0⟩
def nodeAt (ns : List Nd) (v : Nat) : Nd := ns.getD v nd0

/-- From f on the children ks hang, one behind another. -/
def Chain (ns : List Nd) : Int → List Nat → Prop
  | f, [] => f = -1
  | f, c :: r => f = (c : Int) ∧ c < ns.length ∧ Chain ns (nodeAt ns c).next r

/-- What a node of each kind is. -/
def NodeOk (d : Nd) (ks : List Nat) (pos : Nat) : Prop :=
  (d.kind = 0 ∧ ks = [] ∧ d.empty = 0 ∧ 0 ≤ d.lo ∧ d.lo ≤ d.exitLo ∧ d.exitLo < d.hi ∧ d.hi ≤ d.lo + 8 ∧ d.hi ≤ pos) ∨ (d.kind = 1 ∧ ks = []) ∨ ((d.kind = 2 ∨ d.kind = 3) ∧ ks ≠ []) ∨
  (d.kind = 4 ∧ (∃ c, ks = [c]) ∧ 0 ≤ d.mn ∧ d.mn ≤ 4 ∧ (d.mx = -1 ∨ (d.mn ≤ d.mx ∧ d.mx ≤ d.mn + 3)))

structure Forest (ns : List Nd) (st : List Nat) (kids : Nat → List Nat) (pos : Nat) : Prop where
  chain : ∀ v, v < ns.length → Chain ns (nodeAt ns v).first (kids v)
  low : ∀ v, v < ns.length → ∀ c ∈ kids v, c < v
  one : ∀ v v' c, v < ns.length → v' < ns.length → c ∈ kids v → c ∈ kids v' → v = v'
  nod : ∀ v, v < ns.length → (kids v).Nodup
  stl : ∀ c ∈ st, c < ns.length ∧ (nodeAt ns c).next = -1 ∧ ∀ v, v < ns.length → c ∉ kids v
  stn : st.Nodup
  all : ∀ c, c < ns.length → c ∈ st ∨ ∃ v, v < ns.length ∧ c ∈ kids v
  top : ns.length ≠ 0 → st.getLast? = some (ns.length - 1)
  ok : ∀ v, v < ns.length → NodeOk (nodeAt ns v) (kids v) pos

theorem NodeOk.more {d : Nd} {ks : List Nat} {pos pos' : Nat} (h : NodeOk d ks pos) (hp : pos ≤ pos') : NodeOk d ks pos' := by
  rcases h with ⟨h1, h2, h3, h4, h5, h6, h7, h8⟩ | h | h | h
  · exact .inl ⟨h1, h2, h3, h4, h5, h6, h7, by omega⟩
  · exact .inr (.inl h)
  · exact .inr (.inr (.inl h))
  · exact .inr (.inr (.inr h))

theorem Forest.nil : Forest [] [] (fun _ => []) 0 :=
  ⟨fun v h => by simp at h, fun v h => by simp at h, fun v _ _ h => by simp at h, fun v h => by simp at h, fun c h => by simp at h, List.nodup_nil, fun c h => by simp at h, fun h => absurd rfl h, fun v h => by simp at h⟩

/-- A chain hangs on the 'next' of its own members alone. -/
theorem Chain.congr {ns ms : List Nd} (hl : ns.length ≤ ms.length) : ∀ {f : Int} {ks : List Nat}, (∀ c ∈ ks, (nodeAt ms c).next = (nodeAt ns c).next) → Chain ns f ks → Chain ms f ks
  | _, [], _, h => h
  | f, c :: r, hc, ⟨h1, h2, h3⟩ => ⟨h1, Nat.lt_of_lt_of_le h2 hl, by rw [hc c (List.mem_cons_self ..)]; exact Chain.congr hl (fun x hx => hc x (List.mem_cons_of_mem _ hx)) h3⟩

theorem nodeAt_append {ns : List Nd} {d : Nd} {v : Nat} (h : v < ns.length) : nodeAt (ns ++ [d]) v = nodeAt ns v := by
  unfold nodeAt; simp only [List.getD]; rw [List.getElem?_append_left h]
theorem nodeAt_last (ns : List Nd) (d : Nd) : nodeAt (ns ++ [d]) ns.length = d := by
  unfold nodeAt; simp [List.getD]

def updK (kids : Nat → List Nat) (v : Nat) (ks : List Nat) : Nat → List Nat := fun i => if i = v then ks else kids i
theorem updK_same (kids : Nat → List Nat) (v : Nat) (ks : List Nat) : updK kids v ks v = ks := by simp [updK]
theorem updK_other (kids : Nat → List Nat) {v i : Nat} (ks : List Nat) (h : i ≠ v) : updK kids v ks i = kids i := by simp [updK, h]

/-! ### linking -/
def nxF (ks : List Nat) : Nat → Nat → Int → Int
  | 0, _, old => old
  | 1, _, old => old
  | t + 2, i, old => if i = ks.getD t 0 then ((ks.getD (t + 1) 0 : Nat) : Int) else nxF ks (t + 1) i old

theorem nodeAt_modify (ns : List Nd) (p i : Nat) (f : Nd → Nd) (hp : p < ns.length) : nodeAt (ns.modify p f) i = if i = p then f (nodeAt ns i) else nodeAt ns i := by
  unfold nodeAt
  simp only [List.getD, List.getElem?_modify]
  by_cases e : i = p
  · subst e; simp [hp]
  · rw [if_neg e]
    have : ¬ p = i := fun h => e h.symm
    cases ns[i]? <;> simp [this]

theorem link_at (v : Nat) (ks : List Nat) (ns : List Nd) (hv : v < ns.length) (hk : ∀ c ∈ ks, c < ns.length) (t : Nat) (ht1 : 1 ≤ t) (ht : t ≤ ks.length) (i : Nat) :
    nodeAt (link v ks ns t) i = { nodeAt ns i with first := if i = v then ((ks.getD 0 0 : Nat) : Int) else (nodeAt ns i).first, next := nxF ks t i (nodeAt ns i).next } := by
  match t, ht1 with
  | 1, _ =>
    rw [link, setFirst, nodeAt_modify _ _ _ _ hv]
    by_cases e : i = v
    · rw [if_pos e, if_pos e]; rfl
    · rw [if_neg e, if_neg e]; rfl
  | t + 2, _ =>
    have ih := link_at v ks ns hv hk (t + 1) (by omega) (by omega) i
    have hm : ks.getD t 0 < ns.length := hk _ (by simp [List.getD, show t < ks.length by omega])
    rw [link, setNext, nodeAt_modify _ _ _ _ (by rw [link_len]; exact hm), ih, nxF]
    by_cases e : i = ks.getD t 0
    · rw [if_pos e, if_pos e]
    · rw [if_neg e, if_neg e]

theorem nxF_out (ks : List Nat) (i : Nat) (hi : i ∉ ks) (old : Int) (t : Nat) (ht : t ≤ ks.length) : nxF ks t i old = old := by
  match t with
  | 0 => rfl
  | 1 => rfl
  | t + 2 =>
    rw [nxF, if_neg (fun e => hi (by rw [e]; simp [List.getD, show t < ks.length by omega]))]
    exact nxF_out ks i hi old (t + 1) (by omega)
theorem getD_inj (ks : List Nat) (hn : ks.Nodup) (a b : Nat) (ha : a < ks.length) (hb : b < ks.length) (e : ks.getD a 0 = ks.getD b 0) : a = b := by
  have ea : ks.getD a 0 = ks[a] := by simp [List.getD, ha]
  have eb : ks.getD b 0 = ks[b] := by simp [List.getD, hb]
  rw [ea, eb] at e
  have hp := List.pairwise_iff_getElem.1 hn
  rcases Nat.lt_trichotomy a b with h | h | h
  · exact absurd e (hp a b ha hb h)
  · exact h
  · exact absurd e.symm (hp b a hb ha h)
theorem nxF_in (ks : List Nat) (hn : ks.Nodup) (j t : Nat) (ht : t ≤ ks.length) (old : Int) (hj : j < ks.length) : nxF ks t (ks.getD j 0) old = if j + 1 < t then ((ks.getD (j + 1) 0 : Nat) : Int) else old := by
  match t with
  | 0 => rfl
  | 1 => rw [if_neg (by omega)]; rfl
  | t + 2 =>
    rw [nxF, nxF_in ks hn j (t + 1) (by omega) old hj]
    by_cases e : j = t
    · subst e; rw [if_pos rfl, if_pos (by omega)]
    · rw [if_neg (fun h => e (getD_inj ks hn j t hj (by omega) h))]
      by_cases h2 : j + 1 < t + 1
      · rw [if_pos h2, if_pos (by omega)]
      · rw [if_neg h2, if_neg (by omega)]

theorem chain_drop (ns : List Nd) (ks : List Nat) (hk : ∀ c ∈ ks, c < ns.length) (hnx : ∀ j, j < ks.length → (nodeAt ns (ks.getD j 0)).next = if j + 1 < ks.length then ((ks.getD (j + 1) 0 : Nat) : Int) else -1) (m : Nat) :
    ∀ j, j + m = ks.length → 0 < m → Chain ns ((ks.getD j 0 : Nat) : Int) (ks.drop j) := by
  induction m with
  | zero => intro j _ h; omega
  | succ m ih =>
    intro j hj _
    have hjl : j < ks.length := by omega
    have hd : ks.drop j = ks.getD j 0 :: ks.drop (j + 1) := by
      rw [List.drop_eq_getElem_cons hjl]; simp [List.getD, hjl]
    rw [hd]
    refine ⟨rfl, hk _ (by simp [List.getD, hjl]), ?_⟩
    rw [hnx j hjl]
    by_cases hm : m = 0
    · subst hm
      rw [if_neg (by omega), List.drop_eq_nil_of_le (by omega)]
      rfl
    · rw [if_pos (by omega)]
      exact ih (j + 1) (by omega) (by omega)

/-- A new node over the topmost trees of the stack. -/
theorem Forest.link {ns : List Nd} {st : List Nat} {kids : Nat → List Nat} {pos : Nat} (h : Forest ns st kids pos) (d : Nd) (hdn : d.next = -1) (top : Nat) (ht : top < st.length) (ok : NodeOk d (st.drop top) pos ∨ NodeOk { d with first := (((st.drop top).getD 0 0 : Nat) : Int) } (st.drop top) pos) :
    Forest (Go.Proofs.Qxb6000433a.link ns.length (st.drop top) (ns ++ [d]) (st.drop top).length) (st.take top ++ [ns.length]) (updK kids ns.length (st.drop top)) pos := by
  obtain ⟨ks, hks⟩ : ∃ ks, st.drop top = ks := ⟨_, rfl⟩
  rw [hks] at ok ⊢
  have hsub : ∀ c ∈ ks, c ∈ st := fun c hc => List.mem_of_mem_drop (hks ▸ hc)
  have hkn : ks.Nodup := hks ▸ h.stn.sublist (List.drop_sublist _ _)
  have hk1 : 1 ≤ ks.length := by rw [← hks, List.length_drop]; omega
  have hkl : ∀ c ∈ ks, c < ns.length := fun c hc => (h.stl c (hsub c hc)).1
  have hlen : (Go.Proofs.Qxb6000433a.link ns.length ks (ns ++ [d]) ks.length).length = ns.length + 1 := by rw [link_len]; simp
  have hat := link_at ns.length ks (ns ++ [d]) (by simp) (fun c hc => by have := hkl c hc; simp; omega) ks.length hk1 (Nat.le_refl _)
  generalize hms : Go.Proofs.Qxb6000433a.link ns.length ks (ns ++ [d]) ks.length = ms at hlen hat
  have hnx : ∀ i, i < ns.length → i ∉ ks → (nodeAt ms i).next = (nodeAt ns i).next := by
    intro i hi hni
    rw [hat i, nodeAt_append hi]
    exact nxF_out ks i hni _ _ (Nat.le_refl _)
  have hfi : ∀ i, i < ns.length → (nodeAt ms i).first = (nodeAt ns i).first := by
    intro i hi
    rw [hat i, nodeAt_append hi]
    exact if_neg (by omega)
  have hkk : ∀ v, v < ns.length → ∀ c ∈ kids v, c ∉ ks := fun v hv c hc hck => (h.stl c (hsub c hck)).2.2 v hv hc
  have hdis : ∀ c ∈ st.take top, c ∉ ks := by
    intro c hc hck
    have hnd := h.stn
    rw [← List.take_append_drop top st, List.nodup_append] at hnd
    exact hnd.2.2 c hc c (hks ▸ hck) rfl
  have hnot : ns.length ∉ ks := fun hc => by have := hkl _ hc; omega
  refine ⟨fun v hv => ?_, fun v hv c hc => ?_, fun v v' c hv hv' hc hc' => ?_, fun v hv => ?_, fun c hc => ?_, ?_, fun c hc => ?_, fun _ => ?_, fun v hv => ?_⟩
  · rw [hlen] at hv
    by_cases e : v = ns.length
    · subst e
      rw [updK_same]
      have hff : (nodeAt ms ns.length).first = ((ks.getD 0 0 : Nat) : Int) := by rw [hat]; exact if_pos rfl
      rw [hff]
      have hc := chain_drop ms ks (fun c hc => by rw [hlen]; have := hkl c hc; omega) (fun j hj => ?_) ks.length 0 (by omega) (by omega)
      · exact hc
      · have hcm : ks.getD j 0 ∈ ks := by simp [List.getD, hj]
        rw [hat]
        show nxF ks ks.length (ks.getD j 0) _ = _
        rw [nxF_in ks hkn j _ (Nat.le_refl _) _ hj, nodeAt_append (hkl _ hcm), (h.stl _ (hsub _ hcm)).2.1]
    · have hv2 : v < ns.length := by omega
      rw [updK_other _ _ e, hfi v hv2]
      exact Chain.congr (by omega) (fun c hc => hnx c (Nat.lt_trans (h.low v hv2 c hc) hv2) (hkk v hv2 c hc)) (h.chain v hv2)
  · rw [hlen] at hv
    by_cases e : v = ns.length
    · subst e; rw [updK_same] at hc; exact hkl c hc
    · rw [updK_other _ _ e] at hc; exact h.low v (by omega) c hc
  · rw [hlen] at hv hv'
    by_cases e : v = ns.length
    · by_cases e' : v' = ns.length
      · omega
      · subst e; rw [updK_same] at hc; rw [updK_other _ _ e'] at hc'
        exact absurd hc (hkk v' (by omega) c hc')
    · rw [updK_other _ _ e] at hc
      by_cases e' : v' = ns.length
      · subst e'; rw [updK_same] at hc'
        exact absurd hc' (hkk v (by omega) c hc)
      · rw [updK_other _ _ e'] at hc'
        exact h.one v v' c (by omega) (by omega) hc hc'
  · rw [hlen] at hv
    by_cases e : v = ns.length
    · subst e; rw [updK_same]; exact hkn
    · rw [updK_other _ _ e]; exact h.nod v (by omega)
  · rcases List.mem_append.1 hc with hc | hc
    · have hcs := List.mem_of_mem_take hc
      obtain ⟨s1, s2, s3⟩ := h.stl c hcs
      refine ⟨by omega, by rw [hnx c s1 (hdis c hc)]; exact s2, fun v hv => ?_⟩
      rw [hlen] at hv
      by_cases e : v = ns.length
      · subst e; rw [updK_same]; exact hdis c hc
      · rw [updK_other _ _ e]; exact s3 v (by omega)
    · have hcn : c = ns.length := by simpa using hc
      subst hcn
      refine ⟨by omega, ?_, fun v hv => ?_⟩
      · rw [hat]
        show nxF ks ks.length ns.length _ = _
        rw [nxF_out ks _ hnot _ _ (Nat.le_refl _), nodeAt_last, hdn]
      · rw [hlen] at hv
        by_cases e : v = ns.length
        · rw [e, updK_same]; exact hnot
        · rw [updK_other _ _ e]; intro hc2; have := h.low v (by omega) _ hc2; omega
  · rw [List.nodup_append]
    refine ⟨h.stn.sublist (List.take_sublist _ _), by simp, fun a ha b hb e => ?_⟩
    have hbn : b = ns.length := by simpa using hb
    have := (h.stl a (List.mem_of_mem_take ha)).1
    omega
  · rw [hlen] at hc
    by_cases e : c = ns.length
    · exact .inl (by rw [e]; simp)
    · rcases h.all c (by omega) with h1 | ⟨v, h1, h2⟩
      · rw [← List.take_append_drop top st] at h1
        rcases List.mem_append.1 h1 with h1 | h1
        · exact .inl (List.mem_append.2 (.inl h1))
        · exact .inr ⟨ns.length, by omega, by rw [updK_same, ← hks]; exact h1⟩
      · exact .inr ⟨v, by omega, by rw [updK_other _ _ (by omega)]; exact h2⟩
  · rw [hlen]; simp
  · rw [hlen] at hv
    by_cases e : v = ns.length
    · subst e
      rw [updK_same, hat, nodeAt_last]
      rcases ok with ok | ok <;> exact ok
    · have hv2 : v < ns.length := by omega
      rw [updK_other _ _ e, hat v, nodeAt_append hv2]
      exact h.ok v hv2

/-- A new leaf. -/
theorem Forest.leaf {ns : List Nd} {st : List Nat} {kids : Nat → List Nat} {pos pos' : Nat} (h : Forest ns st kids pos) (d : Nd) (hdf : d.first = -1) (hdn : d.next = -1) (hp : pos ≤ pos') (ok : NodeOk d [] pos') :
    Forest (ns ++ [d]) (st ++ [ns.length]) (updK kids ns.length []) pos' := by
  have hlen : (ns ++ [d]).length = ns.length + 1 := by simp
  refine ⟨fun v hv => ?_, fun v hv c hc => ?_, fun v v' c hv hv' hc hc' => ?_, fun v hv => ?_, fun c hc => ?_, ?_, fun c hc => ?_, fun _ => ?_, fun v hv => ?_⟩
  · rw [hlen] at hv
    by_cases e : v = ns.length
    · subst e; rw [updK_same, nodeAt_last]; exact hdf
    · have hv2 : v < ns.length := by omega
      rw [updK_other _ _ e, nodeAt_append hv2]
      exact Chain.congr (by omega) (fun c hc => by rw [nodeAt_append (Nat.lt_trans (h.low v hv2 c hc) hv2)]) (h.chain v hv2)
  · rw [hlen] at hv
    by_cases e : v = ns.length
    · subst e; rw [updK_same] at hc; cases hc
    · rw [updK_other _ _ e] at hc; exact h.low v (by omega) c hc
  · rw [hlen] at hv hv'
    by_cases e : v = ns.length
    · subst e; rw [updK_same] at hc; cases hc
    · by_cases e' : v' = ns.length
      · subst e'; rw [updK_same] at hc'; cases hc'
      · rw [updK_other _ _ e] at hc; rw [updK_other _ _ e'] at hc'
        exact h.one v v' c (by omega) (by omega) hc hc'
  · rw [hlen] at hv
    by_cases e : v = ns.length
    · subst e; rw [updK_same]; exact List.nodup_nil
    · rw [updK_other _ _ e]; exact h.nod v (by omega)
  · rcases List.mem_append.1 hc with hc | hc
    · obtain ⟨s1, s2, s3⟩ := h.stl c hc
      refine ⟨by omega, by rw [nodeAt_append s1]; exact s2, fun v hv => ?_⟩
      rw [hlen] at hv
      by_cases e : v = ns.length
      · subst e; rw [updK_same]; exact fun h => by cases h
      · rw [updK_other _ _ e]; exact s3 v (by omega)
    · have hcn : c = ns.length := by simpa using hc
      subst hcn
      refine ⟨by omega, by rw [nodeAt_last]; exact hdn, fun v hv => ?_⟩
      rw [hlen] at hv
      by_cases e : v = ns.length
      · rw [e, updK_same]; exact fun h => by cases h
      · rw [updK_other _ _ e]; intro hc2; have := h.low v (by omega) _ hc2; omega
  · rw [List.nodup_append]
    refine ⟨h.stn, by simp, fun a ha b hb e => ?_⟩
    have hbn : b = ns.length := by simpa using hb
    have := (h.stl a ha).1
    omega
  · rw [hlen] at hc
    by_cases e : c = ns.length
    · exact .inl (by rw [e]; simp)
    · rcases h.all c (by omega) with h1 | ⟨v, h1, h2⟩
      · exact .inl (List.mem_append.2 (.inl h1))
      · exact .inr ⟨v, by omega, by rw [updK_other _ _ (by omega)]; exact h2⟩
  · rw [hlen]; simp
  · rw [hlen] at hv
    by_cases e : v = ns.length
    · subst e; rw [updK_same, nodeAt_last]; exact ok
    · have hv2 : v < ns.length := by omega
      rw [updK_other _ _ e, nodeAt_append hv2]
      exact (h.ok v hv2).more hp
end Go.Proofs.Qxb6000433a
