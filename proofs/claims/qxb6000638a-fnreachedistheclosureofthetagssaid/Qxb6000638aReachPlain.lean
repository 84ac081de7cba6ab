namespace Go.Proofs.Qxb6000638a.Rch

/-- A manifest's key: its repository and its digest. -/
abbrev K := Int × ByteArray

/-- What the keeps keep of k, by a list of keys and digests. -/
def get (gl : List (K × List ByteArray)) (k : K) : List ByteArray := ((gl.find? (fun p => decide (k = p.1))).map Prod.snd).getD []

/-- All keys that can be reached at all. -/
def univ (T : List K) (gl : List (K × List ByteArray)) : List K := T ++ gl.flatMap (fun p => p.2.map (fun d => (p.1.1, d)))

theorem get_mem {gl : List (K × List ByteArray)} {k : K} {d : ByteArray} (h : d ∈ get gl k) : ∃ ds, (k, ds) ∈ gl ∧ d ∈ ds := by
  unfold get at h
  cases hf : gl.find? (fun p => decide (k = p.1)) with
  | none => simp [hf] at h
  | some p =>
    simp [hf] at h
    have h1 := List.find?_some hf
    have h2 := List.mem_of_find?_eq_some hf
    simp at h1
    exact ⟨p.2, by rw [h1]; exact h2, h⟩

theorem get_univ {T : List K} {gl : List (K × List ByteArray)} {k : K} {d : ByteArray} (h : d ∈ get gl k) : (k.1, d) ∈ univ T gl := by
  obtain ⟨ds, h1, h2⟩ := get_mem h
  unfold univ
  simp only [List.mem_append, List.mem_flatMap, List.mem_map]
  exact .inr ⟨_, h1, d, h2, rfl⟩

theorem get_len {gl : List (K × List ByteArray)} {C : Nat} (h : ∀ p ∈ gl, p.2.length ≤ C) (k : K) : (get gl k).length ≤ C := by
  unfold get
  cases hf : gl.find? (fun p => decide (k = p.1)) with
  | none => simp
  | some p => simp; exact h p (List.mem_of_find?_eq_some hf)

theorem len_of_sub {α : Type} [DecidableEq α] : ∀ (l l' : List α), l.Nodup → (∀ x ∈ l, x ∈ l') → l.length ≤ l'.length
  | [], _, _, _ => by simp
  | a :: l, l', hn, hs => by
    obtain ⟨h1, h2⟩ := List.nodup_cons.1 hn
    have ha : a ∈ l' := hs a (by simp)
    have h3 := len_of_sub l (l'.erase a) h2 (fun x hx => (List.mem_erase_of_ne (show x ≠ a from fun e => h1 (by rw [← e]; exact hx))).2 (hs x (by simp [hx])))
    have h4 := List.length_erase_of_mem ha
    have h5 := List.length_pos_of_mem ha
    simp only [List.length_cons]
    omega

/-- R is the closure of T under G: no key twice; the tags; closed; and no more than that. -/
structure Closure (T : List K) (G : K → List ByteArray) (R : List K) : Prop where
  nodup : R.Nodup
  tags : ∀ t ∈ T, t ∈ R
  closed : ∀ m ∈ R, ∀ d ∈ G m, (m.1, d) ∈ R
  least : ∀ S : K → Prop, (∀ t ∈ T, S t) → (∀ m, S m → ∀ d ∈ G m, S (m.1, d)) → ∀ m ∈ R, S m

/-- The walk's state: 'todo' still to be looked at, R reached. -/
structure Inv (T : List K) (G : K → List ByteArray) (todo R : List K) : Prop where
  nodup : R.Nodup
  tags : ∀ t ∈ T, t ∈ R ∨ t ∈ todo
  closed : ∀ m ∈ R, ∀ d ∈ G m, (m.1, d) ∈ R ∨ (m.1, d) ∈ todo
  least : ∀ S : K → Prop, (∀ t ∈ T, S t) → (∀ m, S m → ∀ d ∈ G m, S (m.1, d)) → (∀ m ∈ R, S m) ∧ ∀ m ∈ todo, S m

theorem Inv.start (T : List K) (G : K → List ByteArray) : Inv T G T [] :=
  ⟨by simp, fun t h => .inr h, by simp, fun S h1 _ => ⟨by simp, h1⟩⟩

theorem Inv.done {T : List K} {G : K → List ByteArray} {R : List K} (h : Inv T G [] R) : Closure T G R :=
  ⟨h.nodup, fun t ht => by simpa using h.tags t ht, fun m hm d hd => by simpa using h.closed m hm d hd, fun S h1 h2 => (h.least S h1 h2).1⟩

theorem Inv.skip {T : List K} {G : K → List ByteArray} {todo R : List K} {m : K} (h : Inv T G (todo ++ [m]) R) (hm : m ∈ R) : Inv T G todo R := by
  have key : ∀ x, (x ∈ R ∨ x ∈ todo ++ [m]) → x ∈ R ∨ x ∈ todo := by
    intro x hx
    rcases hx with hx | hx
    · exact .inl hx
    · simp only [List.mem_append, List.mem_singleton] at hx
      rcases hx with hx | rfl
      · exact .inr hx
      · exact .inl hm
  exact ⟨h.nodup, fun t ht => key _ (h.tags t ht), fun m hm d hd => key _ (h.closed m hm d hd), fun S h1 h2 => ⟨(h.least S h1 h2).1, fun x hx => (h.least S h1 h2).2 x (by simp [hx])⟩⟩

theorem Inv.push {T : List K} {G : K → List ByteArray} {todo R : List K} {m : K} (h : Inv T G (todo ++ [m]) R) (hm : m ∉ R) : Inv T G (todo ++ (G m).map (fun d => (m.1, d))) (R ++ [m]) := by
  have key : ∀ x, (x ∈ R ∨ x ∈ todo ++ [m]) → x ∈ R ++ [m] ∨ x ∈ todo ++ (G m).map (fun d => (m.1, d)) := by
    intro x hx
    simp only [List.mem_append, List.mem_singleton] at hx ⊢
    rcases hx with hx | hx | hx
    · exact .inl (.inl hx)
    · exact .inr (.inl hx)
    · exact .inl (.inr hx)
  refine ⟨?_, fun t ht => key _ (h.tags t ht), ?_, ?_⟩
  · rw [List.nodup_append]
    exact ⟨h.nodup, by simp, fun a ha b hb => by simp at hb; rw [hb]; exact fun e => hm (e ▸ ha)⟩
  · intro x hx d hd
    simp only [List.mem_append, List.mem_singleton] at hx
    rcases hx with hx | rfl
    · exact key _ (h.closed x hx d hd)
    · exact .inr (by simp only [List.mem_append, List.mem_map]; exact .inr ⟨d, hd, rfl⟩)
  · intro S h1 h2
    obtain ⟨a, b⟩ := h.least S h1 h2
    refine ⟨fun x hx => ?_, fun x hx => ?_⟩
    · simp only [List.mem_append, List.mem_singleton] at hx
      rcases hx with hx | rfl
      · exact a x hx
      · exact b x (by simp)
    · simp only [List.mem_append, List.mem_map] at hx
      rcases hx with hx | ⟨d, hd, rfl⟩
      · exact b x (by simp [hx])
      · exact h2 m (b m (by simp)) d hd

/-- The reached keys lie in the universe. -/
theorem Inv.within {T : List K} {gl : List (K × List ByteArray)} {todo R : List K} (h : Inv T (get gl) todo R) : R.length ≤ (univ T gl).length := by
  refine len_of_sub _ _ h.nodup ?_
  intro x hx
  exact (h.least (fun k => k ∈ univ T gl) (fun t ht => by simp [univ, ht]) (fun m _ d hd => get_univ hd)).1 x hx

/-- Two closures, the second of more tags and of a wider keeping: the first lies in the second. -/
theorem Closure.sub {T T' : List K} {G G' : K → List ByteArray} {R R' : List K} (h : Closure T G R) (h' : Closure T' G' R') (ht : ∀ t ∈ T, t ∈ T') (hg : ∀ m d, d ∈ G m → d ∈ G' m) : ∀ m ∈ R, m ∈ R' :=
  h.least (fun k => k ∈ R') (fun t hm => h'.tags t (ht t hm)) (fun m hm d hd => h'.closed m hm d (hg m d hd))

theorem Closure.len {T T' : List K} {G G' : K → List ByteArray} {R R' : List K} (h : Closure T G R) (h' : Closure T' G' R') (ht : ∀ t ∈ T, t ∈ T') (hg : ∀ m d, d ∈ G m → d ∈ G' m) : R.length ≤ R'.length :=
  len_of_sub _ _ h.nodup (h.sub h' ht hg)

end Go.Proofs.Qxb6000638a.Rch
