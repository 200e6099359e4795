import Derived.Test.YtghmajlfmoggfaaGreatME4
set_option linter.unusedSimpArgs false
set_option linter.unusedVariables false
namespace Go.Proofs.YtghmajlfmoggfaaGreat
open Go.RowKit Go.Proofs.YtghmajlfmoggfaaGreatW.PrintWords Go.Proofs.YtghmajlfmoggfaaGreatW.PrintLast PFnMerge
structure MI (lim n b : Nat) (kd ks : List Kid) (Fd Fs : Nat → Prop) (P : List (List UInt8)) (C : Value) (K : List Kid) (w : World) : Prop where
  hlim : lim ≤ w.heap.size
  node : NodeB w b 4 noStr noStr C
  row : PRow w (fun k => (Fd k ∨ lim ≤ k) ∧ k ≠ b) C (K.flatMap Kid.two)
  dis : ∀ c ∈ K, ∀ c' ∈ K, c.key ≠ c'.key → ∀ k, c.F k → c'.F k → False
  kid : ∀ c ∈ K, NodeB w c.kb 8 noStr c.key nilS ∧ c.F c.kb ∧ ∀ k, c.F k → (Fd k ∨ Fs k ∨ lim ≤ k) ∧ k ≠ b ∧ C.ownBlock ≠ some k ∧ k < w.heap.size
  rep : ∀ c ∈ K, Rep w c.cb c.y (fun k => c.F k ∧ k ≠ c.kb)
  nodup : (K.map (·.key)).Nodup
  keys : ∀ key, key ∈ K.map (·.key) ↔ key ∈ kd.map (·.key) ∨ key ∈ ks.map (·.key) ∧ key.data.toList ∈ P
  old : ∀ c ∈ K, c.key.data.toList ∉ P → c ∈ kd
  val : ∀ c ∈ K, c.key.data.toList ∈ P → (∃ a ∈ kd, ∃ s ∈ ks, a.key = c.key ∧ s.key = c.key ∧ MRel n a.y s.y c.y) ∨ (∃ a ∈ kd, a.key = c.key ∧ a.y = c.y ∧ c.key ∉ ks.map (·.key)) ∨ (∃ s ∈ ks, s.key = c.key ∧ s.y = c.y ∧ c.key ∉ kd.map (·.key))
  foot : ∀ c ∈ K, ∀ k, c.F k → (∃ a ∈ kd, a.key = c.key ∧ a.F k) ∨ (∃ s ∈ ks, s.key = c.key ∧ s.F k) ∨ lim ≤ k
theorem bytes_ext {a b : ByteArray} (h : a.data.toList = b.data.toList) : a = b := by
  cases a; cases b; simp at h; rw [h]
theorem kid_unique {K : List Kid} (h : (K.map (·.key)).Nodup) {c c' : Kid} (hc : c ∈ K) (hc' : c' ∈ K) (he : c.key = c'.key) : c = c' := by
  induction K with
  | nil => cases hc
  | cons a r ih =>
    simp only [List.map_cons, List.nodup_cons] at h
    simp only [List.mem_cons] at hc hc'
    rcases hc with rfl | hc <;> rcases hc' with rfl | hc'
    · rfl
    · exact absurd (List.mem_map.2 ⟨c', hc', he.symm⟩) h.1
    · exact absurd (List.mem_map.2 ⟨c, hc, he⟩) h.1
    · exact ih h.2 hc hc'
section
variable {lim n b : Nat} {kd ks : List Kid} {Fd Fs : Nat → Prop} {P : List (List UInt8)} {C : Value} {K : List Kid} {w w' : World}
theorem MI.map (h : MI lim n b kd ks Fd Fs P C K w) : MapAt w b C K := ⟨h.node, ⟨_, h.row⟩, fun c hc => (h.kid c hc).1⟩
theorem MI.self (h : MI lim n b kd ks Fd Fs P C K w) {name : List UInt8} {c : Kid} (hP : name ∉ P) (hc : c ∈ K) (hcn : c.key.data.toList = name) (hks : c.key ∉ ks.map (·.key)) {T : Nat → Prop} (hT : Spares w T) (hk : Keep T w w') :
    MI lim n b kd ks Fd Fs (P ++ [name]) C K w' := by
  refine ⟨Nat.le_trans h.hlim hk.size, hT.node hk h.node, ?_, h.dis, fun c hc => ⟨hT.node hk (h.kid c hc).1, (h.kid c hc).2.1, fun k hF => ?_⟩, fun c hc => hT.rep hk (h.rep c hc), h.nodup, fun key => ?_, fun c hc hn => h.old c hc (fun hp => hn (by simp [hp])), ?_, h.foot⟩
  · exact (h.row.bound.move fun k hF => hk.block k hF.2.lt (hT k hF.2)).mono fun k hF => hF.1
  · obtain ⟨h1, h2, h3, h4⟩ := (h.kid c hc).2.2 k hF
    exact ⟨h1, h2, h3, Nat.lt_of_lt_of_le h4 hk.size⟩
  · rw [h.keys key]
    constructor
    · rintro (h1 | ⟨h1, h2⟩)
      · exact .inl h1
      · exact .inr ⟨h1, by simp [h2]⟩
    · rintro (h1 | ⟨h1, h2⟩)
      · exact .inl h1
      · simp only [List.mem_append, List.mem_singleton] at h2
        rcases h2 with h2 | h2
        · exact .inr ⟨h1, h2⟩
        · have : key = c.key := bytes_ext (h2.trans hcn.symm)
          subst this
          exact absurd h1 hks
  · intro c' hc' hn
    simp only [List.mem_append, List.mem_singleton] at hn
    rcases hn with hn | hn
    · exact h.val c' hc' hn
    · have hcc := kid_unique h.nodup hc' hc (bytes_ext (hn.trans hcn.symm))
      subst hcc
      exact .inr (.inl ⟨c', h.old c' hc (by rw [hcn]; exact hP), rfl, rfl, hks⟩)
theorem MI.new (h : MI lim n b kd ks Fd Fs P C K w) {key : ByteArray} {s : Kid} {kb : Nat} {C' : Value} {T : Nat → Prop} (hP : key.data.toList ∉ P) (hs : s ∈ ks) (hsk : s.key = key) (hkd : key ∉ kd.map (·.key))
    (hkdF : ∀ a ∈ kd, ∀ k, a.F k → Fd k) (hksF : ∀ a ∈ ks, ∀ k, a.F k → Fs k ∧ k ≠ b ∧ k < lim) (hds : ∀ k, Fd k → Fs k → False) (hksd : ∀ a ∈ ks, ∀ a' ∈ ks, a.key ≠ a'.key → ∀ k, a.F k → a'.F k → False) (hrs : Rep w s.cb s.y (fun k => s.F k ∧ k ≠ s.kb)) (hbF : Fd b)
    (g1 : w.heap.size ≤ kb) (g2 : NodeB w' kb 8 noStr key nilS) (g3 : NodeB w' b 4 noStr noStr C') (g4 : w'.ownsRow 0 69 1 C' ((K.flatMap Kid.two).length + 2) ((K.flatMap Kid.two).map ptrV ++ [ptrV kb, ptrV s.cb])) (g5 : C'.ownBlock = C.ownBlock ∨ ∃ g, C'.ownBlock = some g ∧ w.heap.size ≤ g ∧ g ≠ kb)
    (hT : Spares w T) (hk : Keep (fun k => k = b ∨ C.ownBlock = some k ∨ T k) w w') :
    MI lim n b kd ks Fd Fs (P ++ [key.data.toList]) C' (K ++ [{ key := key, kb := kb, cb := s.cb, y := s.y, F := fun k => k = kb ∨ s.F k }]) w' := by
  have hlim := h.hlim
  have hnt : ∀ k, k ≠ b → C.ownBlock ≠ some k → TB w k → ¬ (k = b ∨ C.ownBlock = some k ∨ T k) := fun k h1 h2 h3 h => by
    rcases h with h | h | h
    · exact h1 h
    · exact h2 h
    · exact hT k h3 h
  have hCl : ∀ k, C.ownBlock = some k → k < w.heap.size := fun k hc => own_lt h.row.2 k hc
  have hbl := h.node.lt
  have hkK : key ∉ K.map (·.key) := by
    rw [h.keys key]
    rintro (h1 | ⟨_, h1⟩)
    · exact hkd h1
    · exact hP h1
  have hnC : ∀ k, k < w.heap.size → C.ownBlock ≠ some k → C'.ownBlock ≠ some k := fun k hl hc => by
    rcases g5 with g5 | ⟨g, g5, g6, _⟩
    · rw [g5]; exact hc
    · rw [g5]; intro e; injection e with e; omega
  have hsF : ∀ k, s.F k → Fs k ∧ k ≠ b ∧ k < lim := hksF s hs
  have hCd : ∀ k, C.ownBlock = some k → (Fd k ∨ lim ≤ k) ∧ k ≠ b := h.row.1
  have hsC : ∀ k, s.F k → C.ownBlock ≠ some k := fun k hF hc => by
    rcases (hCd k hc).1 with h1 | h1
    · exact hds k h1 (hsF k hF).1
    · have := (hsF k hF).2.2; omega
  have hdn : ∀ c ∈ K, ∀ k, c.F k → (k = kb ∨ s.F k) → False := by
    rintro c hc k hF (rfl | hsk')
    · have := ((h.kid c hc).2.2 k hF).2.2.2
      omega
    · rcases h.foot c hc k hF with ⟨a, ha, _, haF⟩ | ⟨a, ha, hak, haF⟩ | hl
      · exact hds k (hkdF a ha k haF) (hsF k hsk').1
      · refine hksd a ha s hs ?_ k haF hsk'
        rw [hak, hsk]
        intro e
        exact hkK (List.mem_map.2 ⟨c, hc, e⟩)
      · have := (hsF k hsk').2.2; omega
  refine ⟨Nat.le_trans hlim hk.size, g3, ⟨?_, ?_⟩, ?_, ?_, ?_, ?_, ?_, ?_, ?_, ?_⟩
  · intro k hc
    rcases g5 with g5 | ⟨g, g5, g6, _⟩
    · rw [g5] at hc; exact hCd k hc
    · rw [g5] at hc; injection hc with hc; subst hc
      exact ⟨.inr (by omega), by omega⟩
  · have e1 : (K ++ [({ key := key, kb := kb, cb := s.cb, y := s.y, F := fun k => k = kb ∨ s.F k } : Kid)]).flatMap Kid.two = K.flatMap Kid.two ++ [kb, s.cb] := by simp [Kid.two]
    rw [e1]
    simpa using g4
  · intro c hc c' hc' hne k hF hF'
    simp only [List.mem_append, List.mem_singleton] at hc hc'
    rcases hc with hc | rfl <;> rcases hc' with hc' | rfl
    · exact h.dis c hc c' hc' hne k hF hF'
    · exact hdn c hc k hF hF'
    · exact hdn c' hc' k hF' hF
    · exact hne rfl
  · intro c hc
    simp only [List.mem_append, List.mem_singleton] at hc
    rcases hc with hc | rfl
    · obtain ⟨h1, h2, h3⟩ := h.kid c hc
      have hq := h3 c.kb h2
      refine ⟨h1.move (hk.block _ h1.lt (hnt _ hq.2.1 hq.2.2.1 h1.tb)), h2, fun k hF => ?_⟩
      obtain ⟨q1, q2, q3, q4⟩ := h3 k hF
      exact ⟨q1, q2, hnC k q4 q3, Nat.lt_of_lt_of_le q4 hk.size⟩
    · refine ⟨g2, .inl rfl, ?_⟩
      rintro k (rfl | hF)
      · refine ⟨.inr (.inr (by omega)), by omega, ?_, g2.lt⟩
        rcases g5 with g5 | ⟨g, g5, g6, g7⟩
        · rw [g5]; intro hc; have := hCl _ hc; omega
        · rw [g5]; intro e; injection e with e; exact g7 e
      · obtain ⟨q1, q2, q3⟩ := hsF k hF
        exact ⟨.inr (.inl q1), q2, hnC k (by omega) (hsC k hF), by have := hk.size; omega⟩
  · intro c hc
    simp only [List.mem_append, List.mem_singleton] at hc
    rcases hc with hc | rfl
    · exact (h.rep c hc).step fun k hF ht => hk.block k ht.lt (hnt k ((h.kid c hc).2.2 k hF.1).2.1 ((h.kid c hc).2.2 k hF.1).2.2.1 ht)
    · refine (hrs.step fun k hF ht => hk.block k ht.lt (hnt k (hsF k hF.1).2.1 (hsC k hF.1) ht)).mono fun k hF => ⟨.inr hF.1, ?_⟩
      have := (hsF k hF.1).2.2
      show k ≠ kb
      omega
  · rw [List.map_append, List.nodup_append]
    refine ⟨h.nodup, by simp, ?_⟩
    intro x hx y hy e
    simp at hy
    subst hy
    subst e
    exact hkK hx
  · intro key'
    rw [List.map_append, List.mem_append, h.keys key']
    simp only [List.map_cons, List.map_nil, List.mem_singleton, List.mem_append]
    constructor
    · rintro ((h1 | ⟨h1, h2⟩) | rfl)
      · exact .inl h1
      · exact .inr ⟨h1, .inl h2⟩
      · exact .inr ⟨List.mem_map.2 ⟨s, hs, hsk⟩, .inr rfl⟩
    · rintro (h1 | ⟨h1, h2 | h2⟩)
      · exact .inl (.inl h1)
      · exact .inl (.inr ⟨h1, h2⟩)
      · exact .inr (bytes_ext h2)
  · intro c hc hn
    simp only [List.mem_append, List.mem_singleton] at hc hn
    rcases hc with hc | rfl
    · exact h.old c hc fun hp => hn (.inl hp)
    · exact absurd (.inr rfl) hn
  · intro c hc hn
    simp only [List.mem_append, List.mem_singleton] at hc hn
    rcases hc with hc | rfl
    · rcases hn with hn | hn
      · exact h.val c hc hn
      · exact absurd (List.mem_map.2 ⟨c, hc, bytes_ext hn⟩) hkK
    · exact .inr (.inr ⟨s, hs, hsk, rfl, hkd⟩)
  · intro c hc k hF
    simp only [List.mem_append, List.mem_singleton] at hc
    rcases hc with hc | rfl
    · exact h.foot c hc k hF
    · rcases hF with rfl | hF
      · exact .inr (.inr (by omega))
      · exact .inr (.inl ⟨s, hs, hsk, hF⟩)
end
end Go.Proofs.YtghmajlfmoggfaaGreat
namespace Go.Proofs.YtghmajlfmoggfaaGreat
open Go.RowKit Go.Proofs.YtghmajlfmoggfaaGreatW.PrintWords Go.Proofs.YtghmajlfmoggfaaGreatW.PrintLast PFnMerge
variable {lim n b : Nat} {kd ks : List Kid} {Fd Fs : Nat → Prop} {P : List (List UInt8)} {C : Value} {K : List Kid} {w w' : World}
def Kid.upd (key : ByteArray) (y : S25) (G : Nat → Prop) (c : Kid) : Kid := ⟨c.key, c.kb, c.cb, open Classical in if c.key = key then y else c.y, fun k => c.F k ∨ c.key = key ∧ G k⟩
theorem upd_two (key : ByteArray) (y : S25) (G : Nat → Prop) (K : List Kid) : (K.map (Kid.upd key y G)).flatMap Kid.two = K.flatMap Kid.two := by
  induction K with
  | nil => rfl
  | cons a r ih => simp only [List.map_cons, List.flatMap_cons, ih]; rfl
theorem upd_keys (key : ByteArray) (y : S25) (G : Nat → Prop) (K : List Kid) : (K.map (Kid.upd key y G)).map (·.key) = K.map (·.key) := by
  rw [List.map_map]; rfl
theorem MI.both (h : MI lim n b kd ks Fd Fs P C K w) {c s : Kid} {ym : S25} {T : Nat → Prop} (hP : c.key.data.toList ∉ P) (hc : c ∈ K) (hs : s ∈ ks) (hsk : s.key = c.key)
    (hkdF : ∀ a ∈ kd, ∀ k, a.F k → Fd k ∧ k < lim) (hksF : ∀ a ∈ ks, ∀ k, a.F k → Fs k ∧ k ≠ b ∧ k < lim) (hds : ∀ k, Fd k → Fs k → False) (hksd : ∀ a ∈ ks, ∀ a' ∈ ks, a.key ≠ a'.key → ∀ k, a.F k → a'.F k → False)
    (hM : MRel n c.y s.y ym) (hT : Spares w T) (hk : Keep (fun k => (c.F k ∧ k ≠ c.kb) ∨ T k) w w') (hrep : Rep w' c.cb ym (fun k => (c.F k ∧ k ≠ c.kb) ∨ s.F k ∨ (w.heap.size ≤ k ∧ k < w'.heap.size))) :
    MI lim n b kd ks Fd Fs (P ++ [c.key.data.toList]) C (K.map (Kid.upd c.key ym fun k => s.F k ∨ (w.heap.size ≤ k ∧ k < w'.heap.size))) w' := by
  have hlim := h.hlim
  obtain ⟨hcn, hckb, hcF⟩ := h.kid c hc
  have hckd : c ∈ kd := h.old c hc hP
  have hnt : ∀ k, ¬ (c.F k ∧ k ≠ c.kb) → TB w k → ¬ ((c.F k ∧ k ≠ c.kb) ∨ T k) := fun k h1 h2 h => h.elim h1 (hT k h2)
  have hCl : ∀ k, C.ownBlock = some k → k < w.heap.size := fun k hc => own_lt h.row.2 k hc
  have hsC : ∀ k, s.F k → C.ownBlock ≠ some k := fun k hF hc => by
    rcases (h.row.1 k hc).1 with h1 | h1
    · exact hds k h1 (hksF s hs k hF).1
    · have := (hksF s hs k hF).2.2; omega
  have hdn : ∀ c' ∈ K, c'.key ≠ c.key → ∀ k, c'.F k → (s.F k ∨ (w.heap.size ≤ k ∧ k < w'.heap.size)) → False := by
    rintro c' hc' hne k hF (hF' | ⟨hF', _⟩)
    · rcases h.foot c' hc' k hF with ⟨a, ha, _, haF⟩ | ⟨a, ha, hak, haF⟩ | hl
      · exact hds k (hkdF a ha k haF).1 (hksF s hs k hF').1
      · refine hksd a ha s hs ?_ k haF hF'
        rw [hak, hsk]
        exact hne
      · have := (hksF s hs k hF').2.2; omega
    · have := ((h.kid c' hc').2.2 k hF).2.2.2
      omega
  refine ⟨Nat.le_trans hlim hk.size, h.node.move (hk.block _ h.node.lt (hnt b (fun hb => (hcF b hb.1).2.1 rfl) h.node.tb)), ?_, ?_, ?_, ?_, ?_, ?_, ?_, ?_, ?_⟩
  · rw [upd_two]
    refine ⟨h.row.1, own_move h.row.2 fun k hb => hk.block k (hCl k hb) (hnt k (fun hF => (hcF k hF.1).2.2.1 hb) (h.row.bound.1 k hb).2)⟩
  · intro x hx x' hx' hne k hF hF'
    obtain ⟨a, ha, rfl⟩ := List.mem_map.1 hx
    obtain ⟨a', ha', rfl⟩ := List.mem_map.1 hx'
    have hne : a.key ≠ a'.key := hne
    rcases hF with hF | ⟨hk1, hF⟩ <;> rcases hF' with hF' | ⟨hk2, hF'⟩
    · exact h.dis a ha a' ha' hne k hF hF'
    · exact hdn a ha (by rw [← hk2]; exact hne) k hF hF'
    · exact hdn a' ha' (by rw [← hk1]; exact hne.symm) k hF' hF
    · exact hne (hk1.trans hk2.symm)
  · intro x hx
    obtain ⟨a, ha, rfl⟩ := List.mem_map.1 hx
    obtain ⟨h1, h2, h3⟩ := h.kid a ha
    refine ⟨h1.move (hk.block _ h1.lt (hnt _ ?_ h1.tb)), .inl h2, ?_⟩
    · rintro ⟨q1, q2⟩
      by_cases he : a.key = c.key
      · exact q2 (by rw [kid_unique h.nodup ha hc he])
      · exact h.dis a ha c hc he _ h2 q1
    · rintro k (hF | ⟨_, hF | ⟨hF, hF2⟩⟩)
      · obtain ⟨q1, q2, q3, q4⟩ := h3 k hF
        exact ⟨q1, q2, q3, Nat.lt_of_lt_of_le q4 hk.size⟩
      · obtain ⟨q1, q2, q3⟩ := hksF s hs k hF
        exact ⟨.inr (.inl q1), q2, hsC k hF, by have := hk.size; omega⟩
      · refine ⟨.inr (.inr (by omega)), by have := h.node.lt; omega, fun hb => by have := hCl k hb; omega, hF2⟩
  · intro x hx
    obtain ⟨a, ha, rfl⟩ := List.mem_map.1 hx
    by_cases he : a.key = c.key
    · have := kid_unique h.nodup ha hc he
      subst this
      show Rep w' a.cb (if a.key = a.key then ym else a.y) _
      rw [if_pos rfl]
      refine hrep.mono fun k hF => ?_
      have hkbl : a.kb < w.heap.size := hcn.lt
      have hnkb : ∀ k, s.F k → k ≠ a.kb := fun k hF e => hds k (hkdF a hckd k (by rw [e]; exact hckb)).1 (hksF s hs k hF).1
      rcases hF with hF | hF | hF
      · exact ⟨.inl hF.1, hF.2⟩
      · exact ⟨.inr ⟨rfl, .inl hF⟩, hnkb k hF⟩
      · exact ⟨.inr ⟨rfl, .inr hF⟩, by show k ≠ a.kb; omega⟩
    · show Rep w' a.cb (if a.key = c.key then ym else a.y) _
      rw [if_neg he]
      refine ((h.rep a ha).step fun k hF ht => hk.block k ht.lt (hnt k (fun hq => h.dis a ha c hc he k hF.1 hq.1) ht)).mono fun k hF => ⟨.inl hF.1, hF.2⟩
  · rw [upd_keys]
    exact h.nodup
  · intro key
    rw [upd_keys, h.keys key]
    constructor
    · rintro (h1 | ⟨h1, h2⟩)
      · exact .inl h1
      · exact .inr ⟨h1, by simp [h2]⟩
    · rintro (h1 | ⟨h1, h2⟩)
      · exact .inl h1
      · simp only [List.mem_append, List.mem_singleton] at h2
        rcases h2 with h2 | h2
        · exact .inr ⟨h1, h2⟩
        · exact .inl (by rw [bytes_ext h2]; exact List.mem_map_of_mem hckd)
  · intro x hx hn
    obtain ⟨a, ha, rfl⟩ := List.mem_map.1 hx
    have hn : a.key.data.toList ∉ P ++ [c.key.data.toList] := hn
    simp only [List.mem_append, List.mem_singleton, not_or] at hn
    have he : a.key ≠ c.key := fun e => hn.2 (by rw [e])
    have : Kid.upd c.key ym (fun k => s.F k ∨ (w.heap.size ≤ k ∧ k < w'.heap.size)) a = a := by
      unfold Kid.upd
      rw [if_neg he]
      cases a
      congr 1
      funext k
      simp [show ¬ _ = _ from he]
    rw [this]
    exact h.old a ha hn.1
  · intro x hx hn
    obtain ⟨a, ha, rfl⟩ := List.mem_map.1 hx
    have hn : a.key.data.toList ∈ P ++ [c.key.data.toList] := hn
    by_cases he : a.key = c.key
    · have := kid_unique h.nodup ha hc he
      subst this
      refine .inl ⟨a, hckd, s, hs, rfl, hsk, ?_⟩
      show MRel n a.y s.y (if a.key = a.key then ym else a.y)
      rw [if_pos rfl]
      exact hM
    · simp only [List.mem_append, List.mem_singleton] at hn
      have hnP : a.key.data.toList ∈ P := hn.elim id fun e => absurd (bytes_ext e) he
      have := h.val a ha hnP
      have hy : (Kid.upd c.key ym (fun k => s.F k ∨ (w.heap.size ≤ k ∧ k < w'.heap.size)) a).y = a.y := if_neg he
      rw [hy]
      exact this
  · intro x hx k hF
    obtain ⟨a, ha, rfl⟩ := List.mem_map.1 hx
    rcases hF with hF | ⟨hk1, hF | ⟨hF, _⟩⟩
    · exact h.foot a ha k hF
    · exact .inr (.inl ⟨s, hs, by show s.key = a.key; rw [hsk, hk1], hF⟩)
    · exact .inr (.inr (by omega))
end Go.Proofs.YtghmajlfmoggfaaGreat
namespace Go.Proofs.YtghmajlfmoggfaaGreat
open Go.RowKit Go.Proofs.YtghmajlfmoggfaaGreatW.PrintWords Go.Proofs.YtghmajlfmoggfaaGreatW.PrintLast PFnMerge
theorem pair_dis {l : List Kid} (h : l.Pairwise fun c d => ∀ k, c.F k → d.F k → False) {a b : Kid} (ha : a ∈ l) (hb : b ∈ l) (hne : a.key ≠ b.key) : ∀ k, a.F k → b.F k → False := by
  induction l with
  | nil => cases ha
  | cons x r ih =>
    simp only [List.pairwise_cons] at h
    simp only [List.mem_cons] at ha hb
    rcases ha with rfl | ha <;> rcases hb with rfl | hb
    · exact absurd rfl hne
    · exact h.1 b hb
    · exact fun k h1 h2 => h.1 a ha k h2 h1
    · exact ih h.2 ha hb
theorem zip_kid {kids : List Kid} {key : ByteArray} {v : S25} : (key, v) ∈ (kids.map (·.key)).zip (kids.map (·.y)) ↔ ∃ c ∈ kids, c.key = key ∧ c.y = v := by
  induction kids with
  | nil => simp
  | cons a r ih => simp only [List.map_cons, List.zip_cons_cons, List.mem_cons, ih, Prod.mk.injEq]; grind
theorem find_none_key {kids : List Kid} {name : ByteArray} (h : name ∉ kids.map (·.key)) : kids.find? (hasKey name) = none := by
  rw [List.find?_eq_none]
  intro x hx hk
  exact h (List.mem_map.2 ⟨x, hx, hasKey_iff.1 hk⟩)
theorem MI.frame {lim n b : Nat} {kd ks : List Kid} {Fd Fs : Nat → Prop} {P : List (List UInt8)} {C : Value} {K : List Kid} {w w' : World} (h : MI lim n b kd ks Fd Fs P C K w) {T : Nat → Prop} (hT : Spares w T) (hk : Keep T w w') :
    MI lim n b kd ks Fd Fs P C K w' := by
  refine ⟨Nat.le_trans h.hlim hk.size, hT.node hk h.node, ?_, h.dis, fun c hc => ⟨hT.node hk (h.kid c hc).1, (h.kid c hc).2.1, fun k hF => ?_⟩, fun c hc => hT.rep hk (h.rep c hc), h.nodup, h.keys, h.old, h.val, h.foot⟩
  · exact (h.row.bound.move fun k hF => hk.block k hF.2.lt (hT k hF.2)).mono fun k hF => hF.1
  · obtain ⟨h1, h2, h3, h4⟩ := (h.kid c hc).2.2 k hF
    exact ⟨h1, h2, h3, Nat.lt_of_lt_of_le h4 hk.size⟩
theorem MI.start {n b : Nat} {kd ks : List Kid} {Fd Fs : Nat → Prop} {C : Value} {w : World} (h : NodeB w b 4 noStr noStr C) (hr : PRow w (fun k => Fd k ∧ k ≠ b) C (kd.flatMap Kid.two))
    (hd : kd.Pairwise fun c d => ∀ k, c.F k → d.F k → False) (hk : ∀ c ∈ kd, NodeB w c.kb 8 noStr c.key nilS ∧ c.F c.kb ∧ ∀ k, c.F k → Fd k ∧ k ≠ b ∧ C.ownBlock ≠ some k) (hc : ∀ c ∈ kd, Rep w c.cb c.y (fun k => c.F k ∧ k ≠ c.kb))
    (hn : (kd.map (·.key)).Nodup) (htb : ∀ k, Fd k → TB w k) : MI w.heap.size n b kd ks Fd Fs [] C kd w := by
  refine ⟨Nat.le_refl _, h, hr.mono fun k hF => ⟨.inl hF.1, hF.2⟩, fun c hc c' hc' hne => pair_dis hd hc hc' hne, fun c hc => ⟨(hk c hc).1, (hk c hc).2.1, fun k hF => ?_⟩, hc, hn, by simp, fun c hc _ => hc, by simp, fun c hc k hF => .inl ⟨c, hc, rfl, hF⟩⟩
  obtain ⟨q1, q2, q3⟩ := (hk c hc).2.2 k hF
  exact ⟨.inl q1, q2, q3, (htb k q1).lt⟩
theorem MI.done {n b : Nat} {kd ks : List Kid} {Fd Fs : Nat → Prop} {ns : List (List UInt8)} {C : Value} {K : List Kid} {lim : Nat} {w' : World} (h : MI lim n b kd ks Fd Fs ns C K w') (hns : ∀ x, x ∈ ns ↔ (∃ k ∈ kd, k.key.data.toList = x) ∨ ∃ k ∈ ks, k.key.data.toList = x) (hb : Fd b) :
    ∃ ym, MRel (n + 1) ⟨2, noStr, noStr, kd.map (·.key), kd.map (·.y)⟩ ⟨2, noStr, noStr, ks.map (·.key), ks.map (·.y)⟩ ym ∧ Rep w' b ym (fun k => Fd k ∨ Fs k ∨ lim ≤ k) := by
  have hkeys : ∀ key, key ∈ K.map (·.key) ↔ key ∈ kd.map (·.key) ∨ key ∈ ks.map (·.key) := fun key => by
    rw [h.keys key]
    constructor
    · rintro (h1 | ⟨h1, _⟩)
      · exact .inl h1
      · exact .inr h1
    · rintro (h1 | h1)
      · exact .inl h1
      · obtain ⟨k, hk, rfl⟩ := List.mem_map.1 h1
        exact .inr ⟨h1, (hns _).2 (.inr ⟨k, hk, rfl⟩)⟩
  refine ⟨⟨2, noStr, noStr, K.map (·.key), K.map (·.y)⟩, .inr ⟨rfl, rfl, rfl, rfl, by simp, h.nodup, hkeys, ?_⟩, .mp b C K _ h.node (.inl hb) (h.row.mono fun k hF => ⟨hF.1.elim .inl fun h => .inr (.inr h), hF.2⟩) ?_ (fun c hc => ⟨(h.kid c hc).1, (h.kid c hc).2.1, fun k hF => ?_⟩) h.rep⟩
  · intro key v hf
    obtain ⟨c, hc, rfl, rfl⟩ := zip_kid.1 hf
    have hp : c.key.data.toList ∈ ns := by
      rw [hns]
      rcases (hkeys c.key).1 (List.mem_map_of_mem hc) with h1 | h1
      · obtain ⟨k, hk, he⟩ := List.mem_map.1 h1
        exact .inl ⟨k, hk, by rw [he]⟩
      · obtain ⟨k, hk, he⟩ := List.mem_map.1 h1
        exact .inr ⟨k, hk, by rw [he]⟩
    rcases h.val c hc hp with ⟨a, ha, s, hs, h1, h2, h3⟩ | ⟨a, ha, h1, h2, h3⟩ | ⟨s, hs, h1, h2, h3⟩
    · exact .inl ⟨a.y, s.y, zip_kid.2 ⟨a, ha, h1, rfl⟩, zip_kid.2 ⟨s, hs, h2, rfl⟩, h3⟩
    · exact .inr (.inl ⟨zip_kid.2 ⟨a, ha, h1, h2⟩, h3⟩)
    · exact .inr (.inr ⟨zip_kid.2 ⟨s, hs, h1, h2⟩, h3⟩)
  · exact (List.pairwise_map.1 h.nodup).imp_of_mem fun ha hb hne => h.dis _ ha _ hb hne
  · obtain ⟨q1, q2, q3, _⟩ := (h.kid c hc).2.2 k hF
    exact ⟨q1, q2, q3⟩
end Go.Proofs.YtghmajlfmoggfaaGreat
namespace Go.Proofs.YtghmajlfmoggfaaGreat
open Go.RowKit Go.Proofs.YtghmajlfmoggfaaGreatW.PrintWords Go.Proofs.YtghmajlfmoggfaaGreatW.PrintLast PFnMerge
theorem both_leaf {d sb : Nat} {w w' : World} {bd bs rd rs : Nat} {yd ys : S25} {Fd Fs : Nat → Prop} {path : Value} (h2 : yd.f0 ≠ 2) (hrs : Rep w bs ys Fs) (hrns : RNB w rs bs) (hb : Below w.heap.size w w') :
    BothR (d + 1) w sb path bd bs yd ys Fd Fs ((some ⟨rs, 0, none⟩ : Option Addr).or (some ⟨rd, 0, none⟩)) w' :=
  ⟨rs, bs, ys, rfl, hrns.under hb, .inl ⟨h2, rfl⟩, (hrs.under hb).mono fun k hk => .inr (.inl hk), Shape9.of_below hb, .inr ⟨rfl, rfl, Keep.of_below hb _⟩⟩
theorem walk_both : ∀ d, BothC d := by
  intro d
  induction d with
  | zero => intro yd ys hg; exact hg.elim
  | succ d ih =>
    intro yd ys hgd hgs hal w bd bs Fd Fs hrd hrs htd hts hdis rd rs hrnd hrns V path mo sb c n m hs hV hmd hp hnd
    have hk0 : kindN ys.f0 = kindN yd.f0 := by rw [hal.1]
    obtain ⟨hld, hnqd⟩ := hgd.live hrd hrnd
    obtain ⟨hls, hnqs⟩ := hgs.live hrs hrns
    rw [hk0] at hls
    have hk45 : ∀ w', Below w.heap.size w w' → Calls Tryz.prog 45 #[wkV V path mo sb c false] w' fun e w'' => e = .returned (.int .u32 (kindN yd.f0)) ∧ Below w'.heap.size w' w'' := fun w' hb => kind45_d w' (hs.under hb) (hld.under hb)
    have hk46 : ∀ w', Below w.heap.size w w' → Calls Tryz.prog 46 #[.int .u32 (kindN yd.f0), .slice (some ⟨sb, 0, none⟩) 2 c] w' fun e w'' => e = .returned .nilIface ∧ w' = w'' := fun w' hb => any46 w' (hs.under hb) (.inr (hld.under hb)) (.inr (hls.under hb))
    have hal1 := hal.1
    have hgd' := hgd
    rcases hgd with ⟨h1, _⟩ | ⟨h1, _⟩ | ⟨h1, hne, hlen, hnod, hkeys, hitems⟩
    · have e : kindN yd.f0 = 8 := by rw [h1]; rfl
      rw [e] at hk45 hk46
      refine walk38_sc _ w hk45 hk46 fun w' hb => (scalar51 w' hV (by omega) (hs.under hb) (hnqd.under hb) (hnqs.under hb)).mono ?_
      rintro e w'' ⟨rfl, hb'⟩
      exact ⟨_, rfl, both_leaf (by rw [h1]; decide) hrs hrns (hb.trans (hb'.mono hb.size))⟩
    · have e : kindN yd.f0 = 2 := by rw [h1]; rfl
      rw [e] at hk45 hk46
      refine walk38_seq _ w hk45 hk46 fun w' hb => (list50 w' hV (by omega) (hs.under hb) (hnqd.under hb) (hnqs.under hb)).mono ?_
      rintro e w'' ⟨rfl, hb'⟩
      exact ⟨_, rfl, both_leaf (by rw [h1]; decide) hrs hrns (hb.trans (hb'.mono hb.size))⟩
    have e4 : kindN yd.f0 = 4 := by rw [h1]; rfl
    rw [e4] at hk45 hk46
    rcases hgs with ⟨g1, _⟩ | ⟨g1, _⟩ | ⟨g1, gne, glen, gnod, gkeys, gitems⟩
    · rw [hal1, g1] at h1; cases h1
    · rw [hal1, g1] at h1; cases h1
    have hrd0 := hrd
    have hrs0 := hrs
    have hFdr := hrd.root
    cases hrd with
    | sc _ text tag _ h hF => simp at h1
    | sq _ Cd kd _ h hF hr hd hk hc => simp at h1
    | mp _ Cd kd _ h hF hr hd hk hc =>
    cases hrs with
    | sc _ text tag _ h' hF' => simp at g1
    | sq _ Cs ks _ h' hF' hr' hd' hk' hc' => simp at g1
    | mp _ Cs ks _ hsn hsF hsr hsd hsk hsc =>
    have hmd0 : MapAt w bd Cd kd := ⟨h, ⟨_, hr⟩, fun c hc => (hk c hc).1⟩
    have hms0 : MapAt w bs Cs ks := ⟨hsn, ⟨_, hsr⟩, fun c hc => (hsk c hc).1⟩
    have hkdn : kd ≠ [] := by rintro rfl; exact hne rfl
    have hksn : ks ≠ [] := by rintro rfl; exact gne rfl
    have hpatd : kd.find? (hasKey patchKey) = none := by
      rw [List.find?_eq_none]
      intro x hx
      have := (hkeys x.key (List.mem_map_of_mem hx)).2.2
      simpa [hasKey] using this
    have hpats : ks.find? (hasKey patchKey) = none := by
      rw [List.find?_eq_none]
      intro x hx
      have := (gkeys x.key (List.mem_map_of_mem hx)).2.2
      simpa [hasKey] using this
    have hmqd : MapQ w (some ⟨rd, 0, none⟩) := ⟨rd, bd, Cd, kd, rfl, hrnd, hmd0, hkdn, hpatd⟩
    have hmqs : MapQ w (some ⟨rs, 0, none⟩) := ⟨rs, bs, Cs, ks, rfl, hrns, hms0, hksn, hpats⟩
    have hT : Soft w (fun k => Fd k ∨ k = sb ∨ path.ownBlock = some k) := (tb_soft htd).or (hs.soft.or hp.soft)
    have hS : Spares w (fun k => k = sb ∨ path.ownBlock = some k) := hs.spares.or hp.spares
    have hnS : ∀ k, Fs k → ¬ (Fd k ∨ k = sb ∨ path.ownBlock = some k) := fun k hF h => h.elim (fun h => hdis k h hF) (hS k (hts k hF))
    have hlkd : kd.length ≤ 1000 := by simpa using hlen
    have hlks : ks.length ≤ 1000 := by simpa using glen
    have hkdF : ∀ a ∈ kd, ∀ k, a.F k → Fd k ∧ k < w.heap.size := fun a ha k hF => ⟨((hk a ha).2.2 k hF).1, (htd k ((hk a ha).2.2 k hF).1).lt⟩
    have hksF : ∀ a ∈ ks, ∀ k, a.F k → Fs k ∧ k ≠ bd ∧ k < w.heap.size := fun a ha k hF => by
      have q := ((hsk a ha).2.2 k hF).1
      exact ⟨q, by rintro rfl; exact hdis _ hFdr q, (hts k q).lt⟩
    have hksd : ∀ a ∈ ks, ∀ a' ∈ ks, a.key ≠ a'.key → ∀ k, a.F k → a'.F k → False := fun a ha a' ha' hne => pair_dis hsd ha ha' hne
    have hmsw : ∀ w', Keep (fun k => Fd k ∨ k = sb ∨ path.ownBlock = some k) w w' → MapAt w' bs Cs ks := fun w' hkp =>
      hms0.keepx hkp (hnS bs hsF) (fun k hk => hnS k (hsr.1 k hk).1) fun c hc => hnS _ ((hsk c hc).2.2 _ (hsk c hc).2.1).1
    have hrsw : ∀ w', Keep (fun k => Fd k ∨ k = sb ∨ path.ownBlock = some k) w w' → ∀ s ∈ ks, Rep w' s.cb s.y (fun k => s.F k ∧ k ≠ s.kb) := fun w' hkp s hsm =>
      (hsc s hsm).step fun k hF ht => hkp.block k ht.lt (hnS k ((hsk s hsm).2.2 k hF.1).1)
    refine walk38_map _ w hk45 hk46 ?_
    intro w0 hb0
    refine (walkMap47 (r := rd) (m := m) w0 hV (by omega) (n := n) (by omega) (hp.shape (Shape9.of_below hb0))
      (fun P w' => (∃ C K, MI w.heap.size d bd kd ks Fd Fs P C K w' ∧ K.length ≤ kd.length + P.length) ∧ Keep (fun k => Fd k ∨ k = sb ∨ path.ownBlock = some k) w w' ∧ Shape9 w w' ∧ SrcAt w' sb (some ⟨rd, 0, none⟩) (some ⟨rs, 0, none⟩) ∧ w'.heap[w0.heap.size]? = some (.cells #[V, .pointer none, .slice (some ⟨sb, 0, none⟩) 2 c, path, .bool false, .bool false, mo] 66 (0, 0)))
      (fun ns => (∀ x, x ∈ ns ↔ (∃ k ∈ kd, k.key.data.toList = x) ∨ ∃ k ∈ ks, k.key.data.toList = x) ∧ ns.length ≤ 2000) ?_ ?_ ?_ ?_ ?_).mono ?_
    · exact fun w1 hb1 => visitMap_d w1 (hs.under (hb0.trans (hb1.mono hb0.size))) (hmqd.under (hb0.trans (hb1.mono hb0.size))) (.inr (hmqs.under (hb0.trans (hb1.mono hb0.size))))
    · intro w1 hb1 hbx
      have hb2 := hb0.trans (hb1.mono hb0.size)
      refine (setDest57 (q := some ⟨rd, 0, none⟩) w1 (hs.under hb2)).mono ?_
      rintro e w2 ⟨rfl, hs2, hk2⟩
      have hkw2 : Keep (fun k => k = sb) w w2 := (Keep.of_below hb2 _).trans hk2 fun k _ h => h
      refine ⟨rfl, ⟨Cd, kd, (MI.start h hr hd hk hc hnod htd).frame hs.spares hkw2, by simp⟩, hkw2.mono fun k _ h => .inr (.inl h), (Shape9.of_below hb2).trans (Shape9.of_keep hk2 ?_), hs2, hk2.at_ hbx ?_⟩
      · rintro k cur rfl hc
        obtain ⟨cur', h1, _⟩ := hs.under hb2
        rw [h1] at hc
        injection hc with hc
        injection hc with _ hc
        cases hc
      · intro e
        have := hs.lt
        have := hb0.size
        omega
    · exact fun P w' h => h.2.2.2.2
    · rintro w' ⟨⟨C, K, hMI, hKl⟩, hkk, hsh, hsr', hbx⟩
      have hKl' : K.length ≤ 1000 := by simp at hKl; omega
      have hKk : ∀ key, key ∈ K.map (·.key) ↔ key ∈ kd.map (·.key) := fun key => by rw [hMI.keys key]; simp
      have hd' : SrcKeys w' (some ⟨rd, 0, none⟩) (K.map (·.key)) := SrcKeys.of_map (hT.rnb hkk hrnd) hMI.map (by omega)
      have hs' : SrcKeys w' (some ⟨rs, 0, none⟩) (ks.map (·.key)) := SrcKeys.of_map (hT.rnb hkk hrns) (hmsw w' hkk) (by omega)
      refine (fieldNames58 sortC w' hsr' hd' hs' (fun s hs => by have := (hkeys s ((hKk s).1 hs)).2.1; unfold maxLen; omega) (fun s hs => by have := (gkeys s hs).2.1; unfold maxLen; omega) (by simp; omega) (by simp; omega)).mono ?_
      rintro e w'' ⟨g, cap, ns, rfl, hnod', hmem, hnl, hrow, hB⟩
      refine ⟨g, cap, ns, rfl, hnod', ⟨fun x => ?_, by simp at hnl; omega⟩, hrow, ⟨C, K, hMI.frame (Spares.none _) (Keep.of_below hB _), hKl⟩, hkk.then hB, hsh.trans (Shape9.of_below hB), hsr'.under hB, (hB.block _ (lt_of_block hbx)).trans hbx⟩
      rw [hmem x]
      constructor
      · rintro (⟨s, h1, h2⟩ | ⟨s, h1, h2⟩)
        · obtain ⟨k, hkm, rfl⟩ := List.mem_map.1 ((hKk s).1 h1)
          exact .inl ⟨k, hkm, h2⟩
        · obtain ⟨k, hkm, rfl⟩ := List.mem_map.1 h1
          exact .inr ⟨k, hkm, h2⟩
      · rintro (⟨k, hkm, h2⟩ | ⟨k, hkm, h2⟩)
        · exact .inl ⟨k.key, (hKk _).2 (List.mem_map_of_mem hkm), h2⟩
        · exact .inr ⟨k.key, List.mem_map_of_mem hkm, h2⟩
    · rintro P name rest w' ⟨hNm, hNl⟩ hNd ⟨⟨C, K, hMI, hKl⟩, hkk, hsh, hsr', hbx⟩
      have hPl : P.length ≤ 2000 := by simp at hNl; omega
      have hnP : name ∉ P := by
        intro hm
        rw [List.nodup_append] at hNd
        exact hNd.2.2 name hm name (by simp) rfl
      have hpl : ∀ k, path.ownBlock = some k → k < w0.heap.size := fun k hk => by have := hp.lt k hk; have := hb0.size; omega
      have hpk := hp.shape hsh
      have hr0' := hT.rnb hkk hrnd
      have hksq : KidsQ w' (some ⟨rs, 0, none⟩) ks := .inr ⟨rs, bs, Cs, rfl, hT.rnb hkk hrns, hmsw w' hkk⟩
      have hkn : ∀ {key : ByteArray}, key.data.toList = name → key = ⟨name.toArray⟩ := fun h => key_of h
      have hsbT : ∀ {T : Nat → Prop}, Spares w' T → T sb → path.ownBlock ≠ some sb := fun _ _ => src_ne_path hsr' hpk
      have hsbtb : ¬ TB w' sb := fun h => hsr'.spares sb h rfl
      have hbxtb : ¬ TB w' w0.heap.size := by
        rintro ⟨cs, t, h1, h2⟩
        rw [hbx] at h1
        injection h1 with h1
        injection h1 with _ h1
        subst h1
        simp at h2
      have hwl : w.heap.size ≤ w'.heap.size := hkk.size
      by_cases hkd : (⟨name.toArray⟩ : ByteArray) ∈ kd.map (·.key)
      · have hKm : (⟨name.toArray⟩ : ByteArray) ∈ K.map (·.key) := (hMI.keys _).2 (.inl hkd)
        obtain ⟨k0, hk0, hk0n⟩ := List.mem_map.1 hKm
        obtain ⟨kid, hf, hmem, hkey⟩ := find_key ⟨k0, hk0, hk0n⟩
        have hkl : kid.key.data.toList = name := by rw [hkey]
        have hold : kid ∈ kd := hMI.old kid hmem (by rw [hkl]; exact hnP)
        have hne' : (⟨name.toArray⟩ : ByteArray).toList.isEmpty = false := (hkeys _ hkd).1
        have hgk : Good d kid.y := hitems _ (List.mem_map_of_mem hold)
        by_cases hks : (⟨name.toArray⟩ : ByteArray) ∈ ks.map (·.key)
        · obtain ⟨s0, hs0, hs0n⟩ := List.mem_map.1 hks
          obtain ⟨s, hfs, hsm, hskey⟩ := find_key ⟨s0, hs0, hs0n⟩
          have hgs' : Good d s.y := gitems _ (List.mem_map_of_mem hsm)
          have halk : AlikeN d kid.y s.y := hal.2 h1 ⟨name.toArray⟩ kid.y s.y (zip_kid.2 ⟨kid, hold, hkey, rfl⟩) (zip_kid.2 ⟨s, hsm, hskey, rfl⟩)
          have hrkb := (hMI.rep kid hmem).bound
          have hrsb := (hrsw w' hkk s hsm).bound
          refine (both_step ih (wb := w0.heap.size) hsr' hr0' hMI.map hksq hbx hf hfs hne' hgk hgs' halk hrkb hrsb (fun k h => h.2) (fun k h => h.2) (fun k h1 h2 => hdis k (hkdF kid hold k h1.1.1).1 (hksF s hsm k h2.1.1).1)
            (fun h => ((hMI.kid kid hmem).2.2 _ h.1.1).2.1 rfl) (fun k hC h => ((hMI.kid kid hmem).2.2 _ h.1.1).2.2.1 hC) (fun c' hc' h => ?_) hV (by omega) hpk (by omega)).mono ?_
          · by_cases he : c'.key = kid.key
            · have := kid_unique hMI.nodup hc' hmem he
              subst this
              exact h.1.2 rfl
            · exact hMI.dis c' hc' kid hmem he _ (hMI.kid c' hc').2.1 h.1.1
          rintro e w1 ⟨g, cap, sm, rfl, h1, h2, h3⟩
          refine ⟨g, cap, sm, rfl, h1, h2, fun path' w2 happ => (h3 path' w2 happ).mono ?_⟩
          rintro e w3 ⟨q, rfl, h4, h5, h6⟩
          refine ⟨q, rfl, h4, h5, fun fb w4 hb4 hc4 => (h6 fb w4 hb4 hc4).mono ?_⟩
          rintro e w5 ⟨q', rfl, ⟨ym, hM, hrep5⟩, hk5, hsh5⟩
          have hMI5 := hMI.both (w' := w5) (s := s) (by rw [hkl]; exact hnP) hmem hsm (hskey.trans hkey.symm) hkdF hksF hdis hksd hM hpk.spares (hk5.mono fun k _ h => h.imp (fun h => h.1) id) (hrep5.mono fun k h => h.imp (fun h => h.1) (fun h => h.imp (fun h => h.1.1) id))
          rw [hkl] at hMI5
          refine ⟨q', rfl, ⟨⟨C, _, hMI5, by simp; omega⟩, hkk.trans hk5 fun k _ h => h.elim (fun h => .inl (hkdF kid hold k h.1.1).1) fun h => .inr (.inr h), hsh.trans hsh5, hk5.src hsr' fun h => h.elim (fun h => hsbtb h.2) (src_ne_path hsr' hpk), hk5.at_ hbx fun h => h.elim (fun h => hbxtb h.2) fun h => by have := hpl _ h; omega⟩, hk5.mono fun k _ h => h.elim (fun h => .inr h.2) fun h => .inl (hpl k h)⟩
        · refine (self_step (walk_self d) (wb := w0.heap.size) hsr' hr0' hMI.map hksq (.inl (find_none_key hks)) hbx hf hne' hgk ⟨_, hMI.rep kid hmem⟩ hV (by omega) hpk (by omega)).mono ?_
          rintro e w1 ⟨g, cap, sm, rfl, h1, h2, h3⟩
          refine ⟨g, cap, sm, rfl, h1, h2, fun path' w2 happ => (h3 path' w2 happ).mono ?_⟩
          rintro e w3 ⟨q, rfl, h4, h5, h6⟩
          refine ⟨q, rfl, h4, h5, fun fb w4 hb4 hc4 => (h6 fb w4 hb4 hc4).mono ?_⟩
          rintro e w5 ⟨q', rfl, hk5, hsh5⟩
          refine ⟨q', rfl, ⟨⟨C, K, hMI.self hnP hmem hkl (by rw [hkey]; exact hks) hpk.spares hk5, by simp; omega⟩, hkk.trans hk5 fun k _ h => .inr (.inr h), hsh.trans hsh5, hk5.src hsr' (src_ne_path hsr' hpk), hk5.at_ hbx fun h => by have := hpl _ h; omega⟩, hk5.mono fun k _ h => .inl (hpl k h)⟩
      · have hks : (⟨name.toArray⟩ : ByteArray) ∈ ks.map (·.key) := by
          rcases (hNm name).1 (by simp) with ⟨k, hkm, he⟩ | ⟨k, hkm, he⟩
          · exact absurd (List.mem_map.2 ⟨k, hkm, hkn he⟩) hkd
          · exact List.mem_map.2 ⟨k, hkm, hkn he⟩
        have hKm : (⟨name.toArray⟩ : ByteArray) ∉ K.map (·.key) := fun h => by
          rcases (hMI.keys _).1 h with h | ⟨_, h⟩
          · exact hkd h
          · exact hnP (by simpa using h)
        obtain ⟨s0, hs0, hs0n⟩ := List.mem_map.1 hks
        obtain ⟨s, hfs, hsm, hskey⟩ := find_key ⟨s0, hs0, hs0n⟩
        have hne' : (⟨name.toArray⟩ : ByteArray).toList.isEmpty = false := (gkeys _ hks).1
        have hgs' : Good d s.y := gitems _ (List.mem_map_of_mem hsm)
        refine (new_step (walk_self d) (wb := w0.heap.size) hsr' hr0' hMI.map hksq hbx (find_none_key hKm) hfs hne' hgs' ⟨_, hrsw w' hkk s hsm⟩ hV (by omega) hpk (by omega) (by omega)).mono ?_
        rintro e w1 ⟨g, cap, sm, rfl, h1, h2, h3⟩
        refine ⟨g, cap, sm, rfl, h1, h2, fun path' w2 happ => (h3 path' w2 happ).mono ?_⟩
        rintro e w3 ⟨q, rfl, h4, h5, h6⟩
        refine ⟨q, rfl, h4, h5, fun fb w4 hb4 hc4 => (h6 fb w4 hb4 hc4).mono ?_⟩
        rintro e w5 ⟨q', rfl, ⟨kb, C', f1, f2, f3, f4, f5⟩, hk5, hsh5⟩
        have hMI5 := hMI.new (key := ⟨name.toArray⟩) (by simpa using hnP) hsm hskey hkd (fun a ha k hF => (hkdF a ha k hF).1) hksF hdis hksd (hrsw w' hkk s hsm) hFdr f1 f2 f3 f4 f5 hpk.spares hk5
        have hMI5' : MI w.heap.size d bd kd ks Fd Fs (P ++ [name]) C' _ w5 := hMI5
        have hbtb := hMI.node.tb
        have hCtb : ∀ k, C.ownBlock = some k → TB w' k := fun k hC => (hMI.row.bound.1 k hC).2
        refine ⟨q', rfl, ⟨⟨C', _, hMI5', by simp; omega⟩, hkk.trans hk5 ?_, hsh.trans hsh5, hk5.src hsr' ?_, hk5.at_ hbx ?_⟩, hk5.mono ?_⟩
        · rintro k hkl (rfl | h | h)
          · exact .inl hFdr
          · exact (hMI.row.1 k h).1.elim .inl fun h => by omega
          · exact .inr (.inr h)
        · rintro (h | h | h)
          · exact hsbtb (by rw [h]; exact hbtb)
          · exact hsbtb (hCtb _ h)
          · exact src_ne_path hsr' hpk h
        · rintro (h | h | h)
          · exact hbxtb (by rw [h]; exact hbtb)
          · exact hbxtb (hCtb _ h)
          · have := hpl _ h; omega
        · rintro k _ (h | h | h)
          · exact .inr (by rw [h]; exact hbtb)
          · exact .inr (hCtb _ h)
          · exact .inl (hpl k h)
    · rintro e w' ⟨rfl, ns, _, ⟨hns, _⟩, ⟨C, K, hMI, _⟩, hkk, hsh, _, _⟩
      obtain ⟨ym, hM, hR⟩ := hMI.done hns hFdr
      exact ⟨_, rfl, rd, bd, ym, rfl, hT.rnb hkk hrnd, hM, hR, hsh, .inl ⟨rfl, hkk⟩⟩
end Go.Proofs.YtghmajlfmoggfaaGreat
namespace Go.Proofs.YtghmajlfmoggfaaGreat
open Go.RowKit Go.Proofs.YtghmajlfmoggfaaGreatW.PrintWords Go.Proofs.YtghmajlfmoggfaaGreatW.PrintLast PFnMerge
structure TI (pairs : Bool) (w0 : World) (nb : Nat) (cs : Array Value) (kk : Int) (keys : List ByteArray) (items : List S25) (j : Nat) (C : Value) (kids : List Kid) (w : World) : Prop where
  below : Below w0.heap.size w0 w
  nb_lt : w0.heap.size < nb
  box : w.heap[w0.heap.size]? = some (.cells cs 25 (0, 0))
  node : NodeB w nb kk noStr noStr C
  row : w.ownsRow (nb + 1) 69 1 C (if pairs then 2 * j else j) ((if pairs then kids.flatMap Kid.two else kids.map (·.cb)).map ptrV)
  len : kids.length = j
  ks : pairs = true → kids.map (·.key) = keys.take j
  ys : kids.map (·.y) = items.take j
  dis : kids.Pairwise fun c d => ∀ k, c.F k → d.F k → False
  kid : ∀ c ∈ kids, (pairs = true → NodeB w c.kb 8 noStr c.key nilS ∧ c.F c.kb) ∧ ∀ k, c.F k → nb < k ∧ C.ownBlock ≠ some k ∧ k < w.heap.size
  rep : ∀ c ∈ kids, Rep w c.cb c.y (fun k => c.F k ∧ (pairs = true → k ≠ c.kb))
section
variable {pairs : Bool} {w0 w w' : World} {nb : Nat} {cs : Array Value} {kk : Int} {keys : List ByteArray} {items : List S25} {j : Nat} {C : Value} {kids : List Kid}
theorem TI.under (h : TI pairs w0 nb cs kk keys items j C kids w) (hb : Below w.heap.size w w') : TI pairs w0 nb cs kk keys items j C kids w' :=
  ⟨h.below.trans (hb.mono h.below.size), h.nb_lt, (hb.block _ (lt_of_block h.box)).trans h.box, h.node.under hb, own_move h.row fun k hk => hb.block k (own_lt h.row k hk), h.len, h.ks, h.ys, h.dis,
    fun c hc => ⟨fun hp => ⟨((h.kid c hc).1 hp).1.under hb, ((h.kid c hc).1 hp).2⟩, fun k hF => by
      obtain ⟨q1, q2, q3⟩ := (h.kid c hc).2 k hF
      exact ⟨q1, q2, Nat.lt_of_lt_of_le q3 hb.size⟩⟩, fun c hc => (h.rep c hc).under hb⟩
theorem TI.push (h : TI pairs w0 nb cs kk keys items j C kids w) {kb cb : Nat} {key : ByteArray} {y : S25} {G : Nat → Prop} {v1 : Value} {w4 : World} {base : Nat}
    (hbase : base ≤ w.heap.size) (hold : ∀ c ∈ kids, ∀ k, c.F k → k < base) (hCb : ∀ k, C.ownBlock = some k → k < base) (hnb : nb < base)
    (hkey : pairs = true → keys[j]? = some key ∧ base ≤ kb ∧ NodeB w kb 8 noStr key nilS ∧ ¬ G kb) (hy : items[j]? = some y) (hrep : Rep w cb y G) (hG : ∀ k, G k → base ≤ k ∧ k < w.heap.size)
    (hown : w4.ownsRow (nb + 1) 69 1 v1 ((if pairs then 2 * j else j) + (if pairs then 2 else 1)) ((if pairs then kids.flatMap Kid.two else kids.map (·.cb)).map ptrV ++ (if pairs then [ptrV kb, ptrV cb] else [ptrV cb])))
    (hg : w.grownBy w4 C.ownBlock) (hat : v1.ownBlock = C.ownBlock ∨ ∃ b, v1.ownBlock = some b ∧ w.heap.size ≤ b) :
    TI pairs w0 nb cs kk keys items (j + 1) v1 (kids ++ [⟨key, kb, cb, y, fun k => (pairs = true ∧ k = kb) ∨ G k⟩]) (w4.setCell ⟨nb, 6, none⟩ v1) := by
  have hnode4 : NodeB w4 nb kk noStr noStr C := (hg.block nb h.node.lt (fun e => own_ne h.row h.node (by decide) e)).trans h.node
  have hvC : ∀ k, k < w.heap.size → C.ownBlock ≠ some k → v1.ownBlock ≠ some k := fun k hl hc => by
    rcases hat with h1 | ⟨b, h1, h2⟩
    · rw [h1]; exact hc
    · rw [h1]; intro e; injection e with e; omega
  have hfar : ∀ k, k < w.heap.size → C.ownBlock ≠ some k → k ≠ nb → (w4.setCell ⟨nb, 6, none⟩ v1).heap[k]? = w.heap[k]? := fun k hl hc hn =>
    (Below.heap_setCell w4 ⟨nb, 6, none⟩ v1 k hn).trans (hg.block k hl (fun e => hc e.symm))
  have hGC : ∀ k, G k → C.ownBlock ≠ some k := fun k hk hc => by have := hCb k hc; have := (hG k hk).1; omega
  have hnbg : ∀ k, G k → k ≠ nb := fun k hk e => by have := (hG k hk).1; omega
  refine ⟨?_, h.nb_lt, ?_, ?_, ?_, by simp [h.len], fun hp => ?_, ?_, ?_, ?_, ?_⟩
  · exact (h.below.grown hg h.below.size fun k hk => by have := own_base h.row k hk; have := h.nb_lt; omega).setCell (by show w0.heap.size ≤ nb; have := h.nb_lt; omega) _
  · refine (hfar _ (lt_of_block h.box) (fun hc => ?_) (by have := h.nb_lt; omega)).trans h.box
    have := own_base h.row _ hc
    have := h.nb_lt
    omega
  · refine (blk_set hnode4 6 _).trans ?_
    simp only [nd, List.setIfInBounds_toArray, List.set_cons_zero, List.set_cons_succ]
  · have h2 := own_setCell hown (p := ⟨nb, 6, none⟩) (show some nb ≠ _ from own_ne hown hnode4 (by decide)) v1
    cases pairs
    · simpa [Kid.two] using h2
    · simpa [Kid.two, Nat.mul_add] using h2
  · rw [List.map_append, h.ks hp, List.take_add_one, (hkey hp).1]; rfl
  · rw [List.map_append, h.ys, List.take_add_one, hy]; rfl
  · rw [List.pairwise_append]
    refine ⟨h.dis, by simp, fun c hc d hd k h1 h2 => ?_⟩
    simp only [List.mem_singleton] at hd
    subst hd
    have hk := hold c hc k h1
    rcases h2 with ⟨hp, rfl⟩ | h2
    · have := (hkey hp).2.1; omega
    · have := (hG k h2).1; omega
  · intro c hc
    simp only [List.mem_append, List.mem_singleton] at hc
    rcases hc with hc | rfl
    · refine ⟨fun hp => ?_, fun k hF => ?_⟩
      · obtain ⟨h1, h2⟩ := (h.kid c hc).1 hp
        obtain ⟨q1, q2, q3⟩ := (h.kid c hc).2 _ h2
        exact ⟨h1.move (hfar _ q3 q2 (by omega)), h2⟩
      · obtain ⟨q1, q2, q3⟩ := (h.kid c hc).2 k hF
        exact ⟨q1, hvC k q3 q2, by rw [size_set]; exact Nat.lt_of_lt_of_le q3 hg.size⟩
    · refine ⟨fun hp => ?_, fun k hF => ?_⟩
      · obtain ⟨h1, h2, h3, h4⟩ := hkey hp
        refine ⟨h3.move (hfar _ h3.lt (fun hc => by have := hCb _ hc; omega) (by omega)), .inl ⟨hp, rfl⟩⟩
      · rcases hF with ⟨hp, rfl⟩ | hF
        · obtain ⟨h1, h2, h3, h4⟩ := hkey hp
          exact ⟨by omega, hvC _ h3.lt (fun hc => by have := hCb _ hc; omega), by rw [size_set]; exact Nat.lt_of_lt_of_le h3.lt hg.size⟩
        · have := hG k hF
          exact ⟨by omega, hvC k this.2 (hGC k hF), by rw [size_set]; exact Nat.lt_of_lt_of_le this.2 hg.size⟩
  · intro c hc
    simp only [List.mem_append, List.mem_singleton] at hc
    rcases hc with hc | rfl
    · refine (h.rep c hc).move fun k hF => ?_
      obtain ⟨q1, q2, q3⟩ := (h.kid c hc).2 k hF.1
      exact hfar k q3 q2 (by omega)
    · refine (hrep.move fun k hF => hfar k (hG k hF).2 (hGC k hF) (hnbg k hF)).mono fun k hF => ⟨.inr hF, fun hp e => ?_⟩
      have e : k = kb := e
      exact (hkey hp).2.2.2 (by rw [← e]; exact hF)
theorem TI.map_done (h : TI true w0 nb cs 4 keys items items.length C kids w) (hl : keys.length = items.length) : Rep w nb ⟨2, noStr, noStr, keys, items⟩ (fun k => w0.heap.size ≤ k) := by
  have hk := h.ks rfl
  have hy := h.ys
  rw [List.take_length] at hy
  rw [← hl, List.take_length] at hk
  rw [← hk, ← hy]
  refine .mp nb C kids _ h.node (Nat.le_of_lt h.nb_lt) ⟨fun k hc => ?_, ?_⟩ h.dis (fun c hc => ⟨((h.kid c hc).1 rfl).1, ((h.kid c hc).1 rfl).2, fun k hF => ?_⟩) fun c hc => (h.rep c hc).mono fun k hF => ⟨hF.1, hF.2 rfl⟩
  · have := own_base h.row k hc
    have := h.nb_lt
    exact ⟨by omega, by omega⟩
  · have := own_weaken h.row (Nat.zero_le _)
    rw [two_length, h.len]
    simpa using this
  · obtain ⟨q1, q2, q3⟩ := (h.kid c hc).2 k hF
    have := h.nb_lt
    exact ⟨by omega, by omega, q2⟩
theorem TI.seq_done (h : TI false w0 nb cs 2 keys items items.length C kids w) : Rep w nb ⟨3, noStr, noStr, [], items⟩ (fun k => w0.heap.size ≤ k) := by
  have hy := h.ys
  rw [List.take_length] at hy
  rw [← hy]
  refine .sq nb C kids _ h.node (Nat.le_of_lt h.nb_lt) ⟨fun k hc => ?_, ?_⟩ h.dis (fun c hc k hF => ?_) fun c hc => (h.rep c hc).mono fun k hF => hF.1
  · have := own_base h.row k hc
    have := h.nb_lt
    exact ⟨by omega, by omega⟩
  · have := own_weaken h.row (Nat.zero_le _)
    rw [List.length_map, h.len]
    simpa using this
  · obtain ⟨q1, q2, q3⟩ := (h.kid c hc).2 k hF
    have := h.nb_lt
    exact ⟨by omega, by omega, q2⟩
end
end Go.Proofs.YtghmajlfmoggfaaGreat
