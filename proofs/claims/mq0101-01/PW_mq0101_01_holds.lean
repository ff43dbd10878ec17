import PyProof.Rows.All
import Wide.All
import OpenK.AllK
import Wide.FinOn
import PySem.Challenge.RW_mq0101_01
open PySem PySem.W PyProof.Rows
set_option Elab.async false
section
namespace Mine
set_option maxRecDepth 100000 in
set_option maxHeartbeats 8000000 in
open_top hd for PySem.Challenge.rw_mq0101_01
end Mine
end
section
namespace Mine
section
variable {prog : Program} {w : World} {A : Around} {E : Value → Shared → Prop} {s : Shared} {env : Env} {h₀ : Heap} {x : Str} {body : List Stmt} {Q : Flow → Shared → Prop}
def EndG (h₀ : Heap) (L : Addr) (J : (Str → Option Value) → List (Addr × Obj) → Prop) (fix : List (Addr × Obj)) (I : Addr) (s₁ : Shared) (Q : Flow → Shared → Prop) (f : Flow) (s₂ : Shared) : Prop :=
  match f with
  | .ret v => Q (.ret v) s₂
  | .brk => Q .next s₂
  | _ => ∃ h' tk m' nx', s₂ = { s₁ with heap := h', toks := tk } ∧ Fr h₀ L h' m' ∧ News h₀ L h' (nx' ++ fix) ∧ (∀ p ∈ nx', p.1 ≠ I) ∧ J m' nx'
theorem loopG {I : Addr} {fp : List Addr} {n : Nat} {P : Nat → Value → Prop} {St : Nat → Heap → Prop} {m₀ : Str → Option Value} {fix nx₀ : List (Addr × Obj)} (J : Nat → (Str → Option Value) → List (Addr × Obj) → Prop)
    (W : Walks prog w A I fp [I] n P St) (hlive : ∀ i h, St i h → ∃ o, h.get? I = some o) (hLf : env.locals ∉ fp) (hI₀ : h₀.get? I = none)
    (hfp : ∀ b ∈ fp, b = I ∨ (∃ o, h₀.get? b = some o) ∨ ∃ o, (b, o) ∈ fix) (hnI : ∀ p ∈ nx₀ ++ fix, p.1 ≠ I)
    (hst : St 0 s.heap) (F : Fr h₀ env.locals s.heap m₀) (N : News h₀ env.locals s.heap (nx₀ ++ fix)) (hj : J 0 m₀ nx₀)
    (turn : ∀ i v m₁ nx oI h tk, i < n → P i v → J i m₁ nx → (∀ p ∈ nx ++ fix, p.1 ≠ I) → Fr h₀ env.locals h (fun y => if y = x then some v else m₁ y) → News h₀ env.locals h (nx ++ (fix ++ [(I, oI)])) →
      wpAny (model prog w) A (execs body env) (EndG h₀ env.locals (J (i + 1)) (fix ++ [(I, oI)]) I { s with heap := h, toks := tk } Q) E { s with heap := h, toks := tk })
    (done : ∀ m₁ nx h tk, J n m₁ nx → Fr h₀ env.locals h m₁ → News h₀ env.locals h (nx ++ fix) → Q .next { s with heap := h, toks := tk }) :
    LoopAtV prog w A h₀ env x body Q E (.ref I) s := by
  have hfixI : ∀ p ∈ fix, p.1 ≠ I := fun p hp => hnI p (List.mem_append_right _ hp)
  refine ⟨I, fp, [I], n, P, St, m₀, nx₀ ++ fix, (fun i m nf => ∃ nx, nf = nx ++ fix ∧ J i m nx), rfl, W, hLf, ?_, ?_, hst, F, N, ⟨nx₀, rfl, hj⟩, ?_, ?_⟩
  · intro b hb; rw [List.mem_singleton.mp hb]; exact hI₀
  · intro p hp hb; exact hnI p hp (List.mem_singleton.mp hb)
  · rintro i v m₁ news₁ s₁ own ⟨hh', tk', rfl⟩ hin hP ⟨nx, rfl, hJ⟩ hoff hown hget hall hst₁ F₁ N₁
    obtain ⟨oI, hoI⟩ := hlive _ _ hst₁
    have hIown : (I, oI) ∈ own := hall I (W.sub I (List.mem_singleton.mpr rfl)) hI₀ oI hoI
    have N₂ : News h₀ env.locals hh' (nx ++ (fix ++ [(I, oI)])) := by
      intro p hp
      rcases List.mem_append.mp hp with h | h
      · exact N₁ p (List.mem_append_right _ (List.mem_append_left _ h))
      · rcases List.mem_append.mp h with h | h
        · exact N₁ p (List.mem_append_right _ (List.mem_append_right _ h))
        · rw [List.mem_singleton.mp h]; exact N₁ _ (List.mem_append_left _ hIown)
    refine wpAny_mono (turn i v m₁ nx oI hh' tk' hin hP hJ (fun p hp hb => hoff p hp (List.mem_singleton.mpr hb)) F₁ N₂) (fun f s₂ p => ?_) fun _ _ e => e
    have fin : (∃ h' tk m' nx', s₂ = { ({ s with heap := hh', toks := tk' } : Shared) with heap := h', toks := tk } ∧ Fr h₀ env.locals h' m' ∧ News h₀ env.locals h' (nx' ++ (fix ++ [(I, oI)])) ∧ (∀ p ∈ nx', p.1 ≠ I) ∧ J (i + 1) m' nx') →
        LoopStepU h₀ env.locals [I] own (fun m nf => ∃ nx, nf = nx ++ fix ∧ J (i + 1) m nx) { s with heap := hh', toks := tk' } .next s₂ := by
      rintro ⟨h', tk, m', nx', e, F', N', hne, hm⟩
      refine ⟨rfl, h', tk, m', nx' ++ fix, e, F', fun p hp => ?_, fun p hp hb => ?_, nx', rfl, hm⟩
      · rcases List.mem_append.mp hp with h | h
        · have hg : hh'.get? p.1 = some p.2 := hget p h
          rcases hfp p.1 (hown p h) with e1 | ⟨o, e1⟩ | ⟨o, e1⟩
          · have : p = (I, oI) := by
              rw [e1] at hg
              have hoI' : hh'.get? I = some oI := hoI
              rw [hoI'] at hg
              exact Prod.ext e1 (Option.some.inj hg).symm
            rw [this]
            exact N' _ (List.mem_append_right _ (List.mem_append_right _ (List.mem_singleton.mpr rfl)))
          · have := (N₁ p (List.mem_append_left _ h)).2.2
            rw [e1] at this; cases this
          · have h1 := (N₂ _ (List.mem_append_right _ (List.mem_append_left _ e1))).1
            have h1' : hh'.get? p.1 = some o := h1
            rw [hg] at h1'
            have : p = (p.1, o) := Prod.ext rfl (Option.some.inj h1')
            rw [this]
            exact N' _ (List.mem_append_right _ (List.mem_append_left _ e1))
        · exact N' p ((List.mem_append.mp h).elim (fun h => List.mem_append_left _ h) fun h => List.mem_append_right _ (List.mem_append_left _ h))
      · have e1 := List.mem_singleton.mp hb
        rcases List.mem_append.mp hp with h | h
        · exact hne p h e1
        · exact hfixI p h e1
    cases f with
    | ret v => exact .ret p
    | brk => exact .brk p
    | next => exact .next (fin p)
    | cont => exact .cont (fin p)
  · rintro h' tk m' news' F' N' _ ⟨nx, rfl, hJ⟩
    exact done m' nx h' tk hJ F' N'
/-- what the frame's map says between turns -/
def KS {σ : Type} (Led : σ → List (Addr × Obj)) (ps : σ → List (Str × Value)) (x : Str) (stored : List Str) (m₀ : Str → Option Value) (P : σ → Prop) (m : Str → Option Value) (nx : List (Addr × Obj)) : Prop :=
  ∃ c : σ, nx = Led c ∧ (∀ p ∈ ps c, m p.1 = some p.2) ∧ (∀ z, z ≠ x → (∀ p ∈ ps c, z ≠ p.1) → stored.contains z = false → m z = m₀ z) ∧ P c
theorem EndG.intro {σ : Type} {Led : σ → List (Addr × Obj)} {ps : σ → List (Str × Value)} {stored : List Str} {m₀ : Str → Option Value} {P : σ → Prop} {L : Addr} {m' : Str → Option Value} {fix news' : List (Addr × Obj)} {I : Addr} {s₁ : Shared} {h' : Heap} {tk : Nat} (c : σ)
    (F : Fr h₀ L h' m') (N : News h₀ L h' news') (hn : ∀ p ∈ Led c, p ∈ news') (hf : ∀ p ∈ fix, p ∈ news') (hI : ∀ p ∈ Led c, p.1 ≠ I) (hk : ∀ p ∈ ps c, m' p.1 = some p.2) (hr : ∀ z, z ≠ x → (∀ p ∈ ps c, z ≠ p.1) → stored.contains z = false → m' z = m₀ z) (hp : P c) :
    EndG h₀ L (KS Led ps x stored m₀ P) fix I s₁ Q .next { s₁ with heap := h', toks := tk } :=
  ⟨h', tk, m', Led c, rfl, F, fun p hp => N p ((List.mem_append.mp hp).elim (hn p) (hf p)), hI, c, rfl, hk, hr, hp⟩
theorem EndG.retI {J : (Str → Option Value) → List (Addr × Obj) → Prop} {fix : List (Addr × Obj)} {L I : Addr} {s₁ s₂ : Shared} {v : Value} (h : Q (.ret v) s₂) : EndG h₀ L J fix I s₁ Q (.ret v) s₂ := h
theorem kstG_list {σ : Type} {l : Addr} {vs : List Value} {nn : Nat} {m₀ : Str → Option Value} {fix : List (Addr × Obj)} (Led : σ → List (Addr × Obj)) (ps : σ → List (Str × Value)) (stored : List Str) (P : Nat → σ → Prop) (c₀ : σ)
    (hh : A.handled = none) (hl : (l, listOf vs.toArray nn) ∈ fix) (F : Fr h₀ env.locals s.heap m₀) (N : News h₀ env.locals s.heap (Led c₀ ++ fix)) (hk : ∀ p ∈ ps c₀, m₀ p.1 = some p.2) (hp : P 0 c₀)
    (turn : ∀ (c : σ) i v (u : Str → Option Value) I oI h tk, vs[i]? = some v → P i c → (∀ p ∈ Led c ++ fix, p.1 ≠ I) →
      Fr h₀ env.locals h (fun y => if y = x then some v else kstB (fun z => if stored.contains z then u z else m₀ z) (ps c) y) → News h₀ env.locals h (Led c ++ (fix ++ [(I, oI)])) →
      wpAny (model prog w) A (execs body env) (EndG h₀ env.locals (KS Led ps x stored m₀ (P (i + 1))) (fix ++ [(I, oI)]) I { s with heap := h, toks := tk } Q) E { s with heap := h, toks := tk })
    (done : ∀ (c : σ) (u : Str → Option Value) h tk, P vs.length c → Fr h₀ env.locals h (fun y => if y = x then u y else kstB (fun z => if stored.contains z then u z else m₀ z) (ps c) y) → News h₀ env.locals h (Led c ++ fix) → Q .next { s with heap := h, toks := tk }) :
    wpAny (model prog w) A (pyIter (.ref l)) (fun it s₂ => LoopAtV prog w A h₀ env x body Q E it s₂) E s := by
  have hol : s.heap.get? l = some (listOf vs.toArray nn) := (N _ (List.mem_append_right _ hl)).1
  have hls : s.heap.IsList l vs.toArray := ⟨_, hol, rfl, nn, rfl⟩
  have hne : l ≠ s.heap.objs.size := Nat.ne_of_lt (Heap.lt_size hol)
  refine wpAny_pyIter_list hls ?_
  have W := Walks.list (prog := prog) (w := w) hh s.heap.objs.size l hne vs.toArray
  have hlen : vs.toArray.size = vs.length := by simp
  rw [hlen] at W
  refine loopG (fun i m nx => KS Led ps x stored m₀ (P i) m nx) (nx₀ := Led c₀) (fix := fix) (m₀ := m₀) W ?_ ?_ (next_is_new F) ?_ ?_ ⟨⟨_, Heap.get?_push_size _ rfl, rfl, rfl⟩, hls.at fun o e => Heap.get?_push_of_some _ e⟩ (F.push _) (fun p hp => ⟨Heap.get?_push_of_some _ (N p hp).1, (N p hp).2⟩) ⟨c₀, rfl, hk, fun _ _ _ _ => rfl, hp⟩ ?_ ?_
  · rintro i h ⟨⟨o, ho, _⟩, _⟩; exact ⟨o, ho⟩
  · intro hm
    rcases List.mem_cons.mp hm with e | hm
    · exact absurd F.ns.lt (e ▸ Nat.lt_irrefl _)
    · exact (N _ (List.mem_append_right _ hl)).2.1 ((List.mem_singleton.mp hm).symm)
  · intro b hb
    rcases List.mem_cons.mp hb with e | hb
    · exact .inl e
    · rw [List.mem_singleton.mp hb]; exact .inr (.inr ⟨_, hl⟩)
  · intro p hp hI
    exact absurd (Heap.lt_size (N p hp).1) (hI ▸ Nat.lt_irrefl _)
  · rintro i v m₁ nx oI h tk hi hP ⟨c, rfl, h1, h2, hp'⟩ hnI F₁ N₁
    exact turn c i v m₁ _ oI h tk (by simpa using hP) hp' hnI (kst_fr h1 h2 F₁) N₁
  · rintro m₁ nx h tk ⟨c, rfl, h1, h2, hp'⟩ F₁ N₁
    exact done c m₁ h tk hp' (kst_frOut h1 h2 F₁) N₁
theorem kstG_range {σ : Type} {r : Addr} {a₀ b₀ : Int} {t₀ u₀ v₀ : Tok} {n : Nat} {m₀ : Str → Option Value} {fix : List (Addr × Obj)} (Led : σ → List (Addr × Obj)) (ps : σ → List (Str × Value)) (stored : List Str) (P : Nat → σ → Prop) (c₀ : σ)
    (hh : A.handled = none) (hr : IsRange s.heap r a₀ b₀ 1 t₀ u₀ v₀) (hsmall : Builtin.Range.small a₀ b₀ 1 = true) (hn : Builtin.Range.rangeSize a₀ b₀ 1 = (n : Int)) (F : Fr h₀ env.locals s.heap m₀) (N : News h₀ env.locals s.heap (Led c₀ ++ fix)) (hk : ∀ p ∈ ps c₀, m₀ p.1 = some p.2) (hp : P 0 c₀)
    (turn : ∀ (c : σ) (i : Nat) t (u : Str → Option Value) I oI h tk, i < n → P i c → (∀ p ∈ Led c ++ fix, p.1 ≠ I) →
      Fr h₀ env.locals h (fun y => if y = x then some (.int (a₀ + (i : Int)) t) else kstB (fun z => if stored.contains z then u z else m₀ z) (ps c) y) → News h₀ env.locals h (Led c ++ (fix ++ [(I, oI)])) →
      wpAny (model prog w) A (execs body env) (EndG h₀ env.locals (KS Led ps x stored m₀ (P (i + 1))) (fix ++ [(I, oI)]) I { s with heap := h, toks := tk } Q) E { s with heap := h, toks := tk })
    (done : ∀ (c : σ) (u : Str → Option Value) h tk, P n c → Fr h₀ env.locals h (fun y => if y = x then u y else kstB (fun z => if stored.contains z then u z else m₀ z) (ps c) y) → News h₀ env.locals h (Led c ++ fix) → Q .next { s with heap := h, toks := tk }) :
    wpAny (model prog w) A (pyIter (.ref r)) (fun it s₂ => LoopAtV prog w A h₀ env x body Q E it s₂) E s := by
  refine wpAny_pyIter_range hr hsmall ?_
  have W : Walks prog w A s.heap.objs.size [s.heap.objs.size] [s.heap.objs.size] n (fun i v => i < n ∧ ∃ t, v = .int (a₀ + i * 1) t)
      (fun i h => IsRangeIter h s.heap.objs.size (a₀ + (i : Nat) * 1) ((n : Int) - (i : Nat)) 1) := (Walks.range hh _ a₀ 1 n).bound
  refine loopG (fun i m nx => KS Led ps x stored m₀ (P i) m nx) (nx₀ := Led c₀) (fix := fix) (m₀ := m₀) W ?_ ?_ (next_is_new F) ?_ ?_ (by show IsRangeIter _ _ _ _ _; rw [hn]; simpa using Heap.get?_push_size _ rfl) (F.push _) (fun p hp => ⟨Heap.get?_push_of_some _ (N p hp).1, (N p hp).2⟩) ⟨c₀, rfl, hk, fun _ _ _ _ => rfl, hp⟩ ?_ ?_
  · intro i h hi; exact ⟨_, hi⟩
  · intro hm
    exact absurd F.ns.lt ((List.mem_singleton.mp hm) ▸ Nat.lt_irrefl _)
  · intro b hb
    exact .inl (List.mem_singleton.mp hb)
  · intro p hp hI
    exact absurd (Heap.lt_size (N p hp).1) (hI ▸ Nat.lt_irrefl _)
  · rintro i v m₁ nx oI h tk hi ⟨_, t, rfl⟩ ⟨c, rfl, h1, h2, hp'⟩ hnI F₁ N₁
    have e1 : a₀ + (i : Int) * 1 = a₀ + (i : Int) := by omega
    rw [e1] at F₁
    exact turn c i t m₁ _ oI h tk hi hp' hnI (kst_fr h1 h2 F₁) N₁
  · rintro m₁ nx h tk ⟨c, rfl, h1, h2, hp'⟩ F₁ N₁
    exact done c m₁ h tk hp' (kst_frOut h1 h2 F₁) N₁
theorem allLt_le {d d' : Nat} (hd : d ≤ d') : ∀ {l : List (Addr × Obj)}, AllLt d l → AllLt d' l
  | [], _ => trivial
  | _ :: _, h => ⟨Nat.lt_of_lt_of_le h.1 hd, allLt_le hd h.2⟩
theorem allLt_mem {d : Nat} {l : List (Addr × Obj)} (h : AllLt d l) {p : Addr × Obj} (hp : p ∈ l) : @LT.lt Nat _ p.1 d := kst_ltOf h p hp
theorem allLt_left {d : Nat} : ∀ {l r : List (Addr × Obj)}, AllLt d (l ++ r) → AllLt d l
  | [], _, _ => trivial
  | _ :: _, _, h => ⟨h.1, allLt_left h.2⟩
theorem allLt_right {d : Nat} : ∀ {l r : List (Addr × Obj)}, AllLt d (l ++ r) → AllLt d r
  | [], _, h => h
  | _ :: _, _, h => allLt_right h.2
theorem allLt_app {d : Nat} : ∀ {l r : List (Addr × Obj)}, AllLt d l → AllLt d r → AllLt d (l ++ r)
  | [], _, _, h => h
  | _ :: _, _, h, h' => ⟨h.1, allLt_app h.2 h'⟩
theorem allLt_one {d I : Nat} {o : Obj} (h : AllLt d [(I, o)]) : I < d := h.1
theorem kstG_bytes {σ : Type} {b : Array UInt8} {tb : Tok} {m₀ : Str → Option Value} {fix : List (Addr × Obj)} (Led : σ → List (Addr × Obj)) (ps : σ → List (Str × Value)) (stored : List Str) (P : List Int → σ → Prop) (c₀ : σ)
    (hh : A.handled = none) (F : Fr h₀ env.locals s.heap m₀) (N : News h₀ env.locals s.heap (Led c₀ ++ fix)) (hk : ∀ p ∈ ps c₀, m₀ p.1 = some p.2) (hp : P [] c₀)
    (turn : ∀ (c : σ) (pre post : List Int) (n : Int) t (u : Str → Option Value) I oI h tk, KBw.bInts b = pre ++ n :: post → 0 ≤ n → n < 256 → P pre c → (∀ p ∈ Led c ++ fix, p.1 ≠ I) →
      Fr h₀ env.locals h (fun y => if y = x then some (.int n t) else kstB (fun z => if stored.contains z then u z else m₀ z) (ps c) y) → News h₀ env.locals h (Led c ++ (fix ++ [(I, oI)])) →
      wpAny (model prog w) A (execs body env) (EndG h₀ env.locals (KS Led ps x stored m₀ (P (pre ++ [n]))) (fix ++ [(I, oI)]) I { s with heap := h, toks := tk } Q) E { s with heap := h, toks := tk })
    (done : ∀ (c : σ) (u : Str → Option Value) h tk, P (KBw.bInts b) c → Fr h₀ env.locals h (fun y => if y = x then u y else kstB (fun z => if stored.contains z then u z else m₀ z) (ps c) y) → News h₀ env.locals h (Led c ++ fix) → Q .next { s with heap := h, toks := tk }) :
    wpAny (model prog w) A (pyIter (.bytes b tb)) (fun it s₂ => LoopAtV prog w A h₀ env x body Q E it s₂) E s := by
  refine KBw.pyIter_bytes ?_
  have W := KBw.walks (prog := prog) (w := w) hh s.heap.objs.size b tb
  refine loopG (fun i m nx => KS Led ps x stored m₀ (P ((KBw.bInts b).take i)) m nx) (nx₀ := Led c₀) (fix := fix) (m₀ := m₀) W ?_ ?_ (next_is_new F) ?_ ?_ ⟨_, Heap.get?_push_size _ rfl, rfl, rfl⟩ (F.push _) (fun p hp => ⟨Heap.get?_push_of_some _ (N p hp).1, (N p hp).2⟩) ⟨c₀, rfl, hk, fun _ _ _ _ => rfl, by simpa using hp⟩ ?_ ?_
  · rintro i h ⟨o, ho, _⟩; exact ⟨o, ho⟩
  · intro hm
    exact absurd F.ns.lt ((List.mem_singleton.mp hm) ▸ Nat.lt_irrefl _)
  · intro b hb
    exact .inl (List.mem_singleton.mp hb)
  · intro p hp hI
    exact absurd (Heap.lt_size (N p hp).1) (hI ▸ Nat.lt_irrefl _)
  · rintro i v m₁ nx oI h tk hi ⟨n, u, hn, rfl⟩ ⟨c, rfl, h1, h2, hp'⟩ hnI F₁ N₁
    have hn' := KBw.ints_get hn
    have hs : (KBw.bInts b).take (i + 1) = (KBw.bInts b).take i ++ [(n.toNat : Int)] := by simp [List.take_add_one, hn']
    have e : KBw.bInts b = (KBw.bInts b).take i ++ (n.toNat : Int) :: (KBw.bInts b).drop (i + 1) := by
      have ht := List.take_append_drop (i + 1) (KBw.bInts b)
      rw [hs, List.append_assoc] at ht
      exact ht.symm
    have hb := KBw.ints_in (List.mem_of_getElem? hn')
    rw [hs]
    exact turn c _ _ (n.toNat : Int) u m₁ _ oI h tk e hb.1 hb.2 hp' hnI (kst_fr h1 h2 F₁) N₁
  · rintro m₁ nx h tk ⟨c, rfl, h1, h2, hp'⟩ F₁ N₁
    have h8 : b.size = (KBw.bInts b).length := (KBw.ints_length b).symm
    rw [h8, List.take_length] at hp'
    exact done c m₁ h tk hp' (kst_frOut h1 h2 F₁) N₁
def End2 (h₀ : Heap) (L lf lo : Addr) (rest : List (Addr × Obj)) (yf yo x : Str) (stored : List Str) (m₀ : Str → Option Value) (P : List Int → List Int → Prop) (s₁ : Shared) (Q : Flow → Shared → Prop) (f : Flow) (s₂ : Shared) : Prop :=
  match f with
  | .ret v => Q (.ret v) s₂
  | .brk => Q .next s₂
  | _ => ∃ h' tk m' vf nf kf vo no ko, s₂ = { s₁ with heap := h', toks := tk } ∧ Fr h₀ L h' m' ∧ News h₀ L h' ((lf, listOf vf.toArray kf) :: (lo, listOf vo.toArray ko) :: rest) ∧ IntsAre vf nf ∧ IntsAre vo no ∧ m' yf = some (.ref lf) ∧ m' yo = some (.ref lo) ∧ (∀ z, z ≠ x → z ≠ yf → z ≠ yo → stored.contains z = false → m' z = m₀ z) ∧ P nf no
theorem End2.intro {L lf lo : Addr} {rest news' : List (Addr × Obj)} {yf yo x : Str} {stored : List Str} {m₀ m' : Str → Option Value} {P : List Int → List Int → Prop} {s₁ : Shared} {h' : Heap} {tk : Nat} {vf vo : List Value} {nf no : List Int} {kf ko : Nat}
    (F : Fr h₀ L h' m') (N : News h₀ L h' news') (hn : ∀ p ∈ ((lf, listOf vf.toArray kf) :: (lo, listOf vo.toArray ko) :: rest), p ∈ news') (i1 : IntsAre vf nf) (i2 : IntsAre vo no) (e1 : m' yf = some (.ref lf)) (e2 : m' yo = some (.ref lo)) (e3 : ∀ z, z ≠ x → z ≠ yf → z ≠ yo → stored.contains z = false → m' z = m₀ z) (hP : P nf no) :
    End2 h₀ L lf lo rest yf yo x stored m₀ P s₁ Q .next { s₁ with heap := h', toks := tk } := ⟨h', tk, m', vf, nf, kf, vo, no, ko, rfl, F, fun p hp => N p (hn p hp), i1, i2, e1, e2, e3, hP⟩
theorem iter2 {l lf lo : Addr} {vs vf vo : List Value} {ns nf no : List Int} {nn kf ko : Nat} {m₀ : Str → Option Value} {rest : List (Addr × Obj)} (yf yo : Str) (stored : List Str) (P : List Int → List Int → List Int → Prop)
    (hh : A.handled = none) (F : Fr h₀ env.locals s.heap m₀) (hf : m₀ yf = some (.ref lf)) (ho : m₀ yo = some (.ref lo))
    (N : News h₀ env.locals s.heap ((lf, listOf vf.toArray kf) :: (lo, listOf vo.toArray ko) :: rest)) (hl : (l, listOf vs.toArray nn) ∈ rest) (If : IntsAre vf nf) (Io : IntsAre vo no) (Hi : IntsAre vs ns) (hp : P [] nf no)
    (turn : ∀ pre n post t vf nf kf vo no ko (u : Str → Option Value) I oI h tk, ns = pre ++ n :: post → n ∈ ns → IntsAre vf nf → IntsAre vo no → P pre nf no → lf ≠ I → lo ≠ I → (∀ p ∈ rest, p.1 ≠ I) →
      Fr h₀ env.locals h (fun y => if y = x then some (.int n t) else if y = yf then some (.ref lf) else if y = yo then some (.ref lo) else if stored.contains y then u y else m₀ y) →
      News h₀ env.locals h ((lf, listOf vf.toArray kf) :: (lo, listOf vo.toArray ko) :: (rest ++ [(I, oI)])) →
      wpAny (model prog w) A (execs body env) (End2 h₀ env.locals lf lo (rest ++ [(I, oI)]) yf yo x stored m₀ (P (pre ++ [n])) { s with heap := h, toks := tk } Q) E { s with heap := h, toks := tk })
    (done : ∀ vf nf kf vo no ko (u : Str → Option Value) h tk, IntsAre vf nf → IntsAre vo no → P ns nf no → Fr h₀ env.locals h (fun y => if y = x then u y else if y = yf then some (.ref lf) else if y = yo then some (.ref lo) else if stored.contains y then u y else m₀ y) →
      News h₀ env.locals h ((lf, listOf vf.toArray kf) :: (lo, listOf vo.toArray ko) :: rest) → Q .next { s with heap := h, toks := tk }) :
    wpAny (model prog w) A (pyIter (.ref l)) (fun it s₂ => LoopAtV prog w A h₀ env x body Q E it s₂) E s := by
  refine kstG_list (σ := (List Value × List Int × Nat) × (List Value × List Int × Nat)) (fix := rest) (fun c => [(lf, listOf c.1.1.toArray c.1.2.2), (lo, listOf c.2.1.toArray c.2.2.2)]) (fun _ => [(yf, .ref lf), (yo, .ref lo)]) stored
    (fun i c => IntsAre c.1.1 c.1.2.1 ∧ IntsAre c.2.1 c.2.2.1 ∧ P (ns.take i) c.1.2.1 c.2.2.1) ((vf, nf, kf), (vo, no, ko)) hh hl F N ?_ ⟨If, Io, by simpa using hp⟩ ?_ ?_
  · intro p hp'
    rcases List.mem_cons.mp hp' with rfl | hp'
    · exact hf
    · rw [List.mem_singleton.mp hp']; exact ho
  · rintro ⟨⟨vf', nf', kf'⟩, ⟨vo', no', ko'⟩⟩ i v u I oI h tk hv ⟨h1, h2, h3⟩ hI F₁ N₁
    have hi : i < ns.length := by
      rw [← Hi.length]
      exact (List.getElem?_eq_some_iff.mp hv).1
    obtain ⟨t, hx⟩ := Hi.get i ns[i] (by simp [hi])
    have hv' : v = .int ns[i] t := by rw [hx] at hv; exact (Option.some.inj hv).symm
    subst hv'
    have hn : ns[i]? = some ns[i] := by simp [hi]
    have hs : ns.take (i + 1) = ns.take i ++ [ns[i]] := by rw [List.take_add_one, hn]; rfl
    have e : ns = ns.take i ++ ns[i] :: ns.drop (i + 1) := by
      have ht := List.take_append_drop (i + 1) ns
      rw [hs, List.append_assoc] at ht
      exact ht.symm
    refine wpAny_mono (turn (ns.take i) ns[i] _ t vf' nf' kf' vo' no' ko' u I oI h tk e (List.mem_of_getElem? hn) h1 h2 h3 (hI _ (List.mem_append_left _ (.head _))) (hI _ (List.mem_append_left _ (.tail _ (.head _)))) (fun p hp => hI p (List.mem_append_right _ hp)) F₁ N₁) (fun f s₂ q => ?_) fun _ _ e => e
    have fin : (∃ h' tk' m' vf nf kf vo no ko, s₂ = { ({ s with heap := h, toks := tk } : Shared) with heap := h', toks := tk' } ∧ Fr h₀ env.locals h' m' ∧ News h₀ env.locals h' ((lf, listOf vf.toArray kf) :: (lo, listOf vo.toArray ko) :: (rest ++ [(I, oI)])) ∧ IntsAre vf nf ∧ IntsAre vo no ∧ m' yf = some (.ref lf) ∧ m' yo = some (.ref lo) ∧ (∀ z, z ≠ x → z ≠ yf → z ≠ yo → stored.contains z = false → m' z = m₀ z) ∧ P (ns.take i ++ [ns[i]]) nf no) →
        EndG h₀ env.locals (KS (fun c : (List Value × List Int × Nat) × (List Value × List Int × Nat) => [(lf, listOf c.1.1.toArray c.1.2.2), (lo, listOf c.2.1.toArray c.2.2.2)]) (fun _ => [(yf, .ref lf), (yo, .ref lo)]) x stored m₀ (fun c => IntsAre c.1.1 c.1.2.1 ∧ IntsAre c.2.1 c.2.2.1 ∧ P (ns.take (i + 1)) c.1.2.1 c.2.2.1)) (rest ++ [(I, oI)]) I { s with heap := h, toks := tk } Q .next s₂ := by
      rintro ⟨h', tk', m', vf, nf, kf, vo, no, ko, rfl, F', N', i1, i2, e1, e2, e3, hP⟩
      refine ⟨h', tk', m', [(lf, listOf vf.toArray kf), (lo, listOf vo.toArray ko)], rfl, F', N', ?_, ((vf, nf, kf), (vo, no, ko)), rfl, ?_, ?_, i1, i2, by rw [hs]; exact hP⟩
      · intro p hp'
        rcases List.mem_cons.mp hp' with rfl | hp'
        · exact hI (lf, listOf vf'.toArray kf') (List.mem_append_left _ (.head _))
        · rw [List.mem_singleton.mp hp']; exact hI (lo, listOf vo'.toArray ko') (List.mem_append_left _ (.tail _ (.head _)))
      · intro p hp'
        rcases List.mem_cons.mp hp' with rfl | hp'
        · exact e1
        · rw [List.mem_singleton.mp hp']; exact e2
      · intro z z1 z2 z3
        exact e3 z z1 (z2 _ (.head _)) (z2 _ (.tail _ (.head _))) z3
    cases f with
    | ret v => exact q
    | brk => exact q
    | next => exact fin q
    | cont => exact fin q
  · rintro ⟨⟨vf', nf', kf'⟩, ⟨vo', no', ko'⟩⟩ u h tk ⟨h1, h2, h3⟩ F₁ N₁
    have hlen : ns.take vs.length = ns := by rw [Hi.length]; exact List.take_length
    simp only [hlen] at h3
    exact done vf' nf' kf' vo' no' ko' u h tk h1 h2 h3 F₁ N₁
def Hold (P : Prop) : Prop := P
theorem hold_of {P : Prop} (h : Hold P) : P := h
end
end Mine
end
section
namespace Mine
section
variable {prog : Program} {w : World} {A : Around} {E : Value → Shared → Prop} {s : Shared} {h₀ : Heap} {L D b : Addr} {m : Str → Option Value} {news news' : List (Addr × Obj)} {its its2 : List Value} {n n2 : Nat}
theorem seq_list_iadd : seqSlot? (.type "list") (dunderI "add") = pure (some (.builtin "list.__iadd__")) := PySem.seqSlot_of PySem.F.slot_list_iadd.lookup (by decide +kernel)
theorem inpl_list_add : fillsInplaceSlot (.type "list") "add" (Operator.Add == .Add) = pure false := by
  unfold fillsInplaceSlot
  show (typeLookup (.type "list") (dunderI "add") >>= fun fi => pure (fi.isSome && !isSeqSlot fi)) = pure false
  rw [PySem.F.slot_list_iadd.lookup]
  have : isSeqSlot (some (.builtin "list.__iadd__")) = true := by decide +kernel
  simp [this]
theorem iaddL_K {Q : Value → Shared → Prop} (F : Fr h₀ L s.heap m) (N : News h₀ L s.heap news) (hb : (b, listOf its2.toArray n2) ∈ news)
    (U : Upd D (listOf its.toArray n) (listOf (its ++ its2).toArray (if its2.length = 0 then n else n + 1)) news news') (hz : its.length + its2.length ≤ 16777216)
    (h : ∀ h', Fr h₀ L h' m → News h₀ L h' news' → Q (.ref D) { s with heap := h' }) : wpAny (model prog w) A (inplaceOp .Add (.ref D) (.ref b)) Q E s := by
  obtain ⟨pre, post, rfl, rfl, a, c⟩ := U.split
  have z := N (D, listOf its.toArray n) (List.mem_append.mpr (.inr (.head _)))
  have zb := N _ hb
  have hz' : its.length + its2.length ≤ sizeLine := by rw [sizeLine_eq]; exact hz
  have key : wpAny (model prog w) A (call (.builtin "list.__iadd__") [.ref D, .ref b]) Q E s := by
    refine call_meets PySem.F.slot_list_iadd ⟨_, z.1, rfl⟩ PySem.F.entry_list_iadd (PySem.F.args_list_iadd_2 _ _) (PySem.AutoSeq1.list___iadd___list_list_0 D its.toArray n b its2.toArray n2 ?_ ?_ ?_) ⟨z.1, zb.1, h _ (F.change (Heap.SameBut.update ..) z.2.1 z.2.2) ?_⟩
    · simp [Builtin.List.listTooLong]; intro _; omega
    · simp; omega
    · simp; omega
    · have e : its.toArray ++ its2.toArray = (its ++ its2).toArray := by simp
      by_cases hl : its2.length = 0
      · rw [if_pos hl]
        exact kl_turn0 (fun x => x ++ its2.toArray) N a c e (by simp [hl])
      · rw [if_neg hl]
        exact kl_turn (fun x => x ++ its2.toArray) N a c e (by simp; intro e; rw [e] at hl; exact hl rfl)
  unfold inplaceOp
  refine wpAny_holding ?_
  refine wpAny_bind (wpAny_typeOf (T := "list") ⟨_, z.1, rfl⟩ (wpAny_bind (wpAny_of_eq inpl_list_add ?_)))
  show wpAny _ A (if false = true then _ else _) Q E s
  rw [if_neg Bool.false_ne_true]
  refine wpAny_bind (wpAny_binaryOp1_none (nm := "add") (T := "list") ⟨_, z.1, rfl⟩ ⟨_, zb.1, rfl⟩ noFill_list_add ?_)
  refine wpAny_bind (wpAny_of_eq seq_list_iadd ?_)
  exact wpAny_bind (wpAny_rule key)
theorem pick_lists {nD : Nat} {vals : List Value} {value slice : PySem.Expr} {k : Int} {u : Tok} {Q : Value → Shared → Prop} (P : Addr → List Int → Prop) (N : News h₀ L s.heap news) (hD : (D, ({ cls := .type "tuple", data := .seq vals.toArray nD } : Obj)) ∈ news)
    (h0 : 0 ≤ k) (h1 : k < vals.length) (hfit : k < 2 ^ 63)
    (hall : ∀ v ∈ vals, ∃ lx vx nx kx, v = .ref lx ∧ (lx, listOf vx.toArray kx) ∈ news ∧ IntsAre vx nx ∧ P lx nx)
    (h : ∀ lx vx nx kx, IntsAre vx nx → P lx nx → News h₀ L s.heap ((lx, listOf vx.toArray kx) :: news) → Q (.ref lx) s)
    (hs : subscripted slice false (.ref D) (.int k u) = operate [.ref D, .int k u] (getItem (.ref D) (.int k u)) := by with_unfolding_all rfl) :
    wpAny (model prog w) A (subscriptTail value slice (.ref D) (.int k u)) Q E s := by
  have hlt : k.toNat < vals.length := by omega
  have ht : IsTup s.heap D vals.toArray := ⟨_, (N _ hD).1, rfl, nD, rfl⟩
  obtain ⟨lx, vx, nx, kx, e, hm, hi, hp⟩ := hall vals[k.toNat] (List.getElem_mem hlt)
  refine item_tupleT ht (by omega) hfit (StrLaws.seqIndex_nonneg h0 h1) (x := vals[k.toNat]) (by simp [hlt]) ?_ hs
  rw [e]
  refine h lx vx nx kx hi hp (fun p hp => ?_)
  rcases List.mem_cons.mp hp with rfl | hp
  · exact N _ hm
  · exact N _ hp
end
section
variable {prog : Program} {w : World} {A : Around} {E : Value → Shared → Prop} {s : Shared} {env : Env} {h₀ : Heap} {x : Str} {body : List Stmt} {Q : Flow → Shared → Prop}
def EndC (h₀ : Heap) (L cv : Addr) (rest : List (Addr × Obj)) (x : Str) (m₀ : Str → Option Value) (P : Int → Prop) (s₁ : Shared) (Q : Flow → Shared → Prop) (f : Flow) (s₂ : Shared) : Prop :=
  match f with
  | .ret v => Q (.ret v) s₂
  | .brk => Q .next s₂
  | _ => ∃ h' tk m' ov v tv, s₂ = { s₁ with heap := h', toks := tk } ∧ Fr h₀ L h' m' ∧ News h₀ L h' ((cv, ov) :: rest) ∧ ov.data = .cell (some (.int v tv)) ∧ (∀ z, z ≠ x → m' z = m₀ z) ∧ P v
theorem EndC.intro {L cv : Addr} {rest news' : List (Addr × Obj)} {x : Str} {m₀ m' : Str → Option Value} {P : Int → Prop} {s₁ : Shared} {h' : Heap} {tk : Nat} {ov : Obj} {v : Int} {tv : Tok}
    (F : Fr h₀ L h' m') (N : News h₀ L h' news') (hn : ∀ p ∈ ((cv, ov) :: rest), p ∈ news') (hd : ov.data = .cell (some (.int v tv))) (e : ∀ z, z ≠ x → m' z = m₀ z) (hP : P v) :
    EndC h₀ L cv rest x m₀ P s₁ Q .next { s₁ with heap := h', toks := tk } := ⟨h', tk, m', ov, v, tv, rfl, F, fun p hp => N p (hn p hp), hd, e, hP⟩
theorem bytes_cell {b : Array UInt8} {tb : Tok} {cv : Addr} {ov : Obj} {v0 : Int} {t0 : Tok} {m₀ : Str → Option Value} {rest : List (Addr × Obj)} (P : List Int → Int → Prop)
    (hh : A.handled = none) (F : Fr h₀ env.locals s.heap m₀) (N : News h₀ env.locals s.heap ((cv, ov) :: rest)) (hd : ov.data = .cell (some (.int v0 t0))) (hp : P [] v0)
    (turn : ∀ pre n post t I oI ov v tv h tk, KBw.bInts b = pre ++ n :: post → 0 ≤ n → n < 256 → P pre v → ov.data = .cell (some (.int v tv)) → @Ne Nat cv I → (∀ p ∈ rest, p.1 ≠ I) →
      Fr h₀ env.locals h (fun y => if y = x then some (.int n t) else m₀ y) →
      News h₀ env.locals h ((cv, ov) :: (rest ++ [(I, oI)])) →
      wpAny (model prog w) A (execs body env) (EndC h₀ env.locals cv (rest ++ [(I, oI)]) x m₀ (P (pre ++ [n])) { s with heap := h, toks := tk } Q) E { s with heap := h, toks := tk })
    (done : ∀ (u : Str → Option Value) ov v tv h tk, P (KBw.bInts b) v → ov.data = .cell (some (.int v tv)) → Fr h₀ env.locals h (fun y => if y = x then u y else m₀ y) → News h₀ env.locals h ((cv, ov) :: rest) → Q .next { s with heap := h, toks := tk }) :
    wpAny (model prog w) A (pyIter (.bytes b tb)) (fun it s₂ => LoopAtV prog w A h₀ env x body Q E it s₂) E s := by
  refine kstG_bytes (σ := Obj × Int × Tok) (fix := rest) (fun c => [(cv, c.1)]) (fun _ => []) []
    (fun pre c => c.1.data = .cell (some (.int c.2.1 c.2.2)) ∧ P pre c.2.1) (ov, v0, t0) hh F N (fun _ h => nomatch h) ⟨hd, hp⟩ ?_ ?_
  · rintro ⟨ov', v', tv'⟩ pre post n t u I oI h tk e h0 h1 ⟨hd', hP'⟩ hI F₁ N₁
    refine wpAny_mono (turn pre n post t I oI ov' v' tv' h tk e h0 h1 hP' hd' (hI (cv, ov') (List.mem_append_left _ (.head _))) (fun p hp => hI p (List.mem_append_right _ hp)) F₁ N₁) (fun f s₂ q => ?_) fun _ _ e => e
    have fin : (∃ h' tk' m' ov v tv, s₂ = { ({ s with heap := h, toks := tk } : Shared) with heap := h', toks := tk' } ∧ Fr h₀ env.locals h' m' ∧ News h₀ env.locals h' ((cv, ov) :: (rest ++ [(I, oI)])) ∧ ov.data = .cell (some (.int v tv)) ∧ (∀ z, z ≠ x → m' z = m₀ z) ∧ P (pre ++ [n]) v) →
        EndG h₀ env.locals (KS (fun c : Obj × Int × Tok => [(cv, c.1)]) (fun _ => []) x [] m₀ (fun c => c.1.data = .cell (some (.int c.2.1 c.2.2)) ∧ P (pre ++ [n]) c.2.1)) (rest ++ [(I, oI)]) I { s with heap := h, toks := tk } Q .next s₂ := by
      rintro ⟨h', tk', m', ov, v, tv, rfl, F', N', d', e', hP⟩
      refine ⟨h', tk', m', [(cv, ov)], rfl, F', N', ?_, (ov, v, tv), rfl, (fun _ h => nomatch h), ?_, d', hP⟩
      · intro p hp'
        rw [List.mem_singleton.mp hp']; exact hI (cv, ov') (List.mem_append_left _ (.head _))
      · intro z z1 z2 z3
        exact e' z z1
    cases f with
    | ret v => exact q
    | brk => exact q
    | next => exact fin q
    | cont => exact fin q
  · rintro ⟨ov', v', tv'⟩ u h tk ⟨hd', hP'⟩ F₁ N₁
    exact done u ov' v' tv' h tk hP' hd' F₁ N₁
theorem in_tupI {h₁ : Heap} {L : Addr} {news : List (Addr × Obj)} {d : Addr} {vd : List Value} {nd : List Int} {nD : Nat} {k : Int} {t : Tok} {Q : Value → Shared → Prop} (N : News h₁ L s.heap news) (hD : (d, ({ cls := .type "tuple", data := .seq vd.toArray nD } : Obj)) ∈ news) (hi : IntsAre vd nd)
    (h : Q (.bool (nd.any (· == k))) s) : wpAny (model prog w) A (compareOp .In (.int k t) (.ref d)) Q E s :=
  in_tuple_ints ⟨_, (N _ hD).1, rfl, nD, rfl⟩ (by simpa using hi) h
theorem eq_slice3 {h₁ : Heap} {L a b : Addr} {news : List (Addr × Obj)} {its : Array Value} {us : List Value} {ns ms : List Int} {na nb : Nat} {Q : Value → Shared → Prop} (N : News h₁ L s.heap news)
    (ha : (a, ({ cls := .type "list", data := .seq (slicePick its (some (-3)) none none) na } : Obj)) ∈ news) (hb : (b, listOf us.toArray nb) ∈ news) (hi : IntsAre its.toList ns) (hi' : IntsAre us ms) (hu : A.units + 64 < cLine)
    (h : Q (.bool (decide (ns.drop (ns.length - 3) = ms))) s) : wpAny (model prog w) A (compareOp .Eq (.ref a) (.ref b)) Q E s := by
  have hs := kmk_from_neg (x := -3) hi (by decide)
  rw [Array.toArray_toList] at hs
  exact eq_intsK (vs := (slicePick its (some (-3)) none none).toList) ⟨_, (N _ ha).1, rfl, na, by rw [Array.toArray_toList]⟩ hs ⟨_, (N _ hb).1, rfl, nb, rfl⟩ hi' hu h
end
end Mine
end
section
namespace Mine
/-- the text's i-th statement, a def: its scope, the body of its j-th statement, a loop -/
def scope? (i : Nat) : Option Scope := match PySem.Challenge.pw_mq0101_01.main.body[i]? with
  | some (.FunctionDef _ _ _ _ _ _ sc _ _ _) => some sc
  | _ => none
def loop? (i j : Nat) : Option (List Stmt) := match PySem.Challenge.pw_mq0101_01.main.body[i]? with
  | some (.FunctionDef _ _ b _ _ _ _ _ _ _) => (match b[j]? with
    | some (.For _ _ x _ _) => some x
    | _ => none)
  | _ => none
def stmts? (i j : Nat) : Option (List Stmt) := match PySem.Challenge.pw_mq0101_01.main.body[i]? with
  | some (.FunctionDef _ _ b _ _ _ _ _ _ _) => some (b.drop j)
  | _ => none
end Mine
end
section
namespace Mine
section
variable {prog : Program} {w : World} {A : Around} {E : Value → Shared → Prop} {s : Shared} {h₀ : Heap} {L D v : Addr} {m : Str → Option Value} {news news' : List (Addr × Obj)}
theorem bounds3 (n : Nat) : sliceBounds (some (-3)) none none n = (((n - 3 : Nat) : Int), (n : Int), 1) := by
  simp only [sliceBounds, Option.getD_none, show (1 : Int) > 0 by decide, if_true, show (-3 : Int) < 0 by decide]
  congr 1
  omega
theorem setSlice3 {its new : List Value} {n nv : Nat} {t : Tok} {Q : Unit → Shared → Prop} (F : Fr h₀ L s.heap m) (N : News h₀ L s.heap news) (hv : (v, listOf new.toArray nv) ∈ news) (hne : @Ne Nat D v)
    (U : Upd D (listOf its.toArray n) (listOf (its.take (its.length - 3) ++ new).toArray (n + 1)) news news') (hz : its.length + new.length ≤ 1000) (hlen : (its.take (its.length - 3) ++ new).length ≠ its.length)
    (h : ∀ h', Fr h₀ L h' m → News h₀ L h' news' → Q () { s with heap := h' }) :
    wpAny (model prog w) A (setItem (.ref D) (.ref s.heap.objs.size) (.ref v)) Q E { s with heap := s.heap.push { cls := .type "slice", data := .fields #[.int (-3) t, .none, .none] } } := by
  obtain ⟨pre, post, rfl, rfl, a, c⟩ := U.split
  have F1 := F.push { cls := .type "slice", data := .fields #[.int (-3) t, .none, .none] }
  have N1 : News h₀ L (s.heap.push { cls := .type "slice", data := .fields #[.int (-3) t, .none, .none] }) (pre ++ (D, listOf its.toArray n) :: post) := fun p hp => ⟨Heap.get?_push_of_some _ (N p hp).1, (N p hp).2⟩
  have hsl : (s.heap.push { cls := .type "slice", data := .fields #[.int (-3) t, .none, .none] }).IsSliceOf s.heap.objs.size (.int (-3) t) .none .none := Heap.IsSliceOf.new ..
  generalize hH : s.heap.push { cls := .type "slice", data := .fields #[.int (-3) t, .none, .none] } = H at F1 N1 hsl
  generalize s.heap.objs.size = sl at hsl
  have z := N1 (D, listOf its.toArray n) (List.mem_append.mpr (.inr (.head _)))
  have zv := N1 _ hv
  have hl : H.IsList D its.toArray := ⟨_, z.1, rfl, n, rfl⟩
  have hlv : H.IsList v new.toArray := ⟨_, zv.1, rfl, nv, rfl⟩
  obtain ⟨os, hos, hcs, hds⟩ := id hsl
  have hTs : ({ s with heap := H } : Shared).TypeIs (.ref sl) "slice" := ⟨os, hos, hcs⟩
  have hTl : ({ s with heap := H } : Shared).TypeIs (.ref D) "list" := hl.typeIs
  have hTv : ({ s with heap := H } : Shared).TypeIs (.ref v) "list" := hlv.typeIs
  unfold setItem
  try with_reducible refine wpAny_holding ?_
  first | refine wpAny_bind (wpAny_pure ?_) | skip
  refine wpAny_bind (wpAny_sequenceKey hTl (by decide) ?_)
  refine wpAny_bind (wpAny_callSpecial?_slot (name := Str.ofString "__setitem__") hTl slot_list_setitem
    (wpAny_call_entry slot_list_setitem hTl entry_list_setitem ?_ (args_list_setitem _ _ _)))
  show wpAny _ _ (Builtin.List.listSubscript? (.ref sl) >>= _) _ _ _
  refine wpAny_bind ?_
  unfold Builtin.List.listSubscript?
  refine wpAny_bind (wpAny_specialOf hTs slice_no_index ?_)
  simp only [Option.isNone_none, if_true]
  refine wpAny_pure ?_
  show wpAny _ _ (typeOf (.ref sl) >>= _) _ _ _
  refine wpAny_bind (wpAny_typeOf hTs ?_)
  rw [if_neg (by decide)]
  rw [listSliceParts_eq]
  refine wpAny_bind (wpAny_bind (wpAny_field hos hds (x := .none) rfl (wpAny_bind (wpAny_listPart .none ?_))))
  rw [if_neg (by decide)]
  refine wpAny_bind (wpAny_field hos hds (x := .int (-3) t) rfl (wpAny_bind (wpAny_listPart (.int (-3) t) ?_)))
  refine wpAny_bind (wpAny_field hos hds (x := .none) rfl (wpAny_bind (wpAny_listPart .none (wpAny_pure ?_))))
  have hsame : Builtin.List.listSameRef (.ref D) (.ref v) = false := by
    show (D == v) = false
    simpa using hne
  rw [if_neg (by rw [hsame]; exact Bool.false_ne_true)]
  refine wpAny_bind ?_
  unfold Builtin.List.listAllItems
  refine wpAny_bind (wpAny_typeOf hTv ?_)
  rw [if_pos (by decide)]
  unfold Builtin.List.listItems
  refine wpAny_bind (wpAny_seqItems zv.1 rfl (wpAny_pure ?_))
  refine wpAny_bind (wpAny_bind (wpAny_seqItems z.1 rfl (wpAny_pure ?_)))
  refine wpAny_bind (wpAny_of_eq (sliceIndices_raw (some (-3)) none none its.toArray.size (by simp)) ?_)
  rw [bounds3]
  dsimp only
  rw [if_pos (by decide)]
  refine wpAny_bind (wpAny_rule ?_)
  have hz' : its.length + new.length ≤ sizeLine := by rw [sizeLine_eq]; omega
  rw [if_neg (by simp [Builtin.List.listTooLong]; omega)]
  have e : its.toArray.extract 0 (((its.toArray.size - 3 : Nat) : Int)).toNat ++ new.toArray ++ its.toArray.extract (max (((its.toArray.size - 3 : Nat) : Int)) (its.toArray.size : Int)).toNat = (its.take (its.length - 3) ++ new).toArray := by
    have h1 : (max (((its.toArray.size - 3 : Nat) : Int)) (its.toArray.size : Int)).toNat = its.length := by simp; omega
    rw [h1]
    apply Array.toList_inj.mp
    simp
  refine wpAny_bind (wpAny_updateSeq z.1 rfl ?_ (by simp; omega) (by rw [e]; simp; omega))
  refine wpAny_bind (wpAny_letGo ?_)
  refine wpAny_pure ⟨_, rfl, wpAny_pure ?_⟩
  refine h _ (F1.change (Heap.SameBut.update ..) z.2.1 z.2.2) ?_
  exact kl_turn (fun xs => xs.extract 0 (((its.toArray.size - 3 : Nat) : Int)).toNat ++ new.toArray ++ xs.extract (max (((its.toArray.size - 3 : Nat) : Int)) (its.toArray.size : Int)).toNat) N1 a c e (by simpa using hlen)
end
end Mine
end
section
namespace Mine
section
variable {prog : Program} {w : World} {A : Around} {E : Value → Shared → Prop} {s : Shared} {env : Env} {h₀ : Heap} {x : Str} {body : List Stmt} {Q : Flow → Shared → Prop}
/-- a loop over a list of the ledger whose variable is a cell; one name y of the frame holds a list of ints that each turn makes anew -/
def EndE (h₀ : Heap) (L c I : Addr) (rest : List (Addr × Obj)) (y : Str) (m₀ : Str → Option Value) (P : List Int → Prop) (s₁ : Shared) (Q : Flow → Shared → Prop) (f : Flow) (s₂ : Shared) : Prop :=
  match f with
  | .ret v => Q (.ret v) s₂
  | .brk => Q .next s₂
  | _ => ∃ h' tk m' e ve ne ke, s₂ = { s₁ with heap := h', toks := tk } ∧ Fr h₀ L h' m' ∧ News h₀ L h' ((e, listOf (List.toArray ve) ke) :: rest) ∧ e ≠ I ∧ e ≠ c ∧ IntsAre ve ne ∧ m' y = some (.ref e) ∧ (∀ z, z ≠ y → m' z = m₀ z) ∧ P ne
theorem EndE.intro {L c I : Addr} {rest news' : List (Addr × Obj)} {y : Str} {m₀ m' : Str → Option Value} {P : List Int → Prop} {s₁ : Shared} {h' : Heap} {tk : Nat} {e : Addr} {ve : List Value} {ne : List Int} {ke : Nat}
    (F : Fr h₀ L h' m') (N : News h₀ L h' news') (hn : ∀ p ∈ ((e, listOf (List.toArray ve) ke) :: rest), p ∈ news') (h1 : @Ne Nat e I) (h2 : @Ne Nat e c) (hi : IntsAre ve ne) (hy : m' y = some (.ref e)) (hz : ∀ z, z ≠ y → m' z = m₀ z) (hP : P ne) :
    EndE h₀ L c I rest y m₀ P s₁ Q .next { s₁ with heap := h', toks := tk } := ⟨h', tk, m', e, ve, ne, ke, rfl, F, fun p hp => N p (hn p hp), h1, h2, hi, hy, hz, hP⟩
theorem forEnds {px pos : Pos} {iter : Expr} {l c e : Addr} {vs ve : List Value} {ne : List Int} {nn ke : Nat} {m₀ : Str → Option Value} {fix : List (Addr × Obj)} {oc : Obj} {cv : Option Value} (y : Str) (P : Nat → List Int → Prop)
    (hh : A.handled = none) (hit : ∀ Q' : Value → Shared → Prop, Q' (.ref l) s → wpAny (model prog w) A (eval iter env) Q' E s)
    (hx : env.kindOf x = some .cell) (hkf : env.scope.kind = .function) (hc : env.cells.lookup x = some c)
    (hl : (l, listOf vs.toArray nn) ∈ fix) (F : Fr h₀ env.locals s.heap m₀) (N : News h₀ env.locals s.heap ((e, listOf ve.toArray ke) :: (c, oc) :: fix)) (hoc : oc.data = .cell cv) (hec : @Ne Nat e c) (hfc : ∀ p ∈ fix, p.1 ≠ c)
    (hi : IntsAre ve ne) (hy : m₀ y = some (.ref e)) (hp : P 0 ne)
    (turn : ∀ i v I oI oc' e ve ne ke h tk, vs[i]? = some v → P i ne → IntsAre ve ne → oc'.data = .cell (some v) → @Ne Nat e I → @Ne Nat e c → @Ne Nat c I → (∀ p ∈ fix, p.1 ≠ I) →
      Fr h₀ env.locals h (fun z => if z = y then some (.ref e) else m₀ z) → News h₀ env.locals h ((e, listOf (List.toArray ve) ke) :: (c, oc') :: (fix ++ [(I, oI)])) →
      wpAny (model prog w) A (execs body env) (EndE h₀ env.locals c I ((c, oc') :: (fix ++ [(I, oI)])) y m₀ (P (i + 1)) { s with heap := h, toks := tk } Q) (fun _ _ => False) { s with heap := h, toks := tk })
    (done : ∀ e ve ne ke oc' h tk, P vs.length ne → IntsAre ve ne → Fr h₀ env.locals h (fun z => if z = y then some (.ref e) else m₀ z) → News h₀ env.locals h ((e, listOf (List.toArray ve) ke) :: (c, oc') :: fix) → Q .next { s with heap := h, toks := tk })
    (hs : ∀ x, foldedSetIterable iter env x = pure x := by intro _; rfl) :
    wpAny (model prog w) A (exec (.For (.Name x px) iter body [] pos) env) Q E s := by
  refine wpAny_For (hit _ ?_) hs
  have zl := N _ (List.Mem.tail _ (List.Mem.tail _ hl))
  have zc := N (c, oc) (.tail _ (.head _))
  have ze := N (e, listOf ve.toArray ke) (.head _)
  have hls : s.heap.IsList l vs.toArray := ⟨_, zl.1, rfl, nn, rfl⟩
  have hne : l ≠ s.heap.objs.size := Nat.ne_of_lt (Heap.lt_size zl.1)
  refine wpAny_pyIter_list hls ?_
  have W := Walks.list (prog := prog) (w := w) hh s.heap.objs.size l hne vs.toArray
  have hsz : vs.toArray.size = vs.length := by simp
  rw [hsz] at W
  have hI0 : h₀.get? s.heap.objs.size = none := next_is_new F
  have hcI : c ≠ s.heap.objs.size := Nat.ne_of_lt (Heap.lt_size zc.1)
  have heI : e ≠ s.heap.objs.size := Nat.ne_of_lt (Heap.lt_size ze.1)
  have hLI : env.locals ≠ s.heap.objs.size := Nat.ne_of_lt F.ns.lt
  have hfI : ∀ p ∈ fix, p.1 ≠ s.heap.objs.size := fun p hp => Nat.ne_of_lt (Heap.lt_size (N p (.tail _ (.tail _ hp))).1)
  have hlc : l ≠ c := hfc _ hl
  generalize hIdef : s.heap.objs.size = I at W hI0 hcI heI hLI hfI hne
  refine codeAny_forLoop
    (fun k s' => ∃ h' tk m' i e ve ne ke oc' cv', s' = { s with heap := h', toks := tk } ∧ (h'.IsListIter I l i ∧ h'.IsList l vs.toArray) ∧ Fr h₀ env.locals h' m' ∧ News h₀ env.locals h' ((e, listOf (List.toArray ve) ke) :: (c, oc') :: fix) ∧ e ≠ I ∧ e ≠ c ∧ IntsAre ve ne ∧ oc'.data = .cell cv' ∧ m' y = some (.ref e) ∧ (∀ z, z ≠ y → m' z = m₀ z) ∧ P i ne ∧ i ≤ vs.length ∧ k = vs.length + 1 - i) ?_ (vs.length + 1)
    ⟨_, s.toks, m₀, 0, e, ve, ne, ke, oc, cv, rfl, ⟨⟨_, by rw [← hIdef]; exact Heap.get?_push_size _ rfl, rfl, rfl⟩, hls.at fun o e => Heap.get?_push_of_some _ e⟩, F.push _, (fun p hp => ⟨Heap.get?_push_of_some _ (N p hp).1, (N p hp).2⟩), heI, hec, hi, hoc, hy, fun _ _ => rfl, hp, Nat.zero_le _, rfl⟩
  rintro k s' ⟨h', tk, m', i, e', ve', ne', ke', oc', cv', rfl, hst, F', N', heI', hec', hi', hoc', hy', hz', hP, hin, rfl⟩
  have stepF : ∀ h₁ : Heap, (∀ b o, b ∉ [I] → h'.get? b = some o → h₁.get? b = some o) → Fr h₀ env.locals h₁ m' ∧ News h₀ env.locals h₁ ((e', listOf (List.toArray ve') ke') :: (c, oc') :: fix) := fun h₁ hk₁ => by
    refine ⟨⟨F'.ns.at' fun o e => hk₁ _ o (by simpa using hLI) e, fun b o e => hk₁ b o (fun hm => by rw [List.mem_singleton.mp hm, hI0] at e; cases e) (F'.keep b o e), F'.above⟩, fun p hp => ⟨hk₁ _ _ ?_ (N' p hp).1, (N' p hp).2⟩⟩
    rcases List.mem_cons.mp hp with rfl | hp
    · simpa using heI'
    · rcases List.mem_cons.mp hp with rfl | hp
      · simpa using hcI
      · simpa using hfI p hp
  by_cases hlt : i < vs.length
  · refine W.item i _ _ _ hlt hst fun v h₁ tk₁ hPv hst₁ hk₁ => ?_
    obtain ⟨F₁, N₁⟩ := stepF h₁ hk₁
    have zc₁ := N₁ (c, oc') (.tail _ (.head _))
    refine wpAny_assign_Name (wpAny_storeName_cell hkf hx hc ⟨oc', zc₁.1, hoc'⟩ fun h₂ hv₂ hs₂ => ?_)
    obtain ⟨oc₂, hoc₂, hd₂⟩ := hv₂
    have F₂ : Fr h₀ env.locals h₂ m' := F₁.change hs₂ zc₁.2.1 zc₁.2.2
    have keepc : ∀ b o, b ≠ c → h₁.get? b = some o → h₂.get? b = some o := fun b o hb e => hs₂.extBut b o hb e
    have hst₂ : h₂.IsListIter I l (i + 1) ∧ h₂.IsList l vs.toArray := W.frame _ _ _ hst₁ fun b hb o e => keepc b o (by
      rcases List.mem_cons.mp hb with h | h
      · exact h ▸ (Ne.symm hcI)
      · exact (List.mem_singleton.mp h) ▸ hlc) e
    obtain ⟨oI, hoI, _⟩ := id hst₂.1
    have N₂ : News h₀ env.locals h₂ ((e', listOf (List.toArray ve') ke') :: (c, oc₂) :: (fix ++ [(I, oI)])) := fun p hp => by
      rcases List.mem_cons.mp hp with rfl | hp
      · have z := N₁ (e', listOf (List.toArray ve') ke') (.head _)
        exact ⟨keepc _ _ hec' z.1, z.2⟩
      · rcases List.mem_cons.mp hp with rfl | hp
        · exact ⟨hoc₂, zc₁.2⟩
        · rcases List.mem_append.mp hp with hp | hp
          · have z := N₁ p (.tail _ (.tail _ hp))
            exact ⟨keepc _ _ (hfc p hp) z.1, z.2⟩
          · rw [List.mem_singleton.mp hp]
            exact ⟨hoI, Ne.symm hLI, hI0⟩
    have hPv' : vs[i]? = some v := by simpa using hPv
    have em : m' = fun z => if z = y then some (.ref e') else m₀ z := by
      funext z
      by_cases hzy : z = y
      · subst hzy; simp [hy']
      · simp [hzy, hz' z hzy]
    rw [em] at F₂
    refine wpAny_mono (turn i v I oI oc₂ e' ve' ne' ke' h₂ tk₁ hPv' hP hi' hd₂ heI' hec' hcI hfI F₂ N₂) (fun f s₃ q => ?_) fun _ _ x => x.elim
    have fin : (∃ h' tk m' e ve ne ke, s₃ = { ({ s with heap := h₂, toks := tk₁ } : Shared) with heap := h', toks := tk } ∧ Fr h₀ env.locals h' m' ∧ News h₀ env.locals h' ((e, listOf (List.toArray ve) ke) :: (c, oc₂) :: (fix ++ [(I, oI)])) ∧ e ≠ I ∧ e ≠ c ∧ IntsAre ve ne ∧ m' y = some (.ref e) ∧ (∀ z, z ≠ y → m' z = m₀ z) ∧ P (i + 1) ne) →
        ∃ k', k' < vs.length + 1 - i ∧ ∃ h' tk m' i e ve ne ke oc' cv', s₃ = { s with heap := h', toks := tk } ∧ (h'.IsListIter I l i ∧ h'.IsList l vs.toArray) ∧ Fr h₀ env.locals h' m' ∧ News h₀ env.locals h' ((e, listOf (List.toArray ve) ke) :: (c, oc') :: fix) ∧ e ≠ I ∧ e ≠ c ∧ IntsAre ve ne ∧ oc'.data = .cell cv' ∧ m' y = some (.ref e) ∧ (∀ z, z ≠ y → m' z = m₀ z) ∧ P i ne ∧ i ≤ vs.length ∧ k' = vs.length + 1 - i := by
      rintro ⟨h₃, tk₃, m₃, e₃, ve₃, ne₃, ke₃, rfl, F₃, N₃, a1, a2, a3, a4, a5, a6⟩
      refine ⟨vs.length + 1 - (i + 1), by omega, h₃, tk₃, m₃, i + 1, e₃, ve₃, ne₃, ke₃, oc₂, some v, rfl, ?_, F₃, ?_, a1, a2, a3, hd₂, a4, a5, a6, hlt, rfl⟩
      · refine W.frame _ _ _ hst₂ fun b hb o e => ?_
        rcases List.mem_cons.mp hb with h | h
        · subst h
          have z := N₃ (b, oI) (.tail _ (.tail _ (List.mem_append_right _ (List.mem_singleton.mpr rfl))))
          rw [hoI] at e
          cases e
          exact z.1
        · have h' := List.mem_singleton.mp h
          subst h'
          have z := N₃ _ (.tail _ (.tail _ (List.mem_append_left _ hl)))
          have z2 := N₂ _ (.tail _ (.tail _ (List.mem_append_left _ hl)))
          rw [z2.1] at e
          cases e
          exact z.1
      · intro p hp
        refine N₃ p ?_
        rcases List.mem_cons.mp hp with rfl | hp
        · exact .head _
        · rcases List.mem_cons.mp hp with rfl | hp
          · exact .tail _ (.head _)
          · exact .tail _ (.tail _ (List.mem_append_left _ hp))
    cases f with
    | ret v => exact q
    | brk => exact q
    | next => exact fin q
    | cont => exact fin q
  · have hin' : i = vs.length := by omega
    subst hin'
    refine W.done _ _ _ hst fun h₁ tk₁ hk₁ => wpAny_execs_nil ?_
    obtain ⟨F₁, N₁⟩ := stepF h₁ hk₁
    have em : m' = fun z => if z = y then some (.ref e') else m₀ z := by
      funext z
      by_cases hzy : z = y
      · subst hzy; simp [hy']
      · simp [hzy, hz' z hzy]
    rw [em] at F₁
    exact done e' ve' ne' ke' oc' h₁ tk₁ hP hi' F₁ N₁
end
section
variable {prog : Program} {w : World} {A : Around} {h₀ : Heap} {L : Addr} {m : Str → Option Value} {env : Env} {ct elt : Expr} {x : Str} {scope : Scope} {cl : List (Str × Addr)} {s : Shared} {S : List (Addr × Obj) → Prop} {Fin : List Value → List (Addr × Obj) → Prop} {news : List (Addr × Obj)}
theorem kct_list {vs : List Value} {ns : List Int} (p : Int → Bool) (g : Int → Int) (hi : IntsAre vs ns)
    (turn : ∀ k t I oI C oC D m₂ ys h tk (E' : Value → Shared → Prop), k ∈ ns → LCg.NsObj oC m₂ → m₂ x = some (.int k t) → Fr h₀ L h m → News h₀ L h ((I, oI) :: (C, oC) :: (D, LCg.lst ys) :: news) → LCg.Off3 I C D news → ((@Ne Nat I C) ∧ (@Ne Nat I D) ∧ (@Ne Nat C D)) →
      wpAny (model prog w) A (isTrue ct (compEnvC scope cl C env) (eval ct (compEnvC scope cl C env))) (fun ok s' => if ok = true then
        wpAny (model prog w) A (eval elt (compEnvC scope cl C env)) (LCg.CompEnd h₀ L m { s with heap := h, toks := tk } I oI C oC D (LCg.lst ys) S (fun y news' => p k = true ∧ KCfEl news (g k) y news')) E' s'
        else LCg.CompEnd h₀ L m { s with heap := h, toks := tk } I oI C oC D (LCg.lst ys) S (fun _ news' => p k = false ∧ KCfEl news 0 (.int 0 0) news') Value.none s') E' { s with heap := h, toks := tk })
    (fin : ∀ ys, IntsAre ys ((ns.filter p).map g) → Fin ys news) : LCt.CompRestT prog w A h₀ L m env ct elt x scope cl s S (fun i v => vs.toArray[i]? = some v) Fin vs.toArray.size 0 [] news := by
  have hsz : vs.toArray.size = ns.length := by rw [List.size_toArray]; exact hi.length
  rw [hsz]
  have key : ∀ (j i : Nat) (ys : List Value), i + j = ns.length → IntsAre ys (((ns.take i).filter p).map g) → LCt.CompRestT prog w A h₀ L m env ct elt x scope cl s S (fun i v => vs.toArray[i]? = some v) Fin j i ys news := by
    intro j
    induction j with
    | zero =>
      intro i ys hij hy
      have e : i = ns.length := by omega
      subst e
      rw [List.take_length] at hy
      exact LCt.CompRestT.zero (fin ys hy)
    | succ j ih =>
      intro i ys hij hy
      refine LCt.CompRestT.succ ?_
      intro v I oI C oC D m₂ h tk E' hv hC hx F N off ne
      obtain ⟨k, t, e, hk⟩ := IntsAre.at hi i v (by simpa using hv)
      subst e
      have htake : ns.take (i + 1) = ns.take i ++ [k] := by rw [List.take_add_one, hk]; rfl
      refine wpAny_mono (turn k t I oI C oC D m₂ ys h tk E' (List.mem_of_getElem? hk) hC hx F N off ne) (fun ok s₂ hq => ?_) fun _ _ e => e
      cases ok with
      | true =>
        simp only [if_true] at hq ⊢
        refine wpAny_mono hq (fun y s₃ hq => ?_) fun _ _ e => e
        obtain ⟨h', tk', nw, e, F', N', off', hS, hpk, hn, t', hy'⟩ := hq
        rw [hn] at N' off' hS
        refine ⟨h', tk', news, e, F', N', off', hS, ?_⟩
        rw [hy']
        refine ih (i + 1) _ (by omega) ?_
        rw [htake, List.filter_append, List.map_append]
        simpa [hpk] using IntsAre.append hy (.cons (g k) t' .nil)
      | false =>
        simp only [Bool.false_eq_true, if_false] at hq ⊢
        obtain ⟨h', tk', nw, e, F', N', off', hS, hpk, hn, _⟩ := hq
        rw [hn] at N' off' hS
        refine ⟨h', tk', news, e, F', N', off', hS, ih (i + 1) _ (by omega) ?_⟩
        rw [htake, List.filter_append, List.map_append]
        simpa [hpk] using hy
  exact key ns.length 0 [] (by omega) (by simpa using IntsAre.nil)
end
section
variable {prog : Program} {w : World} {A : Around} {E : Value → Shared → Prop} {s : Shared} {env : Env} {h₀ : Heap} {x : Str} {body : List Stmt} {Q : Flow → Shared → Prop}
/-- a loop over bytes: one list of the ledger grows, two names of the frame hold ints -/
def EndB (h₀ : Heap) (L lo : Addr) (rest : List (Addr × Obj)) (y1 y2 x : Str) (m₀ : Str → Option Value) (P : List Int → Int → Int → Prop) (s₁ : Shared) (Q : Flow → Shared → Prop) (f : Flow) (s₂ : Shared) : Prop :=
  match f with
  | .ret v => Q (.ret v) s₂
  | .brk => Q .next s₂
  | _ => ∃ h' tk m' vo no ko a ta c tc, s₂ = { s₁ with heap := h', toks := tk } ∧ Fr h₀ L h' m' ∧ News h₀ L h' ((lo, listOf (List.toArray vo) ko) :: rest) ∧ IntsAre vo no ∧ m' y1 = some (.int a ta) ∧ m' y2 = some (.int c tc) ∧ (∀ z, z ≠ x → z ≠ y1 → z ≠ y2 → m' z = m₀ z) ∧ P no a c
theorem EndB.intro {L lo : Addr} {rest news' : List (Addr × Obj)} {y1 y2 x : Str} {m₀ m' : Str → Option Value} {P : List Int → Int → Int → Prop} {s₁ : Shared} {h' : Heap} {tk : Nat} {vo : List Value} {no : List Int} {ko : Nat} {a c : Int} {ta tc : Tok}
    (F : Fr h₀ L h' m') (N : News h₀ L h' news') (hn : ∀ p ∈ ((lo, listOf (List.toArray vo) ko) :: rest), p ∈ news') (hi : IntsAre vo no) (e1 : m' y1 = some (.int a ta)) (e2 : m' y2 = some (.int c tc)) (e3 : ∀ z, z ≠ x → z ≠ y1 → z ≠ y2 → m' z = m₀ z) (hP : P no a c) :
    EndB h₀ L lo rest y1 y2 x m₀ P s₁ Q .next { s₁ with heap := h', toks := tk } := ⟨h', tk, m', vo, no, ko, a, ta, c, tc, rfl, F, fun p hp => N p (hn p hp), hi, e1, e2, e3, hP⟩
theorem bytesO2 {b : Array UInt8} {tb : Tok} {lo : Addr} {vo : List Value} {no : List Int} {ko : Nat} {a c : Int} {ta tc : Tok} {m₀ : Str → Option Value} {rest : List (Addr × Obj)} (y1 y2 : Str) (P : List Int → List Int → Int → Int → Prop)
    (hh : A.handled = none) (F : Fr h₀ env.locals s.heap m₀) (e1 : m₀ y1 = some (.int a ta)) (e2 : m₀ y2 = some (.int c tc)) (N : News h₀ env.locals s.heap ((lo, listOf vo.toArray ko) :: rest)) (hi : IntsAre vo no) (hp : P [] no a c)
    (turn : ∀ pre n post t I oI vo no ko a ta c tc h tk, KBw.bInts b = pre ++ n :: post → 0 ≤ n → n < 256 → P pre no a c → IntsAre vo no → @Ne Nat lo I → (∀ p ∈ rest, p.1 ≠ I) →
      Fr h₀ env.locals h (fun y => if y = x then some (.int n t) else if y = y1 then some (.int a ta) else if y = y2 then some (.int c tc) else m₀ y) →
      News h₀ env.locals h ((lo, listOf (List.toArray vo) ko) :: (rest ++ [(I, oI)])) →
      wpAny (model prog w) A (execs body env) (EndB h₀ env.locals lo (rest ++ [(I, oI)]) y1 y2 x m₀ (P (pre ++ [n])) { s with heap := h, toks := tk } Q) E { s with heap := h, toks := tk })
    (done : ∀ (u : Str → Option Value) vo no ko a ta c tc h tk, P (KBw.bInts b) no a c → IntsAre vo no → Fr h₀ env.locals h (fun y => if y = x then u y else if y = y1 then some (.int a ta) else if y = y2 then some (.int c tc) else m₀ y) → News h₀ env.locals h ((lo, listOf (List.toArray vo) ko) :: rest) → Q .next { s with heap := h, toks := tk }) :
    wpAny (model prog w) A (pyIter (.bytes b tb)) (fun it s₂ => LoopAtV prog w A h₀ env x body Q E it s₂) E s := by
  refine kstG_bytes (σ := (List Value × List Int × Nat) × (Int × Tok) × (Int × Tok)) (fix := rest) (fun c => [(lo, listOf c.1.1.toArray c.1.2.2)]) (fun c => [(y1, .int c.2.1.1 c.2.1.2), (y2, .int c.2.2.1 c.2.2.2)]) []
    (fun pre c => IntsAre c.1.1 c.1.2.1 ∧ P pre c.1.2.1 c.2.1.1 c.2.2.1) ((vo, no, ko), (a, ta), (c, tc)) hh F N ?_ ⟨hi, hp⟩ ?_ ?_
  · intro p hp'
    rcases List.mem_cons.mp hp' with rfl | hp'
    · exact e1
    · rw [List.mem_singleton.mp hp']; exact e2
  · rintro ⟨⟨vo', no', ko'⟩, ⟨a', ta'⟩, ⟨c', tc'⟩⟩ pre post n t u I oI h tk e h0 h1 ⟨hi', hP'⟩ hI F₁ N₁
    refine wpAny_mono (turn pre n post t I oI vo' no' ko' a' ta' c' tc' h tk e h0 h1 hP' hi' (hI (lo, listOf vo'.toArray ko') (List.mem_append_left _ (.head _))) (fun p hp => hI p (List.mem_append_right _ hp)) F₁ N₁) (fun f s₂ q => ?_) fun _ _ e => e
    have fin : (∃ h' tk' m' vo no ko a ta c tc, s₂ = { ({ s with heap := h, toks := tk } : Shared) with heap := h', toks := tk' } ∧ Fr h₀ env.locals h' m' ∧ News h₀ env.locals h' ((lo, listOf (List.toArray vo) ko) :: (rest ++ [(I, oI)])) ∧ IntsAre vo no ∧ m' y1 = some (.int a ta) ∧ m' y2 = some (.int c tc) ∧ (∀ z, z ≠ x → z ≠ y1 → z ≠ y2 → m' z = m₀ z) ∧ P (pre ++ [n]) no a c) →
        EndG h₀ env.locals (KS (fun c : (List Value × List Int × Nat) × (Int × Tok) × (Int × Tok) => [(lo, listOf c.1.1.toArray c.1.2.2)]) (fun c => [(y1, .int c.2.1.1 c.2.1.2), (y2, .int c.2.2.1 c.2.2.2)]) x [] m₀ (fun c => IntsAre c.1.1 c.1.2.1 ∧ P (pre ++ [n]) c.1.2.1 c.2.1.1 c.2.2.1)) (rest ++ [(I, oI)]) I { s with heap := h, toks := tk } Q .next s₂ := by
      rintro ⟨h', tk', m', vo, no, ko, a, ta, c, tc, rfl, F', N', i', d1, d2, d3, hP⟩
      refine ⟨h', tk', m', [(lo, listOf vo.toArray ko)], rfl, F', N', ?_, ((vo, no, ko), (a, ta), (c, tc)), rfl, ?_, ?_, i', hP⟩
      · intro p hp'
        rw [List.mem_singleton.mp hp']; exact hI (lo, listOf vo'.toArray ko') (List.mem_append_left _ (.head _))
      · intro p hp'
        rcases List.mem_cons.mp hp' with rfl | hp'
        · exact d1
        · rw [List.mem_singleton.mp hp']; exact d2
      · intro z z1 z2 z3
        exact d3 z z1 (z2 _ (.head _)) (z2 _ (.tail _ (.head _)))
    cases f with
    | ret v => exact q
    | brk => exact q
    | next => exact fin q
    | cont => exact fin q
  · rintro ⟨⟨vo', no', ko'⟩, ⟨a', ta'⟩, ⟨c', tc'⟩⟩ u h tk ⟨hi', hP'⟩ F₁ N₁
    exact done u vo' no' ko' a' ta' c' tc' h tk hP' hi' F₁ N₁
end
end Mine
end
section
set_option maxRecDepth 100000
namespace Mine
theorem slot_translate : Slot "bytes" "translate" "bytes.translate" :=
  .of (owner := "bytes") (n := "translate") (by rw [typeLookup_type, builtinLookup_eq_fast]; kernel_rfl) (by decide +kernel) (by decide +kernel) (by decide +kernel)
    (by first | exact .inl (by decide +kernel) | exact .inr (by decide +kernel)) (by rw [isSubtype_type]; kernel_rfl)
theorem type_translate : typeOf (.builtin "bytes.translate") = pure (.type "method_descriptor") := by show builtinType _ = _; rw [builtinType_eq_fast]; kernel_rfl
theorem entry_translate : entryFor table "bytes.translate" = some Builtin.«bytes.translate» := entryFor_of_tree (by kernel_rfl)
theorem args_translate (a b : Value) : argsOk "bytes.translate" ⟨[a, b], []⟩ := by
  unfold argsOk; rw [signature?_of (id := "bytes.translate") (n := ['e', 't', 'a', 'l', 's', 'n', 'a', 'r', 't']) (o := ['s', 'e', 't', 'y', 'b']) (by kernel_rfl) FB.owner_bytes]; kernel_rfl
theorem entry_maketrans : entryFor table "bytes.maketrans" = some Builtin.«bytes.maketrans» := entryFor_of_tree (by kernel_rfl)
theorem plain_maketrans : plainId "bytes.maketrans" = true := by decide +kernel
theorem check_maketrans (a b : Value) : checkBuiltinCall "bytes.maketrans" ⟨[a, b], []⟩ = pure () := by kernel_rfl
theorem args_decode2 (a b : Value) : argsOk "bytes.decode" ⟨[a, b], []⟩ := by
  unfold argsOk; rw [signature?_of (id := "bytes.decode") (n := ['e', 'd', 'o', 'c', 'e', 'd']) (o := ['s', 'e', 't', 'y', 'b']) (by kernel_rfl) FB.owner_bytes]; kernel_rfl
end Mine
end
section
set_option maxRecDepth 100000
namespace Mine
section
theorem yes_ite {c : Prop} [Decidable c] {X Y : Prop} (hc : c) (h : X) : if c then X else Y := by rw [if_pos hc]; exact h
theorem filt_all (b : Array UInt8) : b.filter (fun c => !(#[] : Array UInt8).contains c) = b := by simp
theorem same_bytes (b : Array UInt8) (t : Tok) : Builtin.Bytes.payload (.bytes b t) = pure b := rfl
open Builtin in
theorem meets_translate {b tab : Array UInt8} {t u : Tok} (ht : tab.size = 256) :
    Meets («bytes.translate» ⟨[.bytes b t, .bytes tab u], []⟩) (fun _ R s => b.size ≤ sizeLine ∧ ∀ t' k, R (.ok (.ret (.bytes (b.map fun c => tab.getD c.toNat c) t'))) { s with toks := k }) := by
  refine .of_wp fun prog w A R s hS => ?_
  obtain ⟨hsz, h⟩ := hS
  unfold Builtin.«bytes.translate» Builtin.Bytes.translateM
  dsimp only
  rw [if_neg (by simp), if_neg (by decide)]
  show wpAny _ _ (if (Value.bytes tab u == Value.none) = true then _ else _) _ _ s
  refine wpAny_ite (KBy.ite_no (show ¬ ((Value.bytes tab u == Value.none) = true) from Bool.false_ne_true) ?_)
  refine wpAny_bind (wpAny_of_eq KBd.like_eq ?_)
  rw [if_neg (by simp [ht])]
  refine wpAny_bind (wpAny_pure ?_)
  show wpAny _ _ (pure #[] >>= fun delete => _) _ _ s
  refine wpAny_bind (wpAny_pure ?_)
  refine wpAny_bind (wpAny_of_eq (same_bytes _ _) ?_)
  dsimp only
  rw [filt_all]
  have hcase : (Array.map (fun c => tab.getD c.toNat c) b == b) = false ∨ (Array.map (fun c => tab.getD c.toNat c) b == b) = true := by
    cases (Array.map (fun c => tab.getD c.toNat c) b == b)
    · exact .inl rfl
    · exact .inr rfl
  rcases hcase with hw | hw
  · refine wpAny_ite (KBy.ite_no (ne_true_of_eq_false hw) ?_)
    show wpAny _ _ (mkBytes _ >>= fun r => _) _ _ s
    exact wpAny_bind (wpAny_mkBytes (wpAny_pure ⟨_, rfl, h _ _⟩) (by rw [Array.size_map]; exact hsz))
  · refine wpAny_ite (yes_ite hw ?_)
    refine wpAny_bind (wpAny_rule ?_)
    have he : Array.map (fun c => tab.getD c.toNat c) b = b := eq_of_beq hw
    rw [he] at h
    unfold Bytes.Kind.same
    refine wpAny_bind ?_
    refine wpAny_bind (wpAny_typeOf (typeIs_bytes _ b t) ?_)
    refine wpAny_ite (yes_ite rfl ?_)
    exact wpAny_pure (wpAny_pure ⟨_, rfl, h t _⟩)
open Builtin in
theorem meets_maketrans {x y : UInt8} {t u : Tok} :
    Meets («bytes.maketrans» ⟨[.bytes #[43, 47] t, .bytes #[x, y] u], []⟩) (fun _ R s => ∀ t' k, R (.ok (.ret (.bytes (([43, 47].zip [x, y]).foldl (fun t (p : UInt8 × UInt8) => t.setIfInBounds p.1.toNat p.2) ((Array.range 256).map (·.toUInt8))) t'))) { s with toks := k }) := by
  refine .of_wp fun prog w A R s h => ?_
  unfold Builtin.«bytes.maketrans» Builtin.Bytes.maketransM
  dsimp only
  refine wpAny_bind (wpAny_of_eq (a := ()) (by kernel_rfl) ?_)
  refine wpAny_bind (wpAny_of_eq (a := ()) (by kernel_rfl) ?_)
  show wpAny _ _ (Bytes.bytesLike _ (.bytes #[43, 47] t) >>= fun r => _) _ _ s
  rw [KBd.like_eq]
  refine wpAny_bind (wpAny_pure ?_)
  show wpAny _ _ (Bytes.bytesLike _ (.bytes #[x, y] u) >>= fun r => _) _ _ s
  rw [KBd.like_eq]
  refine wpAny_bind (wpAny_pure ?_)
  refine wpAny_ite (KBy.ite_no (by simp) ?_)
  refine wpAny_bind (wpAny_mkBytes (wpAny_pure ⟨_, rfl, h _ _⟩) ?_)
  show Array.size (α := UInt8) (List.foldl (fun t (p : UInt8 × UInt8) => t.setIfInBounds p.1.toNat p.2) _ [((43 : UInt8), x), ((47 : UInt8), y)]) ≤ _
  simp only [List.foldl_cons, List.foldl_nil, Array.size_setIfInBounds, Array.size_map, Array.size_range]
  rw [sizeLine_eq]; decide
open Builtin in
def tabOf (x y : UInt8) : Array UInt8 := (([43, 47].zip [x, y]).foldl (fun t (p : UInt8 × UInt8) => t.setIfInBounds p.1.toNat p.2) ((Array.range 256).map (·.toUInt8)))
theorem tabOf_size (x y : UInt8) : (tabOf x y).size = 256 := by
  show Array.size (α := UInt8) (List.foldl (fun t (p : UInt8 × UInt8) => t.setIfInBounds p.1.toNat p.2) _ [((43 : UInt8), x), ((47 : UInt8), y)]) = _
  simp only [List.foldl_cons, List.foldl_nil, Array.size_setIfInBounds, Array.size_map, Array.size_range]
theorem tabOf_get (x y c : UInt8) : (tabOf x y).getD c.toNat c = if c = 43 then x else if c = 47 then y else c := by
  have hc : c.toNat < 256 := c.toNat_lt
  rw [Array.getD_eq_getD_getElem?]
  have e : tabOf x y = (((Array.range 256).map (·.toUInt8)).setIfInBounds 43 x).setIfInBounds 47 y := rfl
  rw [e, Array.getElem?_setIfInBounds, Array.getElem?_setIfInBounds]
  by_cases e1 : c = 43
  · subst e1; simp
  · by_cases e2 : c = 47
    · subst e2; simp
    · have n1 : 43 ≠ c.toNat := fun e => e1 ((UInt8.toNat_inj (a := c) (b := 43)).mp e.symm)
      have n2 : 47 ≠ c.toNat := fun e => e2 ((UInt8.toNat_inj (a := c) (b := 47)).mp e.symm)
      rw [if_neg n2, if_neg n1, if_neg e1, if_neg e2]
      simp [hc]
variable {prog : Program} {w : World} {A : Around} {E : Value → Shared → Prop} {s : Shared} {b : Array UInt8} {x y : UInt8} {t u : Tok} {Q : Value → Shared → Prop}
def swap2 (x y : UInt8) (c : UInt8) : UInt8 := if c = 43 then x else if c = 47 then y else c
theorem translate_K (hb : b.size ≤ 1000) (h : ∀ t' k, Q (.bytes (b.map (swap2 x y)) t') { s with toks := k }) :
    wpAny (model prog w) A (call (.builtin "bytes.translate") [.bytes b t, .bytes (tabOf x y) u]) Q E s :=
  call_meets slot_translate (typeIs_bytes _ _ _) entry_translate (args_translate _ _) (meets_translate (tabOf_size x y)) ⟨by rw [sizeLine_eq]; omega, fun t' k => by
    have e : (fun c : UInt8 => (tabOf x y).getD c.toNat c) = swap2 x y := funext fun c => tabOf_get x y c
    rw [e]; exact h t' k⟩
theorem maketrans_K (h : ∀ t' k, Q (.bytes (tabOf x y) t') { s with toks := k }) :
    wpAny (model prog w) A (call (.builtin "bytes.maketrans") [.bytes #[43, 47] t, .bytes #[x, y] u]) Q E s := by
  refine wpAny_call (codeAny_call_builtin plain_maketrans entry_maketrans ?_)
  rw [check_maketrans]
  refine wpAny_pure ?_
  exact meets_maketrans prog w A (wants Q E) s h
end
section
open Builtin
variable {b : Array UInt8} {c : UInt8} {cs : List UInt8} {t u : Tok} {x : PySem.Str} {n : Nat}
theorem roadA_eq {id : String} : _codecs.decodeRoad id b (PySem.Str.ofString "ascii") none [] = (_codecs.runDecoder id _codecs.asciiDecoder none true b 0 [] >>= fun r => mkStr ⟨r.1⟩) := by kernel_rfl
theorem entryA_eq : «bytes.decode» ⟨[.bytes (c :: cs).toArray t, .str (PySem.Str.ofString "ascii") u], []⟩ = (mkStr (PySem.Str.ofString "utf-8") >>= fun _ => mkStr (PySem.Str.ofString "ascii") >>= fun e => mkStr (PySem.Str.ofString "bytes.decode") >>= fun d =>
    call (.builtin "_codecs.decode.text") [.bytes (c :: cs).toArray t, e, .none, d] >>= fun v => ret v) := by kernel_rfl
theorem entryA_nil : «bytes.decode» ⟨[.bytes #[] t, .str (PySem.Str.ofString "ascii") u], []⟩ = (rule "bytes.decode.empty" >>= fun _ => retStr Str.empty) := by kernel_rfl
theorem forIn_walk {β : Type} (f : Nat → β → Sem (ForInStep β)) (st : Nat → β) : ∀ (n a : Nat), (∀ k, a ≤ k → k < a + n → f k (st k) = pure (.yield (st (k + 1)))) → forIn (List.range' a n) (st a) f = pure (st (a + n))
  | 0, a, _ => rfl
  | n + 1, a, h => by
    rw [List.range'_succ, List.forIn_cons, h a (Nat.le_refl _) (by omega), pure_bind]
    have := forIn_walk f st n (a + 1) (fun k h1 h2 => h k (by omega) (by omega))
    rw [show a + (n + 1) = a + 1 + n by omega]
    exact this
theorem ascii_loop {id : String} (hb : ∀ c ∈ b.toList, c.toNat < 128) (hz : b.size ≤ 1000) : _codecs.runDecoder id _codecs.asciiDecoder none true b 0 [] = pure (b.map (·.toNat), b.size) := by
  unfold _codecs.runDecoder
  simp only [Std.Legacy.Range.forIn_eq_forIn_range']
  have hsz : ([:b.size] : Std.Legacy.Range).size = b.size := by simp [Std.Legacy.Range.size]
  rw [hsz]
  let st : Nat → Nat × Array Nat × _codecs.Faults := fun p => (p, ((b.toList.take p).map (·.toNat)).toArray, {})
  have key := fun f h => forIn_walk f st b.size 0 h
  have h0 : ((0, #[], {}) : Nat × Array Nat × _codecs.Faults) = st 0 := rfl
  rw [h0, key]
  · rw [pure_bind]
    show pure (((b.toList.take (0 + b.size)).map (·.toNat)).toArray, 0 + b.size) = _
    rw [Nat.zero_add, List.take_of_length_le (by simp)]
    congr 2
    apply Array.ext'
    simp
  · intro k _ hk
    have hk : k < b.size := by omega
    show (if (((b.toList.take k).map (·.toNat)).toArray).size > sizeLine then _ else if k ≥ b.size then _ else _) = _
    rw [if_neg (by rw [sizeLine_eq]; simp; omega), if_neg (by omega)]
    have hc : (b.getD k 0).toNat < 128 := by
      rw [Array.getD, dif_pos hk]
      exact hb _ (by simp)
    have hf : _codecs.asciiDecoder.find true b k = .text [(b.getD k 0).toNat] (k + 1) := by
      show (if (b.getD k 0).toNat < 128 then _ else _) = _
      rw [if_pos hc]; rfl
    show (match _codecs.asciiDecoder.find true b k with | .text cs nx => _ | .refuse tag => _ | .bad stop reason mayGrow => _) = _
    rw [hf]
    show pure (ForInStep.yield (k + 1, ((b.toList.take k).map (·.toNat)).toArray ++ [(b.getD k 0).toNat].toArray, ({} : _codecs.Faults))) = _
    congr 2
    show (_, _, _) = (_, _, _)
    congr 2
    have : b.toList.take (k + 1) = b.toList.take k ++ [b.getD k 0] := by
      rw [List.take_succ_eq_append_getElem (by simpa using hk)]
      rw [Array.getD, dif_pos hk]; rfl
    rw [this]
    simp
theorem meets_textA {t1 t2 : Tok} {d : PySem.Str} (hd : ∀ id, _codecs.runDecoder id _codecs.asciiDecoder none true b 0 [] = pure (x.cps, n)) :
    Meets («_codecs.decode.text» ⟨[.bytes b t, .str (PySem.Str.ofString "ascii") t1, .none, .str d t2], []⟩) (fun _ R s => x.length ≤ sizeLine ∧ R (.ok (.ret (.str x s.toks))) { s with toks := s.toks + 1 }) := by
  refine .of_wp fun prog w A R s hS => ?_
  obtain ⟨hsz, h⟩ := hS
  show wpAny _ _ (Bytes.bytesLike _ (.bytes b t) >>= fun r => _) _ _ s
  refine wpAny_bind (wpAny_of_eq KBd.like_eq ?_)
  refine wpAny_bind (wpAny_of_eq KBd.held_eq ?_)
  show wpAny _ _ (_codecs.decodeRoad _ b (PySem.Str.ofString "ascii") none [] >>= fun v => _) _ _ s
  rw [roadA_eq, hd]
  refine wpAny_bind (wpAny_bind (wpAny_pure ?_))
  exact wpAny_mkStr (wpAny_pure ⟨_, rfl, h⟩) hsz
theorem meets_decodeA (hb : ∀ c ∈ b.toList, c.toNat < 128) (hz : b.size ≤ 1000) :
    Meets («bytes.decode» ⟨[.bytes b t, .str (PySem.Str.ofString "ascii") u], []⟩) (fun _ R s => ∀ t' k, R (.ok (.ret (.str ⟨b.map (·.toNat)⟩ t'))) { s with toks := k }) := by
  have hd : ∀ id, _codecs.runDecoder id _codecs.asciiDecoder none true b 0 [] = pure ((⟨b.map (·.toNat)⟩ : PySem.Str).cps, b.size) := fun id => ascii_loop hb hz
  have hl : (⟨b.map (·.toNat)⟩ : PySem.Str).length ≤ sizeLine := by
    show (b.map (·.toNat)).size ≤ _
    rw [Array.size_map, sizeLine_eq]; omega
  obtain ⟨bl⟩ := b
  cases bl with
  | nil =>
    refine .of_wp fun prog w A R s h => ?_
    have e0 : (⟨Array.map (fun x : UInt8 => x.toNat) { toList := [] }⟩ : PySem.Str) = Str.empty := congrArg PySem.Str.mk (by simp)
    rw [e0] at h
    rw [entryA_nil]
    refine wpAny_bind (wpAny_rule ?_)
    exact wpAny_bind (wpAny_mkStr (wpAny_pure ⟨_, rfl, h _ _⟩) (by rw [sizeLine_eq]; decide))
  | cons c cs =>
    refine .of_wp fun prog w A R s h => ?_
    rw [entryA_eq]
    refine wpAny_bind (wpAny_mkStr ?_ (by decide))
    refine wpAny_bind (wpAny_mkStr ?_ (by decide))
    refine wpAny_bind (wpAny_mkStr ?_ (by decide))
    exact wpAny_bind (call_function_meets KBd.kind_text KBd.plain_text KBd.entry_text (KBd.args_text _ _ _ _) (meets_textA hd) ⟨hl, wpAny_pure ⟨_, rfl, h _ _⟩⟩)
end
section
variable {prog : Program} {w : World} {A : Around} {E : Value → Shared → Prop} {s : Shared} {b : Array UInt8} {t u : Tok} {Q : Value → Shared → Prop}
theorem decodeA_K (hb : ∀ c ∈ b.toList, c.toNat < 128) (hz : b.size ≤ 1000) (h : ∀ t' k, Q (.str ⟨b.map (·.toNat)⟩ t') { s with toks := k }) :
    wpAny (model prog w) A (call (.builtin "bytes.decode") [.bytes b t, .str (PySem.Str.ofString "ascii") u]) Q E s :=
  call_meets FB.slot_bytes_decode (typeIs_bytes _ _ _) FB.entry_bytes_decode (args_decode2 _ _) (meets_decodeA hb hz) h
theorem method_translate {M : Model} {pl : Sem Bool} {Q : Value × List Value → Shared → Prop} (h : Q (.builtin "bytes.translate", [.bytes b t]) s) : wpAny M A (getMethod (.bytes b t) "translate" pl) Q E s := by
  with_reducible exact KBd.method_of (.bytes b t) (typeIs_bytes _ _ _) slot_translate type_translate KBd.noRef h
end
end Mine
end
section
set_option maxRecDepth 100000
namespace Mine
open Builtin Builtin.Str
def fnd (x y : PySem.Str) (i j : Int) : Int := match occurrences x y (fromIndex x.length i) (min (fromIndex x.length j) x.length) 1 with | k :: _ => (k : Int) | [] => -1
theorem gives_find4 (x y : PySem.Str) (i j : Int) (t u v v' : Tok) : Gives («str.find» ⟨[.str x t, .str y u, .int i v, .int j v'], []⟩) (.int (fnd x y i j)) := by
  unfold fnd
  show Gives (match occurrences x y (fromIndex x.length i) (min (fromIndex x.length j) x.length) 1 with | k :: _ => retInt k | [] => (do rule "str.find.not-found"; retInt (-1))) _
  cases occurrences x y (fromIndex x.length i) (min (fromIndex x.length j) x.length) 1 with
  | nil => exact .rule (.of_eq rfl)
  | cons k _ => exact .of_eq rfl
section
variable {prog : Program} {w : World} {A : Around} {E : Value → Shared → Prop} {s : Shared} {x y : PySem.Str} {i j : Int} {t u v v' : Tok} {Q : Value → Shared → Prop}
theorem args_find4 (a b c d : Value) : argsOk "str.find" ⟨[a, b, c, d], []⟩ := by
  unfold argsOk; rw [signature?_of (id := "str.find") (n := ['d', 'n', 'i', 'f']) (o := ['r', 't', 's']) (by kernel_rfl) F.owner_str]; kernel_rfl
theorem find4 (hq : Q (.int (fnd x y i j) s.toks) { s with toks := s.toks + 1 }) : wpAny (model prog w) A (call (.builtin "str.find") [.str x t, .str y u, .int i v, .int j v']) Q E s :=
  call_gives F.slot_str_find (typeIs_str _ _ _) F.entry_str_find (args_find4 _ _ _ _) (gives_find4 x y i j t u v v') hq
end
def ellRun (got : PySem.Str) (e : Int) : List PySem.Str → Int → Bool
  | [], _ => true
  | w :: ws, p => if fnd got w p e < 0 then false else ellRun got e ws (fnd got w p e + w.length)
def ellEnds (got : PySem.Str) (ws : List PySem.Str) (w : PySem.Str) (p : Int) : Bool :=
  if (w.length : Int) = 0 then (if p > (got.length : Int) then false else ellRun got got.length (ws ++ [w]) p)
  else if Txt.endswith got w = true then (if p > (got.length : Int) - w.length then false else ellRun got (got.length - w.length) ws p) else false
def ellOf (want got : PySem.Str) : Bool :=
  if (occurrences want (PySem.Str.ofString "...") 0 want.length 1).isEmpty = true then want == got
  else match Txt.split want (PySem.Str.ofString "...") with
    | [] => false
    | w :: r => match r.getLast? with
      | none => false
      | some z => if (w.length : Int) = 0 then ellEnds got (w :: r.dropLast) z 0
        else if Txt.startswith got w = true then ellEnds got r.dropLast z w.length else false
section
variable {prog : Program} {w : World} {A : Around} {E : Value → Shared → Prop} {s : Shared} {env : Env} {h₀ : Heap} {x : PySem.Str} {body : List Stmt} {Q : Flow → Shared → Prop}
def EndS (h₀ : Heap) (L : Addr) (fix : List (Addr × Obj)) (x y : PySem.Str) (m₀ : PySem.Str → Option Value) (P : Int → Prop) (s₁ : Shared) (Q : Flow → Shared → Prop) (f : Flow) (s₂ : Shared) : Prop :=
  match f with
  | .ret v => Q (.ret v) s₂
  | .brk => Q .next s₂
  | _ => ∃ h' tk m' p tp, s₂ = { s₁ with heap := h', toks := tk } ∧ Fr h₀ L h' m' ∧ News h₀ L h' fix ∧ m' y = some (.int p tp) ∧ (∀ z, z ≠ x → z ≠ y → m' z = m₀ z) ∧ P p
theorem EndS.intro {L : Addr} {fix news' : List (Addr × Obj)} {y : PySem.Str} {m₀ m' : PySem.Str → Option Value} {P : Int → Prop} {s₁ : Shared} {h' : Heap} {tk : Nat} {p : Int} {tp : Tok}
    (F : Fr h₀ L h' m') (N : News h₀ L h' news') (hn : ∀ q ∈ fix, q ∈ news') (e1 : m' y = some (.int p tp)) (e2 : ∀ z, z ≠ x → z ≠ y → m' z = m₀ z) (hP : P p) :
    EndS h₀ L fix x y m₀ P s₁ Q .next { s₁ with heap := h', toks := tk } := ⟨h', tk, m', p, tp, rfl, F, fun q hq => N q (hn q hq), e1, e2, hP⟩
theorem strsL {l : Addr} {tl : List (PySem.Str × Tok)} {nn : Nat} {m₀ : PySem.Str → Option Value} {fix : List (Addr × Obj)} (y : PySem.Str) (P : List PySem.Str → Int → Prop) {p₀ : Int} {t₀ : Tok}
    (hh : A.handled = none) (hl : (l, listOf (strValues tl).toArray nn) ∈ fix) (F : Fr h₀ env.locals s.heap m₀) (N : News h₀ env.locals s.heap fix) (hk : m₀ y = some (.int p₀ t₀)) (hp : P (tl.map (·.1)) p₀)
    (turn : ∀ (c : PySem.Str) t (rest : List PySem.Str) p tp I oI h tk, c ∈ tl.map (·.1) → P (c :: rest) p → (∀ q ∈ fix, q.1 ≠ I) →
      Fr h₀ env.locals h (fun z => if z = x then some (.str c t) else if z = y then some (.int p tp) else m₀ z) → News h₀ env.locals h (fix ++ [(I, oI)]) →
      wpAny (model prog w) A (execs body env) (EndS h₀ env.locals (fix ++ [(I, oI)]) x y m₀ (P rest) { s with heap := h, toks := tk } Q) E { s with heap := h, toks := tk })
    (done : ∀ p tp (u : PySem.Str → Option Value) h tk, P [] p → Fr h₀ env.locals h (fun z => if z = x then u z else if z = y then some (.int p tp) else m₀ z) → News h₀ env.locals h fix → Q .next { s with heap := h, toks := tk }) :
    wpAny (model prog w) A (pyIter (.ref l)) (fun it s₂ => LoopAtV prog w A h₀ env x body Q E it s₂) E s := by
  refine kstG_list (σ := Int × Tok) (fix := fix) (fun _ => []) (fun c => [(y, .int c.1 c.2)]) [] (fun i c => P ((tl.drop i).map (·.1)) c.1) (p₀, t₀) hh hl F N ?_ (by simpa using hp) ?_ ?_
  · intro q hq; rw [List.mem_singleton.mp hq]; exact hk
  · rintro ⟨p, tp⟩ i v u I oI h tk hv hP hI F₁ N₁
    obtain ⟨z, hz, hz2⟩ : ∃ z, tl[i]? = some z ∧ v = .str z.1 z.2 := by
      unfold strValues at hv
      rw [List.getElem?_map] at hv
      cases h : tl[i]? with
      | none => rw [h] at hv; cases hv
      | some z => rw [h] at hv; exact ⟨z, rfl, (Option.some.inj hv).symm⟩
    subst hz2
    have hd : tl.drop i = z :: tl.drop (i + 1) := by
      obtain ⟨hi, e⟩ := List.getElem?_eq_some_iff.mp hz
      rw [← e]; exact List.drop_eq_getElem_cons hi
    have hP' : P (z.1 :: (tl.drop (i + 1)).map (·.1)) p := by
      have h0 : P ((tl.drop i).map (·.1)) p := hP
      rw [hd] at h0; exact h0
    refine wpAny_mono (turn z.1 z.2 _ p tp I oI h tk (List.mem_map.mpr ⟨z, List.mem_of_getElem? hz, rfl⟩) hP' (fun q hq => hI q hq) F₁ N₁) (fun f s₂ q => ?_) fun _ _ e => e
    have fin : (∃ h' tk' m' p tp, s₂ = { ({ s with heap := h, toks := tk } : Shared) with heap := h', toks := tk' } ∧ Fr h₀ env.locals h' m' ∧ News h₀ env.locals h' (fix ++ [(I, oI)]) ∧ m' y = some (.int p tp) ∧ (∀ z, z ≠ x → z ≠ y → m' z = m₀ z) ∧ P ((tl.drop (i + 1)).map (·.1)) p) →
        EndG h₀ env.locals (KS (fun _ : Int × Tok => []) (fun c => [(y, .int c.1 c.2)]) x [] m₀ (fun c => P ((tl.drop (i + 1)).map (·.1)) c.1)) (fix ++ [(I, oI)]) I { s with heap := h, toks := tk } Q .next s₂ := by
      rintro ⟨h', tk', m', p, tp, rfl, F', N', e1, e2, hP⟩
      refine ⟨h', tk', m', [], rfl, F', N', (fun _ hq => nomatch hq), (p, tp), rfl, ?_, ?_, hP⟩
      · intro q hq; rw [List.mem_singleton.mp hq]; exact e1
      · intro z z1 z2 _; exact e2 z z1 (z2 _ (.head _))
    cases f with
    | ret v => exact q
    | brk => exact q
    | next => exact fin q
    | cont => exact fin q
  · rintro ⟨p, tp⟩ u h tk hP F₁ N₁
    have hz : (strValues tl).length = tl.length := by unfold strValues; simp
    have hP' : P [] p := by
      have h0 : P ((tl.drop (strValues tl).length).map (·.1)) p := hP
      rw [hz, List.drop_length] at h0; exact h0
    exact done p tp u h tk hP' F₁ N₁
end
theorem ell_eq {want got : PySem.Str} {p0 pz : PySem.Str × Tok} {l2 : List (PySem.Str × Tok)} (hoc : (occurrences want (PySem.Str.ofString "...") 0 want.length 1).isEmpty = false)
    (hsp : List.map (fun x => x.1) (p0 :: (l2 ++ [pz])) = Txt.split want (PySem.Str.ofString "...")) :
    ellOf want got = if (p0.1.length : Int) = 0 then ellEnds got (p0.1 :: l2.map (·.1)) pz.1 0 else if Txt.startswith got p0.1 = true then ellEnds got (l2.map (·.1)) pz.1 p0.1.length else false := by
  unfold ellOf
  rw [if_neg (by rw [hoc]; exact Bool.false_ne_true), ← hsp]
  simp
theorem ell_cut {l : List (PySem.Str × Tok)} (h : 2 ≤ (l.length : Int)) : ∃ p0 l2 pz, l = p0 :: (l2 ++ [pz]) := by
  match l, h with
  | p0 :: p1 :: r, _ =>
    have hne : p1 :: r ≠ [] := by simp
    exact ⟨p0, (p1 :: r).dropLast, (p1 :: r).getLast hne, by rw [List.dropLast_concat_getLast hne]⟩
  | [_], h => simp at h
  | [], h => simp at h
theorem strV_del : ∀ (l : List (PySem.Str × Tok)) (p : PySem.Str × Tok), ki_delL (strValues (l ++ [p])) l.length = some (strValues l)
  | [], p => rfl
  | x :: r, p => by
    show (match ki_delL (strValues (r ++ [p])) r.length with | some q => some (Value.str x.1 x.2 :: q) | none => none) = _
    rw [strV_del r p]; rfl
theorem seq_first (n : Nat) : seqIndex? 0 (n + 1) = some 0 := by
  unfold seqIndex?; simp
theorem seq_last (n : Nat) : seqIndex? (-1) (n + 1) = some n := by
  rw [PySem.seqIndex_neg (by decide) (by omega)]; congr 1; omega
theorem strV_len (l : List (PySem.Str × Tok)) : (strValues l).length = l.length := by unfold strValues; simp
theorem news_lt {h₀ h : Heap} {L : Addr} : ∀ {news : List (Addr × Obj)}, News h₀ L h news → AllLt h.objs.size news
  | [], _ => trivial
  | p :: r, N => ⟨Heap.lt_size (N p (.head _)).1, news_lt (fun q hq => N q (.tail _ hq))⟩
theorem str_last (l : List (PySem.Str × Tok)) (p : PySem.Str × Tok) : (List.map (fun x => x.1) (l ++ [p])).getD (-1 + ((List.map (fun x => x.1) (l ++ [p])).length : Int)).toNat PySem.Str.empty = p.1 := by
  have : (-1 + ((List.map (fun x => x.1) (l ++ [p])).length : Int)).toNat = l.length := by simp; omega
  rw [this]
  simp
theorem str_last' (a : PySem.Str × Tok) (l : List (PySem.Str × Tok)) (p : PySem.Str × Tok) : (List.map (fun x => x.1) (a :: (l ++ [p]))).getD (-1 + ((List.map (fun x => x.1) (a :: (l ++ [p]))).length : Int)).toNat PySem.Str.empty = p.1 := str_last (a :: l) p
theorem fnd_in (x y : PySem.Str) (i j : Int) : fnd x y i j = -1 ∨ (0 ≤ fnd x y i j ∧ fnd x y i j + y.length ≤ x.length) := by
  unfold fnd
  cases h : occurrences x y (fromIndex x.length i) (min (fromIndex x.length j) x.length) 1 with
  | nil => exact .inl rfl
  | cons k r =>
    have := (StrLaws.occ_spec x y _ _ 1 k (by rw [h]; exact .head _)).1
    right
    show 0 ≤ (k : Int) ∧ (k : Int) + y.length ≤ x.length
    omega
theorem ell_no {got c : PySem.Str} {e p : Int} {rest : List PySem.Str} {R : Bool} (h : ellRun got e (c :: rest) p = R) (hq : fnd got c p e < 0) : R = false := by
  rw [← h]; show (if fnd got c p e < 0 then _ else _) = _; rw [if_pos hq]
theorem ell_yes {got c : PySem.Str} {e p : Int} {rest : List PySem.Str} {R : Bool} (h : ellRun got e (c :: rest) p = R) (hg : got.length ≤ 100) (hq : 0 ≤ fnd got c p e) : ellRun got e rest (fnd got c p e + c.length) = R ∧ 0 ≤ fnd got c p e + c.length ∧ fnd got c p e + c.length ≤ 100 := by
  refine ⟨?_, by omega, ?_⟩
  · rw [← h]; show _ = (if fnd got c p e < 0 then _ else _); rw [if_neg (by omega)]
  · rcases fnd_in got c p e with h | h <;> omega
theorem ell_nil {got : PySem.Str} {e p : Int} {R : Bool} (h : ellRun got e [] p = R) : R = true := h.symm
theorem split_two {want : PySem.Str} (hoc : (occurrences want (PySem.Str.ofString "...") 0 want.length 1).isEmpty = false) : 2 ≤ (Txt.split want (PySem.Str.ofString "...")).length := by
  have hf := (StrLaws.found_iff want (PySem.Str.ofString "...")).mp (by rw [hoc]; rfl)
  obtain ⟨i, h1, h2⟩ := hf
  unfold Txt.split
  have hk : Builtin.Str.strKind (PySem.Str.ofString "...") = 1 := by decide +kernel
  have hk' : 1 ≤ Builtin.Str.strKind want := by unfold Builtin.Str.strKind; split; omega; split <;> omega
  rw [if_neg (by rw [hk]; simp; omega)]
  have ht := StrLaws.occ_tight want (PySem.Str.ofString "...") (by decide +kernel)
  cases ho : occurrences want (PySem.Str.ofString "...") 0 want.length (want.length + 1) with
  | nil =>
    rw [ho] at ht
    obtain ⟨f, hc, hn⟩ := ht
    have : f = 0 := hc
    subst this
    exact absurd ⟨h1, h2⟩ (hn i (Nat.zero_le _))
  | cons k r =>
    rw [if_neg (by simp), len_partsBetween]
    simp
end Mine
end
section
set_option maxRecDepth 100000
namespace Mine
section
variable {prog : Program} {w : World} {A : Around} {E : Value → Shared → Prop} {s : Shared} {env : Env} {h₀ : Heap} {target : Expr} {body : List Stmt} {Q : Flow → Shared → Prop}
def EndT (h₀ : Heap) (L : Addr) (fix : List (Addr × Obj)) (stored : List Str) (m₀ : Str → Option Value) (s₁ : Shared) (Q : Flow → Shared → Prop) (f : Flow) (s₂ : Shared) : Prop :=
  match f with
  | .ret v => Q (.ret v) s₂
  | .brk => Q .next s₂
  | _ => ∃ h' tk m', s₂ = { s₁ with heap := h', toks := tk } ∧ Fr h₀ L h' m' ∧ News h₀ L h' fix ∧ ∀ z, stored.contains z = false → m' z = m₀ z
theorem EndT.intro {L : Addr} {fix news' : List (Addr × Obj)} {stored : List Str} {m₀ m' : Str → Option Value} {s₁ : Shared} {h' : Heap} {tk : Nat}
    (F : Fr h₀ L h' m') (N : News h₀ L h' news') (hn : ∀ q ∈ fix, q ∈ news') (e : ∀ z, stored.contains z = false → m' z = m₀ z) :
    EndT h₀ L fix stored m₀ s₁ Q .next { s₁ with heap := h', toks := tk } := ⟨h', tk, m', rfl, F, fun q hq => N q (hn q hq), e⟩
theorem turnsL {l : Addr} {vs : List Value} {nn : Nat} {m₀ : Str → Option Value} {fix : List (Addr × Obj)} (stored : List Str)
    (hh : A.handled = none) (hl : (l, listOf vs.toArray nn) ∈ fix) (F : Fr h₀ env.locals s.heap m₀) (N : News h₀ env.locals s.heap fix)
    (turn : ∀ v (u : Str → Option Value) I oI h tk, v ∈ vs → (∀ p ∈ fix, p.1 ≠ I) → Fr h₀ env.locals h (fun z => if stored.contains z then u z else m₀ z) → News h₀ env.locals h (fix ++ [(I, oI)]) →
      wpAny (model prog w) A (assign target env v) (fun _ s₃ => wpAny (model prog w) A (execs body env) (EndT h₀ env.locals (fix ++ [(I, oI)]) stored m₀ { s with heap := h, toks := tk } Q) E s₃) E { s with heap := h, toks := tk })
    (done : ∀ (u : Str → Option Value) h tk, Fr h₀ env.locals h (fun z => if stored.contains z then u z else m₀ z) → News h₀ env.locals h fix → Q .next { s with heap := h, toks := tk }) :
    wpAny (model prog w) A (pyIter (.ref l)) (fun it s₂ => TurnsAt prog w A h₀ env target body Q E it s₂) E s := by
  have hol : s.heap.get? l = some (listOf vs.toArray nn) := (N _ hl).1
  have hls : s.heap.IsList l vs.toArray := ⟨_, hol, rfl, nn, rfl⟩
  have hne : l ≠ s.heap.objs.size := Nat.ne_of_lt (Heap.lt_size hol)
  refine wpAny_pyIter_list hls ?_
  have W := Walks.list (prog := prog) (w := w) hh s.heap.objs.size l hne vs.toArray
  have fr : ∀ {h : Heap} {m₁ : Str → Option Value}, (∀ z, stored.contains z = false → m₁ z = m₀ z) → Fr h₀ env.locals h m₁ → Fr h₀ env.locals h (fun z => if stored.contains z then m₁ z else m₀ z) := by
    intro h m₁ hm F
    have e : m₁ = fun z => if stored.contains z then m₁ z else m₀ z := by
      funext z
      cases hz : stored.contains z with
      | true => simp
      | false => simp [hm z hz]
    rw [← e]; exact F
  have hnI : ∀ p ∈ fix, p.1 ≠ s.heap.objs.size := fun p hp hI => absurd (Heap.lt_size (N p hp).1) (hI ▸ Nat.lt_irrefl _)
  refine ⟨s.heap.objs.size, _, _, _, _, _, _, m₀, fix, (fun _ m nf => nf = fix ∧ ∀ z, stored.contains z = false → m z = m₀ z), rfl, KTurns.ofWalks W ?_, ?_, ?_, ?_, ⟨⟨_, Heap.get?_push_size _ rfl, rfl, rfl⟩, hls.at fun o e => Heap.get?_push_of_some _ e⟩, F.push _, (fun p hp => ⟨Heap.get?_push_of_some _ (N p hp).1, (N p hp).2⟩), ⟨rfl, fun _ _ => rfl⟩, ?_, ?_⟩
  · intro i v s' Q' E' st q
    exact letGo_listiter st.1 q
  · intro hm
    rcases List.mem_cons.mp hm with e | hm
    · exact absurd F.ns.lt (e ▸ Nat.lt_irrefl _)
    · exact (N _ hl).2.1 ((List.mem_singleton.mp hm).symm)
  · intro b hb; rw [List.mem_singleton.mp hb]; exact next_is_new F
  · intro p hp hb; exact hnI p hp (List.mem_singleton.mp hb)
  · rintro i v m₁ news₁ h₁ tk₁ own hin hP ⟨rfl, hm⟩ hoff hown hget hall hst₁ F₁ N₁
    obtain ⟨⟨oI, hoI, _⟩, _⟩ := id hst₁
    have hIown : (s.heap.objs.size, oI) ∈ own := hall _ (List.mem_cons_self ..) (next_is_new F) oI hoI
    have N₂ : News h₀ env.locals h₁ (news₁ ++ [(s.heap.objs.size, oI)]) := by
      intro p hp
      rcases List.mem_append.mp hp with h | h
      · exact N₁ p (List.mem_append_right _ h)
      · rw [List.mem_singleton.mp h]; exact N₁ _ (List.mem_append_left _ hIown)
    have hv : v ∈ vs := by
      have hP' : vs.toArray[i]? = some v := hP
      exact List.mem_of_getElem? (by simpa using hP')
    refine wpAny_mono (turn v m₁ _ oI h₁ tk₁ hv hnI (fr hm F₁) N₂) (fun _ s₃ h₃ => wpAny_mono h₃ (fun f s₂ p => ?_) fun _ _ e => e) fun _ _ e => e
    have fin : (∃ h' tk m', s₂ = { ({ s with heap := h₁, toks := tk₁ } : Shared) with heap := h', toks := tk } ∧ Fr h₀ env.locals h' m' ∧ News h₀ env.locals h' (news₁ ++ [(s.heap.objs.size, oI)]) ∧ ∀ z, stored.contains z = false → m' z = m₀ z) →
        LoopStepU h₀ env.locals [s.heap.objs.size] own (fun m nf => nf = news₁ ∧ ∀ z, stored.contains z = false → m z = m₀ z) { s with heap := h₁, toks := tk₁ } .next s₂ := by
      rintro ⟨h', tk, m', e, F', N', hm'⟩
      refine ⟨rfl, h', tk, m', news₁, e, F', fun p hp => ?_, fun p hp hb => hnI p hp (List.mem_singleton.mp hb), rfl, hm'⟩
      rcases List.mem_append.mp hp with h | h
      · have hg : h₁.get? p.1 = some p.2 := hget p h
        rcases List.mem_cons.mp (hown p h) with e1 | e1
        · have : p = (s.heap.objs.size, oI) := by
            rw [e1] at hg
            rw [hoI] at hg
            exact Prod.ext e1 (Option.some.inj hg).symm
          rw [this]
          exact N' _ (List.mem_append_right _ (List.mem_singleton.mpr rfl))
        · have e1 := List.mem_singleton.mp e1
          have h1 := (N₂ _ (List.mem_append_left _ hl)).1
          have h1' : h₁.get? p.1 = some (listOf vs.toArray nn) := by rw [e1]; exact h1
          rw [hg] at h1'
          have : p = (l, listOf vs.toArray nn) := Prod.ext e1 (Option.some.inj h1')
          rw [this]
          exact N' _ (List.mem_append_left _ hl)
      · exact N' p (List.mem_append_left _ h)
    cases f with
    | ret v => exact .ret p
    | brk => exact .brk p
    | next => exact .next (fin p)
    | cont => exact .cont (fin p)
  · rintro h' tk m' news' F' N' _ ⟨rfl, hm⟩
    exact done m' h' tk (fr hm F') N'
end
end Mine
end
section
namespace Mine
section
variable {w : World} {loose : List Str} {mean : ExcName → Option Value} {mg mb : Str → Option Value} {dp un : Nat} {gd : Option (List Code)} {cn : Str} {cs : Scope} {a : Addr} {ccd : Value} {cl : List (Str × Addr)} {outer : List Env} {A₀ : Around} {base h₀ : Heap} {L : Addr} {m : Str → Option Value} {s : Shared} {Q E : Value → Shared → Prop} {news : List (Addr × Obj)}
def OctI (pre row : List Int) (kept room : Int) : Prop := (room = 1 ∨ room = 4 ∨ room = 16 ∨ room = 64) ∧ 0 ≤ kept ∧ kept < room ∧ (∀ x ∈ row, 0 ≤ x ∧ x < 256) ∧ row.length ≤ pre.length ∧ pre.length ≤ 25
theorem oct_start : OctI [] [] 0 1 := by simp [OctI]
theorem oct_skip {pre row : List Int} {kept room n : Int} (h : OctI pre row kept room) (hn : 0 ≤ n ∧ n < 64) (hl : pre.length + 1 ≤ 25) (h2 : ¬ 256 ≤ room * 64) : OctI (pre ++ [n]) row (kept * 64 + n) (room * 64) := by
  obtain ⟨h1, h3, h4, h5, h6, h7⟩ := h
  refine ⟨by omega, by omega, by omega, h5, ?_, ?_⟩ <;> simp <;> omega
theorem oct_app {row : List Int} {y : Int} (h5 : ∀ x ∈ row, 0 ≤ x ∧ x < 256) (k3 : 0 ≤ y) (k4 : y < 256) : ∀ x ∈ row ++ [y], 0 ≤ x ∧ x < 256 := by
  intro x hx
  rcases List.mem_append.mp hx with hx | hx
  · exact h5 x hx
  · rw [List.mem_singleton.mp hx]; exact ⟨k3, k4⟩
theorem oct_ne {pre row : List Int} {kept room : Int} (h : OctI pre row kept room) (h2 : 256 ≤ room * 64) : Int.fdiv (room * 64) 256 ≠ 0 ∧ (Int.fdiv (room * 64) 256).natAbs < 1073741824 := by
  obtain ⟨h1, _⟩ := h
  rcases h1 with rfl | rfl | rfl | rfl <;> first | omega | decide
theorem oct_turn {pre row : List Int} {kept room n : Int} (h : OctI pre row kept room) (hn : 0 ≤ n ∧ n < 64) (hl : pre.length + 1 ≤ 25) (h2 : 256 ≤ room * 64) :
    OctI (pre ++ [n]) (row ++ [Int.fdiv (kept * 64 + n) (Int.fdiv (room * 64) 256)]) (Int.fmod (kept * 64 + n) (Int.fdiv (room * 64) 256)) (Int.fdiv (room * 64) 256) := by
  obtain ⟨h1, h3, h4, h5, h6, h7⟩ := h
  have key : ∀ q : Int, 0 < q → kept * 64 + n < 256 * q → 0 ≤ Int.fmod (kept * 64 + n) q ∧ Int.fmod (kept * 64 + n) q < q ∧ 0 ≤ Int.fdiv (kept * 64 + n) q ∧ Int.fdiv (kept * 64 + n) q < 256 := by
    intro q hq hb
    rw [Int.fmod_eq_emod_of_nonneg _ (by omega), Int.fdiv_eq_ediv_of_nonneg _ (by omega)]
    refine ⟨Int.emod_nonneg _ (by omega), Int.emod_lt_of_pos _ hq, Int.ediv_nonneg (by omega) (by omega), Int.ediv_lt_of_lt_mul hq hb⟩
  rcases h1 with rfl | rfl | rfl | rfl
  · omega
  · rw [show Int.fdiv (4 * 64) 256 = 1 by decide]
    obtain ⟨k1, k2, k3, k4⟩ := key 1 (by decide) (by omega)
    exact ⟨by omega, k1, k2, oct_app h5 k3 k4, by simp; omega, by simp; omega⟩
  · rw [show Int.fdiv (16 * 64) 256 = 4 by decide]
    obtain ⟨k1, k2, k3, k4⟩ := key 4 (by decide) (by omega)
    exact ⟨by omega, k1, k2, oct_app h5 k3 k4, by simp; omega, by simp; omega⟩
  · rw [show Int.fdiv (64 * 64) 256 = 16 by decide]
    obtain ⟨k1, k2, k3, k4⟩ := key 16 (by decide) (by omega)
    exact ⟨by omega, k1, k2, oct_app h5 k3 k4, by simp; omega, by simp; omega⟩
theorem oct_in {pre row : List Int} {kept room : Int} (h : OctI pre row kept room) : (∀ x ∈ row, 0 ≤ x ∧ x < 256) ∧ row.length ≤ 25 := ⟨h.2.2.2.1, by have := h.2.2.2.2; omega⟩
set_option maxRecDepth 100000 in
set_option maxHeartbeats 8000000 in
theorem octets_c {l : Addr} {vs : List Value} {ns : List Int} {nn : Nat}
   (B : Below A₀ base outer h₀) (F : Fr h₀ L s.heap m) (X : (hd.heap_39 w.params).In h₀) (N : News h₀ L s.heap ((l, listOf vs.toArray nn) :: news)) (T : Top hd.view_39 loose mean mg mb h₀) (hk : cs.kind = .function)
   (hI : IntsAre vs ns) (hns : ∀ n ∈ ns, 0 ≤ n ∧ n < 64) (hlen : ns.length ≤ 25) (hd : dp + 1 < recursionLimit) (hu : un + 8 < cLine)
   (hret : ∀ (b : Array UInt8) (t : Tok) (h' : Heap) (tk' : Nat), b.size ≤ 25 → Fr h₀ L h' m → News h₀ L h' ((l, listOf vs.toArray nn) :: news) → Q (.bytes b t) { s with heap := h', toks := tk' }) :
      wpAny (model PySem.Challenge.rw_mq0101_01.prog w) (ktrTop dp un gd cn cs L a ccd cl outer) (call (.ref 72) [.ref l]) Q E s := by
  w_top off
  k_with_none
  revert X; k_fill; intro X
  refine wpAny_call ?_
  k_dflt cell_enter
  (k_with "pyIter ref" => k_state (fun pre row kept room => OctI pre row kept room) "row" "kept" "room")
  (k_with "state" => first | exact oct_start | exact oct_skip (by assumption) (hns _ (by assumption)) (by omega) (by assumption) | exact oct_turn (by assumption) (hns _ (by assumption)) (by omega) (by assumption))
  k_steps
  · obtain ⟨hz1, hz2⟩ := oct_ne (by assumption) (by assumption)
    obtain ⟨hz3, hz4⟩ := oct_in (by assumption)
    refine floordiv_int hz1 ?_ (.inl (PyProof.noPylong_small hz2))
    k_steps
  · obtain ⟨hz1, hz2⟩ := oct_in (by assumption)
    k_steps
    refine hret _ _ _ _ ?_ (by k_asm) (cb_drop (by k_asm) (by kcj_all))
    simpa [byteArr] using hz2
end
end Mine
end
section
namespace Mine
section
variable {w : World} {loose : List Str} {mean : ExcName → Option Value} {mg mb : Str → Option Value} {dp un : Nat} {gd : Option (List Code)} {cn : Str} {cs : Scope} {a : Addr} {ccd : Value} {cl : List (Str × Addr)} {outer : List Env} {A₀ : Around} {base h₀ : Heap} {L : Addr} {m : Str → Option Value} {s : Shared} {Q E : Value → Shared → Prop} {news : List (Addr × Obj)}
section
variable {prog : Program} {w : World} {A : Around} {E : Value → Shared → Prop} {s : Shared} {env : Env} {h₀ : Heap} {x : Str} {body : List Stmt} {Q : Flow → Shared → Prop}
theorem iter3 {l lf lo ld : Addr} {vs vf vo : List Value} {ns nf no : List Int} {nn kf ko : Nat} {od : Obj} {m₀ : Str → Option Value} {news : List (Addr × Obj)} (yf yo yd : Str) (stored : List Str) (P : List Int → List Int → List Int → Prop)
    (hh : A.handled = none) (F : Fr h₀ env.locals s.heap m₀) (hf : m₀ yf = some (.ref lf)) (ho : m₀ yo = some (.ref lo)) (_hd : m₀ yd = some (.ref ld))
    (N : News h₀ env.locals s.heap ((lf, listOf vf.toArray kf) :: (lo, listOf vo.toArray ko) :: (ld, od) :: (l, listOf vs.toArray nn) :: news)) (If : IntsAre vf nf) (Io : IntsAre vo no) (Hi : IntsAre vs ns) (hp : P [] nf no)
    (turn : ∀ pre n post t vf nf kf vo no ko (u : Str → Option Value) I oI h tk, ns = pre ++ n :: post → n ∈ ns → IntsAre vf nf → IntsAre vo no → P pre nf no → @Ne Nat lf I → @Ne Nat lo I → @Ne Nat ld I → @Ne Nat l I → (∀ p ∈ news, p.1 ≠ I) →
      Fr h₀ env.locals h (fun y => if y = x then some (.int n t) else if y = yf then some (.ref lf) else if y = yo then some (.ref lo) else if stored.contains y then u y else m₀ y) →
      News h₀ env.locals h ((lf, listOf vf.toArray kf) :: (lo, listOf vo.toArray ko) :: (ld, od) :: (l, listOf vs.toArray nn) :: (news ++ [(I, oI)])) →
      wpAny (model prog w) A (execs body env) (End2 h₀ env.locals lf lo ((ld, od) :: (l, listOf vs.toArray nn) :: (news ++ [(I, oI)])) yf yo x stored m₀ (P (pre ++ [n])) { s with heap := h, toks := tk } Q) E { s with heap := h, toks := tk })
    (done : ∀ vf nf kf vo no ko (u : Str → Option Value) h tk, IntsAre vf nf → IntsAre vo no → P ns nf no → Fr h₀ env.locals h (fun y => if y = x then u y else if y = yf then some (.ref lf) else if y = yo then some (.ref lo) else if stored.contains y then u y else m₀ y) →
      News h₀ env.locals h ((lf, listOf vf.toArray kf) :: (lo, listOf vo.toArray ko) :: (ld, od) :: (l, listOf vs.toArray nn) :: news) → Q .next { s with heap := h, toks := tk }) :
    wpAny (model prog w) A (pyIter (.ref l)) (fun it s₂ => LoopAtV prog w A h₀ env x body Q E it s₂) E s :=
  iter2 yf yo stored P hh F hf ho N (.tail _ (.head _)) If Io Hi hp
    (fun pre n post t vf nf kf vo no ko u I oI h tk e hm i1 i2 hP n1 n2 n3 F' N' => turn pre n post t vf nf kf vo no ko u I oI h tk e hm i1 i2 hP n1 n2 (n3 _ (.head _)) (n3 _ (.tail _ (.head _))) (fun p hp => n3 p (.tail _ (.tail _ hp))) F' N') done
end
def FigI (pre front other : List Int) : Prop := (∀ x ∈ front, 0 ≤ x ∧ x < 64) ∧ (∀ x ∈ other, 0 ≤ x ∧ x < 64) ∧ front.length ≤ 5 + 3 * pre.length ∧ other.length ≤ 3 * pre.length ∧ pre.length ≤ 6
theorem fig_app {xs ys : List Int} (h : ∀ x ∈ xs, 0 ≤ x ∧ x < 64) (h' : ∀ x ∈ ys, 0 ≤ x ∧ x < 64) : ∀ x ∈ xs ++ ys, 0 ≤ x ∧ x < 64 := fun x hx => (List.mem_append.mp hx).elim (h x) (h' x)
theorem fig_one {y : Int} (h : 0 ≤ y) (h' : y < 64) : ∀ x ∈ [y], 0 ≤ x ∧ x < 64 := fun x hx => by rw [List.mem_singleton.mp hx]; exact ⟨h, h'⟩
theorem fig_fm {y k : Int} (hk : 0 < k) (h64 : k ≤ 64) : 0 ≤ Int.fmod y k ∧ Int.fmod y k < 64 := ⟨Int.fmod_nonneg_of_pos y hk, by have := Int.fmod_lt_of_pos y hk; omega⟩
theorem fig_two {y z : Int} (h : 0 ≤ y) (h' : y < 64) (k : 0 ≤ z) (k' : z < 64) : ∀ x ∈ [y, z], 0 ≤ x ∧ x < 64 := fun x hx => by
  rcases List.mem_cons.mp hx with rfl | hx
  · exact ⟨h, h'⟩
  · rw [List.mem_singleton.mp hx]; exact ⟨k, k'⟩
theorem fig_rep {y : Int} {k : Nat} (h : 0 ≤ y ∧ y < 64) : ∀ x ∈ (List.replicate k [y]).flatten, 0 ≤ x ∧ x < 64 := fun x hx => by
  obtain ⟨l, hl, hx⟩ := List.mem_flatten.mp hx
  rw [(List.mem_replicate.mp hl).2] at hx
  rw [List.mem_singleton.mp hx]; exact h
theorem fig_step {pre xs ys xs' ys' : List Int} {n : Int} (h : FigI pre xs ys) (hl : pre.length + 1 ≤ 6) (h1 : ∀ x ∈ xs', 0 ≤ x ∧ x < 64) (h2 : ∀ x ∈ ys', 0 ≤ x ∧ x < 64) (l1 : xs'.length ≤ 3) (l2 : ys'.length ≤ 3) : FigI (pre ++ [n]) (xs ++ xs') (ys ++ ys') := by
  obtain ⟨a, b, c, d, e⟩ := h
  refine ⟨fig_app a h1, fig_app b h2, ?_, ?_, ?_⟩ <;> simp only [List.length_append, List.length_cons, List.length_nil] <;> omega
local macro_rules | `(tactic| walk_at "inplaceOp Add ref") => `(tactic| (k_here; (with_reducible show wpAny _ _ (inplaceOp Operator.Add (Value.ref _) (Value.ref _)) _ _ _); k_dflt (refine' iaddL_K ?F ?N ?b ?U ?z ?_; (case F => k_asm); (case N => k_asm); (case b => k_mem); (case U => k_upd); (case z => ((try simp only [List.length_append, List.length_cons, List.length_nil, List.length_replicate]); omega)); k_whole); intro h' F' N'; (try dsimp only)))
set_option maxRecDepth 100000 in
set_option maxHeartbeats 8000000 in
theorem fig_turn {b : List Stmt} {sc : Scope} (hb : loop? 12 2 = some b) (hs : scope? 12 = some sc) {g : Heap} {L' l lf lo ld I : Addr} {vs vf vo : List Value} {nf no pre : List Int} {nn kf ko tk : Nat} {od oI : Obj} {n : Int} {t : Tok} {u m₀ : Str → Option Value} {h : Heap} {Q : Flow → Shared → Prop}
    (B : Below (ktrTop dp un gd cn cs L a ccd cl outer) base (envX cn cs L a ccd cl :: outer) g) (X : (hd.heap_39 w.params).In g) (T : Top hd.view_39 loose mean mg mb g)
    (i1 : IntsAre vf nf) (i2 : IntsAre vo no) (hP : FigI pre nf no) (hn : 0 ≤ n ∧ n < 1000000) (hpre : pre.length + 1 ≤ 6)
    (n1 : @Ne Nat lf I) (n2 : @Ne Nat lo I) (n3 : @Ne Nat lf lo) (n4 : @Ne Nat lf ld) (n5 : @Ne Nat lo ld) (n6 : @Ne Nat lf l) (n7 : @Ne Nat lo l) (n8 : AllLt lf news) (n9 : AllLt lo news)
    (F : Fr g L' h (fun y => if y = Str.ofString "v" then some (.int n t) else if y = Str.ofString "front" then some (.ref lf) else if y = Str.ofString "other" then some (.ref lo) else if [Str.ofString "kind", Str.ofString "w", Str.ofString "one", Str.ofString "dots"].contains y then u y else m₀ y))
    (N : News g L' h ((lf, listOf vf.toArray kf) :: (lo, listOf vo.toArray ko) :: (ld, od) :: (l, listOf vs.toArray nn) :: (news ++ [(I, oI)]))) :
    wpAny (model PySem.Challenge.rw_mq0101_01.prog w) ((ktrTop dp un gd cn cs L a ccd cl outer).deeper (envOf (Str.ofString "_law_figures") sc L' 65 (.ref 64))) (execs b (envOf (Str.ofString "_law_figures") sc L' 65 (.ref 64)))
      (End2 g L' lf lo ((ld, od) :: (l, listOf vs.toArray nn) :: (news ++ [(I, oI)])) (Str.ofString "front") (Str.ofString "other") (Str.ofString "v") [Str.ofString "kind", Str.ofString "w", Str.ofString "one", Str.ofString "dots"] m₀ (FigI (pre ++ [n])) { s with heap := h, toks := tk } Q) E { s with heap := h, toks := tk } := by
  injection hb with hb
  injection hs with hs
  subst hb hs
  w_top off
  k_with_none
  revert X; k_fill; intro X
  have hMark := kstMark
  have hl1 := i1.length
  have hl2 := i2.length
  have hl3 : nf.length ≤ 23 ∧ no.length ≤ 18 := ⟨by have := hP.2.2; omega, by have := hP.2.2; omega⟩
  obtain ⟨hl4, hl5⟩ := hl3
  have hk7 : 0 ≤ n.fmod 7 ∧ n.fmod 7 < 7 := ⟨Int.fmod_nonneg_of_pos n (by decide), Int.fmod_lt_of_pos n (by decide)⟩
  have hpow : 0 ≤ ((n.fdiv 7).fdiv 64).fmod 4 ∧ ((n.fdiv 7).fdiv 64).fmod 4 < 4 := ⟨Int.fmod_nonneg_of_pos _ (by decide), Int.fmod_lt_of_pos _ (by decide)⟩
  have hm2 : 0 ≤ (n.fdiv 7).fmod 2 ∧ (n.fdiv 7).fmod 2 < 2 := ⟨Int.fmod_nonneg_of_pos _ (by decide), Int.fmod_lt_of_pos _ (by decide)⟩
  have hm4 : 0 ≤ ((n.fdiv 7).fdiv 2).fmod 2 ∧ ((n.fdiv 7).fdiv 2).fmod 2 < 2 := ⟨Int.fmod_nonneg_of_pos _ (by decide), Int.fmod_lt_of_pos _ (by decide)⟩
  k_steps
  refine pick_lists (fun lx nx => @Ne Nat lx lf ∧ @Ne Nat lx lo ∧ nx.length ≤ 3 ∧ ∀ x ∈ nx, 0 ≤ x ∧ x < 64) (by k_asm) (by k_mem) hk7.1 (by simpa using hk7.2) (by omega) ?_ ?_
  · intro v hv
    simp only [List.mem_cons, List.not_mem_nil, or_false] at hv
    rcases hv with rfl | rfl | rfl | rfl | rfl | rfl | rfl
    all_goals
      refine' ⟨_, _, _, _, rfl, by k_mem, ?ia, ?id, ?ie, ?ib, ?ic⟩
      case id => (first | exact Nat.ne_of_gt (And.left (by with_reducible assumption)) | exact Nat.ne_of_gt (And.left (And.right (by with_reducible assumption))) | exact Nat.ne_of_gt (And.left (And.right (And.right (by with_reducible assumption)))) | exact Nat.ne_of_gt (And.left (And.right (And.right (And.right (by with_reducible assumption))))) | exact Nat.ne_of_gt (And.left (And.right (And.right (And.right (And.right (by with_reducible assumption)))))) | exact Nat.ne_of_gt (And.left (And.right (And.right (And.right (And.right (And.right (by with_reducible assumption))))))) | exact Nat.ne_of_gt (And.left (And.right (And.right (And.right (And.right (And.right (And.right (by with_reducible assumption)))))))) | exact Nat.ne_of_gt (And.left (And.right (And.right (And.right (And.right (And.right (And.right (And.right (by with_reducible assumption))))))))) | exact Nat.ne_of_gt (And.left (And.right (And.right (And.right (And.right (And.right (And.right (And.right (And.right (by with_reducible assumption)))))))))) | exact Nat.ne_of_gt (And.left (And.right (And.right (And.right (And.right (And.right (And.right (And.right (And.right (And.right (by with_reducible assumption))))))))))) | exact Nat.ne_of_gt (And.left (And.right (And.right (And.right (And.right (And.right (And.right (And.right (And.right (And.right (And.right (by with_reducible assumption)))))))))))) | exact Nat.ne_of_gt (And.left (And.right (And.right (And.right (And.right (And.right (And.right (And.right (And.right (And.right (And.right (And.right (by with_reducible assumption))))))))))))) | exact Nat.ne_of_gt (And.left (And.right (And.right (And.right (And.right (And.right (And.right (And.right (And.right (And.right (And.right (And.right (And.right (by with_reducible assumption)))))))))))))) | exact Nat.ne_of_gt (And.left (And.right (And.right (And.right (And.right (And.right (And.right (And.right (And.right (And.right (And.right (And.right (And.right (And.right (by with_reducible assumption))))))))))))))) | exact Nat.ne_of_gt (And.left (And.right (And.right (And.right (And.right (And.right (And.right (And.right (And.right (And.right (And.right (And.right (And.right (And.right (And.right (by with_reducible assumption)))))))))))))))) | exact Nat.ne_of_gt (And.left (And.right (And.right (And.right (And.right (And.right (And.right (And.right (And.right (And.right (And.right (And.right (And.right (And.right (And.right (And.right (by with_reducible assumption))))))))))))))))) | omega)
      case ie => (first | exact Nat.ne_of_gt (And.left (by with_reducible assumption)) | exact Nat.ne_of_gt (And.left (And.right (by with_reducible assumption))) | exact Nat.ne_of_gt (And.left (And.right (And.right (by with_reducible assumption)))) | exact Nat.ne_of_gt (And.left (And.right (And.right (And.right (by with_reducible assumption))))) | exact Nat.ne_of_gt (And.left (And.right (And.right (And.right (And.right (by with_reducible assumption)))))) | exact Nat.ne_of_gt (And.left (And.right (And.right (And.right (And.right (And.right (by with_reducible assumption))))))) | exact Nat.ne_of_gt (And.left (And.right (And.right (And.right (And.right (And.right (And.right (by with_reducible assumption)))))))) | exact Nat.ne_of_gt (And.left (And.right (And.right (And.right (And.right (And.right (And.right (And.right (by with_reducible assumption))))))))) | exact Nat.ne_of_gt (And.left (And.right (And.right (And.right (And.right (And.right (And.right (And.right (And.right (by with_reducible assumption)))))))))) | exact Nat.ne_of_gt (And.left (And.right (And.right (And.right (And.right (And.right (And.right (And.right (And.right (And.right (by with_reducible assumption))))))))))) | exact Nat.ne_of_gt (And.left (And.right (And.right (And.right (And.right (And.right (And.right (And.right (And.right (And.right (And.right (by with_reducible assumption)))))))))))) | exact Nat.ne_of_gt (And.left (And.right (And.right (And.right (And.right (And.right (And.right (And.right (And.right (And.right (And.right (And.right (by with_reducible assumption))))))))))))) | exact Nat.ne_of_gt (And.left (And.right (And.right (And.right (And.right (And.right (And.right (And.right (And.right (And.right (And.right (And.right (And.right (by with_reducible assumption)))))))))))))) | exact Nat.ne_of_gt (And.left (And.right (And.right (And.right (And.right (And.right (And.right (And.right (And.right (And.right (And.right (And.right (And.right (And.right (by with_reducible assumption))))))))))))))) | exact Nat.ne_of_gt (And.left (And.right (And.right (And.right (And.right (And.right (And.right (And.right (And.right (And.right (And.right (And.right (And.right (And.right (And.right (by with_reducible assumption)))))))))))))))) | exact Nat.ne_of_gt (And.left (And.right (And.right (And.right (And.right (And.right (And.right (And.right (And.right (And.right (And.right (And.right (And.right (And.right (And.right (And.right (by with_reducible assumption))))))))))))))))) | omega)
      case ia => first | exact .nil | exact .cons _ _ .nil | exact .cons _ _ (.cons _ _ .nil) | exact .cons _ _ (.cons _ _ (.cons _ _ .nil))
      case ib => simp
      case ic => first | exact fig_one (fig_fm (by decide) (by decide)).1 (fig_fm (by decide) (by decide)).2 | decide
  intro lx vx nx kx ix hx Nx
  obtain ⟨hx1, hx2, hx3, hx4⟩ := hx
  have hx5 := ix.length
  try dsimp only
  k_steps
  refine pick_lists (fun lx nx => @Ne Nat lx lf ∧ @Ne Nat lx lo ∧ nx.length ≤ 3 ∧ ∀ x ∈ nx, 0 ≤ x ∧ x < 64) (by k_asm) (by k_mem) hk7.1 (by simpa using hk7.2) (by omega) ?_ ?_
  · intro v hv
    simp only [List.mem_cons, List.not_mem_nil, or_false] at hv
    rcases hv with rfl | rfl | rfl | rfl | rfl | rfl | rfl
    all_goals
      refine' ⟨_, _, _, _, rfl, by k_mem, ?ia, ?id, ?ie, ?ib, ?ic⟩
      case id => (first | exact Nat.ne_of_gt (And.left (by with_reducible assumption)) | exact Nat.ne_of_gt (And.left (And.right (by with_reducible assumption))) | exact Nat.ne_of_gt (And.left (And.right (And.right (by with_reducible assumption)))) | exact Nat.ne_of_gt (And.left (And.right (And.right (And.right (by with_reducible assumption))))) | exact Nat.ne_of_gt (And.left (And.right (And.right (And.right (And.right (by with_reducible assumption)))))) | exact Nat.ne_of_gt (And.left (And.right (And.right (And.right (And.right (And.right (by with_reducible assumption))))))) | exact Nat.ne_of_gt (And.left (And.right (And.right (And.right (And.right (And.right (And.right (by with_reducible assumption)))))))) | exact Nat.ne_of_gt (And.left (And.right (And.right (And.right (And.right (And.right (And.right (And.right (by with_reducible assumption))))))))) | exact Nat.ne_of_gt (And.left (And.right (And.right (And.right (And.right (And.right (And.right (And.right (And.right (by with_reducible assumption)))))))))) | exact Nat.ne_of_gt (And.left (And.right (And.right (And.right (And.right (And.right (And.right (And.right (And.right (And.right (by with_reducible assumption))))))))))) | exact Nat.ne_of_gt (And.left (And.right (And.right (And.right (And.right (And.right (And.right (And.right (And.right (And.right (And.right (by with_reducible assumption)))))))))))) | exact Nat.ne_of_gt (And.left (And.right (And.right (And.right (And.right (And.right (And.right (And.right (And.right (And.right (And.right (And.right (by with_reducible assumption))))))))))))) | exact Nat.ne_of_gt (And.left (And.right (And.right (And.right (And.right (And.right (And.right (And.right (And.right (And.right (And.right (And.right (And.right (by with_reducible assumption)))))))))))))) | exact Nat.ne_of_gt (And.left (And.right (And.right (And.right (And.right (And.right (And.right (And.right (And.right (And.right (And.right (And.right (And.right (And.right (by with_reducible assumption))))))))))))))) | exact Nat.ne_of_gt (And.left (And.right (And.right (And.right (And.right (And.right (And.right (And.right (And.right (And.right (And.right (And.right (And.right (And.right (And.right (by with_reducible assumption)))))))))))))))) | exact Nat.ne_of_gt (And.left (And.right (And.right (And.right (And.right (And.right (And.right (And.right (And.right (And.right (And.right (And.right (And.right (And.right (And.right (And.right (by with_reducible assumption))))))))))))))))) | omega)
      case ie => (first | exact Nat.ne_of_gt (And.left (by with_reducible assumption)) | exact Nat.ne_of_gt (And.left (And.right (by with_reducible assumption))) | exact Nat.ne_of_gt (And.left (And.right (And.right (by with_reducible assumption)))) | exact Nat.ne_of_gt (And.left (And.right (And.right (And.right (by with_reducible assumption))))) | exact Nat.ne_of_gt (And.left (And.right (And.right (And.right (And.right (by with_reducible assumption)))))) | exact Nat.ne_of_gt (And.left (And.right (And.right (And.right (And.right (And.right (by with_reducible assumption))))))) | exact Nat.ne_of_gt (And.left (And.right (And.right (And.right (And.right (And.right (And.right (by with_reducible assumption)))))))) | exact Nat.ne_of_gt (And.left (And.right (And.right (And.right (And.right (And.right (And.right (And.right (by with_reducible assumption))))))))) | exact Nat.ne_of_gt (And.left (And.right (And.right (And.right (And.right (And.right (And.right (And.right (And.right (by with_reducible assumption)))))))))) | exact Nat.ne_of_gt (And.left (And.right (And.right (And.right (And.right (And.right (And.right (And.right (And.right (And.right (by with_reducible assumption))))))))))) | exact Nat.ne_of_gt (And.left (And.right (And.right (And.right (And.right (And.right (And.right (And.right (And.right (And.right (And.right (by with_reducible assumption)))))))))))) | exact Nat.ne_of_gt (And.left (And.right (And.right (And.right (And.right (And.right (And.right (And.right (And.right (And.right (And.right (And.right (by with_reducible assumption))))))))))))) | exact Nat.ne_of_gt (And.left (And.right (And.right (And.right (And.right (And.right (And.right (And.right (And.right (And.right (And.right (And.right (And.right (by with_reducible assumption)))))))))))))) | exact Nat.ne_of_gt (And.left (And.right (And.right (And.right (And.right (And.right (And.right (And.right (And.right (And.right (And.right (And.right (And.right (And.right (by with_reducible assumption))))))))))))))) | exact Nat.ne_of_gt (And.left (And.right (And.right (And.right (And.right (And.right (And.right (And.right (And.right (And.right (And.right (And.right (And.right (And.right (And.right (by with_reducible assumption)))))))))))))))) | exact Nat.ne_of_gt (And.left (And.right (And.right (And.right (And.right (And.right (And.right (And.right (And.right (And.right (And.right (And.right (And.right (And.right (And.right (And.right (by with_reducible assumption))))))))))))))))) | omega)
      case ia => first | exact .nil | exact .cons _ _ .nil | exact .cons _ _ (.cons _ _ .nil) | exact .cons _ _ (.cons _ _ (.cons _ _ .nil)) | assumption
      case ib => first | (simp; done) | omega | (simp; omega)
      case ic => first | exact fig_one (fig_fm (by decide) (by decide)).1 (fig_fm (by decide) (by decide)).2 | exact fig_one (by omega) (by omega) | exact fig_two (by omega) (by omega) (by omega) (by omega) | exact fig_rep (fig_fm (by decide) (by decide)) | decide
  intro ly vy ny ky iy hy Ny
  obtain ⟨hy1, hy2, hy3, hy4⟩ := hy
  have hy5 := iy.length
  try dsimp only
  k_steps
  refine' End2.intro ?F ?N ?hn (IntsAre.append i1 ix) (IntsAre.append i2 iy) ?e1 ?e2 ?same (fig_step hP hpre hx4 hy4 hx3 hy3)
  case F => k_asm
  case N => k_asm
  case hn => kcj_all
  case e1 => rfl
  case e2 => rfl
  case same =>
    intro z z1 z2 z3 z4
    have z5 : z ≠ Str.ofString "kind" ∧ z ≠ Str.ofString "w" ∧ z ≠ Str.ofString "one" ∧ z ≠ Str.ofString "dots" := by simpa using z4
    obtain ⟨z6, z7, z8, z9⟩ := z5
    simp only [z1, z2, z3, z4, z6, z7, z8, z9, if_false, Bool.false_eq_true]
end
end Mine
end
section
namespace Mine
local macro_rules | `(tactic| walk_at "no such key 0") => `(tactic| skip)
section
variable {w : World} {loose : List Str} {mean : ExcName → Option Value} {mg mb : Str → Option Value} {dp un : Nat} {gd : Option (List Code)} {cn : Str} {cs : Scope} {a : Addr} {ccd : Value} {cl : List (Str × Addr)} {outer : List Env} {A₀ : Around} {base h₀ : Heap} {L : Addr} {m : Str → Option Value} {s : Shared} {Q E : Value → Shared → Prop} {news : List (Addr × Obj)}
local macro_rules | `(tactic| walk_at "inplaceOp Add ref") => `(tactic| (k_here; (with_reducible show wpAny _ _ (inplaceOp Operator.Add (Value.ref _) (Value.ref _)) _ _ _); k_dflt (refine' iaddL_K ?F ?N ?b ?U ?z ?_; (case F => k_asm); (case N => k_asm); (case b => k_mem); (case U => k_upd); (case z => ((try simp only [List.length_append, List.length_cons, List.length_nil, List.length_replicate]); omega)); k_whole); intro h' F' N'; (try dsimp only)))
theorem fig_l2 {xs ys zs : List Int} {v k : Int} (h1 : xs.length ≤ 2) (h2 : k < 4) (h3 : ys.length ≤ 18) (h4 : zs.length ≤ 2) : (xs ++ (List.replicate k.toNat [v]).flatten ++ ys ++ zs).length ≤ 25 := by
  simp; omega
theorem fig_z {xs : List Value} {v : Value} {k : Int} (h1 : xs.length ≤ 100) (h2 : k < 4) : xs.length + (List.replicate k.toNat [v]).flatten.length ≤ 16777216 := by
  simp; omega
set_option maxRecDepth 100000 in
set_option maxHeartbeats 8000000 in
theorem fig_rest {b : List Stmt} {sc : Scope} (hb : stmts? 12 2 = some b) (hs : scope? 12 = some sc) {g : Heap} {L' l lf lo ld : Addr} {vs vf vd : List Value} {ns nf nd : List Int} {nn kf ko kd tk : Nat} {hh : Int} {tt : Tok} {m₀ : Str → Option Value} {h : Heap} {Q : Flow → Shared → Prop}
    (B : Below (ktrTop dp un gd cn cs L a ccd cl outer) base (envX cn cs L a ccd cl :: outer) g) (X : (hd.heap_39 w.params).In g) (T : Top hd.view_39 loose mean mg mb g)
    (F : Fr g L' h (fun y => if y = Str.ofString "front" then some (.ref lf) else if y = Str.ofString "other" then some (.ref lo) else if y = Str.ofString "lead" then some (.ref ld) else if y = Str.ofString "numbers" then some (.ref l) else if y = Str.ofString "head" then some (.int hh tt) else m₀ y))
    (N : News g L' h ((lf, listOf vf.toArray kf) :: (lo, listOf (List.toArray []) ko) :: (ld, listOf vd.toArray kd) :: (l, listOf vs.toArray nn) :: news))
    (i1 : IntsAre vf nf) (iD : IntsAre vd nd) (hI : IntsAre vs ns) (hP : FigI [] nf []) (hns : ∀ n ∈ ns, 0 ≤ n ∧ n < 1000000) (hlen : ns.length ≤ 6) (hnd : nd.length ≤ 2) (hnd' : ∀ x ∈ nd, 0 ≤ x ∧ x < 64)
    (n3 : @Ne Nat lf lo) (n4 : @Ne Nat lf ld) (n5 : @Ne Nat lo ld) (n6 : @Ne Nat lf l) (n7 : @Ne Nat lo l) (n9 : @Ne Nat ld l) (a1 : AllLt lf news) (a2 : AllLt lo news) (a3 : AllLt ld news)
    (hret : ∀ (t l1 l2 : Addr) (vs1 vs2 : List Value) (ns1 ns2 : List Int) (n1 n2 : Nat) (h' : Heap) (tk' : Nat) (m' : Str → Option Value), IntsAre vs1 ns1 → IntsAre vs2 ns2 → (∀ x ∈ ns1, 0 ≤ x ∧ x < 64) → (∀ x ∈ ns2, 0 ≤ x ∧ x < 64) → ns1.length ≤ 25 → ns2.length ≤ 25 → Fr g L' h' m' →
      News g L' h' ((t, { cls := .type "tuple", data := .seq #[.ref l1, .ref l2] }) :: (l1, listOf vs1.toArray n1) :: (l2, listOf vs2.toArray n2) :: (l, listOf vs.toArray nn) :: news) → Q (.ret (.ref t)) { s with heap := h', toks := tk' }) :
    wpAny (model PySem.Challenge.rw_mq0101_01.prog w) ((ktrTop dp un gd cn cs L a ccd cl outer).deeper (envOf (Str.ofString "_law_figures") sc L' 65 (.ref 64))) (execs b (envOf (Str.ofString "_law_figures") sc L' 65 (.ref 64))) Q (fun e s' => wpAny (model PySem.Challenge.rw_mq0101_01.prog w) ((ktrTop dp un gd cn cs L a ccd cl outer).deeper (envOf (Str.ofString "_law_figures") sc L' 65 (.ref 64))) (leaving (envOf (Str.ofString "_law_figures") sc L' 65 (.ref 64)) e) (fun _ s'' => E e s'') (fun e' s'' => E e' s'') s') { s with heap := h, toks := tk } := by
  w_top off
  k_with_none
  revert X; k_fill; intro X
  injection hb with hb
  injection hs with hs
  subst hb hs
  dsimp only [List.drop]
  (k_with "pyIter ref" => refine hold_of ?_)
  k_steps
  unfold Hold
  rename Fr _ _ _ _ => F9
  rename News _ _ _ _ => N9
  refine iter3 (nf := nf) (no := []) (Str.ofString "front") (Str.ofString "other") (Str.ofString "lead") [Str.ofString "kind", Str.ofString "w", Str.ofString "one", Str.ofString "dots"] FigI (by rfl) F9 (by rfl) (by rfl) (by rfl) N9 i1 .nil hI ?_ ?_ ?_
  · exact hP
  · intro pre n post t vf nf kf vo no ko u I oI h tk e hm i1 i2 hP n1 n2 n3' n4' n5' F' N'
    exact fig_turn rfl rfl B X T i1 i2 hP (hns n hm) (by rw [e] at hlen; simp at hlen; omega) n1 n2 n3 n4 n5 n6 n7 a1 a2 F' N'
  · intro vf nf kf vo no ko u h tk i1 i2 hP F' N'
    have hMark := kstMark
    have hl1 := i1.length
    have hl2 := i2.length
    have hld := iD.length
    have hl3 : nf.length ≤ 23 ∧ no.length ≤ 18 := ⟨by have := hP.2.2; omega, by have := hP.2.2; omega⟩
    obtain ⟨hl4, hl5⟩ := hl3
    dsimp only
    k_steps
    · refine' iaddL_K ?F ?N ?b ?U ?z ?_
      case F => k_asm
      case N => k_asm
      case b => k_mem
      case U => k_upd
      case z => exact fig_z (by omega) (Int.fmod_lt_of_pos _ (by decide))
      intro h' F' N'
      dsimp only
      k_steps
      rename Fr _ _ _ _ => F6
      refine' hret _ _ _ _ _ _ _ _ _ _ _ _ ?i1a ?i2a ?b1a ?b2a ?l1a ?l2a F6 (cb_drop ?Na ?hna)
      case Na => k_asm
      case hna => kcj_all
      case i1a => assumption
      case i2a => assumption
      case b1a => exact fig_app hP.1 (by decide)
      case b2a => exact fig_app (fig_app (fig_app hnd' (fig_rep (by decide))) hP.2.1) (by decide)
      case l1a => simp; omega
      case l2a => exact fig_l2 hnd (Int.fmod_lt_of_pos _ (by decide)) (by assumption) (by simp)
    · rename Fr _ _ _ _ => F6
      refine' hret _ _ _ _ _ _ _ _ _ _ _ _ ?i1b ?i2b ?b1b ?b2b ?l1b ?l2b F6 (cb_drop ?Nb ?hnb)
      case Nb => k_asm
      case hnb => kcj_all
      case i1b => assumption
      case i2b => assumption
      case b1b => exact fig_app hP.1 (by decide)
      case b2b => exact fig_app (fig_app hnd' hP.2.1) (by decide)
      case l1b => simp; omega
      case l2b => simp; omega
theorem fr_five {g h : Heap} {L : Addr} {m : Str → Option Value} {a b c d e : Str} {va vb vc vd ve : Value} (F : Fr g L h m) (ha : m a = some va) (hb : m b = some vb) (hc : m c = some vc) (hd : m d = some vd) (he : m e = some ve) : Fr g L h (fun z => if z = a then some va else if z = b then some vb else if z = c then some vc else if z = d then some vd else if z = e then some ve else m z) := by
  have key : (fun z => if z = a then some va else if z = b then some vb else if z = c then some vc else if z = d then some vd else if z = e then some ve else m z) = m := by
    funext z
    by_cases h1 : z = a
    · rw [if_pos h1, h1, ha]
    · rw [if_neg h1]
      by_cases h2 : z = b
      · rw [if_pos h2, h2, hb]
      · rw [if_neg h2]
        by_cases h3 : z = c
        · rw [if_pos h3, h3, hc]
        · rw [if_neg h3]
          by_cases h4 : z = d
          · rw [if_pos h4, h4, hd]
          · rw [if_neg h4]
            by_cases h5 : z = e
            · rw [if_pos h5, h5, he]
            · rw [if_neg h5]
  rw [key]; exact F
set_option maxRecDepth 100000 in
set_option maxHeartbeats 8000000 in
theorem figures_c {l : Addr} {vs : List Value} {ns : List Int} {nn : Nat} {hh : Int} {tt : Tok}
   (B : Below A₀ base outer h₀) (F : Fr h₀ L s.heap m) (X : (hd.heap_39 w.params).In h₀) (N : News h₀ L s.heap ((l, listOf vs.toArray nn) :: news)) (T : Top hd.view_39 loose mean mg mb h₀) (hk : cs.kind = .function)
   (hI : IntsAre vs ns) (hns : ∀ n ∈ ns, 0 ≤ n ∧ n < 1000000) (hlen : ns.length ≤ 6) (hh0 : 0 ≤ hh) (hh1 : hh < 3) (hd : dp + 1 < recursionLimit) (hu : un + 8 < cLine)
   (hret : ∀ (t l1 l2 : Addr) (vs1 vs2 : List Value) (ns1 ns2 : List Int) (n1 n2 : Nat) (h' : Heap) (tk' : Nat), IntsAre vs1 ns1 → IntsAre vs2 ns2 → (∀ x ∈ ns1, 0 ≤ x ∧ x < 64) → (∀ x ∈ ns2, 0 ≤ x ∧ x < 64) → ns1.length ≤ 25 → ns2.length ≤ 25 → Fr h₀ L h' m → 
      News h₀ L h' ((t, { cls := .type "tuple", data := .seq #[.ref l1, .ref l2] }) :: (l1, listOf vs1.toArray n1) :: (l2, listOf vs2.toArray n2) :: (l, listOf vs.toArray nn) :: news) → Q (.ref t) { s with heap := h', toks := tk' }) :
      wpAny (model PySem.Challenge.rw_mq0101_01.prog w) (ktrTop dp un gd cn cs L a ccd cl outer) (call (.ref 65) [.ref l, .int hh tt]) Q E s := by
  w_top off
  k_with_none
  revert X; k_fill; intro X
  obtain rfl | rfl | rfl : hh = 0 ∨ hh = 1 ∨ hh = 2 := by omega
  all_goals
    refine wpAny_call ?_
    k_dflt cell_enter
    (k_with "execs cons" => ((with_reducible show wpAny _ _ (execs [_, _, _] _) _ _ _); refine hold_of ?_))
    k_steps
    unfold Hold
    rename Fr _ _ _ _ => F9
    rename News _ _ _ _ => N9
    have F8 := fr_five F9 (a := Str.ofString "front") (b := Str.ofString "other") (c := Str.ofString "lead") (d := Str.ofString "numbers") (e := Str.ofString "head") (by rfl) (by rfl) (by rfl) (by rfl) (by rfl)
  · refine' fig_rest (nf := [0, 0, 63, 62, 63]) (nd := [0, 0]) rfl rfl ?B0 ?X0 ?T0 F8 (cb_drop N9 ?n0) (.cons _ _ (.cons _ _ (.cons _ _ (.cons _ _ (.cons _ _ .nil))))) (.cons _ _ (.cons _ _ .nil)) hI ?p0 hns hlen (by decide) (by decide) ?m10 ?m20 ?m30 ?m40 ?m50 ?m60 ?m70 ?m80 ?m90 ?ret0
    case B0 => k_asm
    case X0 => k_asm
    case T0 => k_asm
    case n0 => kcj_all
    case p0 => simp [FigI]
    case m10 => omega
    case m20 => omega
    case m30 => omega
    case m40 => omega
    case m50 => omega
    case m60 => omega
    case m70 => first | exact And.right (by with_reducible assumption) | exact And.right (And.right (by with_reducible assumption)) | exact And.right (And.right (And.right (by with_reducible assumption))) | exact And.right (And.right (And.right (And.right (by with_reducible assumption)))) | exact And.right (And.right (And.right (And.right (And.right (by with_reducible assumption))))) | exact And.right (And.right (And.right (And.right (And.right (And.right (by with_reducible assumption)))))) | exact And.right (And.right (And.right (And.right (And.right (And.right (And.right (by with_reducible assumption))))))) | exact And.right (And.right (And.right (And.right (And.right (And.right (And.right (And.right (by with_reducible assumption))))))))
    case m80 => first | exact And.right (by with_reducible assumption) | exact And.right (And.right (by with_reducible assumption)) | exact And.right (And.right (And.right (by with_reducible assumption))) | exact And.right (And.right (And.right (And.right (by with_reducible assumption)))) | exact And.right (And.right (And.right (And.right (And.right (by with_reducible assumption))))) | exact And.right (And.right (And.right (And.right (And.right (And.right (by with_reducible assumption)))))) | exact And.right (And.right (And.right (And.right (And.right (And.right (And.right (by with_reducible assumption))))))) | exact And.right (And.right (And.right (And.right (And.right (And.right (And.right (And.right (by with_reducible assumption))))))))
    case m90 => first | exact And.right (by with_reducible assumption) | exact And.right (And.right (by with_reducible assumption)) | exact And.right (And.right (And.right (by with_reducible assumption))) | exact And.right (And.right (And.right (And.right (by with_reducible assumption)))) | exact And.right (And.right (And.right (And.right (And.right (by with_reducible assumption))))) | exact And.right (And.right (And.right (And.right (And.right (And.right (by with_reducible assumption)))))) | exact And.right (And.right (And.right (And.right (And.right (And.right (And.right (by with_reducible assumption))))))) | exact And.right (And.right (And.right (And.right (And.right (And.right (And.right (And.right (by with_reducible assumption))))))))
    case ret0 =>
      intro t l1 l2 vs1 vs2 ns1 ns2 n1 n2 h' tk' m' i1 i2 b1 b2 le1 le2 F' N'
      k_steps
      exact hret _ _ _ _ _ _ _ _ _ _ _ i1 i2 b1 b2 le1 le2 (by k_asm) (cb_drop (by k_asm) (by kcj_all))
  · refine' fig_rest (nf := [62, 62, 63]) (nd := []) rfl rfl ?B1 ?X1 ?T1 F8 (cb_drop N9 ?n1) (.cons _ _ (.cons _ _ (.cons _ _ .nil))) .nil hI ?p1 hns hlen (by decide) (by decide) ?m11 ?m21 ?m31 ?m41 ?m51 ?m61 ?m71 ?m81 ?m91 ?ret1
    case B1 => k_asm
    case X1 => k_asm
    case T1 => k_asm
    case n1 => kcj_all
    case p1 => simp [FigI]
    case m11 => omega
    case m21 => omega
    case m31 => omega
    case m41 => omega
    case m51 => omega
    case m61 => omega
    case m71 => first | exact And.right (by with_reducible assumption) | exact And.right (And.right (by with_reducible assumption)) | exact And.right (And.right (And.right (by with_reducible assumption))) | exact And.right (And.right (And.right (And.right (by with_reducible assumption)))) | exact And.right (And.right (And.right (And.right (And.right (by with_reducible assumption))))) | exact And.right (And.right (And.right (And.right (And.right (And.right (by with_reducible assumption)))))) | exact And.right (And.right (And.right (And.right (And.right (And.right (And.right (by with_reducible assumption))))))) | exact And.right (And.right (And.right (And.right (And.right (And.right (And.right (And.right (by with_reducible assumption))))))))
    case m81 => first | exact And.right (by with_reducible assumption) | exact And.right (And.right (by with_reducible assumption)) | exact And.right (And.right (And.right (by with_reducible assumption))) | exact And.right (And.right (And.right (And.right (by with_reducible assumption)))) | exact And.right (And.right (And.right (And.right (And.right (by with_reducible assumption))))) | exact And.right (And.right (And.right (And.right (And.right (And.right (by with_reducible assumption)))))) | exact And.right (And.right (And.right (And.right (And.right (And.right (And.right (by with_reducible assumption))))))) | exact And.right (And.right (And.right (And.right (And.right (And.right (And.right (And.right (by with_reducible assumption))))))))
    case m91 => first | exact And.right (by with_reducible assumption) | exact And.right (And.right (by with_reducible assumption)) | exact And.right (And.right (And.right (by with_reducible assumption))) | exact And.right (And.right (And.right (And.right (by with_reducible assumption)))) | exact And.right (And.right (And.right (And.right (And.right (by with_reducible assumption))))) | exact And.right (And.right (And.right (And.right (And.right (And.right (by with_reducible assumption)))))) | exact And.right (And.right (And.right (And.right (And.right (And.right (And.right (by with_reducible assumption))))))) | exact And.right (And.right (And.right (And.right (And.right (And.right (And.right (And.right (by with_reducible assumption))))))))
    case ret1 =>
      intro t l1 l2 vs1 vs2 ns1 ns2 n1 n2 h' tk' m' i1 i2 b1 b2 le1 le2 F' N'
      k_steps
      exact hret _ _ _ _ _ _ _ _ _ _ _ i1 i2 b1 b2 le1 le2 (by k_asm) (cb_drop (by k_asm) (by kcj_all))
  · refine' fig_rest (nf := []) (nd := []) rfl rfl ?B2 ?X2 ?T2 F8 (cb_drop N9 ?n2) .nil .nil hI ?p2 hns hlen (by decide) (by decide) ?m12 ?m22 ?m32 ?m42 ?m52 ?m62 ?m72 ?m82 ?m92 ?ret2
    case B2 => k_asm
    case X2 => k_asm
    case T2 => k_asm
    case n2 => kcj_all
    case p2 => simp [FigI]
    case m12 => omega
    case m22 => omega
    case m32 => omega
    case m42 => omega
    case m52 => omega
    case m62 => omega
    case m72 => first | exact And.right (by with_reducible assumption) | exact And.right (And.right (by with_reducible assumption)) | exact And.right (And.right (And.right (by with_reducible assumption))) | exact And.right (And.right (And.right (And.right (by with_reducible assumption)))) | exact And.right (And.right (And.right (And.right (And.right (by with_reducible assumption))))) | exact And.right (And.right (And.right (And.right (And.right (And.right (by with_reducible assumption)))))) | exact And.right (And.right (And.right (And.right (And.right (And.right (And.right (by with_reducible assumption))))))) | exact And.right (And.right (And.right (And.right (And.right (And.right (And.right (And.right (by with_reducible assumption))))))))
    case m82 => first | exact And.right (by with_reducible assumption) | exact And.right (And.right (by with_reducible assumption)) | exact And.right (And.right (And.right (by with_reducible assumption))) | exact And.right (And.right (And.right (And.right (by with_reducible assumption)))) | exact And.right (And.right (And.right (And.right (And.right (by with_reducible assumption))))) | exact And.right (And.right (And.right (And.right (And.right (And.right (by with_reducible assumption)))))) | exact And.right (And.right (And.right (And.right (And.right (And.right (And.right (by with_reducible assumption))))))) | exact And.right (And.right (And.right (And.right (And.right (And.right (And.right (And.right (by with_reducible assumption))))))))
    case m92 => first | exact And.right (by with_reducible assumption) | exact And.right (And.right (by with_reducible assumption)) | exact And.right (And.right (And.right (by with_reducible assumption))) | exact And.right (And.right (And.right (And.right (by with_reducible assumption)))) | exact And.right (And.right (And.right (And.right (And.right (by with_reducible assumption))))) | exact And.right (And.right (And.right (And.right (And.right (And.right (by with_reducible assumption)))))) | exact And.right (And.right (And.right (And.right (And.right (And.right (And.right (by with_reducible assumption))))))) | exact And.right (And.right (And.right (And.right (And.right (And.right (And.right (And.right (by with_reducible assumption))))))))
    case ret2 =>
      intro t l1 l2 vs1 vs2 ns1 ns2 n1 n2 h' tk' m' i1 i2 b1 b2 le1 le2 F' N'
      k_steps
      exact hret _ _ _ _ _ _ _ _ _ _ _ i1 i2 b1 b2 le1 le2 (by k_asm) (cb_drop (by k_asm) (by kcj_all))
end
end Mine
end
section
namespace Mine
section
variable {w : World} {loose : List Str} {mean : ExcName → Option Value} {mg mb : Str → Option Value} {dp un : Nat} {gd : Option (List Code)} {cn : Str} {cs : Scope} {a : Addr} {ccd : Value} {cl : List (Str × Addr)} {outer : List Env} {A₀ : Around} {base h₀ : Heap} {L : Addr} {m : Str → Option Value} {s : Shared} {Q E : Value → Shared → Prop} {news : List (Addr × Obj)}
def bval (xs : List Int) : Int := xs.foldl (fun v o => v * 256 + o) 0
def ValI (pre : List Int) (v : Int) : Prop := v = bval pre
def figOf (v c k : Int) : Int := Int.fmod (Int.fdiv v (64 ^ (c - 1 - k).toNat)) 64
theorem cnt_eq (k : Nat) : ((k : Int) * 4 + 2).fdiv 3 = (((k * 4 + 2) / 3 : Nat) : Int) := by
  rw [Int.fdiv_eq_ediv_of_nonneg _ (by decide)]; omega
theorem cnt_small {k : Nat} (h : k ≤ 25) : Builtin.Range.small 0 (((k : Int) * 4 + 2).fdiv 3) 1 = true := by
  rw [cnt_eq]; exact small_one (by omega) (by omega) (by omega) (by omega)
theorem cnt_range (k : Nat) : Builtin.Range.rangeSize 0 (((k : Int) * 4 + 2).fdiv 3) 1 = (((k * 4 + 2) / 3 : Nat) : Int) := by
  rw [cnt_eq, rangeSize_nat]; omega
def signOf (nd : List Int) (k : Int) : Int := if k < 62 then k else if nd.any (· == k) then 62 else 63
theorem pow64 {e : Int} (h : e ≤ 40) : (64 : Int) ^ e.toNat ≠ 0 ∧ ((64 : Int) ^ e.toNat).natAbs.log2 < 9000 := by
  have h' : e.toNat ≤ 40 := by omega
  generalize e.toNat = k at h'
  have e1 : (64 : Int) ^ k = ((64 ^ k : Nat) : Int) := by simp
  rw [e1]
  have hp : 0 < 64 ^ k := Nat.pow_pos (by decide)
  refine ⟨by omega, ?_⟩
  rw [Int.natAbs_natCast]
  refine (Nat.log2_lt (by omega)).mpr ?_
  refine Nat.lt_of_le_of_lt (Nat.pow_le_pow_right (by decide) h') ?_
  rw [show (64 : Nat) = 2 ^ 6 from rfl, ← Nat.pow_mul]
  exact Nat.pow_lt_pow_right (by decide) (by decide)
def signsOf (b : Array UInt8) (nd : List Int) : List Int :=
  ((rangeKs 0 ((b.size * 4 + 2) / 3)).map (figOf (bval (KBw.bInts b) * 2 ^ (((b.size : Int) * 4 + 2).fdiv 3 * 6 - (b.size : Int) * 8).toNat) (((b.size : Int) * 4 + 2).fdiv 3))).map (signOf nd) ++ List.replicate ((-((b.size : Int) * 4 + 2).fdiv 3).fmod 4).toNat 64
theorem ints_cast {vs : List Value} {ns ms : List Int} (h : IntsAre vs ns) (e : ns = ms) : IntsAre vs ms := e ▸ h
theorem flat_rep (k : Nat) (x : Int) : (List.replicate k [x]).flatten = List.replicate k x := by
  induction k with
  | zero => rfl
  | succ k ih => rw [List.replicate_succ, List.flatten_cons, ih]; rfl
theorem signs_fin {b : Array UInt8} {nd : List Int} {v : Int} (h : ValI (KBw.bInts b) v) :
    (((rangeKs 0 ((b.size * 4 + 2) / 3)).map (figOf (v * 2 ^ (((b.size : Int) * 4 + 2).fdiv 3 * 6 - (b.size : Int) * 8).toNat) (((b.size : Int) * 4 + 2).fdiv 3))).map (fun k' => if k' < 62 then k' else if (nd.any fun x => x == k') = true then 62 else if (nd.any fun x => x == k') = false then 63 else k') ++ (List.replicate ((-((b.size : Int) * 4 + 2).fdiv 3).fmod 4).toNat [64]).flatten) = signsOf b nd := by
  unfold ValI at h
  subst h
  have e : (fun k' : Int => if k' < 62 then k' else if (nd.any fun x => x == k') = true then 62 else if (nd.any fun x => x == k') = false then 63 else k') = signOf nd := by
    funext k'
    unfold signOf
    by_cases h1 : k' < 62
    · simp [h1]
    · simp only [h1, if_false]
      cases nd.any fun x => x == k' <;> simp
  rw [e, flat_rep]
  rfl
theorem val_step {pre : List Int} {v n : Int} (h : ValI pre v) : ValI (pre ++ [n]) (v * 256 + n) := by
  unfold ValI at *; rw [h]; simp [bval]
theorem pow_small {e : Int} (h : e ≤ 4) : (1 : Int) ≤ 2 ^ e.toNat ∧ (2 : Int) ^ e.toNat ≤ 16 := by
  have h' : e.toNat ≤ 4 := by omega
  generalize e.toNat = k at h'
  have : k = 0 ∨ k = 1 ∨ k = 2 ∨ k = 3 ∨ k = 4 := by omega
  rcases this with rfl | rfl | rfl | rfl | rfl <;> decide
theorem exp_small (k : Nat) : ((k : Int) * 4 + 2).fdiv 3 * 6 - (k : Int) * 8 ≤ 4 := by
  rw [Int.fdiv_eq_ediv_of_nonneg _ (by decide)]; omega
local macro_rules | `(tactic| walk_at "compareOp In") => `(tactic| (k_here; (with_reducible show wpAny _ _ (compareOp CmpOp.In (Value.int _ _) (Value.ref _)) _ _ _); k_dflt (refine' in_tupI ?N ?b ?i ?_; (case N => k_asm); (case b => k_mem); (case i => assumption); k_whole)))
set_option maxRecDepth 100000 in
set_option maxHeartbeats 8000000 in
theorem signs_c {d : Addr} {vd : List Value} {nd : List Int} {b : Array UInt8} {tb : Tok}
   (B : Below A₀ base outer h₀) (F : Fr h₀ L s.heap m) (X : (hd.heap_39 w.params).In h₀) (N : News h₀ L s.heap ((d, { cls := .type "tuple", data := .seq vd.toArray }) :: news)) (T : Top hd.view_39 loose mean mg mb h₀) (hk : cs.kind = .function)
   (hI : IntsAre vd nd) (hnd : nd.length ≤ 2) (hlen : b.size ≤ 25) (hd : dp + 1 < recursionLimit) (hu : un + 8 < cLine)
   (hret : ∀ (l' : Addr) (vs' : List Value) (n' : Nat) (h' : Heap) (tk' : Nat), IntsAre vs' (signsOf b nd) → Fr h₀ L h' m → 
      News h₀ L h' ((l', listOf vs'.toArray n') :: (d, { cls := .type "tuple", data := .seq vd.toArray }) :: news) → (∀ p ∈ news, p.1 < l') → Q (.ref l') { s with heap := h', toks := tk' }) :
      wpAny (model PySem.Challenge.rw_mq0101_01.prog w) (ktrTop dp un gd cn cs L a ccd cl outer) (call (.ref 77) [.bytes b tb, .ref d]) Q E s := by
  w_top off
  k_with_none
  revert X; k_fill; intro X
  refine wpAny_call ?_
  k_dflt (refine' code_defC ?k1 ?k2 ?k3 ?k4 ?k5 ?kA ?kF ?kK ?k6 ?k7 ?k8 ?k9 ?kB ?kD ?_ ?c2 ?c3 ?c4; (case kA => exact rfl); (case kF => exact rfl); (case kK => assumption); (case k1 => k_asm); (case k2 => k_asm); (case k3 => k_asm); (case k4 => k_asm); (case k5 => k_asm); (case k6 => k_is); (case k7 => k_is); (case k8 => ktr_room); (case k9 => exact BindsTo.of_eq rfl); (case kB => exact rfl); (case kD => decide +kernel); (case c2 => exact rfl); (case c3 => exact rfl); (case c4 => exact rfl); k_whole; intro g' L' h' tk' cells' FG' F' N' Y' B' X' T' l1; (try k_lt l1); k_cells Y'; (try simp only [List.cons_append, List.nil_append] at N'); (try dsimp only); (try k_lift B'); (try k_fold))
  have hMark := kstMark
  have c1 : AllLt (L' + 1) news := allLt_le (by omega) l1.2
  have c2 : AllLt (L' + 1 + 1) news := allLt_le (by omega) l1.2
  have c3 : AllLt (L' + 1 + 1 + 1) news := allLt_le (by omega) l1.2
  (k_with "pyIter bytes" => refine hold_of ?_)
  k_steps
  unfold Hold
  refine bytes_cell ValI (by rfl) (by k_asm) (by k_asm) (by assumption) ?_ ?_ ?_
  · simp [ValI, bval]
  · intro pre n post t I oI ov v tv h tk e h0 h1 hP hd' n1 n2 F' N'
    have n3 : ∀ p ∈ news, p.1 ≠ I := fun p hp => n2 p (by simp [hp])
    dsimp only [List.cons_append, List.nil_append] at N' ⊢
    k_steps
    refine' EndC.intro ?F ?N ?hn ?hd ?e ?hP
    case F => k_asm
    case N => k_asm
    case hn => kcj_all
    case hd => assumption
    case e => intro z hz; simp only [hz, if_false]
    case hP => exact val_step hP
  · intro u ov v tv h tk hP hd' F' N'
    dsimp only
    k_steps
    obtain ⟨hp1, hp2⟩ := pow_small (exp_small b.size)
    refine PyProof.Rows.imul_int ?_ (IntMulOk.of_right (intBits_le_64 (by omega) (by omega)))
    dsimp only
    k_steps
    refine LCg.CompSrc.range (n := (b.size * 4 + 2) / 3) (by rfl) (by k_asm) (by k_asm) (by assumption) (cnt_small hlen) (cnt_range b.size) (by rw [sizeLine_eq]; omega) ?_
    intro gg
    refine kcf_range (figOf (v * 2 ^ (((b.size : Int) * 4 + 2).fdiv 3 * 6 - (b.size : Int) * 8).toNat) (((b.size : Int) * 4 + 2).fdiv 3)) (fun k t I oI C oC D m₂ ys h tk E' hlo hhi hC hx F N off ne mk => ?_) ?_
    · have hcc := cnt_eq b.size
      k_steps
      obtain ⟨hq1, hq2⟩ := pow64 (e := ((b.size : Int) * 4 + 2).fdiv 3 - 1 - k) (by omega)
      refine floordiv_int hq1 ?_ (.inl (PyProof.noPylong_of_log2 hq2))
      dsimp only
      k_steps
      exact ⟨rfl, _, rfl⟩
    · unfold KPfDone LCg.FinA
      intro ys iy D h tk F N off
      have hyl := iy.length
      rw [List.length_map, rangeKs_length] at hyl
      k_steps
      refine' hret _ _ _ _ _ (ints_cast ?i (signs_fin hP)) ?F (cb_drop ?N ?hn) ?lt
      case N => k_asm
      case hn => kcj_all
      case F => k_asm
      case i => assumption
      case lt => intro p hp; exact allLt_mem (by simp_all) hp
end
end Mine
end
section
namespace Mine
section
variable {w : World} {loose : List Str} {mean : ExcName → Option Value} {mg mb : Str → Option Value} {dp un : Nat} {gd : Option (List Code)} {cn : Str} {cs : Scope} {a : Addr} {ccd : Value} {cl : List (Str × Addr)} {outer : List Env} {A₀ : Around} {base h₀ : Heap} {L : Addr} {m : Str → Option Value} {s : Shared} {Q E : Value → Shared → Prop} {news : List (Addr × Obj)}
def patStep (parts : List Int) (sign : Int) : List Int :=
  if (parts ++ [sign]).drop ((parts ++ [sign]).length - 3) = [62, 62, 62] then (parts ++ [sign]).take ((parts ++ [sign]).length - 3) ++ [-1] else parts ++ [sign]
def patOf (signs : List Int) : List Int := signs.foldl patStep []
def PatI (pre parts : List Int) : Prop := parts = patOf pre ∧ parts.length ≤ pre.length ∧ pre.length ≤ 100
theorem ints_push {vs : List Value} {ns : List Int} {k : Int} {t : Tok} (h : IntsAre vs ns) : IntsAre (vs.toArray.push (.int k t)).toList (ns ++ [k]) := by
  simpa using IntsAre.append h (.cons k t .nil)
theorem pat_start : PatI [] [] := ⟨rfl, Nat.le_refl _, Nat.zero_le _⟩
theorem pat_ints {vs : List Value} {ns : List Int} {k : Int} {t u : Tok} (h : IntsAre vs ns) : IntsAre ((vs.toArray.push (.int k t)).toList.take ((vs.toArray.push (.int k t)).toList.length - 3) ++ #[Value.int (-1) u].toList) ((ns ++ [k]).take ((ns ++ [k]).length - 3) ++ [-1]) := by
  have h2 : IntsAre (vs ++ [.int k t]) (ns ++ [k]) := IntsAre.append h (.cons k t .nil)
  have e : (vs.toArray.push (.int k t)).toList = vs ++ [.int k t] := by simp
  rw [e, h2.length]
  exact IntsAre.append (h2.take _) (.cons _ _ .nil)
theorem pat_no {pre parts : List Int} {k : Int} (h1 : parts = patOf pre) (h2 : parts.length ≤ pre.length) (h3 : pre.length + 1 ≤ 100) (h : ¬ (parts ++ [k]).drop ((parts ++ [k]).length - 3) = [62, 62, 62]) : PatI (pre ++ [k]) (parts ++ [k]) := by
  refine ⟨?_, by simp; omega, by simp; omega⟩
  unfold patOf at *
  rw [List.foldl_append, ← h1]
  simp only [List.foldl_cons, List.foldl_nil, patStep, if_neg h]
theorem pat_yes {pre parts : List Int} {k : Int} (h1 : parts = patOf pre) (h2 : parts.length ≤ pre.length) (h3 : pre.length + 1 ≤ 100) (h : (parts ++ [k]).drop ((parts ++ [k]).length - 3) = [62, 62, 62]) : PatI (pre ++ [k]) ((parts ++ [k]).take ((parts ++ [k]).length - 3) ++ [-1]) := by
  refine ⟨?_, by simp; omega, by simp; omega⟩
  unfold patOf at *
  rw [List.foldl_append, ← h1]
  simp only [List.foldl_cons, List.foldl_nil, patStep, if_pos h]
theorem pat_len {vs : List Value} {k : Int} {t u : Tok} (h : 3 ≤ vs.length + 1) : ((vs.toArray.push (.int k t)).toList.take ((vs.toArray.push (.int k t)).toList.length - 3) ++ #[Value.int (-1) u].toList).length ≠ (vs.toArray.push (.int k t)).toList.length := by
  have e : (vs.toArray.push (.int k t)).toList = vs ++ [.int k t] := by simp
  rw [e]
  simp only [List.length_append, List.length_take, List.length_cons, List.length_nil]
  omega
theorem news_drop3 {h₀ : Heap} {L : Addr} {h : Heap} {p q r : Addr × Obj} {l : List (Addr × Obj)} (N : News h₀ L h (p :: q :: r :: l)) : News h₀ L h (p :: q :: l) := fun x hx => N x (by
  rcases List.mem_cons.mp hx with rfl | hx
  · exact .head _
  · rcases List.mem_cons.mp hx with rfl | hx
    · exact .tail _ (.head _)
    · exact .tail _ (.tail _ (.tail _ hx)))
theorem pat_long {xs : List Int} (h : xs.drop (xs.length - 3) = [62, 62, 62]) : 3 ≤ xs.length := by
  have := congrArg List.length h
  simp at this
  omega
theorem setSlice3' {prog : Program} {A : Around} {E : Value → Shared → Prop} {D v : Addr} {news' : List (Addr × Obj)} {its new : Array Value} {n nv : Nat} {t : Tok} {Q : Unit → Shared → Prop} (F : Fr h₀ L s.heap m) (N : News h₀ L s.heap news) (hv : (v, listOf new nv) ∈ news) (hne : @Ne Nat D v)
    (U : Upd D (listOf its n) (listOf (its.toList.take (its.toList.length - 3) ++ new.toList).toArray (n + 1)) news news') (hz : its.toList.length + new.toList.length ≤ 1000) (hlen : (its.toList.take (its.toList.length - 3) ++ new.toList).length ≠ its.toList.length)
    (h : ∀ h', Fr h₀ L h' m → News h₀ L h' news' → Q () { s with heap := h' }) :
    wpAny (model prog w) A (setItem (.ref D) (.ref s.heap.objs.size) (.ref v)) Q E { s with heap := s.heap.push { cls := .type "slice", data := .fields #[.int (-3) t, .none, .none] } } := by
  rw [← Array.toArray_toList (xs := its)] at U
  rw [← Array.toArray_toList (xs := new)] at hv
  simp only [Array.toArray_toList] at U hv
  exact setSlice3 F N (by rw [Array.toArray_toList]; exact hv) hne (by rw [Array.toArray_toList]; exact U) hz hlen h
set_option maxRecDepth 100000 in
set_option maxHeartbeats 8000000 in
theorem pattern_c {l : Addr} {vs : List Value} {ns : List Int} {nn : Nat}
   (B : Below A₀ base outer h₀) (F : Fr h₀ L s.heap m) (X : (hd.heap_39 w.params).In h₀) (N : News h₀ L s.heap ((l, listOf vs.toArray nn) :: news)) (T : Top hd.view_39 loose mean mg mb h₀) (hk : cs.kind = .function)
   (hI : IntsAre vs ns) (hlen : ns.length ≤ 100) (hd : dp + 1 < recursionLimit) (hu : un + 200 < cLine)
   (hret : ∀ (l' : Addr) (vs' : List Value) (n' : Nat) (h' : Heap) (tk' : Nat), IntsAre vs' (patOf ns) → Fr h₀ L h' m → 
      News h₀ L h' ((l', listOf vs'.toArray n') :: (l, listOf vs.toArray nn) :: news) → (∀ p ∈ news, p.1 < l') → Q (.ref l') { s with heap := h', toks := tk' }) :
      wpAny (model PySem.Challenge.rw_mq0101_01.prog w) (ktrTop dp un gd cn cs L a ccd cl outer) (call (.ref 84) [.ref l]) Q E s := by
  w_top off
  k_with_none
  revert X; k_fill; intro X
  refine wpAny_call ?_
  k_dflt cell_enter
  (k_with "pyIter ref" => k_state (fun pre parts => PatI pre parts) "parts")
  (k_with "state" => exact pat_start)
  k_steps
  · rename PatI _ _ => hz
    obtain ⟨hz1, hz2, hz3⟩ := hz
    k_steps
    refine eq_slice3 (by k_asm) (by k_mem) (by k_mem) (ints_push (by assumption)) (.cons _ _ (.cons _ _ (.cons _ _ .nil))) (by ktr_units) ?_
    k_steps
    · rename List.drop _ _ = [62, 62, 62] => hdrop
      have hlong := pat_long hdrop
      simp only [List.length_append, List.length_cons, List.length_nil] at hlong
      (rename News _ _ _ _ => N9)
      have N10 := news_drop3 N9
      clear N9
      refine' setSlice3' ?F ?N ?v ?ne ?U ?z ?l ?_
      case F => k_asm
      case N => k_asm
      case v => k_mem
      case ne => omega
      case U => k_upd
      case z => simp; omega
      case l => exact pat_len (by omega)
      intro h' F' N'
      dsimp only
      k_steps
      refine' kst_end ⟨_, _, _⟩ ?F ?N ?a ?b rfl ?f ?kq ?rq ?pq
      case F => k_asm
      case N => k_asm
      case a => kst_inAny
      case b => kst_anyIn
      case f => exact pat_ints (by assumption)
      case kq => exact fun _ h => nomatch h
      case rq => intro z h1 h2 h3; simp [h1]
      case pq => exact pat_yes hz1 hz2 (by omega) hdrop
    · refine' kst_end ⟨_, _, _⟩ ?F ?N ?a ?b rfl ?f ?kq ?rq ?pq
      case F => k_asm
      case N => k_asm
      case a => kst_inAny
      case b => kst_anyIn
      case f => exact ints_push (by assumption)
      case kq => exact fun _ h => nomatch h
      case rq => intro z h1 h2 h3; simp [h1]
      case pq => exact pat_no hz1 hz2 (by omega) (by assumption)
  · rename PatI _ _ => hz
    obtain ⟨hz1, hz2, hz3⟩ := hz
    refine' hret _ _ _ _ _ (ints_cast (by assumption) hz1) ?F (cb_drop ?N ?hn) ?lt
    case N => k_asm
    case hn => kcj_all
    case F => k_asm
    case lt => intro p hp; exact allLt_mem (by simp_all) hp
end
end Mine
end
section
namespace Mine
local macro_rules | `(tactic| walk_at "no such key 0") => `(tactic| skip)
local macro_rules | `(tactic| walk_at "no such key 1") => `(tactic| skip)
section
variable {w : World} {loose : List Str} {mean : ExcName → Option Value} {mg mb : Str → Option Value} {dp un : Nat} {gd : Option (List Code)} {cn : Str} {cs : Scope} {a : Addr} {ccd : Value} {cl : List (Str × Addr)} {outer : List Env} {A₀ : Around} {base h₀ : Heap} {L : Addr} {m : Str → Option Value} {s : Shared} {Q E : Value → Shared → Prop} {news : List (Addr × Obj)}
def fitStep (ks ends : List Int) (part : Int) : List Int :=
  if part = -1 then (match ends with
    | [] => []
    | e :: _ => rangeKs e (Int.toNat ((ks.length : Int) + 1 - e)))
  else (ends.filter fun p : Int => decide (p < ks.length) && decide (ks.getD p.toNat 0 = part)).map (· + 1)
def FitI (ns ks : List Int) (i : Nat) (ends : List Int) : Prop := ends = (ns.take i).foldl (fitStep ks) [0] ∧ ends.length ≤ 101 ∧ ∀ x ∈ ends, 0 ≤ x ∧ x ≤ ks.length
theorem fit_item {vs : List Value} {ns : List Int} {i : Nat} {v : Value} (hI : IntsAre vs ns) (hv : vs[i]? = some v) : ∃ p t, v = .int p t ∧ ns[i]? = some p := by
  have hlt : i < ns.length := by
    rw [← hI.length]; exact (List.getElem?_eq_some_iff.mp hv).1
  obtain ⟨t, hx⟩ := hI.get i ns[i] (by simp [hlt])
  rw [hx] at hv
  exact ⟨ns[i], t, (Option.some.inj hv).symm, by simp [hlt]⟩
def fitsOf (ns ks : List Int) : Bool := (ns.foldl (fitStep ks) [0]).any (fun x => x == (ks.length : Int))
theorem fits_eq {vs : List Value} {ns ks ne : List Int} (hI : IntsAre vs ns) (h : ne = (ns.take vs.length).foldl (fitStep ks) [0]) : (ne.any fun x => x == (ks.length : Int)) = fitsOf ns ks := by
  rw [h, hI.length, List.take_length]; rfl
theorem off1_mem {D : Addr} : ∀ {l : List (Addr × Obj)}, LCg.Off1 D l → ∀ {p : Addr × Obj}, p ∈ l → p.1 ≠ D
  | [], _, _, h => nomatch h
  | _ :: _, x, p, h => by
    rcases List.mem_cons.mp h with rfl | h
    · exact x.1
    · exact off1_mem x.2 h
theorem l1_out {a b c d e D I : Nat} {oI : Obj} {news : List (Addr × Obj)} (h : a < D ∧ b < D ∧ c < D ∧ d < D ∧ e < D ∧ AllLt D (news ++ [(I, oI)])) : D ≠ I := by
  have := allLt_one (allLt_right h.2.2.2.2.2)
  omega
theorem fit_cast {ns ks xs ys : List Int} {i : Nat} (h : FitI ns ks i xs) (e : xs = ys) : FitI ns ks i ys := e ▸ h
theorem fit_m1 {ks ne : List Int} {part : Int} (h : part = -1) (h0 : 0 < ne.length) : fitStep ks ne part = rangeKs (ne.getD (Int.toNat 0) 0) (Int.toNat ((ks.length : Int) + 1 - ne.getD (Int.toNat 0) 0)) := by
  cases ne with
  | nil => simp at h0
  | cons e r => simp [fitStep, h]
theorem fit_m0 {ks ne : List Int} {part : Int} (h : part = -1) (h0 : ¬ 0 < ne.length) : fitStep ks ne part = [] := by
  cases ne with
  | nil => simp [fitStep, h]
  | cons e r => simp at h0
theorem fit_p {ks ne : List Int} {part : Int} (h : part ≠ -1) : fitStep ks ne part = (ne.filter fun q : Int => decide (q < ks.length) && decide (ks.getD q.toNat 0 = part)).map (fun q => q + 1) := by
  simp only [fitStep, if_neg h]
theorem fit_next {ns ks ne : List Int} {i : Nat} {part : Int} (h : FitI ns ks i ne) (hp : ns[i]? = some part) (hk : ks.length ≤ 100) : FitI ns ks (i + 1) (fitStep ks ne part) := by
  obtain ⟨h1, h2, h3⟩ := h
  refine ⟨?_, ?_⟩
  · rw [List.take_add_one, hp]
    simp only [Option.toList_some, List.foldl_append, List.foldl_cons, List.foldl_nil]
    rw [← h1]
  by_cases hm : part = -1
  · cases ne with
    | nil => simp [fitStep, hm]
    | cons e r =>
      have he := h3 e (.head _)
      simp only [fitStep, hm, if_true]
      refine ⟨by rw [rangeKs_length]; omega, fun x hx => ?_⟩
      have := mem_rangeKs hx
      omega
  · rw [fit_p hm]
    refine ⟨by rw [List.length_map]; exact Nat.le_trans (List.length_filter_le _ _) h2, fun x hx => ?_⟩
    obtain ⟨q, hq, rfl⟩ := List.mem_map.mp hx
    obtain ⟨hq1, hq2⟩ := List.mem_filter.mp hq
    have := h3 q hq1
    simp only [Bool.and_eq_true, decide_eq_true_eq] at hq2
    omega
theorem fit_head {xs : List Int} (h : 0 < xs.length) : xs.getD (Int.toNat 0) 0 ∈ xs := by
  cases xs with
  | nil => simp at h
  | cons x r => simp
set_option maxRecDepth 100000 in
set_option maxHeartbeats 8000000 in
theorem fits_c {l k : Addr} {vs vk : List Value} {ns ks : List Int} {nn nk : Nat}
   (B : Below A₀ base outer h₀) (F : Fr h₀ L s.heap m) (X : (hd.heap_39 w.params).In h₀) (N : News h₀ L s.heap ((l, listOf vs.toArray nn) :: (k, listOf vk.toArray nk) :: news)) (T : Top hd.view_39 loose mean mg mb h₀) (hk : cs.kind = .function)
   (hI : IntsAre vs ns) (hK : IntsAre vk ks) (hlen : ns.length ≤ 100) (hlen' : ks.length ≤ 100) (hd : dp + 1 < recursionLimit) (hu : un + 200 < cLine)
   (hret : ∀ (h' : Heap) (tk' : Nat), Fr h₀ L h' m → 
      News h₀ L h' ((l, listOf vs.toArray nn) :: (k, listOf vk.toArray nk) :: news) → Q (.bool (fitsOf ns ks)) { s with heap := h', toks := tk' }) :
      wpAny (model PySem.Challenge.rw_mq0101_01.prog w) (ktrTop dp un gd cn cs L a ccd cl outer) (call (.ref 89) [.ref l, .ref k]) Q E s := by
  w_top off
  k_with_none
  revert X; k_fill; intro X
  refine wpAny_call ?_
  k_dflt (refine' code_defC ?k1 ?k2 ?k3 ?k4 ?k5 ?kA ?kF ?kK ?k6 ?k7 ?k8 ?k9 ?kB ?kD ?_ ?c2 ?c3 ?c4; (case kA => exact rfl); (case kF => exact rfl); (case kK => assumption); (case k1 => k_asm); (case k2 => k_asm); (case k3 => k_asm); (case k4 => k_asm); (case k5 => k_asm); (case k6 => k_is); (case k7 => k_is); (case k8 => ktr_room); (case k9 => exact BindsTo.of_eq rfl); (case kB => exact rfl); (case kD => decide +kernel); (case c2 => exact rfl); (case c3 => exact rfl); (case c4 => exact rfl); k_whole; intro g' L' h' tk' cells' FG' F' N' Y' B' X' T' l1; (try k_lt l1); k_cells Y'; (try simp only [List.cons_append, List.nil_append] at N'); (try dsimp only); (try k_lift B'); (try k_fold))
  have hMark := kstMark
  have c1 : AllLt (L' + 1) news := allLt_le (by omega) l1.2.2
  have c2 : AllLt (L' + 1 + 1) news := allLt_le (by omega) l1.2.2
  k_steps
  refine' forEnds (l := l) (vs := vs) (nn := nn) (ne := [0]) (fix := (L' + 1, _) :: (l, listOf vs.toArray nn) :: (k, listOf vk.toArray nk) :: news) (Str.ofString "ends") (FitI ns ks) ?hh ?hit ?hx ?hkf ?hc ?hl ?F (cb_drop ?N ?hn) ?hoc ?hec ?hfc ?hi ?hy ?hp ?turn ?done
  case hh => rfl
  case hit => intro Q' hq; k_steps; exact hq
  case hx => rfl
  case hkf => rfl
  case hc => rfl
  case F => k_asm
  case hy => rfl
  case N => k_asm
  case hn => kcj_all
  case hl => k_mem
  case hoc => assumption
  case hi => exact .cons _ _ .nil
  case hec => omega
  case hfc => k_all
  case hp => exact ⟨rfl, by simp, by simp⟩
  case turn =>
    intro i v I oI oc' e ve ne ke h tk hv hP hi hoc he1 he2 he3 hfI F' N'
    obtain ⟨part, tp, rfl, hpart⟩ := fit_item hI hv
    have hPf := fit_next hP hpart hlen'
    obtain ⟨hP1, hP2, hP3⟩ := hP
    have hf1 : @Ne Nat (L' + 1) I := hfI _ (.head _)
    have hf2 : @Ne Nat l I := hfI _ (.tail _ (.head _))
    have hf3 : @Ne Nat k I := hfI _ (.tail _ (.tail _ (.head _)))
    have hli := hi.length
    dsimp only [List.cons_append, List.nil_append] at N' ⊢
    (k_with "exec Assign cons ListComp" => refine hold_of ?_)
    k_steps
    · have h0 : 0 < ne.length := by omega
      obtain ⟨hr1, hr2⟩ := hP3 _ (fit_head h0)
      refine' kll_range (n := Int.toNat ((ks.length : Int) + 1 - ne.getD (Int.toNat 0) 0)) ?hh ?F ?N ?hr ?hs ?hn ?hz ?_
      case hh => rfl
      case F => k_asm
      case N => k_asm
      case hr => assumption
      case hs => exact small_one (by omega) (by omega) (by omega) (by omega)
      case hn => exact rangeSize_nat _ _
      case hz => omega
      intro D us c h' tk F' N' l1 hI'
      have hDI : I < D := l1 (I, oI) (by simp)
      k_lt l1
      dsimp only
      k_steps
      refine' EndE.intro ?F ?N ?hn ?h1 ?h2 ?hi ?hy ?hz ?hP
      case F => k_asm
      case N => k_asm
      case hn => kcj_all
      case hi => exact hI'
      case h1 => omega
      case h2 => omega
      case hy => rfl
      case hz => intro z hz; simp only [hz, if_false]
      case hP => exact fit_cast hPf (fit_m1 (by assumption) h0)
    · refine' EndE.intro ?F2 ?N2 ?hn2 ?h12 ?h22 ?hi2 ?hy2 ?hz2 ?hP2
      case F2 => k_asm
      case N2 => k_asm
      case hn2 => kcj_all
      case hi2 => exact .nil
      case h12 => exact l1_out (by assumption)
      case h22 => omega
      case hy2 => rfl
      case hz2 => intro z hz; simp only [hz, if_false]
      case hP2 => exact fit_cast hPf (fit_m0 (by assumption) (by assumption))
    · unfold Hold
      k_dflt (refine LCt.Assign_ListComp_T (F₀ := by k_asm) (by rfl) (by with_unfolding_all rfl) (by with_unfolding_all rfl) (by decide) (by rfl) (by decide) (by rfl) (by rfl) (by rfl) ?_)
      k_steps
      refine LCt.CompSrcT.ledger (by rfl) (by k_asm) (by k_asm) (by k_mem) (by rw [sizeLine_eq, List.size_toArray]; omega) ?_
      intro gg
      refine kct_list (fun q => decide (q < ks.length) && decide (ks.getD q.toNat 0 = part)) (fun q => q + 1) hi (fun q t I2 oI2 C2 oC2 D2 m2 ys2 h2 tk2 E2 hq hC hx F2 N2 off2 ne2 => ?_) ?_
      · obtain ⟨hq1, hq2⟩ := hP3 q hq
        simp only [LCg.Off3] at off2
        k_steps
        · exact ⟨rfl, _, rfl⟩
        · simp_all
        · exact ⟨rfl, _, rfl⟩
        · rw [Bool.and_eq_false_iff]; exact .inl (decide_eq_false (by omega))
        · exact ⟨rfl, _, rfl⟩
      · intro ys iy
        unfold LCg.FinA
        intro D3 h3 tk3 F3 N3 off3
        dsimp only
        have hDI : D3 ≠ I := fun e => off1_mem off3 (p := (I, oI)) (by simp) e.symm
        have hDc : D3 ≠ L' + 1 + 1 := fun e => off1_mem off3 (p := (L' + 1 + 1, oc')) (by simp) e.symm
        k_steps
        refine' EndE.intro ?F3 ?N3 ?hn3 ?h13 ?h23 ?hi3 ?hy3 ?hz3 ?hP3
        case F3 => k_asm
        case N3 => k_asm
        case hn3 => kcj_all
        case hi3 => exact iy
        case h13 => exact hDI
        case h23 => exact hDc
        case hy3 => rfl
        case hz3 => intro z hz; simp only [hz, if_false]
        case hP3 => exact fit_cast hPf (fit_p (by assumption))
  case done =>
    intro e ve ne ke oc' h tk hP hi F' N'
    obtain ⟨hP1, hP2, hP3⟩ := hP
    have hli := hi.length
    dsimp only
    k_steps
    rw [fits_eq hI hP1]
    refine' hret _ _ ?F4 (cb_drop ?N4 ?hn4)
    case N4 => k_asm
    case hn4 => kcj_all
    case F4 => k_asm
end
end Mine
end
section
namespace Mine
section
variable {w : World} {loose : List Str} {mean : ExcName → Option Value} {mg mb : Str → Option Value} {dp un : Nat} {gd : Option (List Code)} {cn : Str} {cs : Scope} {a : Addr} {ccd : Value} {cl : List (Str × Addr)} {outer : List Env} {A₀ : Around} {base h₀ : Heap} {L : Addr} {m : Str → Option Value} {s : Shared} {Q E : Value → Shared → Prop} {news : List (Addr × Obj)}
def b64 : List Int := [65, 66, 67, 68, 69, 70, 71, 72, 73, 74, 75, 76, 77, 78, 79, 80, 81, 82, 83, 84, 85, 86, 87, 88, 89, 90, 97, 98, 99, 100, 101, 102, 103, 104, 105, 106, 107, 108, 109, 110, 111, 112, 113, 114, 115, 116, 117, 118, 119, 120, 121, 122, 48, 49, 50, 51, 52, 53, 54, 55, 56, 57, 43, 47]
def b64A : Array UInt8 := #[65, 66, 67, 68, 69, 70, 71, 72, 73, 74, 75, 76, 77, 78, 79, 80, 81, 82, 83, 84, 85, 86, 87, 88, 89, 90, 97, 98, 99, 100, 101, 102, 103, 104, 105, 106, 107, 108, 109, 110, 111, 112, 113, 114, 115, 116, 117, 118, 119, 120, 121, 122, 48, 49, 50, 51, 52, 53, 54, 55, 56, 57, 43, 47]
theorem b64A_ints : KBw.bInts b64A = b64 := by decide +kernel
theorem b64_item {prog : Program} {A : Around} {E : Value → Shared → Prop} {value slice : PySem.Expr} {i : Int} {t ui : Tok} {Q : Value → Shared → Prop} (hi : 0 ≤ i ∧ i < 64) (h : ∀ t' k, Q (.int (b64.getD i.toNat 0) t') { s with toks := k })
    (hs : subscripted slice false (.bytes b64A t) (.int i ui) = operate [.bytes b64A t, .int i ui] (getItem (.bytes b64A t) (.int i ui)) := by with_unfolding_all rfl)
    (ht : ∀ r, letTemporaryGo value (.bytes b64A t) r = pure () := by intro _; with_unfolding_all rfl) : wpAny (model prog w) A (subscriptTail value slice (.bytes b64A t) (.int i ui)) Q E s :=
  KBw.item_K b64A_ints (by decide) hi.1 (by exact hi.2) (fun t' k _ _ => h t' k) hs ht
def encStep (st : List Int × Int × Int) (n : Int) : List Int × Int × Int :=
  if st.2.1 = 0 then (st.1 ++ [b64.getD ((st.2.2 * 256 + n) % 65536 / 4 % 64).toNat 0], 2, (st.2.2 * 256 + n) % 65536)
  else if st.2.1 = 2 then (st.1 ++ [b64.getD ((st.2.2 * 256 + n) % 65536 / 16 % 64).toNat 0], 4, (st.2.2 * 256 + n) % 65536)
  else (st.1 ++ [b64.getD ((st.2.2 * 256 + n) % 65536 / 64 % 64).toNat 0] ++ [b64.getD ((st.2.2 * 256 + n) % 65536 % 64).toNat 0], 0, (st.2.2 * 256 + n) % 65536)
def encFold (pre : List Int) : List Int × Int × Int := pre.foldl encStep ([], 0, 0)
def EncI (pre out : List Int) (lb lc : Int) : Prop := encFold pre = (out, lb, lc) ∧ (lb = 0 ∨ lb = 2 ∨ lb = 4) ∧ 0 ≤ lc ∧ lc < 65536 ∧ out.length ≤ 2 * pre.length ∧ pre.length ≤ 25 ∧ ∀ x ∈ out, 0 ≤ x ∧ x < 256
theorem enc_start : EncI [] [] 0 0 := by simp [EncI, encFold]
theorem and_mul256 {c n : Int} (hc : 0 ≤ c) (hn : 0 ≤ n) (hn' : n < 256) : Builtin.bitAnd (c * 256) n = 0 := by
  have h1 : 0 ≤ c * 256 := by omega
  unfold Builtin.bitAnd
  simp only [h1, hn, decide_true]
  obtain ⟨c, rfl⟩ := Int.eq_ofNat_of_zero_le hc
  obtain ⟨n, rfl⟩ := Int.eq_ofNat_of_zero_le hn
  have e1 : ((c : Int) * 256).toNat = c * 256 := by omega
  rw [e1, Int.toNat_natCast]
  have e2 : n &&& (2 ^ 8 - 1) = n := by rw [Nat.and_two_pow_sub_one_eq_mod]; exact Nat.mod_eq_of_lt (by omega)
  have e3 : (c * 256) &&& (2 ^ 8 - 1) = 0 := by rw [Nat.and_two_pow_sub_one_eq_mod]; omega
  have e4 : c * 256 &&& n = 0 := by
    rw [← e2, Nat.and_comm n, ← Nat.and_assoc, e3, Nat.zero_and]
  rw [e4]; rfl
theorem enc_x {c n : Int} (hc : 0 ≤ c) (hn : 0 ≤ n) (hn' : n < 256) : Builtin.bitAnd (Builtin.bitOr (c * 2 ^ Int.toNat 8) n) 65535 = (c * 256 + n) % 65536 := by
  have e : c * 2 ^ Int.toNat 8 = c * 256 := rfl
  rw [bitAnd_m16, bitOr_and, e, and_mul256 hc hn hn', Int.sub_zero]
theorem enc_ix {x : Int} {k : Nat} (m : Int) (hm : (2 : Int) ^ k = m) (hm0 : 0 ≤ m) : Builtin.bitAnd (x.fdiv (2 ^ k)) 63 = x / m % 64 := by
  rw [bitAnd_m6, hm, Int.fdiv_eq_ediv_of_nonneg _ hm0]
theorem enc_fold {pre : List Int} {st : List Int × Int × Int} {n : Int} (h : encFold pre = st) : encFold (pre ++ [n]) = encStep st n := by
  unfold encFold at *
  rw [List.foldl_append, h]; rfl
theorem by_app {xs : List Int} {y : Int} (h : ∀ x ∈ xs, 0 ≤ x ∧ x < 256) (hy : 0 ≤ y ∧ y < 256) : ∀ x ∈ xs ++ [y], 0 ≤ x ∧ x < 256 := by
  intro x hx
  rcases List.mem_append.mp hx with hx | hx
  · exact h x hx
  · rw [List.mem_singleton.mp hx]; exact hy
theorem b64_in (k : Nat) : 0 ≤ b64.getD k 0 ∧ b64.getD k 0 < 256 := KBw.getD_in (by decide)
theorem b64_app {xs : List Int} {k : Nat} (h : ∀ x ∈ xs, 0 ≤ x ∧ x < 256) : ∀ x ∈ xs ++ [b64.getD k 0], 0 ≤ x ∧ x < 256 := by_app h (b64_in k)
theorem enc_t0 {pre no : List Int} {c n : Int} (h : EncI pre no 0 c) (hn : 0 ≤ n) (hn' : n < 256) (hl : pre.length + 1 ≤ 25) :
    EncI (pre ++ [n]) (no ++ [b64.getD (Builtin.bitAnd ((Builtin.bitAnd (Builtin.bitOr (c * 2 ^ Int.toNat 8) n) 65535).fdiv (2 ^ Int.toNat (0 + 8 - 6))) 63).toNat 0]) (0 + 8 - 6) (Builtin.bitAnd (Builtin.bitOr (c * 2 ^ Int.toNat 8) n) 65535) := by
  obtain ⟨h1, h2, h3, h4, h5, h6, h7⟩ := h
  rw [enc_x h3 hn hn', enc_ix 4 rfl (by decide)]
  refine ⟨?_, by omega, by omega, by omega, by simp; omega, by simp; omega, b64_app h7⟩
  rw [enc_fold h1]; simp [encStep]
theorem enc_t2 {pre no : List Int} {c n : Int} (h : EncI pre no 2 c) (hn : 0 ≤ n) (hn' : n < 256) (hl : pre.length + 1 ≤ 25) :
    EncI (pre ++ [n]) (no ++ [b64.getD (Builtin.bitAnd ((Builtin.bitAnd (Builtin.bitOr (c * 2 ^ Int.toNat 8) n) 65535).fdiv (2 ^ Int.toNat (2 + 8 - 6))) 63).toNat 0]) (2 + 8 - 6) (Builtin.bitAnd (Builtin.bitOr (c * 2 ^ Int.toNat 8) n) 65535) := by
  obtain ⟨h1, h2, h3, h4, h5, h6, h7⟩ := h
  rw [enc_x h3 hn hn', enc_ix 16 rfl (by decide)]
  refine ⟨?_, by omega, by omega, by omega, by simp; omega, by simp; omega, b64_app h7⟩
  rw [enc_fold h1]; simp [encStep]
theorem enc_t4 {pre no : List Int} {c n : Int} (h : EncI pre no 4 c) (hn : 0 ≤ n) (hn' : n < 256) (hl : pre.length + 1 ≤ 25) :
    EncI (pre ++ [n]) (no ++ [b64.getD (Builtin.bitAnd ((Builtin.bitAnd (Builtin.bitOr (c * 2 ^ Int.toNat 8) n) 65535).fdiv (2 ^ Int.toNat (4 + 8 - 6))) 63).toNat 0] ++ [b64.getD (Builtin.bitAnd ((Builtin.bitAnd (Builtin.bitOr (c * 2 ^ Int.toNat 8) n) 65535).fdiv (2 ^ Int.toNat (4 + 8 - 6 - 6))) 63).toNat 0]) (4 + 8 - 6 - 6) (Builtin.bitAnd (Builtin.bitOr (c * 2 ^ Int.toNat 8) n) 65535) := by
  obtain ⟨h1, h2, h3, h4, h5, h6, h7⟩ := h
  rw [enc_x h3 hn hn', enc_ix 64 rfl (by decide), enc_ix 1 rfl (by decide), Int.ediv_one]
  refine ⟨?_, by omega, by omega, by omega, by simp; omega, by simp; omega, b64_app (b64_app h7)⟩
  rw [enc_fold h1]; simp [encStep]
def encOut (xs : List Int) : List Int :=
  if (encFold xs).2.1 = 2 then (encFold xs).1 ++ [b64.getD ((encFold xs).2.2 % 4 * 16).toNat 0] ++ [61] ++ [61]
  else if (encFold xs).2.1 = 4 then (encFold xs).1 ++ [b64.getD ((encFold xs).2.2 % 16 * 4).toNat 0] ++ [61]
  else (encFold xs).1
theorem enc_o0 {xs no : List Int} {c : Int} (h : EncI xs no 0 c) : no = encOut xs := by
  unfold encOut; rw [h.1]; simp
theorem enc_o2 {xs no : List Int} {c : Int} (h : EncI xs no 2 c) : no ++ [b64.getD (Builtin.bitAnd c 3 * 2 ^ Int.toNat 4).toNat 0] ++ [61] ++ [61] = encOut xs := by
  unfold encOut; rw [h.1, bitAnd_m2]; simp only [if_true]; rfl
theorem enc_o4 {xs no : List Int} {c : Int} (h : EncI xs no 4 c) : no ++ [b64.getD (Builtin.bitAnd c 15 * 2 ^ Int.toNat 2).toNat 0] ++ [61] = encOut xs := by
  unfold encOut; rw [h.1, bitAnd_m4]; simp only [show ¬ ((4 : Int) = 2) by decide, if_false, if_true]; rfl
theorem ints_castA {vs ws : List Value} {ns : List Int} (h : IntsAre vs ns) (e : vs = ws) : IntsAre ws ns := e ▸ h
theorem ints_push3 {vs : List Value} {ns : List Int} {k j i : Int} {t u v : Tok} (h : IntsAre vs ns) : IntsAre (((vs.toArray.push (.int k t)).push (.int j u)).push (.int i v)).toList (ns ++ [k] ++ [j] ++ [i]) := by
  simpa using IntsAre.append (IntsAre.append (IntsAre.append h (.cons k t .nil)) (.cons j u .nil)) (.cons i v .nil)
theorem ints_push2 {vs : List Value} {ns : List Int} {k j : Int} {t u : Tok} (h : IntsAre vs ns) : IntsAre ((vs.toArray.push (.int k t)).push (.int j u)).toList (ns ++ [k] ++ [j]) := by
  simpa using IntsAre.append (IntsAre.append h (.cons k t .nil)) (.cons j u .nil)
theorem mkB {prog : Program} {A : Around} {E : Value → Shared → Prop} {D : Addr} {its : Array Value} {n : Nat} {ns : List Int} {Q : Value → Shared → Prop} (F : Fr h₀ L s.heap m) (N : News h₀ L s.heap news) (hh : A.handled = none) (hm : (D, listOf its n) ∈ news) (hi : IntsAre its.toList ns) (hr : ∀ x ∈ ns, 0 ≤ x ∧ x < 256) (hn : ns.length ≤ 1000)
    (h : ∀ t' h' k, Fr h₀ L h' m → News h₀ L h' news → Q (.bytes (byteArr ns) t') { s with heap := h', toks := k }) : wpAny (model prog w) A (call (.type "bytes") [.ref D]) Q E s :=
  KBa.make_K F N hh (vs := its.toList) ⟨_, (N _ hm).1, rfl, n, by rw [Array.toArray_toList]⟩ hi hr (by omega) (fun h' t' k F' N' _ => h t' h' k F' N')
theorem ints_pushL {vs : List Value} {ns : List Int} {k : Int} {t : Tok} (h : IntsAre vs ns) : IntsAre (vs.toArray.toList.concat (.int k t)) (ns ++ [k]) := by
  simpa using IntsAre.append h (.cons k t .nil)
theorem ints_pushL2 {vs : List Value} {ns : List Int} {k j : Int} {t u : Tok} (h : IntsAre vs ns) : IntsAre ((vs.toArray.push (.int k t)).toList.concat (.int j u)) (ns ++ [k] ++ [j]) := by
  simpa using IntsAre.append (IntsAre.append h (.cons k t .nil)) (.cons j u .nil)
theorem idx63 (x : Int) : 0 ≤ Builtin.bitAnd x 63 ∧ Builtin.bitAnd x 63 < 64 := by
  have := bitAnd_range x (y := 63) (by decide)
  omega
theorem and_abs (x : Int) {y : Int} (hy : 0 ≤ y) (hy' : y < 2 ^ 64) : (Builtin.bitAnd x y).natAbs < 2 ^ 64 := by
  have := bitAnd_range x hy
  omega
theorem idx3 (x : Int) : 0 ≤ Builtin.bitAnd x 3 * 2 ^ Int.toNat 4 ∧ Builtin.bitAnd x 3 * 2 ^ Int.toNat 4 < 64 := by
  have := bitAnd_range x (y := 3) (by decide)
  have e : (2 : Int) ^ Int.toNat 4 = 16 := rfl
  rw [e]; omega
theorem idx15 (x : Int) : 0 ≤ Builtin.bitAnd x 15 * 2 ^ Int.toNat 2 ∧ Builtin.bitAnd x 15 * 2 ^ Int.toNat 2 < 64 := by
  have := bitAnd_range x (y := 15) (by decide)
  have e : (2 : Int) ^ Int.toNat 2 = 4 := rfl
  rw [e]; omega
local macro_rules | `(tactic| walk_at "binaryOp LShift int int") => `(tactic| (k_here; (with_reducible show wpAny _ _ (binaryOp Operator.LShift (Value.int (Builtin.bitAnd _ _) _) (Value.int _ _)) _ _ _); (refine lshift_int_small (by decide) (by decide) (and_abs _ (by decide) (by decide)) ?_)))
local macro_rules | `(tactic| walk_at "subscriptTail") => `(tactic| (k_here; (with_reducible show wpAny _ _ (subscriptTail (Expr.Name _ _) _ (Value.bytes _ _) (Value.int _ _)) _ _ _); (with_unfolding_all (refine b64_item ?hb64 ?_)); (case hb64 => first | exact idx63 _ | exact idx3 _ | exact idx15 _); intro _ _))
local macro_rules | `(tactic| k_room) => `(tactic| ktr_room)
local macro_rules | `(tactic| walk_at "call type:type") => `(tactic| (k_here; first | (with_reducible refine call_type_of (typeIs_bytes _ _ _) (by decide +kernel) ?_) | (with_reducible refine call_type_of (typeIs_bool _ _) (by decide +kernel) ?_)))
theorem allLt_of {d : Nat} : ∀ {l : List (Addr × Obj)}, (∀ p, p ∈ l → p.1 < d) → AllLt d l
  | [], _ => trivial
  | x :: r, h => ⟨h x (.head _), allLt_of fun p hp => h p (.tail _ hp)⟩
theorem fr_one {g h : Heap} {L : Addr} {m : Str → Option Value} {a : Str} {va : Value} (F : Fr g L h m) (ha : m a = some va) : Fr g L h (fun z => if z = a then some va else m z) := by
  have e : (fun z => if z = a then some va else m z) = m := by
    funext z
    by_cases h1 : z = a
    · rw [if_pos h1, h1, ha]
    · rw [if_neg h1]
  rw [e]; exact F
set_option maxRecDepth 100000 in
set_option maxHeartbeats 8000000 in
theorem enc_turn {b : List Stmt} {sc : Scope} (hb : loop? 8 5 = some b) (hs : scope? 8 = some sc) {g : Heap} {L' fa lo I : Addr} {code : Value} {oI : Obj} {t ta tc : Tok} {pre no : List Int} {vo : List Value} {ko : Nat} {n lb lc : Int} {news : List (Addr × Obj)} {h : Heap} {tk : Nat} {m₀ : Str → Option Value} {Q : Flow → Shared → Prop}
    (X : (hd.heap_39 w.params).In g) (T : Top hd.view_39 loose mean mg mb g)
    (F : Fr g L' h (fun z => if z = Str.ofString "b" then some (.int n t) else if z = Str.ofString "leftbits" then some (.int lb ta) else if z = Str.ofString "leftchar" then some (.int lc tc) else if z = Str.ofString "out" then some (.ref lo) else m₀ z))
    (N : News g L' h ((lo, listOf (List.toArray vo) ko) :: (news ++ [(I, oI)]))) (hP : EncI pre no lb lc) (hi : IntsAre vo no) (h0 : 0 ≤ n) (h1 : n < 256) (hpl : pre.length + 1 ≤ 25) (n1 : ∀ p ∈ news ++ [(I, oI)], p.1 ≠ lo) :
    wpAny (model PySem.Challenge.rw_mq0101_01.prog w) ((ktrTop dp un gd cn cs L a ccd cl outer).deeper (envOf (Str.ofString "b2a_base64") sc L' fa code)) (execs b (envOf (Str.ofString "b2a_base64") sc L' fa code))
      (EndB g L' lo (news ++ [(I, oI)]) (Str.ofString "leftbits") (Str.ofString "leftchar") (Str.ofString "b") (fun z => if z = Str.ofString "out" then some (.ref lo) else m₀ z) (EncI (pre ++ [n])) { s with heap := h, toks := tk } Q) (fun e s' => wpAny (model PySem.Challenge.rw_mq0101_01.prog w) ((ktrTop dp un gd cn cs L a ccd cl outer).deeper (envOf (Str.ofString "b2a_base64") sc L' fa code)) (leaving (envOf (Str.ofString "b2a_base64") sc L' fa code) e) (fun _ s'' => E e s'') (fun e' s'' => E e' s'') s') { s with heap := h, toks := tk } := by
  w_top off
  k_with_none
  revert X; k_fill; intro X
  injection hb with hb
  injection hs with hs
  subst hb hs
  have hPP := hP
  obtain ⟨_, hP1, hP2, hP3, hP4, hP5, hP6⟩ := hP
  have hli := hi.length
  rcases hP1 with rfl | rfl | rfl
  · k_steps
    refine' EndB.intro ?F ?N ?hn ?hi ?e1 ?e2 ?e3 ?hP
    case F => k_asm
    case N => k_asm
    case hn => kcj_all
    case e1 => rfl
    case e2 => rfl
    case e3 => intro z z1 z2 z3; simp only [z1, z2, z3, if_false]
    case hi => exact ints_pushL hi
    case hP => exact enc_t0 hPP h0 h1 hpl
  · k_steps
    refine' EndB.intro ?F2 ?N2 ?hn2 ?hi2 ?e12 ?e22 ?e32 ?hP2
    case F2 => k_asm
    case N2 => k_asm
    case hn2 => kcj_all
    case e12 => rfl
    case e22 => rfl
    case e32 => intro z z1 z2 z3; simp only [z1, z2, z3, if_false]
    case hi2 => exact ints_pushL hi
    case hP2 => exact enc_t2 hPP h0 h1 hpl
  · k_steps
    refine' EndB.intro ?F3 ?N3 ?hn3 ?hi3 ?e13 ?e23 ?e33 ?hP3
    case F3 => k_asm
    case N3 => k_asm
    case hn3 => kcj_all
    case e13 => rfl
    case e23 => rfl
    case e33 => intro z z1 z2 z3; simp only [z1, z2, z3, if_false]
    case hi3 => exact ints_pushL2 hi
    case hP3 => exact enc_t4 hPP h0 h1 hpl
theorem fr_quad {g h : Heap} {L : Addr} {m : Str → Option Value} {a b c d : Str} {va vb vc vd : Value} (F : Fr g L h m) (ha : m a = some va) (hb : m b = some vb) (hc : m c = some vc) (hd : m d = some vd) : Fr g L h (fun z => if z = a then some va else if z = b then some vb else if z = c then some vc else if z = d then some vd else m z) := by
  have F1 := fr_one F hd
  have e : ∀ {x y : Str} {vx vy : Value}, m x = some vx → m y = some vy → (if x = y then some vy else m x) = some vx := by
    intro x y vx vy hx hy
    by_cases h : x = y
    · rw [if_pos h, ← hy, ← h, hx]
    · rw [if_neg h, hx]
  have F2 := fr_one F1 (a := c) (va := vc) (e hc hd)
  have F3 := fr_one F2 (a := b) (va := vb) (by
    by_cases h : b = c
    · rw [if_pos h, ← hc, ← h, hb]
    · rw [if_neg h]; exact e hb hd)
  exact fr_one F3 (a := a) (va := va) (by
    by_cases h : a = b
    · rw [if_pos h, ← hb, ← h, ha]
    · rw [if_neg h]
      by_cases h : a = c
      · rw [if_pos h, ← hc, ← h, ha]
      · rw [if_neg h]; exact e ha hd)
set_option maxRecDepth 100000 in
set_option maxHeartbeats 8000000 in
theorem enc_done {b : List Stmt} {sc : Scope} (hb : stmts? 8 6 = some b) (hs : scope? 8 = some sc) {g : Heap} {L' fa lo : Addr} {code : Value} {ta tc : Tok} {xs no : List Int} {vo : List Value} {ko : Nat} {lb lc : Int} {news : List (Addr × Obj)} {h : Heap} {tk : Nat} {m₀ : Str → Option Value} {Q : Flow → Shared → Prop}
    (X : (hd.heap_39 w.params).In g) (T : Top hd.view_39 loose mean mg mb g)
    (F : Fr g L' h (fun z => if z = Str.ofString "leftbits" then some (.int lb ta) else if z = Str.ofString "leftchar" then some (.int lc tc) else if z = Str.ofString "out" then some (.ref lo) else if z = Str.ofString "newline" then some (.bool false) else m₀ z))
    (N : News g L' h ((lo, listOf (List.toArray vo) ko) :: news)) (hP : EncI xs no lb lc) (hi : IntsAre vo no) (n1 : AllLt lo news)
    (hret : ∀ (t : Tok) (h' : Heap) (tk' : Nat) (m' : Str → Option Value), Fr g L' h' m' → News g L' h' news → Q (.ret (.bytes (byteArr (encOut xs)) t)) { s with heap := h', toks := tk' }) :
    wpAny (model PySem.Challenge.rw_mq0101_01.prog w) ((ktrTop dp un gd cn cs L a ccd cl outer).deeper (envOf (Str.ofString "b2a_base64") sc L' fa code)) (execs b (envOf (Str.ofString "b2a_base64") sc L' fa code)) Q (fun e s' => wpAny (model PySem.Challenge.rw_mq0101_01.prog w) ((ktrTop dp un gd cn cs L a ccd cl outer).deeper (envOf (Str.ofString "b2a_base64") sc L' fa code)) (leaving (envOf (Str.ofString "b2a_base64") sc L' fa code) e) (fun _ s'' => E e s'') (fun e' s'' => E e' s'') s') { s with heap := h, toks := tk } := by
  w_top off
  k_with_none
  revert X; k_fill; intro X
  injection hb with hb
  injection hs with hs
  subst hb hs
  have hPP := hP
  obtain ⟨_, hP1, hP2, hP3, hP4, hP5, hP6⟩ := hP
  have hMark := kstMark
  have hli := hi.length
  dsimp only [List.drop]
  rcases hP1 with rfl | rfl | rfl
  · k_steps
    rw [enc_o0 hPP]
    rename Fr _ _ _ _ => F9
    rename News _ _ _ _ => N9
    exact hret _ _ _ _ F9 (fun p hp => N9 p (.tail _ hp))
  · k_steps
    refine mkB (by k_asm) (by k_asm) (by rfl) (by k_mem) (ints_push3 hi) (by_app (by_app (b64_app hP6) (by decide)) (by decide)) (by simp; omega) ?_
    intro t' h' k' F' N'
    dsimp only
    k_steps
    rw [enc_o2 hPP]
    exact hret _ _ _ _ F' (fun p hp => N' p (.tail _ hp))
  · k_steps
    refine mkB (by k_asm) (by k_asm) (by rfl) (by k_mem) (ints_push2 hi) (by_app (b64_app hP6) (by decide)) (by simp; omega) ?_
    intro t' h' k' F' N'
    dsimp only
    k_steps
    rw [enc_o4 hPP]
    exact hret _ _ _ _ F' (fun p hp => N' p (.tail _ hp))
set_option maxRecDepth 100000 in
set_option maxHeartbeats 8000000 in
theorem b2a_c {b : Array UInt8} {tb : Tok}
   (B : Below A₀ base outer h₀) (F : Fr h₀ L s.heap m) (X : (hd.heap_39 w.params).In h₀) (N : News h₀ L s.heap news) (T : Top hd.view_39 loose mean mg mb h₀) (hk : cs.kind = .function)
   (hlen : b.size ≤ 25) (hd : dp + 2 < recursionLimit) (hu : un + 200 < cLine)
   (hret : ∀ (t : Tok) (h' : Heap) (tk' : Nat), Fr h₀ L h' m → News h₀ L h' news → Q (.bytes (byteArr (encOut (KBw.bInts b))) t) { s with heap := h', toks := tk' }) :
      wpAny (model PySem.Challenge.rw_mq0101_01.prog w) (ktrTop dp un gd cn cs L a ccd cl outer) (call (.ref 50) [.bytes b tb] [(Str.ofString "newline", .bool false)]) Q E s := by
  w_top off
  k_with_none
  revert X; k_fill; intro X
  refine wpAny_call ?_
  k_dflt (refine' code_def ?k1 ?k2 ?k3 ?k4 ?k5 ?kA ?kF ?kK ?k6 ?k7 ?k8 ?k9 ?kB ?_ ?c2 ?c3 ?c4 ?c5; (case kA => exact rfl); (case kF => exact rfl); (case kK => assumption); (case k1 => k_asm); (case k2 => k_asm); (case k3 => k_asm); (case k4 => k_asm); (case k5 => k_asm); (case k6 => k_is); (case k7 => k_is); (case k8 => ktr_room); (case k9 => first | exact BindsTo.of_eq rfl | exact binds_K (by k_in) rfl (by k_is) rfl rfl rfl); (case c5 => decide); (case kB => exact locs rfl); (case c2 => exact rfl); (case c3 => exact rfl); (case c4 => exact rfl); k_whole; intro g' L' h' FG' F' N' B' X' T'; (try dsimp only); (try k_lift B'); (try k_fold))
  (k_with "pyIter bytes" => refine hold_of ?_)
  k_steps
  unfold Hold
  rename Fr _ _ _ _ => F9
  rename News _ _ _ _ => N9
  rename ∀ p, p ∈ news → _ => hlt0
  have hlt := allLt_of hlt0
  have F8 := fr_one F9 (a := Str.ofString "out") (by rfl)
  refine' bytesO2 (no := []) (rest := news) (Str.ofString "leftbits") (Str.ofString "leftchar") EncI ?hh F8 ?e1 ?e2 N9 ?hi ?hp ?turn ?done
  case hh => rfl
  case e1 => rfl
  case e2 => rfl
  case hi => exact .nil
  case hp => exact enc_start
  case turn =>
    intro pre n post t I oI vo no ko a ta c tc h tk e h0 h1 hP hi n1 n2 F' N'
    have hpl : pre.length + 1 ≤ 25 := by
      have := congrArg List.length e
      rw [KBw.ints_length] at this
      simp at this
      omega
    refine' enc_turn rfl rfl ?X ?T F' N' hP hi h0 h1 hpl ?n1
    case X => k_asm
    case T => k_asm
    case n1 =>
      intro p hp
      rcases List.mem_append.mp hp with hp | hp
      · exact Nat.ne_of_lt (allLt_mem hlt hp)
      · rw [List.mem_singleton.mp hp]; exact fun e => n1 e.symm
  case done =>
    intro u vo no ko a ta c tc h tk hP hi F' N'
    have F7 := fr_quad F' (a := Str.ofString "leftbits") (b := Str.ofString "leftchar") (c := Str.ofString "out") (d := Str.ofString "newline") (by rfl) (by rfl) (by rfl) (by rfl)
    refine' enc_done rfl rfl ?X2 ?T2 F7 N' hP hi hlt ?hret2
    case X2 => k_asm
    case T2 => k_asm
    case hret2 =>
      intro t9 h9 tk9 m9 F5 N5
      k_steps
      exact hret _ _ _ (by k_asm) (cb_drop (by k_asm) (by kcj_all))
end
end Mine
end
section
namespace Mine
section
variable {w : World} {loose : List Str} {mean : ExcName → Option Value} {mg mb : Str → Option Value} {dp un : Nat} {gd : Option (List Code)} {cn : Str} {cs : Scope} {a : Addr} {ccd : Value} {cl : List (Str × Addr)} {outer : List Env} {A₀ : Around} {base h₀ : Heap} {L : Addr} {m : Str → Option Value} {s : Shared} {Q E : Value → Shared → Prop} {news : List (Addr × Obj)}
theorem encStep_len (st : List Int × Int × Int) (n : Int) : (encStep st n).1.length ≤ st.1.length + 2 := by
  unfold encStep; split
  · simp
  · split <;> simp
theorem encFold_len : ∀ (xs : List Int) (st : List Int × Int × Int), (xs.foldl encStep st).1.length ≤ st.1.length + 2 * xs.length
  | [], st => by simp
  | x :: xs, st => by
    have h1 := encFold_len xs (encStep st x)
    have h2 := encStep_len st x
    rw [List.foldl_cons, List.length_cons]; omega
theorem encOut_len (b : Array UInt8) : (encOut (KBw.bInts b)).length ≤ 2 * b.size + 3 := by
  have h := encFold_len (KBw.bInts b) ([], 0, 0)
  rw [KBw.ints_length] at h
  have h : (encFold (KBw.bInts b)).1.length ≤ 0 + 2 * b.size := h
  unfold encOut
  split
  · simp; omega
  · split
    · simp; omega
    · omega
local macro_rules | `(tactic| k_room) => `(tactic| ktr_room)
local macro_rules | `(tactic| walk_at "call ref") => `(tactic| (k_here; (with_reducible show wpAny _ _ (call (Value.ref 50) _ _) _ _ _); k_dflt (refine' b2a_c ?c1 ?c2 ?c3 ?c4 ?c5 ?c6 ?c7 ?c8 ?c9 ?_; (case c1 => k_asm); (case c2 => k_asm); (case c3 => k_asm); (case c4 => k_asm); (case c5 => k_asm); (case c6 => first | exact rfl | assumption); (case c7 => assumption); (case c8 => ktr_room); (case c9 => ktr_units); k_whole); intro t9 h9 tk9 F9 N9; (try dsimp only)))
theorem meta_bytes : typeOf (.type "bytes") = pure (.type "type") := by kernel_rfl
local macro_rules | `(tactic| walk_at "call builtin:bytes.maketrans") => `(tactic| (k_here; (refine maketrans_K ?_); intro _ _; (try dsimp only)))
local macro_rules | `(tactic| walk_at "getMethod bytes") => `(tactic| (k_here; (with_reducible refine method_translate ?_)))
local macro_rules | `(tactic| walk_at "getMethod type:bytes") => `(tactic| (k_here; refine' method_type ?F ?X ?m (by decide +kernel) ?e ?h ?_; (case F => k_asm); (case X => k_asm); (case m => exact meta_bytes); (case e => k_dflt k_is); (case h => k_handed)))
set_option maxRecDepth 100000 in
set_option maxHeartbeats 8000000 in
theorem b64_c {b : Array UInt8} {x y : UInt8} {tb ta : Tok}
   (B : Below A₀ base outer h₀) (F : Fr h₀ L s.heap m) (X : (hd.heap_39 w.params).In h₀) (N : News h₀ L s.heap news) (T : Top hd.view_39 loose mean mg mb h₀) (hk : cs.kind = .function)
   (hlen : b.size ≤ 25) (hd : dp + 3 < recursionLimit) (hu : un + 300 < cLine)
   (hret : ∀ (t : Tok) (h' : Heap) (tk' : Nat), Fr h₀ L h' m → News h₀ L h' news → Q (.bytes ((byteArr (encOut (KBw.bInts b))).map (swap2 x y)) t) { s with heap := h', toks := tk' }) :
      wpAny (model PySem.Challenge.rw_mq0101_01.prog w) (ktrTop dp un gd cn cs L a ccd cl outer) (call (.ref 58) [.bytes b tb, .bytes #[x, y] ta]) Q E s := by
  w_top off
  k_with_none
  revert X; k_fill; intro X
  refine wpAny_call ?_
  k_dflt (refine' code_def ?k1 ?k2 ?k3 ?k4 ?k5 ?kA ?kF ?kK ?k6 ?k7 ?k8 ?k9 ?kB ?_ ?c2 ?c3 ?c4 ?c5; (case kA => exact rfl); (case kF => exact rfl); (case kK => assumption); (case k1 => k_asm); (case k2 => k_asm); (case k3 => k_asm); (case k4 => k_asm); (case k5 => k_asm); (case k6 => k_is); (case k7 => k_is); (case k8 => ktr_room); (case k9 => first | exact BindsTo.of_eq rfl | exact binds_K (by k_in) rfl (by k_is) rfl rfl rfl); (case c5 => decide); (case kB => exact locs rfl); (case c2 => exact rfl); (case c3 => exact rfl); (case c4 => exact rfl); k_whole; intro g' L' h' FG' F' N' B' X' T'; (try dsimp only); (try k_lift B'); (try k_fold))
  k_steps
  · refine translate_K ?sz ?_
    case sz => rw [byteArr_size]; have := encOut_len b; omega
    intro t' k'
    dsimp only
    k_steps
    refine hret _ _ _ ?F ?N
    case F => k_asm
    case N => k_asm
  · exact absurd (show ((#[x, y].size : Nat) : Int) = 2 from rfl) (by assumption)
end
end Mine
end
section
namespace Mine
section
variable {w : World} {loose : List Str} {mean : ExcName → Option Value} {mg mb : Str → Option Value} {dp un : Nat} {gd : Option (List Code)} {cn : Str} {cs : Scope} {a : Addr} {ccd : Value} {cl : List (Str × Addr)} {outer : List Env} {A₀ : Around} {base h₀ : Heap} {L : Addr} {m : Str → Option Value} {s : Shared} {Q E : Value → Shared → Prop} {news : List (Addr × Obj)}
local macro_rules | `(tactic| walk_at "call builtin:str.find") => `(tactic| (k_here; (refine find4 ?_)))
/-- one turn of the loop over the pieces -/
theorem fr_two {g h : Heap} {L : Addr} {m : Str → Option Value} {a b : Str} {va vb : Value} (F : Fr g L h m) (ha : m a = some va) (hb : m b = some vb) : Fr g L h (fun z => if z = a then some va else if z = b then some vb else m z) := by
  have e : (fun z => if z = a then some va else if z = b then some vb else m z) = m := by
    funext z
    by_cases h1 : z = a
    · rw [if_pos h1, h1, ha]
    · rw [if_neg h1]
      by_cases h2 : z = b
      · rw [if_pos h2, h2, hb]
      · rw [if_neg h2]
  rw [e]; exact F
set_option maxRecDepth 100000 in
set_option maxHeartbeats 8000000 in
theorem ell_turn {b : List Stmt} {sc : Scope} (hb : loop? 3 9 = some b) (hs : scope? 3 = some sc) {g : Heap} {L' fa : Addr} {code : Value} {got c : Str} {tg tc tp te : Tok} {p e : Int} {rest : List Str} {R : Bool} {I : Addr} {oI : Obj} {fix : List (Addr × Obj)} {h : Heap} {tk : Nat} {m₀ : Str → Option Value} {Q : Flow → Shared → Prop} {E' : Value → Shared → Prop}
    (X : (hd.heap_39 w.params).In g) (T : Top hd.view_39 loose mean mg mb g)
    (F : Fr g L' h (fun z => if z = Str.ofString "w" then some (.str c tc) else if z = Str.ofString "startpos" then some (.int p tp) else if z = Str.ofString "endpos" then some (.int e te) else if z = Str.ofString "got" then some (.str got tg) else m₀ z))
    (N : News g L' h (fix ++ [(I, oI)])) (hP : ellRun got e (c :: rest) p = R ∧ 0 ≤ p ∧ p ≤ 100) (hc : c.length ≤ 100) (hg : got.length ≤ 100) (he : -100 ≤ e ∧ e ≤ 100)
    (hno : ∀ (h' : Heap) (tk' : Nat) (m' : Str → Option Value), R = false → Fr g L' h' m' → News g L' h' (fix ++ [(I, oI)]) → Q (.ret (.bool false)) { s with heap := h', toks := tk' }) :
    wpAny (model PySem.Challenge.rw_mq0101_01.prog w) ((ktrTop dp un gd cn cs L a ccd cl outer).deeper (envOf (Str.ofString "_ellipsis_match") sc L' fa code)) (execs b (envOf (Str.ofString "_ellipsis_match") sc L' fa code))
      (EndS g L' (fix ++ [(I, oI)]) (Str.ofString "w") (Str.ofString "startpos") (fun z => if z = Str.ofString "endpos" then some (.int e te) else if z = Str.ofString "got" then some (.str got tg) else m₀ z) (fun q => ellRun got e rest q = R ∧ 0 ≤ q ∧ q ≤ 100) { s with heap := h, toks := tk } Q) E' { s with heap := h, toks := tk } := by
  w_top off
  k_with_none
  revert X; k_fill; intro X
  injection hb with hb
  injection hs with hs
  subst hb hs
  obtain ⟨hr, hp0, hp1⟩ := hP
  obtain ⟨he0, he1⟩ := he
  try dsimp only
  k_steps
  · rename Fr _ _ _ _ => F9
    rename News _ _ _ _ => N9
    exact hno _ _ _ (ell_no hr (by assumption)) F9 N9
  · have hy := ell_yes hr hg (by omega)
    rename Fr _ _ _ _ => F9
    rename News _ _ _ _ => N9
    refine' EndS.intro F9 N9 ?hn ?e1 ?e2 hy
    case hn => exact fun q hq => hq
    case e1 => rfl
    case e2 => intro z z1 z2; simp only [z1, z2, if_false]
theorem fr_four {g h : Heap} {L : Addr} {m : Str → Option Value} {a b c d : Str} {va vb vc vd : Value} (F : Fr g L h m) (ha : m a = some va) (hb : m b = some vb) (hc : m c = some vc) (hd : m d = some vd) : Fr g L h (fun z => if z = a then some va else if z = b then some vb else if z = c then some vc else if z = d then some vd else m z) := by
  have e : (fun z => if z = a then some va else if z = b then some vb else if z = c then some vc else if z = d then some vd else m z) = m := by
    funext z
    by_cases h1 : z = a
    · rw [if_pos h1, h1, ha]
    · rw [if_neg h1]
      by_cases h2 : z = b
      · rw [if_pos h2, h2, hb]
      · rw [if_neg h2]
        by_cases h3 : z = c
        · rw [if_pos h3, h3, hc]
        · rw [if_neg h3]
          by_cases h4 : z = d
          · rw [if_pos h4, h4, hd]
          · rw [if_neg h4]
  rw [e]; exact F
theorem bool_cases {b : Bool} : b = true ∨ b = false := by cases b <;> simp
set_option maxRecDepth 100000 in
set_option maxHeartbeats 8000000 in
theorem ell_rest {b : List Stmt} {sc : Scope} (hb : stmts? 3 6 = some b) (hs : scope? 3 = some sc) {g : Heap} {L' fa l : Addr} {code : Value} {got : Str} {tg tp te : Tok} {mid : List (Str × Tok)} {pz : Str × Tok} {nn : Nat} {p : Int} {R : Bool} {news : List (Addr × Obj)} {h : Heap} {tk : Nat} {m₀ : Str → Option Value} {Q : Flow → Shared → Prop}
    (X : (hd.heap_39 w.params).In g) (T : Top hd.view_39 loose mean mg mb g)
    (F : Fr g L' h (fun z => if z = Str.ofString "startpos" then some (.int p tp) else if z = Str.ofString "endpos" then some (.int got.length te) else if z = Str.ofString "ws" then some (.ref l) else if z = Str.ofString "got" then some (.str got tg) else m₀ z))
    (N : News g L' h ((l, listOf (strValues (mid ++ [pz])).toArray nn) :: news)) (hoff : ∀ q ∈ news, q.1 ≠ l)
    (hp : 0 ≤ p ∧ p ≤ 100) (hg : got.length ≤ 100) (hmz : pz.1.length ≤ 100) (hm : ∀ c ∈ mid.map (·.1), c.length ≤ 100) (hml : mid.length ≤ 200)
    (hell : R = ellEnds got (mid.map (·.1)) pz.1 p)
    (hret : ∀ (h' : Heap) (tk' : Nat) (m' : Str → Option Value) (o : Obj), Fr g L' h' m' → News g L' h' ((l, o) :: news) → Q (.ret (.bool R)) { s with heap := h', toks := tk' }) :
    wpAny (model PySem.Challenge.rw_mq0101_01.prog w) ((ktrTop dp un gd cn cs L a ccd cl outer).deeper (envOf (Str.ofString "_ellipsis_match") sc L' fa code)) (execs b (envOf (Str.ofString "_ellipsis_match") sc L' fa code)) Q (fun e s' => wpAny (model PySem.Challenge.rw_mq0101_01.prog w) ((ktrTop dp un gd cn cs L a ccd cl outer).deeper (envOf (Str.ofString "_ellipsis_match") sc L' fa code)) (leaving (envOf (Str.ofString "_ellipsis_match") sc L' fa code) e) (fun _ s'' => E e s'') (fun e' s'' => E e' s'') s') { s with heap := h, toks := tk } := by
  w_top off
  k_with_none
  revert X; k_fill; intro X
  injection hb with hb
  injection hs with hs
  subst hb hs
  obtain ⟨hp0, hp1⟩ := hp
  have hret' : ∀ (h' : Heap) (tk' : Nat) (m' : Str → Option Value) (o : Obj) (r : Bool), R = r → Fr g L' h' m' → News g L' h' ((l, o) :: news) → Q (.ret (.bool r)) { s with heap := h', toks := tk' } := fun h' tk' m' o r e => e ▸ hret h' tk' m' o
  dsimp only [List.drop]
  (k_with "pyIter ref" => refine hold_of ?_)
  k_steps
  refine item_strs_neg (vs := strValues (mid ++ [pz])) (News.isList N (.head _)) (strsAre_of_values _) (by decide) (by simp; omega) (by decide) ?_
  intro t8
  rw [str_last]
  k_steps
  · refine ki_del (its := (strValues (mid ++ [pz])).toArray) (n := nn) (by k_asm) (by k_asm) rfl (k := mid.length) (by rw [List.size_toArray, strV_len, List.length_append]; exact seq_last _) (q := strValues mid) (strV_del mid pz) (.head hoff) ?_ ?_
    · rw [sizeLine_eq]; simp [strV_len]; omega
    intro h' F' N'
    dsimp only
    k_steps
    · rename Fr _ _ _ _ => F9
      rename News _ _ _ _ => N9
      exact hret' _ _ _ _ _ (by rw [hell]; unfold ellEnds; rw [if_neg (by assumption), if_pos (by assumption), if_pos (by omega)]) F9 N9
    · unfold Hold
      rename Fr _ _ _ _ => F9
      rename News _ _ _ _ => N9
      have F8 := fr_two F9 (a := Str.ofString "endpos") (b := Str.ofString "got") (by rfl) (by rfl)
      refine' strsL (Str.ofString "startpos") (fun ws q => ellRun got (got.length - pz.1.length) ws q = R ∧ 0 ≤ q ∧ q ≤ 100) ?hha (.head _) F8 N9 ?hka ?hpa ?turna ?donea
      case hha => exact rfl
      case hka => exact rfl
      case hpa => exact ⟨by rw [hell]; unfold ellEnds; rw [if_neg (by assumption), if_pos (by assumption), if_neg (by omega)], by omega, by omega⟩
      case donea =>
        intro q tq u h9 tk9 hP F7 N7
        dsimp only
        k_steps
        rename Fr _ _ _ _ => F6
        rename News _ _ _ _ => N6
        exact hret' _ _ _ _ _ (ell_nil hP.1) F6 N6
      case turna =>
        intro c t rest q tq I oI h9 tk9 hc hP hI F7 N7
        exact ell_turn rfl rfl X T F7 N7 hP (hm c hc) hg (by omega) (fun h' tk' m' hR F' N' => hret' _ _ _ _ _ hR F' (fun x hx => N' x (List.mem_append_left _ hx)))
  · rename Fr _ _ _ _ => F9
    rename News _ _ _ _ => N9
    exact hret' _ _ _ _ _ (by rw [hell]; unfold ellEnds; rw [if_neg (by assumption), if_neg (by simp_all)]) F9 N9
  · rename Fr _ _ _ _ => F9
    rename News _ _ _ _ => N9
    exact hret' _ _ _ _ _ (by rw [hell]; unfold ellEnds; rw [if_pos (by assumption), if_pos (by omega)]) F9 N9
  · unfold Hold
    rename Fr _ _ _ _ => F9
    rename News _ _ _ _ => N9
    have F8 := fr_two F9 (a := Str.ofString "endpos") (b := Str.ofString "got") (by rfl) (by rfl)
    refine' strsL (Str.ofString "startpos") (fun ws q => ellRun got got.length ws q = R ∧ 0 ≤ q ∧ q ≤ 100) ?hhb (.head _) F8 N9 ?hkb ?hpb ?turnb ?doneb
    case hhb => exact rfl
    case hkb => exact rfl
    case hpb => exact ⟨by rw [hell]; unfold ellEnds; rw [if_pos (by assumption), if_neg (by omega)]; simp, by omega, by omega⟩
    case doneb =>
      intro q tq u h9 tk9 hP F7 N7
      dsimp only
      k_steps
      rename Fr _ _ _ _ => F6
      rename News _ _ _ _ => N6
      exact hret' _ _ _ _ _ (ell_nil hP.1) F6 N6
    case turnb =>
      intro c t rest q tq I oI h9 tk9 hc hP hI F7 N7
      have hcl : c.length ≤ 100 := by
        simp only [List.map_append, List.mem_append, List.map_cons, List.map_nil, List.mem_singleton] at hc
        rcases hc with hc | hc
        · exact hm c hc
        · rw [hc]; exact hmz
      exact ell_turn rfl rfl X T F7 N7 hP hcl hg (by omega) (fun h' tk' m' hR F' N' => hret' _ _ _ _ _ hR F' (fun x hx => N' x (List.mem_append_left _ hx)))
set_option maxRecDepth 100000 in
set_option maxHeartbeats 8000000 in
theorem ell_c {want got : Str} {tw tg : Tok}
   (B : Below A₀ base outer h₀) (F : Fr h₀ L s.heap m) (X : (hd.heap_39 w.params).In h₀) (N : News h₀ L s.heap news) (T : Top hd.view_39 loose mean mg mb h₀) (hk : cs.kind = .function)
   (hlen : want.length ≤ 100) (hlen' : got.length ≤ 100) (hd : dp + 3 < recursionLimit) (hu : un + 200 < cLine)
   (hret : ∀ (h' : Heap) (tk' : Nat), Fr h₀ L h' m → News h₀ L h' news → Q (.bool (ellOf want got)) { s with heap := h', toks := tk' }) :
      wpAny (model PySem.Challenge.rw_mq0101_01.prog w) (ktrTop dp un gd cn cs L a ccd cl outer) (call (.ref 28) [.str want tw, .str got tg]) Q E s := by
  w_top off
  k_with_none
  revert X; k_fill; intro X
  refine wpAny_call ?_
  k_dflt cell_enter
  (k_with "execs cons" => ((with_reducible show wpAny _ _ (execs [_, _, _, _, _] _) _ _ _); refine hold_of ?_))
  (k_with "call builtin:str.split" => ((fail_if_success rename AllLt _ _ => zz); refine hold_of ?_))
  k_steps
  · rename _ = true => hoc
    have he : ellOf want got = (want == got) := by unfold ellOf; rw [if_pos hoc]
    rw [← he]
    exact hret _ _ (by k_asm) (by k_asm)
  unfold Hold
  rename News _ _ _ _ => N9
  have hfresh := news_lt N9
  k_steps
  · rename List.map _ _ = Txt.split _ _ => hsp
    rename ∀ a, a ∈ _ → Str.length a ≤ _ => hshort
    rename (_ : List Str)[Int.toNat 0]? = some _ => hget0
    rename _ = false => hoc
    rename 2 ≤ (_ : Int) => hl2
    rename _ < _ ∧ AllLt _ news => hl1
    obtain ⟨hDlt, _⟩ := hl1
    have hDne : @Ne Nat _ _ := Nat.ne_of_lt hDlt
    obtain ⟨p0, l2, pz, rfl⟩ := ell_cut hl2
    have hy : p0.1 = _ := Option.some.inj hget0
    subst hy
    have hm0 : p0.1.length ≤ want.length := hshort _ (by simp)
    have hmz : pz.1.length ≤ want.length := hshort _ (by simp)
    have hell := ell_eq (got := got) hoc hsp
    k_steps
    · rw [if_neg (by assumption), if_pos (by assumption)] at hell
      refine ki_del (its := (strValues (p0 :: (l2 ++ [pz]))).toArray) (n := 0) (by k_asm) (by k_asm) rfl (k := 0) (by rw [List.size_toArray, strV_len]; exact seq_first _) (q := strValues (l2 ++ [pz])) rfl (.tail (Nat.ne_of_gt hDlt) (.head (fun p hp => Nat.ne_of_lt (allLt_mem hfresh hp)))) ?_ ?_
      · rw [sizeLine_eq]; simp [strV_len]; simp at htie; omega
      intro h' F' N'
      dsimp only
      k_steps
      unfold Hold
      rename Fr _ _ _ _ => F9
      rename News _ _ _ _ => N9
      have F8 := fr_four F9 (a := Str.ofString "startpos") (b := Str.ofString "endpos") (c := Str.ofString "ws") (d := Str.ofString "got") (by rfl) (by rfl) (by rfl) (by rfl)
      refine' ell_rest (mid := l2) (pz := pz) (R := ellOf want got) (news := news) rfl rfl ?Xa ?Ta F8 (cb_drop N9 ?na) ?offa ?hpa hlen' ?hza ?hma ?hmla hell ?hreta
      case Xa => k_asm
      case Ta => k_asm
      case na => kcj_all
      case offa => exact fun q hq => Nat.ne_of_lt (allLt_mem hfresh hq)
      case hpa => omega
      case hza => omega
      case hma => exact fun c hc => Nat.le_trans (hshort c (by simp only [List.map_cons, List.map_append, List.mem_cons, List.mem_append]; exact .inr (.inl hc))) hlen
      case hmla => simp at htie hfact ⊢; omega
      case hreta =>
        intro h9 tk9 m9 o9 F7 N7
        show qk (Flow.ret (Value.bool (ellOf want got))) _
        k_steps
        exact hret _ _ (by k_asm) (cb_drop (by k_asm) (by kcj_all))
    · have he : ellOf want got = false := by rw [hell, if_neg (by assumption), if_neg (by simp_all)]
      rw [← he]
      exact hret _ _ (by k_asm) (cb_drop (by k_asm) (by kcj_all))
    · have hz : (p0.1.length : Int) = 0 := by assumption
      rw [if_pos hz] at hell
      unfold Hold
      rename Fr _ _ _ _ => F9
      rename News _ _ _ _ => N9
      have F8 := fr_four F9 (a := Str.ofString "startpos") (b := Str.ofString "endpos") (c := Str.ofString "ws") (d := Str.ofString "got") (by rfl) (by rfl) (by rfl) (by rfl)
      refine' ell_rest (mid := p0 :: l2) (pz := pz) (R := ellOf want got) (news := news) rfl rfl ?Xb ?Tb F8 (cb_drop N9 ?nb) ?offb ?hpb hlen' ?hzb ?hmb ?hmlb hell ?hretb
      case Xb => k_asm
      case Tb => k_asm
      case nb => kcj_all
      case offb => exact fun q hq => Nat.ne_of_lt (allLt_mem hfresh hq)
      case hpb => omega
      case hzb => omega
      case hmb => exact fun c hc => Nat.le_trans (hshort c (by simp only [List.map_cons, List.map_append, List.mem_cons, List.mem_append] at hc ⊢; rcases hc with hc | hc; exact .inl hc; exact .inr (.inl hc))) hlen
      case hmlb => simp at htie hfact ⊢; omega
      case hretb =>
        intro h9 tk9 m9 o9 F7 N7
        show qk (Flow.ret (Value.bool (ellOf want got))) _
        k_steps
        exact hret _ _ (by k_asm) (cb_drop (by k_asm) (by kcj_all))
  · rename List.map _ _ = Txt.split _ _ => hsp
    rename _ = false => hoc
    have h2 := split_two hoc
    rw [← hsp, List.length_map] at h2
    exact absurd (show 2 ≤ (_ : Int) by omega) (by assumption)
end
end Mine
end
section
namespace Mine
/-- w stands in ks at place k -/
def hitb (ks w : List Int) (k : Nat) : Bool := decide ((ks.drop k).take w.length = w)
/-- the pieces of a pattern, runs of any signs between them -/
def gJ : List (List Int) → List Int
  | [] => []
  | [w] => w
  | w :: x :: r => w ++ (-1) :: gJ (x :: r)
theorem hitb_le {ks w : List Int} {k : Nat} (hk : k ≤ ks.length) (h : hitb ks w k = true) : k + w.length ≤ ks.length := by
  have h := congrArg List.length (of_decide_eq_true h)
  simp at h
  omega
theorem hitb_cons (ks w : List Int) (x : Int) (k : Nat) : hitb ks (x :: w) k = ((decide (k < ks.length) && decide (ks.getD k 0 = x)) && hitb ks w (k + 1)) := by
  unfold hitb
  by_cases h : k < ks.length
  · have e : ks.getD k 0 = ks[k] := by simp [h]
    rw [List.drop_eq_getElem_cons h, List.length_cons, List.take_succ_cons, e, decide_eq_true h, Bool.true_and, ← Bool.decide_and]
    apply decide_eq_decide.mpr
    rw [List.cons.injEq]
  · have e : ks.drop k = [] := List.drop_eq_nil_of_le (by omega)
    rw [e]
    simp [h]
theorem fold_lit (ks : List Int) : ∀ (w ends : List Int), (∀ x ∈ w, x ≠ -1) → (∀ e ∈ ends, 0 ≤ e) →
    w.foldl (fitStep ks) ends = (ends.filter fun e => hitb ks w e.toNat).map (· + (w.length : Int))
  | [], ends, _, _ => by
    have e : (ends.filter fun e => hitb ks [] e.toNat) = ends := List.filter_eq_self.mpr fun _ _ => by simp [hitb]
    rw [e]
    simp
  | x :: w, ends, hw, he => by
    rw [List.foldl_cons]
    have hx : x ≠ -1 := hw x (.head _)
    have e1 : fitStep ks ends x = (ends.filter fun p : Int => decide (p < ks.length) && decide (ks.getD p.toNat 0 = x)).map (· + 1) := by
      unfold fitStep; rw [if_neg hx]
    rw [e1, fold_lit ks w _ (fun y hy => hw y (.tail _ hy)) ?_]
    · rw [List.filter_map, List.map_map, List.filter_filter]
      have e2 : (ends.filter fun a : Int => ((fun e : Int => hitb ks w e.toNat) ∘ fun x : Int => x + 1) a && (decide (a < ks.length) && decide (ks.getD a.toNat 0 = x))) = ends.filter fun e : Int => hitb ks (x :: w) e.toNat := by
        apply List.filter_congr
        intro a ha
        have h0 := he a ha
        rw [hitb_cons, Bool.and_comm]
        have e3 : (a + 1).toNat = a.toNat + 1 := by omega
        have e4 : decide (a < (ks.length : Int)) = decide (a.toNat < ks.length) := by
          apply decide_eq_decide.mpr; omega
        simp only [Function.comp, e3, e4]
      rw [e2]
      apply List.map_congr_left
      intro a _
      simp only [Function.comp, List.length_cons]
      omega
    · intro e hm
      obtain ⟨q, hq, rfl⟩ := List.mem_map.mp hm
      have := he q (List.mem_filter.mp hq).1
      omega
theorem fold_nil (ks : List Int) : ∀ ws : List Int, ws.foldl (fitStep ks) [] = []
  | [] => rfl
  | x :: r => by
    rw [List.foldl_cons]
    have : fitStep ks [] x = [] := by unfold fitStep; split <;> rfl
    rw [this, fold_nil ks r]
/-- the answer from the state «any place from p on» -/
def gR (ks : List Int) (ws : List (List Int)) (p : Nat) : Bool := ((gJ ws).foldl (fitStep ks) (rangeKs p (ks.length + 1 - p))).any (fun x => x == (ks.length : Int))
theorem mem_rangeKs' {a k : Int} {n : Nat} (h1 : a ≤ k) (h2 : k < a + (n : Int)) : k ∈ rangeKs a n := by
  unfold rangeKs
  refine List.mem_map.mpr ⟨(k - a).toNat, List.mem_range.mpr (by omega), by omega⟩
theorem range_nn (p n : Nat) : ∀ e ∈ rangeKs (p : Int) n, 0 ≤ e := fun e h => by have := mem_rangeKs h; omega
theorem rangeKs_app (a : Int) (m n : Nat) : rangeKs a (m + n) = rangeKs a m ++ rangeKs (a + m) n := by
  unfold rangeKs
  rw [List.range_add, List.map_append, List.map_map]
  congr 1
  apply List.map_congr_left
  intro i _
  simp only [Function.comp]
  omega
theorem rangeKs_succ (a : Int) (n : Nat) : rangeKs a (n + 1) = a :: rangeKs (a + 1) n := by
  rw [show n + 1 = 1 + n by omega, rangeKs_app]
  simp [rangeKs]
theorem gR_one {ks z : List Int} {p : Nat} (hz : ∀ x ∈ z, x ≠ -1) (hp : p ≤ ks.length) : gR ks [z] p = true ↔ p + z.length ≤ ks.length ∧ hitb ks z (ks.length - z.length) = true := by
  unfold gR
  show (z.foldl (fitStep ks) _).any _ = true ↔ _
  rw [fold_lit ks z _ hz (range_nn _ _), List.any_eq_true]
  constructor
  · rintro ⟨x, hx, hxe⟩
    obtain ⟨e, he, rfl⟩ := List.mem_map.mp hx
    obtain ⟨he1, he2⟩ := List.mem_filter.mp he
    have := mem_rangeKs he1
    have h3 := eq_of_beq hxe
    have e4 : e.toNat = ks.length - z.length := by omega
    rw [e4] at he2
    exact ⟨by omega, he2⟩
  · rintro ⟨h1, h2⟩
    refine ⟨(ks.length : Int), List.mem_map.mpr ⟨((ks.length - z.length : Nat) : Int), List.mem_filter.mpr ⟨mem_rangeKs' (by omega) (by omega), ?_⟩, by omega⟩, by simp⟩
    rw [Int.toNat_natCast]; exact h2
theorem gJ_cons (w : List Int) {ws : List (List Int)} (h : ws ≠ []) : gJ (w :: ws) = w ++ (-1) :: gJ ws := by
  cases ws with
  | nil => exact absurd rfl h
  | cons x r => rfl
theorem gR_none {ks w : List Int} {ws : List (List Int)} {p : Nat} (hws : ws ≠ []) (hw : ∀ x ∈ w, x ≠ -1) (hno : ∀ k, p ≤ k → k ≤ ks.length → hitb ks w k = false) : gR ks (w :: ws) p = false := by
  unfold gR
  rw [gJ_cons w hws, List.foldl_append, fold_lit ks w _ hw (range_nn _ _)]
  have e : (rangeKs (p : Int) (ks.length + 1 - p)).filter (fun e => hitb ks w e.toNat) = [] := by
    apply List.filter_eq_nil_iff.mpr
    intro a ha
    have := mem_rangeKs ha
    rw [hno a.toNat (by omega) (by omega)]
    exact Bool.false_ne_true
  rw [e, List.map_nil, fold_nil]
  rfl
theorem gR_some {ks w : List Int} {ws : List (List Int)} {p k : Nat} (hws : ws ≠ []) (hw : ∀ x ∈ w, x ≠ -1) (hpk : p ≤ k) (hk : k ≤ ks.length) (hit : hitb ks w k = true) (hno : ∀ j, p ≤ j → j < k → hitb ks w j = false) : gR ks (w :: ws) p = gR ks ws (k + w.length) := by
  have hle := hitb_le hk hit
  unfold gR
  rw [gJ_cons w hws, List.foldl_append, fold_lit ks w _ hw (range_nn _ _), List.foldl_cons]
  have e0 : ks.length + 1 - p = (k - p) + (1 + (ks.length - k)) := by omega
  have e1 : (rangeKs (p : Int) (ks.length + 1 - p)).filter (fun e => hitb ks w e.toNat) = (k : Int) :: (rangeKs ((k : Int) + 1) (ks.length - k)).filter (fun e => hitb ks w e.toNat) := by
    rw [e0, rangeKs_app, List.filter_append]
    have e2 : (rangeKs (p : Int) (k - p)).filter (fun e => hitb ks w e.toNat) = [] := by
      apply List.filter_eq_nil_iff.mpr
      intro a ha
      have := mem_rangeKs ha
      rw [hno a.toNat (by omega) (by omega)]
      exact Bool.false_ne_true
    have e3 : (p : Int) + (k - p : Nat) = (k : Int) := by omega
    rw [e2, List.nil_append, e3, Nat.add_comm 1, rangeKs_succ, List.filter_cons_of_pos]
    rw [Int.toNat_natCast]; exact hit
  rw [e1]
  have e5 : fitStep ks (((k : Int) :: (rangeKs ((k : Int) + 1) (ks.length - k)).filter (fun e => hitb ks w e.toNat)).map (· + (w.length : Int))) (-1) = rangeKs ((k + w.length : Nat) : Int) (ks.length + 1 - (k + w.length)) := by
    unfold fitStep
    rw [if_pos rfl, List.map_cons]
    show rangeKs ((k : Int) + (w.length : Int)) _ = _
    congr 1
    omega
  rw [e5]
theorem least (P : Nat → Bool) (p n : Nat) : (∀ k, p ≤ k → k ≤ n → P k = false) ∨ ∃ k, p ≤ k ∧ k ≤ n ∧ P k = true ∧ ∀ j, p ≤ j → j < k → P j = false := by
  induction n with
  | zero =>
    by_cases h : p ≤ 0 ∧ P 0 = true
    · exact .inr ⟨0, h.1, Nat.le_refl _, h.2, fun j _ h => by omega⟩
    · refine .inl fun k h1 h2 => ?_
      have : k = 0 := by omega
      subst this
      cases hP : P 0 with
      | false => rfl
      | true => exact absurd ⟨h1, hP⟩ h
  | succ n ih =>
    rcases ih with h | ⟨k, h1, h2, h3, h4⟩
    · by_cases hc : p ≤ n + 1 ∧ P (n + 1) = true
      · exact .inr ⟨n + 1, hc.1, Nat.le_refl _, hc.2, fun j h1 h2 => h j h1 (by omega)⟩
      · refine .inl fun k h1 h2 => ?_
        rcases Nat.lt_or_ge n k with h5 | h5
        · have : k = n + 1 := by omega
          subst this
          cases hP : P (n + 1) with
          | false => rfl
          | true => exact absurd ⟨h1, hP⟩ hc
        · exact h k h1 h5
    · exact .inr ⟨k, h1, by omega, h3, h4⟩
theorem gR_nec {ks z : List Int} (hz : ∀ x ∈ z, x ≠ -1) : ∀ (ws : List (List Int)) (p : Nat), (∀ w ∈ ws, ∀ x ∈ w, x ≠ -1) → p ≤ ks.length → gR ks (ws ++ [z]) p = true → p + z.length ≤ ks.length ∧ hitb ks z (ks.length - z.length) = true
  | [], p, _, hp, h => (gR_one hz hp).mp h
  | w :: ws, p, hw, hp, h => by
    rw [List.cons_append] at h
    have hne : ws ++ [z] ≠ [] := by simp
    rcases least (hitb ks w) p ks.length with h0 | ⟨k, h1, h2, h3, h4⟩
    · rw [gR_none hne (hw w (.head _)) h0] at h
      exact absurd h Bool.false_ne_true
    · rw [gR_some hne (hw w (.head _)) h1 h2 h3 h4] at h
      have := gR_nec hz ws (k + w.length) (fun v hv => hw v (.tail _ hv)) (hitb_le h2 h3) h
      exact ⟨by omega, this.2⟩
/-- the whole: from the state «place nought» -/
theorem fits_one {ks w : List Int} (hw : ∀ x ∈ w, x ≠ -1) : fitsOf (gJ [w]) ks = decide (w = ks) := by
  unfold fitsOf
  show (w.foldl (fitStep ks) _).any _ = _
  rw [fold_lit ks w _ hw (by simp), List.filter_cons, List.filter_nil]
  have e : hitb ks w (Int.toNat 0) = decide (ks.take w.length = w) := rfl
  rw [e]
  by_cases h : ks.take w.length = w
  · simp only [h, decide_true, if_true, List.map_cons, List.map_nil, List.any_cons, List.any_nil, Bool.or_false, Int.zero_add]
    by_cases h2 : w.length = ks.length
    · have : w = ks := by rw [← h, h2, List.take_length]
      subst this; simp
    · have : w ≠ ks := fun e => h2 (by rw [e])
      simp only [this, decide_false]
      simp; omega
  · have : w ≠ ks := fun e => h (by rw [e, List.take_length])
    simp [h, this]
theorem fits_more {ks w : List Int} {ws : List (List Int)} (hws : ws ≠ []) (hw : ∀ x ∈ w, x ≠ -1) : fitsOf (gJ (w :: ws)) ks = if ks.take w.length = w then gR ks ws w.length else false := by
  unfold fitsOf
  rw [gJ_cons w hws, List.foldl_append, fold_lit ks w _ hw (by simp), List.filter_cons, List.filter_nil]
  have e : hitb ks w (Int.toNat 0) = decide (ks.take w.length = w) := rfl
  rw [e]
  by_cases h : ks.take w.length = w
  · have hl : w.length ≤ ks.length := by
      have := congrArg List.length h
      simp at this; omega
    simp only [h, decide_true, if_true, List.map_cons, List.map_nil, List.foldl_cons]
    unfold gR
    have e5 : fitStep ks [0 + (w.length : Int)] (-1) = rangeKs (w.length : Int) (ks.length + 1 - w.length) := by
      unfold fitStep
      rw [if_pos rfl]
      show rangeKs (0 + (w.length : Int)) _ = _
      congr 1
      · omega
      · omega
    rw [e5]
  · simp only [h, decide_false, if_false, Bool.false_eq_true, List.map_nil]
    rw [fold_nil]; rfl
end Mine
end
section
namespace Mine
open Builtin Builtin.Str StrLaws
def R3 : List Int := [62, 62, 62]
/-- how a text of signs falls apart at its runs of three -/
inductive Pieces : List Int → List (List Int) → Prop
  | one {u : List Int} : (∀ k, (u.drop k).take 3 ≠ R3) → Pieces u [u]
  | cut {u v : List Int} {ws : List (List Int)} : (∀ k, k < u.length → ((u ++ (R3 ++ v)).drop k).take 3 ≠ R3) → Pieces v ws → Pieces (u ++ (R3 ++ v)) (u :: ws)
theorem Pieces.ne {S : List Int} {ws : List (List Int)} (h : Pieces S ws) : ws ≠ [] := by cases h <;> simp
def NoEnd (acc : List Int) : Prop := acc = [] ∨ ∃ a y, acc = a ++ [y] ∧ y ≠ 62
theorem drop_last3 (l : List Int) (a b c : Int) : (l ++ [a, b, c]).drop ((l ++ [a, b, c]).length - 3) = [a, b, c] := by
  have : (l ++ [a, b, c]).length - 3 = l.length := by simp
  rw [this, List.drop_left]
theorem pat_free {acc : List Int} (ha : NoEnd acc) : ∀ (n : Nat) (u : List Int), u.length = n → (∀ k, (u.drop k).take 3 ≠ R3) → u.foldl patStep acc = acc ++ u
  | 0, u, hl, _ => by
    rw [List.length_eq_zero_iff.mp hl]; simp
  | n + 1, u, hl, hu => by
    have hne : u ≠ [] := by intro e; rw [e] at hl; simp at hl
    obtain ⟨w, x, rfl⟩ : ∃ w x, u = w ++ [x] := ⟨u.dropLast, u.getLast hne, (List.dropLast_concat_getLast hne).symm⟩
    have hwl : w.length = n := by simpa using hl
    have hw : ∀ k, (w.drop k).take 3 ≠ R3 := by
      intro k hk
      have h3 : 3 ≤ (w.drop k).length := by
        have := congrArg List.length hk
        simp [R3] at this
        simp
        omega
      refine hu k ?_
      have hkw : k ≤ w.length := by simp at h3; omega
      rw [List.drop_append_of_le_length hkw, List.take_append_of_le_length h3]
      exact hk
    rw [List.foldl_append, pat_free ha n w hwl hw]
    show patStep (acc ++ w) x = _
    unfold patStep
    rw [if_neg, List.append_assoc]
    intro h
    by_cases h3 : 3 ≤ (w ++ [x]).length
    · refine hu ((w ++ [x]).length - 3) ?_
      rw [List.append_assoc] at h
      have e : (acc ++ (w ++ [x])).length - 3 = acc.length + ((w ++ [x]).length - 3) := by simp at h3 ⊢; omega
      rw [e, List.drop_append] at h
      have e1 : List.drop (acc.length + ((w ++ [x]).length - 3)) acc = [] := List.drop_eq_nil_of_le (by omega)
      have e2 : acc.length + ((w ++ [x]).length - 3) - acc.length = (w ++ [x]).length - 3 := by omega
      rw [e1, e2, List.nil_append] at h
      rw [h]; rfl
    · rcases ha with rfl | ⟨a, y, rfl, hy⟩
      · have := congrArg List.length h
        simp at this h3
        omega
      · have hm : y ∈ (a ++ [y] ++ w ++ [x]).drop ((a ++ [y] ++ w ++ [x]).length - 3) := by
          rw [show a ++ [y] ++ w ++ [x] = a ++ ([y] ++ (w ++ [x])) by simp]
          have hle : (a ++ ([y] ++ (w ++ [x]))).length - 3 ≤ a.length := by simp at h3 ⊢; omega
          rw [List.drop_append_of_le_length hle]
          simp
        rw [h] at hm
        simp at hm
        exact hy hm
theorem NoEnd.snoc (acc : List Int) {y : Int} (h : y ≠ 62) : NoEnd (acc ++ [y]) := .inr ⟨acc, y, rfl, h⟩
theorem pat_pieces {S : List Int} {ws : List (List Int)} (h : Pieces S ws) : ∀ {acc : List Int}, NoEnd acc → S.foldl patStep acc = acc ++ gJ ws := by
  induction h with
  | one hu => intro acc ha; exact pat_free ha _ _ rfl hu
  | @cut u v ws hu hv ih =>
    intro acc ha
    have e0 : u ++ (R3 ++ v) = (u ++ [62, 62]) ++ (62 :: v) := by simp [R3]
    rw [e0, List.foldl_append, List.foldl_cons, pat_free ha _ _ rfl ?_]
    · have e1 : patStep (acc ++ (u ++ [62, 62])) 62 = acc ++ u ++ [-1] := by
        unfold patStep
        have e2 : acc ++ (u ++ [62, 62]) ++ [62] = (acc ++ u) ++ [62, 62, 62] := by simp
        rw [e2, if_pos (drop_last3 _ _ _ _)]
        have e3 : (acc ++ u ++ [62, 62, 62]).length - 3 = (acc ++ u).length := by simp only [List.length_append, List.length_cons, List.length_nil]; omega
        rw [e3, List.take_left]
      rw [e1, ih (NoEnd.snoc _ (by decide)), gJ_cons _ hv.ne]
      simp
    · intro k hk
      have h3 : 3 ≤ ((u ++ [62, 62]).drop k).length := by
        have := congrArg List.length hk
        simp [R3] at this
        simp
        omega
      have hku : k < u.length := by simp at h3; omega
      refine hu k hku ?_
      rw [e0, List.drop_append_of_le_length (by simp; omega), List.take_append_of_le_length h3]
      exact hk
theorem patOf_pieces {S : List Int} {ws : List (List Int)} (h : Pieces S ws) : patOf S = gJ ws := by
  unfold patOf; rw [pat_pieces h (.inl rfl), List.nil_append]
theorem Pieces.mem {S : List Int} {ws : List (List Int)} (h : Pieces S ws) : ∀ w ∈ ws, ∀ x ∈ w, x ∈ S := by
  induction h with
  | one _ => intro w hw x hx; rw [List.mem_singleton.mp hw] at hx; exact hx
  | @cut u v ws hu hv ih =>
    intro w hw x hx
    rcases List.mem_cons.mp hw with rfl | hw
    · exact List.mem_append_left _ hx
    · exact List.mem_append_right _ (List.mem_append_right _ (ih w hw x hx))
section
variable {c : Int → Nat}
def Dom (S : List Int) : Prop := ∀ x ∈ S, 0 ≤ x ∧ x ≤ 64
def Inj (c : Int → Nat) : Prop := ∀ x y : Int, 0 ≤ x → x ≤ 64 → 0 ≤ y → y ≤ 64 → c x = c y → x = y
def txt (c : Int → Nat) (S : List Int) : PySem.Str := ⟨(S.map c).toArray⟩
theorem txt_len (S : List Int) : (txt c S).length = S.length := by simp [txt, PySem.Str.length]
theorem map_inj (hc : Inj c) : ∀ {S S' : List Int}, Dom S → Dom S' → S.map c = S'.map c → S = S'
  | [], [], _, _, _ => rfl
  | [], _ :: _, _, _, h => by simp at h
  | _ :: _, [], _, _, h => by simp at h
  | x :: r, y :: r', h1, h2, h => by
    rw [List.map_cons, List.map_cons] at h
    injection h with ha hb
    have hx := h1 x (.head _)
    have hy := h2 y (.head _)
    rw [hc x y hx.1 hx.2 hy.1 hy.2 ha, map_inj hc (fun z hz => h1 z (.tail _ hz)) (fun z hz => h2 z (.tail _ hz)) hb]
theorem Dom.drop {S : List Int} (h : Dom S) (k : Nat) : Dom (S.drop k) := fun x hx => h x (List.mem_of_mem_drop hx)
theorem Dom.take {S : List Int} (h : Dom S) (k : Nat) : Dom (S.take k) := fun x hx => h x (List.mem_of_mem_take hx)
theorem txt_eq (hc : Inj c) {S S' : List Int} (h : Dom S) (h' : Dom S') : (txt c S == txt c S') = decide (S = S') := by
  rw [Bool.eq_iff_iff, beq_iff_eq, decide_eq_true_eq]
  constructor
  · intro e
    unfold txt at e
    injection e with e
    exact map_inj hc h h' (by simpa using e)
  · intro e; rw [e]
theorem sub_txt (hc : Inj c) {S w : List Int} (hS : Dom S) (hw : Dom w) (k : Nat) : subAt (txt c S) (txt c w) k = hitb S w k := by
  rw [subAt_eq, txt_len]
  unfold hitb txt
  rw [Bool.eq_iff_iff, beq_iff_eq, decide_eq_true_eq]
  simp only [← List.map_drop, ← List.map_take]
  exact ⟨fun e => map_inj hc ((hS.drop _).take _) hw e, fun e => by rw [e]⟩
theorem at_txt (hc : Inj c) {S w : List Int} (hS : Dom S) (hw : Dom w) (hi k : Nat) : At (txt c S) (txt c w) hi k ↔ k + w.length ≤ hi ∧ hitb S w k = true := by
  unfold At
  rw [sub_txt hc hS hw, txt_len]
/-- find with both bounds -/
theorem fnd_txt (hc : Inj c) {S w : List Int} (hS : Dom S) (hw : Dom w) (p e : Nat) (he : e ≤ S.length) :
    (fnd (txt c S) (txt c w) p e = -1 ∧ ∀ k, p ≤ k → k + w.length ≤ e → hitb S w k = false) ∨
    ∃ k : Nat, fnd (txt c S) (txt c w) p e = (k : Int) ∧ p ≤ k ∧ k + w.length ≤ e ∧ hitb S w k = true ∧ ∀ j, p ≤ j → j < k → hitb S w j = false := by
  unfold fnd
  have f1 : fromIndex (txt c S).length (p : Int) = p := by unfold fromIndex; rw [if_neg (by omega)]; omega
  have f2 : min (fromIndex (txt c S).length (e : Int)) (txt c S).length = e := by
    unfold fromIndex; rw [txt_len, if_neg (by omega)]; omega
  rw [f1, f2, occ_eq]
  rcases occ_first (txt c S) (txt c w) e 1 (Nat.le_refl 1) (List.range' p (e + 1 - p)) p (fun i hi => (List.mem_range'_1.mp hi).1) with ⟨h0, hn⟩ | ⟨pre, a, post, ee, h0, ha, hn⟩
  · refine .inl ⟨by rw [h0], fun k h1 h2 => ?_⟩
    cases hh : hitb S w k with
    | false => rfl
    | true => exact absurd ((at_txt hc hS hw e k).mpr ⟨h2, hh⟩) (hn k (List.mem_range'_1.mpr (by omega)))
  · have hs := range'_split_from ee
    have hat := (at_txt hc hS hw e a).mp ha
    refine .inr ⟨a, ?_, hs.1, hat.1, hat.2, fun j h1 h2 => ?_⟩
    · generalize (forIn (List.range' p (e + 1 - p)) ((#[] : Array Nat), p) (occBody (txt c S) (txt c w) e 1)).run.fst = arr at h0
      have h1 : arr.toList[0]? = some a := by simpa using h0
      cases hL : arr.toList with
      | nil => rw [hL] at h1; cases h1
      | cons b t => rw [hL] at h1; simp at h1; rw [h1]
    · cases hh : hitb S w j with
      | false => rfl
      | true => exact absurd ((at_txt hc hS hw e j).mpr ⟨by omega, hh⟩) (hn j (hs.2 j h1 h2))
theorem Dom.ne {w : List Int} (h : Dom w) : ∀ x ∈ w, x ≠ -1 := fun x hx => by have := h x hx; omega
theorem run_txt (hc : Inj c) {ks z : List Int} (hS : Dom ks) (hz : Dom z) (hzl : z.length ≤ ks.length) (hit : hitb ks z (ks.length - z.length) = true) : ∀ (ws : List (List Int)) (p : Nat), (∀ w ∈ ws, Dom w) → p + z.length ≤ ks.length →
    ellRun (txt c ks) ((ks.length : Int) - z.length) (ws.map (txt c)) p = gR ks (ws ++ [z]) p
  | [], p, _, hp => by
    have := (gR_one hz.ne (ks := ks) (p := p) (by omega)).mpr ⟨hp, hit⟩
    rw [List.nil_append, this]; rfl
  | w :: ws, p, hw, hp => by
    have hw0 := hw w (.head _)
    have hne : ws ++ [z] ≠ [] := by simp
    have e0 : (ks.length : Int) - z.length = ((ks.length - z.length : Nat) : Int) := by omega
    have ih := fun k => run_txt hc hS hz hzl hit ws k (fun v hv => hw v (.tail _ hv))
    rw [e0] at ih ⊢
    rw [List.map_cons, List.cons_append]
    unfold ellRun
    rcases fnd_txt hc hS hw0 p (ks.length - z.length) (by omega) with ⟨h1, h2⟩ | ⟨k, h1, h2, h3, h4, h5⟩
    · rw [h1, if_pos (by decide)]
      rcases least (hitb ks w) p ks.length with h0 | ⟨k, g1, g2, g3, g4⟩
      · rw [gR_none hne hw0.ne h0]
      · rw [gR_some hne hw0.ne g1 g2 g3 g4]
        cases hg : gR ks (ws ++ [z]) (k + w.length) with
        | false => rfl
        | true =>
          have := gR_nec hz.ne ws (k + w.length) (fun v hv => (hw v (.tail _ hv)).ne) (hitb_le g2 g3) hg
          have hf := h2 k g1 (by omega)
          rw [hf] at g3; exact absurd g3 Bool.false_ne_true
    · rw [h1, if_neg (by omega), gR_some hne hw0.ne h2 (by omega) h4 h5, txt_len]
      have e1 : (k : Int) + (w.length : Int) = ((k + w.length : Nat) : Int) := by omega
      rw [e1]
      exact ih _ (by omega)
theorem hit_nil (ks : List Int) (k : Nat) : hitb ks [] k = true := by unfold hitb; simp
end
end Mine
end
section
namespace Mine
open Builtin Builtin.Str StrLaws
section
variable {c : Int → Nat}
theorem dom3 : Dom R3 := by unfold Dom R3; decide
theorem txt3 (h46 : c 62 = 46) : PySem.Str.ofString "..." = txt c R3 := by
  have e : txt c R3 = ⟨#[46, 46, 46]⟩ := by unfold txt R3; simp [h46]
  rw [e]; decide +kernel
theorem sub_of_txt (S : List Int) (a b : Nat) : strSub (txt c S) a b = txt c ((S.drop a).take (b - a)) := by
  apply Str.ext'
  apply Array.toList_inj.mp
  rw [strSub_toList]
  unfold txt
  simp only [List.map_drop, List.map_take]
theorem run_len {S : List Int} {k : Nat} (h : (S.drop k).take 3 = R3) : k + 3 ≤ S.length := by
  have := congrArg List.length h
  simp [R3] at this
  omega
theorem chain_pieces (hc : Inj c) {S : List Int} (hS : Dom S) : ∀ (cuts : List Nat) (a f : Nat), ChainG (txt c S) (txt c R3) (txt c S).length a cuts f → (∀ k, f ≤ k → ¬ At (txt c S) (txt c R3) (txt c S).length k) →
    ∃ ws, Pieces (S.drop a) ws ∧ partsFrom (txt c S) (txt c R3).length a cuts = ws.map (txt c) ∧ ws.length = cuts.length + 1
  | [], a, f, h, hn => by
    have e : f = a := h
    subst e
    refine ⟨[S.drop f], .one fun k hk => ?_, ?_, rfl⟩
    · rw [List.drop_drop] at hk
      have hl := run_len hk
      refine hn (f + k) (by omega) ((at_txt hc hS dom3 _ _).mpr ⟨by rw [txt_len]; exact hl, decide_eq_true hk⟩)
    · show [strSub (txt c S) f (txt c S).length] = _
      rw [sub_of_txt, txt_len, List.take_of_length_le (by simp)]; rfl
  | d :: r, a, f, h, hn => by
    obtain ⟨h1, h2, h3, h4⟩ := h
    have h2' := (at_txt hc hS dom3 _ _).mp h2
    have hd3 : (S.drop d).take 3 = R3 := of_decide_eq_true h2'.2
    have hl := run_len hd3
    have e3 : (txt c R3).length = 3 := txt_len R3
    obtain ⟨ws, g1, g2, g3⟩ := chain_pieces hc hS r (d + (txt c R3).length) f h4 hn
    have e : S.drop a = (S.drop a).take (d - a) ++ (R3 ++ S.drop (d + (txt c R3).length)) := by
      have e1 : S.drop d = (S.drop a).drop (d - a) := by rw [List.drop_drop]; congr 1; omega
      have e2 : R3 ++ S.drop (d + 3) = S.drop d := by
        rw [← hd3, ← List.drop_drop]
        exact List.take_append_drop 3 _
      rw [e3, e2, e1]
      exact (List.take_append_drop _ _).symm
    refine ⟨(S.drop a).take (d - a) :: ws, ?_, ?_, ?_⟩
    · rw [e]
      have e5 : ((S.drop a).take (d - a) ++ (R3 ++ S.drop (d + (txt c R3).length))).take (d - a) = (S.drop a).take (d - a) := by rw [← e]
      rw [e5]
      refine .cut (fun k hk hk3 => ?_) g1
      rw [← e, List.drop_drop] at hk3
      have hkl : k < d - a := by simp at hk; omega
      have hl3 := run_len hk3
      exact h3 (a + k) (by omega) (by omega) ((at_txt hc hS dom3 _ _).mpr ⟨by rw [txt_len]; exact hl3, decide_eq_true hk3⟩)
    · show strSub (txt c S) a d :: partsFrom (txt c S) (txt c R3).length (d + (txt c R3).length) r = _
      rw [g2, sub_of_txt]; rfl
    · simp [g3]
theorem gR_twice {ks : List Int} : ∀ (ws : List (List Int)) (p : Nat), (∀ w ∈ ws, Dom w) → p ≤ ks.length → gR ks ((ws ++ [[]]) ++ [[]]) p = gR ks (ws ++ [[]]) p
  | [], p, _, hp => by
    show gR ks [[], []] p = gR ks [[]] p
    rw [gR_some (k := p) (by simp) (by simp) (Nat.le_refl _) hp (hit_nil _ _) (fun j h1 h2 => by omega)]
    rfl
  | w :: ws, p, hw, hp => by
    have hw0 := (hw w (.head _)).ne
    rcases least (hitb ks w) p ks.length with h0 | ⟨k, g1, g2, g3, g4⟩
    · simp only [List.cons_append]
      rw [gR_none (by simp) hw0 h0, gR_none (by simp) hw0 h0]
    · simp only [List.cons_append]
      rw [gR_some (by simp) hw0 g1 g2 g3 g4, gR_some (by simp) hw0 g1 g2 g3 g4]
      exact gR_twice ws _ (fun v hv => hw v (.tail _ hv)) (hitb_le g2 g3)
theorem starts_txt (hc : Inj c) {S w : List Int} (hS : Dom S) (hw : Dom w) : Txt.startswith (txt c S) (txt c w) = decide (S.take w.length = w) := by
  unfold Txt.startswith
  rw [sub_txt hc hS hw, txt_len, txt_len]
  unfold hitb
  rw [List.drop_zero]
  by_cases h : S.take w.length = w
  · have hl : w.length ≤ S.length := by
      have := congrArg List.length h
      simp at this; omega
    simp [h, hl]
  · simp [h]
theorem ends_txt (hc : Inj c) {S w : List Int} (hS : Dom S) (hw : Dom w) : Txt.endswith (txt c S) (txt c w) = (decide (w.length ≤ S.length) && hitb S w (S.length - w.length)) := by
  unfold Txt.endswith
  rw [sub_txt hc hS hw, txt_len, txt_len, Nat.zero_add]
theorem false_of {b : Bool} (h : b = true → False) : false = b := by cases b with
  | false => rfl
  | true => exact absurd rfl h
theorem ellEnds_txt (hc : Inj c) {ks z : List Int} (hS : Dom ks) (hz : Dom z) {mid : List (List Int)} (hm : ∀ w ∈ mid, Dom w) {p : Nat} (hp : p ≤ ks.length) : ellEnds (txt c ks) (mid.map (txt c)) (txt c z) p = gR ks (mid ++ [z]) p := by
  unfold ellEnds
  have hmn : ∀ w ∈ mid, ∀ x ∈ w, x ≠ -1 := fun w hw => (hm w hw).ne
  rw [txt_len, txt_len]
  by_cases h0 : (z.length : Int) = 0
  · rw [if_pos h0, if_neg (by omega)]
    have hz0 : z = [] := List.length_eq_zero_iff.mp (by omega)
    subst hz0
    have := run_txt hc hS hz (Nat.zero_le _) (hit_nil _ _) (mid ++ [[]]) p (fun w hw => by
      rcases List.mem_append.mp hw with h | h
      · exact hm w h
      · rw [List.mem_singleton.mp h]; exact hz) (by simpa using hp)
    rw [List.map_append] at this
    have e : (ks.length : Int) - (([] : List Int).length : Int) = (ks.length : Int) := by simp
    rw [e, gR_twice mid p hm hp] at this
    exact this
  · rw [if_neg h0, ends_txt hc hS hz]
    by_cases h1 : z.length ≤ ks.length ∧ hitb ks z (ks.length - z.length) = true
    · rw [if_pos (by simp [h1.1, h1.2])]
      by_cases h2 : (p : Int) > (ks.length : Int) - (z.length : Int)
      · rw [if_pos h2]
        exact false_of fun hg => by
          have := (gR_nec hz.ne mid p hmn hp hg).1
          omega
      · rw [if_neg h2]
        exact run_txt hc hS hz h1.1 h1.2 mid p hm (by omega)
    · rw [if_neg (by simpa using h1)]
      exact false_of fun hg => h1 (by
        have := gR_nec hz.ne mid p hmn hp hg
        exact ⟨by omega, this.2⟩)
theorem kind3 : Builtin.Str.strKind (PySem.Str.ofString "...") = 1 := by decide +kernel
theorem ell_fits (hc : Inj c) (h46 : c 62 = 46) {S ks : List Int} (hS : Dom S) (hK : Dom ks) : ellOf (txt c S) (txt c ks) = fitsOf (patOf S) ks := by
  obtain ⟨f, hG, hn⟩ := occ_tight (txt c S) (txt c R3) (by rw [txt_len]; decide)
  obtain ⟨ws, hP, hparts, hlen⟩ := chain_pieces hc hS _ 0 f hG hn
  rw [List.drop_zero] at hP
  rw [patOf_pieces hP]
  have hmem : ∀ w ∈ ws, Dom w := fun w hw x hx => hS x (hP.mem w hw x hx)
  unfold ellOf
  rw [txt3 h46]
  have hf := found_iff (txt c S) (txt c R3)
  match ws, hP, hparts, hlen, hmem with
  | [], hP, _, _, _ => exact absurd rfl hP.ne
  | [w], hP, _, _, hmem =>
    have hw : w = S ∧ ∀ k, (S.drop k).take 3 ≠ R3 := by
      cases hP with
      | one h => exact ⟨rfl, h⟩
      | cut h h' => exact absurd rfl h'.ne
    obtain ⟨rfl, hno⟩ := hw
    rw [if_pos, txt_eq hc hS hK, fits_one hS.ne]
    cases he : (occurrences (txt c w) (txt c R3) 0 (txt c w).length 1).isEmpty with
    | true => rfl
    | false =>
      obtain ⟨i, _, h2⟩ := hf.mp (by rw [he]; rfl)
      rw [sub_txt hc hS dom3] at h2
      exact absurd (of_decide_eq_true h2) (hno i)
  | w :: x :: r, hP, hparts, hlen, hmem =>
    have hrun : ∃ k, (S.drop k).take 3 = R3 := by
      cases hP with
      | @cut u v ws h h' =>
        refine ⟨w.length, ?_⟩
        rw [List.drop_left]
        exact List.take_left' rfl
    obtain ⟨k, hk⟩ := hrun
    have hkl := run_len hk
    have hne : (!(occurrences (txt c S) (txt c R3) 0 (txt c S).length 1).isEmpty) = true := hf.mpr ⟨k, by rw [txt_len, txt_len]; exact hkl, by rw [sub_txt hc hS dom3]; exact decide_eq_true hk⟩
    rw [if_neg (by intro h; rw [h] at hne; exact absurd hne (by decide))]
    have hsplit : Txt.split (txt c S) (txt c R3) = (w :: x :: r).map (txt c) := by
      unfold Txt.split
      have hk1 : 1 ≤ Builtin.Str.strKind (txt c S) := by unfold Builtin.Str.strKind; split; omega; split <;> omega
      have hk3 : Builtin.Str.strKind (txt c R3) = 1 := by rw [← txt3 h46]; exact kind3
      rw [if_neg, if_neg, partsBetween_eq]
      · exact hparts
      · intro h
        have := List.isEmpty_iff.mp h
        rw [this] at hlen
        simp at hlen
      · rw [hk3, txt_len, txt_len]
        have : R3.length = 3 := rfl
        simp; omega
    obtain ⟨mid, z, hmz⟩ : ∃ mid z, x :: r = mid ++ [z] := ⟨(x :: r).dropLast, (x :: r).getLast (by simp), (List.dropLast_concat_getLast (by simp)).symm⟩
    have hw := hmem w (.head _)
    have hz1 : z ∈ x :: r := by rw [hmz]; exact List.mem_append_right _ (.head _)
    have hz : Dom z := hmem z (.tail _ hz1)
    have hmid : ∀ v ∈ mid, Dom v := fun v hv => hmem v (.tail _ (by rw [hmz]; exact List.mem_append_left _ hv))
    rw [hsplit, hmz, fits_more (by simp) hw.ne, List.map_cons, List.map_append]
    simp only [List.map_cons, List.map_nil, List.getLast?_concat, List.dropLast_concat]
    rw [txt_len, starts_txt hc hK hw]
    by_cases h0 : (w.length : Int) = 0
    · have hw0 : w = [] := List.length_eq_zero_iff.mp (by omega)
      subst hw0
      rw [if_pos h0, if_pos (show ks.take ([] : List Int).length = [] from rfl)]
      have := ellEnds_txt hc hK hz (mid := [] :: mid) (fun v hv => by
        rcases List.mem_cons.mp hv with rfl | h
        · exact hw
        · exact hmid v h) (p := 0) (Nat.zero_le _)
      rw [List.map_cons, List.cons_append, gR_some (k := 0) (by simp) (by simp) (Nat.le_refl _) (Nat.zero_le _) (hit_nil _ _) (fun j h1 h2 => by omega)] at this
      exact this
    · rw [if_neg h0]
      by_cases h1 : ks.take w.length = w
      · have hl : w.length ≤ ks.length := by
          have := congrArg List.length h1
          simp at this; omega
        rw [if_pos (decide_eq_true h1), if_pos h1]
        exact ellEnds_txt hc hK hz hmid hl
      · rw [if_neg (by simpa using h1), if_neg h1]
end
end Mine
end
section
namespace Mine
/-- a sign's code -/
def sgc (k : Int) : Nat := if k = 62 then 46 else if k = 63 then 95 else if k = 64 then 61 else (b64.getD k.toNat 0).toNat
theorem sgc_fin : ∀ x y : Fin 65, sgc (x.val : Int) = sgc (y.val : Int) → x = y := by decide +kernel
theorem sgc_inj : Inj sgc := by
  intro x y h1 h2 h3 h4 h
  have e1 : ((⟨x.toNat, by omega⟩ : Fin 65).val : Int) = x := by simp; omega
  have e2 : ((⟨y.toNat, by omega⟩ : Fin 65).val : Int) = y := by simp; omega
  have := sgc_fin ⟨x.toNat, by omega⟩ ⟨y.toNat, by omega⟩ (by rw [e1, e2]; exact h)
  have := Fin.val_eq_of_eq this
  simp at this
  omega
def AltOk (x y : UInt8) (nd : List Int) : Prop := (x = 46 ∧ y = 46 ∧ nd = [62, 63]) ∨ (x = 46 ∧ y = 95 ∧ nd = [62]) ∨ (x = 95 ∧ y = 46 ∧ nd = [63])
/-- the code that b64encode writes for a figure -/
def outc (x y : UInt8) (n : Int) : Nat := (swap2 x y n.toNat.toUInt8).toNat
theorem alt_fin1 : ∀ k : Fin 64, outc 46 46 (b64.getD ((k.val : Int)).toNat 0) = sgc (signOf [62, 63] (k.val : Int)) := by decide +kernel
theorem alt_fin2 : ∀ k : Fin 64, outc 46 95 (b64.getD ((k.val : Int)).toNat 0) = sgc (signOf [62] (k.val : Int)) := by decide +kernel
theorem alt_fin3 : ∀ k : Fin 64, outc 95 46 (b64.getD ((k.val : Int)).toNat 0) = sgc (signOf [63] (k.val : Int)) := by decide +kernel
theorem alt_code {x y : UInt8} {nd : List Int} (h : AltOk x y nd) {k : Int} (h0 : 0 ≤ k) (h1 : k < 64) : outc x y (b64.getD k.toNat 0) = sgc (signOf nd k) := by
  have e : ((⟨k.toNat, by omega⟩ : Fin 64).val : Int) = k := by simp; omega
  rcases h with ⟨rfl, rfl, rfl⟩ | ⟨rfl, rfl, rfl⟩ | ⟨rfl, rfl, rfl⟩
  · have := alt_fin1 ⟨k.toNat, by omega⟩; rw [e] at this; exact this
  · have := alt_fin2 ⟨k.toNat, by omega⟩; rw [e] at this; exact this
  · have := alt_fin3 ⟨k.toNat, by omega⟩; rw [e] at this; exact this
theorem alt_pad {x y : UInt8} {nd : List Int} (h : AltOk x y nd) : outc x y 61 = sgc 64 := by
  rcases h with ⟨rfl, rfl, rfl⟩ | ⟨rfl, rfl, rfl⟩ | ⟨rfl, rfl, rfl⟩ <;> decide +kernel
/-- the figures of v, c many -/
def dig (v : Int) (c : Nat) : List Int := (rangeKs 0 c).map (figOf v (c : Int))
theorem rangeKs_snoc (c : Nat) : rangeKs 0 (c + 1) = rangeKs 0 c ++ [(c : Int)] := by
  unfold rangeKs
  rw [List.range_succ, List.map_append]
  simp
theorem pow64_pos (e : Nat) : (0 : Int) < 64 ^ e := Int.pow_pos (by decide)
theorem dig_snoc (v : Int) (c : Nat) : dig v (c + 1) = dig (v / 64) c ++ [v % 64] := by
  unfold dig
  rw [rangeKs_snoc, List.map_append, List.map_cons, List.map_nil]
  congr 1
  · apply List.map_congr_left
    intro k hk
    have hk := mem_rangeKs hk
    unfold figOf
    have e1 : (((c + 1 : Nat) : Int) - 1 - k).toNat = ((c : Int) - 1 - k).toNat + 1 := by omega
    rw [e1]
    generalize ((c : Int) - 1 - k).toNat = e
    have hp := pow64_pos e
    have hp1 := pow64_pos (e + 1)
    rw [Int.fdiv_eq_ediv_of_nonneg _ (by omega), Int.fdiv_eq_ediv_of_nonneg _ (by omega), Int.pow_succ, Int.mul_comm, Int.ediv_ediv_of_nonneg (by decide)]
  · unfold figOf
    have e1 : (((c + 1 : Nat) : Int) - 1 - (c : Int)).toNat = 0 := by omega
    rw [e1, Int.pow_zero, Int.fdiv_eq_ediv_of_nonneg _ (by decide), Int.ediv_one, Int.fmod_eq_emod_of_nonneg _ (by decide)]
theorem dig_in {v : Int} {c : Nat} : ∀ x ∈ dig v c, 0 ≤ x ∧ x < 64 := by
  intro x hx
  obtain ⟨k, _, rfl⟩ := List.mem_map.mp hx
  exact ⟨Int.fmod_nonneg_of_pos _ (by decide), Int.fmod_lt_of_pos _ (by decide)⟩
def b64s (l : List Int) : List Int := l.map fun k => b64.getD k.toNat 0
theorem b64s_snoc (l : List Int) (k : Int) : b64s (l ++ [k]) = b64s l ++ [b64.getD k.toNat 0] := by simp [b64s]
theorem bval_snoc (l : List Int) (x : Int) : bval (l ++ [x]) = bval l * 256 + x := by simp [bval]
theorem ar0 {V V' x : Int} (h : V' = V * 256 + x) : (V % 65536 * 256 + x) % 65536 = V' % 65536 := by omega
theorem ar1 {V V' x : Int} (h : V' = V * 256 + x) (h0 : 0 ≤ x ∧ x < 256) : V' / 4 / 64 = V / 1 := by omega
theorem ar2 {V V' x : Int} (h : V' = V * 256 + x) (h0 : 0 ≤ x ∧ x < 256) : V' / 16 / 64 = V / 4 := by omega
theorem ar3 {V V' x : Int} (h : V' = V * 256 + x) (h0 : 0 ≤ x ∧ x < 256) : V' / 1 / 64 / 64 = V / 16 := by omega
theorem ar4 (V : Int) : V % 65536 / 4 % 64 = V / 4 % 64 := by omega
theorem ar5 (V : Int) : V % 65536 / 16 % 64 = V / 16 % 64 := by omega
theorem ar6 (V : Int) : V % 65536 / 64 % 64 = V / 1 / 64 % 64 := by omega
theorem ar7 (V : Int) : V % 65536 % 64 = V / 1 % 64 := by omega
theorem ar8 {V V' x : Int} (h : V' = V * 256 + x) (h0 : 0 ≤ x) (h1 : 0 ≤ V) : 0 ≤ V' := by omega
theorem ar9 {c n : Nat} {lb lb' : Int} (k : Nat) (h : 6 * (c : Int) + lb = 8 * (n : Int)) (e : 6 * (k : Int) + lb' = lb + 8) : 6 * ((c + k : Nat) : Int) + lb' = 8 * ((n + 1 : Nat) : Int) := by omega
theorem at0 {n c : Nat} (h : 6 * (c : Int) + 0 = 8 * (n : Int)) : (n * 4 + 2) / 3 = c ∧ ((((n * 4 + 2) / 3 : Nat) : Int) * 6 - (n : Int) * 8).toNat = 0 ∧ (-(((n * 4 + 2) / 3 : Nat) : Int) % 4).toNat = 0 := by omega
theorem at2 {n c : Nat} (h : 6 * (c : Int) + 2 = 8 * (n : Int)) : (n * 4 + 2) / 3 = c + 1 ∧ ((((n * 4 + 2) / 3 : Nat) : Int) * 6 - (n : Int) * 8).toNat = 4 ∧ (-(((n * 4 + 2) / 3 : Nat) : Int) % 4).toNat = 2 := by omega
theorem at4 {n c : Nat} (h : 6 * (c : Int) + 4 = 8 * (n : Int)) : (n * 4 + 2) / 3 = c + 1 ∧ ((((n * 4 + 2) / 3 : Nat) : Int) * 6 - (n : Int) * 8).toNat = 2 ∧ (-(((n * 4 + 2) / 3 : Nat) : Int) % 4).toNat = 1 := by omega
theorem av1 (V : Int) : V * 2 ^ 4 / 64 = V / 4 := by omega
theorem av2 (V : Int) : V * 2 ^ 4 % 64 = V % 65536 % 4 * 16 := by omega
theorem av3 (V : Int) : V * 2 ^ 2 / 64 = V / 16 := by omega
theorem av4 (V : Int) : V * 2 ^ 2 % 64 = V % 65536 % 16 * 4 := by omega
theorem enc_inv : ∀ (n : Nat) (pre : List Int), pre.length = n → (∀ x ∈ pre, 0 ≤ x ∧ x < 256) →
    0 ≤ bval pre ∧ ∃ (c : Nat) (lb d : Int), ((lb = 0 ∧ d = 1) ∨ (lb = 2 ∧ d = 4) ∨ (lb = 4 ∧ d = 16)) ∧ 6 * (c : Int) + lb = 8 * (n : Int) ∧ encFold pre = (b64s (dig (bval pre / d) c), lb, bval pre % 65536)
  | 0, pre, hl, _ => by
    rw [List.length_eq_zero_iff.mp hl]
    exact ⟨by decide, 0, 0, 1, .inl ⟨rfl, rfl⟩, rfl, rfl⟩
  | n + 1, pre, hl, hx => by
    have hne : pre ≠ [] := by intro e; rw [e] at hl; simp at hl
    obtain ⟨w, x, rfl⟩ : ∃ w x, pre = w ++ [x] := ⟨pre.dropLast, pre.getLast hne, (List.dropLast_concat_getLast hne).symm⟩
    have hwl : w.length = n := by simpa using hl
    obtain ⟨hV, c, lb, d, hcase, hcount, he⟩ := enc_inv n w hwl (fun y hy => hx y (List.mem_append_left _ hy))
    have hx0 := hx x (List.mem_append_right _ (.head _))
    have hbv := bval_snoc w x
    generalize hV' : bval (w ++ [x]) = V' at hbv ⊢
    generalize bval w = V at hV he hbv
    have ef := enc_fold (n := x) he
    have ec := ar0 hbv
    refine ⟨ar8 hbv hx0.1 hV, ?_⟩
    rcases hcase with ⟨rfl, rfl⟩ | ⟨rfl, rfl⟩ | ⟨rfl, rfl⟩
    · refine ⟨c + 1, 2, 4, .inr (.inl ⟨rfl, rfl⟩), ar9 1 hcount rfl, ?_⟩
      rw [ef]
      unfold encStep
      rw [if_pos rfl]
      simp only [ec]
      rw [dig_snoc, b64s_snoc, ar1 hbv hx0, ar4]
    · refine ⟨c + 1, 4, 16, .inr (.inr ⟨rfl, rfl⟩), ar9 1 hcount rfl, ?_⟩
      rw [ef]
      unfold encStep
      rw [if_neg (by show ¬ (2 : Int) = 0; decide), if_pos rfl]
      simp only [ec]
      rw [dig_snoc, b64s_snoc, ar2 hbv hx0, ar5]
    · refine ⟨c + 2, 0, 1, .inl ⟨rfl, rfl⟩, ar9 2 hcount rfl, ?_⟩
      rw [ef]
      unfold encStep
      rw [if_neg (by show ¬ (4 : Int) = 0; decide), if_neg (by show ¬ (4 : Int) = 2; decide)]
      simp only [ec]
      rw [show c + 2 = (c + 1) + 1 from rfl, dig_snoc, dig_snoc, b64s_snoc, b64s_snoc, ar3 hbv hx0, ar6, ar7]
theorem enc_digits (b : Array UInt8) : encOut (KBw.bInts b) = b64s (dig (bval (KBw.bInts b) * 2 ^ (((b.size : Int) * 4 + 2).fdiv 3 * 6 - (b.size : Int) * 8).toNat) ((b.size * 4 + 2) / 3)) ++ List.replicate ((-((b.size : Int) * 4 + 2).fdiv 3).fmod 4).toNat 61 := by
  obtain ⟨hV, c, lb, d, hcase, hcount, he⟩ := enc_inv b.size (KBw.bInts b) (KBw.ints_length b) (fun x hx => KBw.ints_in hx)
  generalize bval (KBw.bInts b) = V at hV he ⊢
  unfold encOut
  rw [he, cnt_eq]
  rw [Int.fmod_eq_emod_of_nonneg _ (by decide)]
  rcases hcase with ⟨rfl, rfl⟩ | ⟨rfl, rfl⟩ | ⟨rfl, rfl⟩
  · rw [if_neg (by show ¬ (0 : Int) = 2; decide), if_neg (by show ¬ (0 : Int) = 4; decide)]
    obtain ⟨e1, e2, e3⟩ := at0 hcount
    rw [e2, e3, e1]
    simp
  · rw [if_pos rfl]
    obtain ⟨e1, e2, e3⟩ := at2 hcount
    rw [e2, e3, e1, dig_snoc, b64s_snoc, av1, av2]
    simp [List.replicate]
  · rw [if_neg (by show ¬ (4 : Int) = 2; decide), if_pos rfl]
    obtain ⟨e1, e2, e3⟩ := at4 hcount
    rw [e2, e3, e1, dig_snoc, b64s_snoc, av3, av4]
    simp [List.replicate]
/-- what b64encode(b, altchars).decode('ascii') gives -/
def wrote (b : Array UInt8) (x y : UInt8) : Str := ⟨((byteArr (encOut (KBw.bInts b))).map (swap2 x y)).map (·.toNat)⟩
theorem signs_dig (b : Array UInt8) (nd : List Int) : signsOf b nd = (dig (bval (KBw.bInts b) * 2 ^ (((b.size : Int) * 4 + 2).fdiv 3 * 6 - (b.size : Int) * 8).toNat) ((b.size * 4 + 2) / 3)).map (signOf nd) ++ List.replicate ((-((b.size : Int) * 4 + 2).fdiv 3).fmod 4).toNat 64 := by
  unfold signsOf dig
  rw [cnt_eq]
theorem wrote_signs {x y : UInt8} {nd : List Int} (h : AltOk x y nd) (b : Array UInt8) : wrote b x y = txt sgc (signsOf b nd) := by
  have e : wrote b x y = ⟨((encOut (KBw.bInts b)).map (outc x y)).toArray⟩ := by
    unfold wrote byteArr outc
    simp [Function.comp_def]
  rw [e, enc_digits, signs_dig]
  unfold txt
  congr 2
  rw [List.map_append, List.map_append, List.map_replicate, List.map_replicate, alt_pad h]
  congr 1
  unfold b64s
  rw [List.map_map, List.map_map]
  apply List.map_congr_left
  intro k hk
  have := dig_in k hk
  exact alt_code h this.1 this.2
theorem signs_dom (b : Array UInt8) (nd : List Int) : Dom (signsOf b nd) := by
  intro x hx
  rw [signs_dig] at hx
  rcases List.mem_append.mp hx with hx | hx
  · obtain ⟨k, hk, rfl⟩ := List.mem_map.mp hx
    have := dig_in k hk
    unfold signOf
    split
    · omega
    · split <;> omega
  · rw [(List.mem_replicate.mp hx).2]; decide
end Mine
end
section
namespace Mine
section
variable {w : World} {loose : List Str} {mean : ExcName → Option Value} {mg mb : Str → Option Value} {base g : Heap} {L : Addr} {s : Shared} {E : Value → Shared → Prop}
theorem b64_asc (k : Nat) : 0 ≤ b64.getD k 0 ∧ b64.getD k 0 < 128 := by
  rw [List.getD_eq_getElem?_getD]
  cases h : b64[k]? with
  | none => simp
  | some v =>
    have := List.mem_of_getElem? h
    have hall : ∀ v ∈ b64, 0 ≤ v ∧ v < 128 := by decide
    exact hall v this
theorem asc_app {xs : List Int} {y : Int} (h : ∀ x ∈ xs, 0 ≤ x ∧ x < 128) (hy : 0 ≤ y ∧ y < 128) : ∀ x ∈ xs ++ [y], 0 ≤ x ∧ x < 128 := by
  intro x hx
  rcases List.mem_append.mp hx with hx | hx
  · exact h x hx
  · rw [List.mem_singleton.mp hx]; exact hy
theorem enc_asc : ∀ (xs : List Int) (st : List Int × Int × Int), (∀ z ∈ st.1, 0 ≤ z ∧ z < 128) → ∀ z ∈ (xs.foldl encStep st).1, 0 ≤ z ∧ z < 128
  | [], st, h => h
  | x :: xs, st, h => by
    rw [List.foldl_cons]
    refine enc_asc xs _ ?_
    unfold encStep
    split
    · exact asc_app h (b64_asc _)
    · split
      · exact asc_app h (b64_asc _)
      · exact asc_app (asc_app h (b64_asc _)) (b64_asc _)
theorem encOut_asc (xs : List Int) : ∀ z ∈ encOut xs, 0 ≤ z ∧ z < 128 := by
  have h := enc_asc xs ([], 0, 0) (by simp)
  unfold encOut
  split
  · exact asc_app (asc_app (asc_app h (b64_asc _)) (by decide)) (by decide)
  · split
    · exact asc_app (asc_app h (b64_asc _)) (by decide)
    · exact h
theorem asc_out {b : Array UInt8} {x y : UInt8} (hx : x.toNat < 128) (hy : y.toNat < 128) : ∀ c ∈ ((byteArr (encOut (KBw.bInts b))).map (swap2 x y)).toList, c.toNat < 128 := by
  intro c hc
  rw [Array.toList_map] at hc
  obtain ⟨z, hz, rfl⟩ := List.mem_map.mp hc
  unfold byteArr at hz
  obtain ⟨n, hn, rfl⟩ := List.mem_map.mp hz
  have := encOut_asc _ n hn
  unfold swap2
  split
  · exact hx
  · split
    · exact hy
    · show (n.toNat.toUInt8).toNat < 128
      rw [Nat.toUInt8_eq, UInt8.toNat_ofNat']
      have : n.toNat % 2 ^ 8 ≤ n.toNat := Nat.mod_le _ _
      omega
set_option maxRecDepth 100000 in
set_option maxHeartbeats 8000000 in
theorem law_turn1 {b : List Stmt} {sc : Scope} (hb : loop? 17 6 = some b) (hs : scope? 17 = some sc) {fa lo d I : Addr} {code : Value} {x y : UInt8} {ta tb tf t : Tok} {os vd : List Value} {nd : List Int} {no : Nat} {k : Int} {bb bf : Array UInt8} {oI : Obj} {ne : List (Addr × Obj)} {h : Heap} {tk : Nat} {u m₀ : Str → Option Value} {Q : Flow → Shared → Prop}
    (B : Below callerA base [] g) (X : (hd.heap_39 w.params).In g) (T : Top hd.view_39 loose mean mg mb g)
    (F : Fr g L h (fun z => if z = Str.ofString "length" then some (.int k t) else if [Str.ofString "written"].contains z then u z else if z = Str.ofString "others" then some (.ref lo) else if z = Str.ofString "front" then some (.bytes bf tf) else if z = Str.ofString "back" then some (.bytes bb tb) else if z = Str.ofString "dots" then some (.ref d) else if z = Str.ofString "altchars" then some (.bytes #[x, y] ta) else m₀ z))
    (N : News g L h ((lo, listOf os.toArray no) :: (d, { cls := .type "tuple", data := .seq vd.toArray }) :: (ne ++ [(I, oI)])))
    (k0 : 0 ≤ k) (k1 : k ≤ (bb.size : Int)) (lb : bb.size ≤ 25) (iD : IntsAre vd nd) (hnd : nd.length ≤ 2) (hx : x.toNat < 128) (hy : y.toNat < 128) (hos : os.length ≤ 100) (hld : @Ne Nat d lo) (hlI : ∀ p ∈ ne ++ [(I, oI)], p.1 ≠ lo)
    (hret : ∀ (D ls : Addr) (vss : List Value) (nss : Nat) (t3 : Tok) (h' : Heap) (tk' : Nat) (m' : Str → Option Value), IntsAre vss (signsOf (KBy.picked bb none (some k)) nd) → @Ne Nat D lo → @Ne Nat ls lo → (∀ p ∈ ne ++ [(I, oI)], p.1 ≠ D ∧ p.1 ≠ ls) → Fr g L h' m' →
      News g L h' ((D, { cls := .type "tuple", data := .seq #[.str ⟨((byteArr (encOut (KBw.bInts (KBy.picked bb none (some k))))).map (swap2 x y)).map (·.toNat)⟩ t3, .ref ls] }) :: (ls, listOf vss.toArray nss) :: (d, { cls := .type "tuple", data := .seq vd.toArray }) :: (lo, listOf (os.toArray.push (.ref D)) (no + 1)) :: (ne ++ [(I, oI)])) →
      (∀ z, z ≠ Str.ofString "length" → [Str.ofString "written"].contains z = false → m' z = if z = Str.ofString "others" then some (.ref lo) else if z = Str.ofString "front" then some (.bytes bf tf) else if z = Str.ofString "back" then some (.bytes bb tb) else if z = Str.ofString "dots" then some (.ref d) else if z = Str.ofString "altchars" then some (.bytes #[x, y] ta) else m₀ z) → Q .next { s with heap := h', toks := tk' }) :
    wpAny (model PySem.Challenge.rw_mq0101_01.prog w) (callerA.deeper (envOf (Str.ofString "law") sc L fa code)) (execs b (envOf (Str.ofString "law") sc L fa code)) Q (fun e s' => wpAny (model PySem.Challenge.rw_mq0101_01.prog w) (callerA.deeper (envOf (Str.ofString "law") sc L fa code)) (leaving (envOf (Str.ofString "law") sc L fa code) e) (fun _ s'' => E e s'') (fun e' s'' => E e' s'') s') { s with heap := h, toks := tk } := by
  w_top off
  k_with_none
  revert X; k_fill; intro X
  injection hb with hb
  injection hs with hs
  subst hb hs
  (k_with "call ref" => refine hold_of ?_)
  k_steps
  rename Fr _ _ _ _ => F9
  rename News _ _ _ _ => N9
  have hz25 : (KBw.bInts bb).length ≤ 16777216 := by rw [KBw.ints_length]; omega
  refine KBc.slice_K F9 N9 rfl .none (.int k t) hz25 ?_
  intro h1 t1 tk1 F1 N1 hb1
  have hsz1 : (KBy.picked bb none (some k)).size ≤ 25 := Nat.le_trans (KBc.size_picked_le bb none (some k)) lb
  k_steps
  unfold Hold
  rename News _ _ _ _ => N9
  refine' b64_c ?B1 ?F1 ?X1 N9 ?T1 ?k1 hsz1 ?d1 ?u1 ?_
  case B1 => k_asm
  case F1 => k_asm
  case X1 => k_asm
  case T1 => k_asm
  case k1 => exact rfl
  case d1 => ktr_room
  case u1 => ktr_units
  intro t2 h2 tk2 F2 N2
  try dsimp only
  (k_with "call builtin:bytes.decode" => refine hold_of ?_)
  k_steps
  unfold Hold
  refine decodeA_K ?asc ?dsz ?_
  case asc => exact asc_out hx hy
  case dsz => rw [Array.size_map, byteArr_size]; have := encOut_len (KBy.picked bb none (some k)); omega
  intro t3 tk3
  try dsimp only
  k_steps
  rename Fr _ _ _ _ => F9
  rename News _ _ _ _ => N9
  refine KBc.slice_K F9 N9 rfl .none (.int k t) hz25 ?_
  intro h4 t4 tk4 F4 N4 hb4
  k_steps
  unfold Hold
  rename News _ _ _ _ => N9
  refine' signs_c (d := d) (news := (lo, listOf os.toArray no) :: (ne ++ [(I, oI)])) ?B5 ?F5 ?X5 (cb_drop N9 ?N5) ?T5 ?k5 iD ?nd5 hsz1 ?d5 ?u5 ?_
  case B5 => k_asm
  case F5 => k_asm
  case X5 => k_asm
  case T5 => k_asm
  case k5 => exact rfl
  case nd5 => exact hnd
  case d5 => ktr_room
  case u5 => ktr_units
  case N5 => kcj_all
  intro ls vss nss h5 tk5 is5 F5 N5 lt5
  try dsimp only
  (k_with "call builtin:list.append" => refine hold_of ?_)
  k_steps
  unfold Hold
  rename News _ _ _ _ => N9
  rename _ ∧ _ ∧ _ ∧ AllLt _ _ => hl9
  obtain ⟨a1, a2, a3, a4⟩ := hl9
  have a5 := lt5 _ (.head _)
  refine append_K (its := os.toArray) (n := no) (by k_asm) N9 (.tail (Nat.ne_of_gt a3) (.tail (Nat.ne_of_gt a5) (.tail hld (.head hlI)))) ?_ ?_
  · intro h7 F7 N7
    try dsimp only
    k_steps
    refine hret _ _ _ _ _ _ _ _ is5 (Nat.ne_of_gt a3) (Nat.ne_of_gt a5) (fun p hp => ⟨Nat.ne_of_lt (allLt_mem a4 hp), Nat.ne_of_lt (lt5 p (.tail _ hp))⟩) F7 N7 ?_
    intro z z1 z2
    have z3 : z ≠ Str.ofString "written" := by intro e; subst e; revert z2; decide +kernel
    try dsimp only
    rw [if_neg z3, if_neg z1, z2]
    simp only [Bool.false_eq_true, if_false]
  · rw [sizeLine_eq, List.size_toArray]; omega
end
end Mine
end
section
namespace Mine
local macro_rules | `(tactic| walk_at "no such key 0") => `(tactic| skip)
/-- the body of the loop in the loop, and its target -/
def inner? (i j k : Nat) : Option (Expr × List Stmt) := match loop? i j with
  | some b => (match b[k]? with
    | some (.For t _ x _ _) => some (t, x)
    | _ => none)
  | none => none
section
variable {w : World} {loose : List Str} {mean : ExcName → Option Value} {mg mb : Str → Option Value} {base g : Heap} {L : Addr} {s : Shared} {E : Value → Shared → Prop}
set_option maxRecDepth 100000 in
set_option maxHeartbeats 8000000 in
theorem law_turn3 {tb : Expr × List Stmt} {sc : Scope} (hb : inner? 17 7 2 = some tb) (hs : scope? 17 = some sc) {fa D ls lp I : Addr} {code : Value} {want got : Str} {tw tg : Tok} {vss vp : List Value} {S P : List Int} {nss np : Nat} {oI : Obj} {ne : List (Addr × Obj)} {h : Heap} {tk : Nat} {u m₀ : Str → Option Value} {Q : Flow → Shared → Prop}
    (B : Below callerA base [] g) (X : (hd.heap_39 w.params).In g) (T : Top hd.view_39 loose mean mg mb g)
    (F : Fr g L h (fun z => if [Str.ofString "got", Str.ofString "signs", Str.ofString "told"].contains z then u z else if z = Str.ofString "parts" then some (.ref lp) else if z = Str.ofString "want" then some (.str want tw) else m₀ z))
    (N : News g L h ((D, { cls := .type "tuple", data := .seq #[.str got tg, .ref ls] }) :: (lp, listOf vp.toArray np) :: (ls, listOf vss.toArray nss) :: (ne ++ [(I, oI)])))
    (iS : IntsAre vss S) (iP : IntsAre vp P) (hw : want.length ≤ 100) (hg : got.length ≤ 100) (hS : S.length ≤ 100) (hP : P.length ≤ 100) (heq : ellOf want got = fitsOf P S)
    (hret : ∀ (h' : Heap) (tk' : Nat) (m' : Str → Option Value), Fr g L h' m' → 
      News g L h' ((D, { cls := .type "tuple", data := .seq #[.str got tg, .ref ls] }) :: (lp, listOf vp.toArray np) :: (ls, listOf vss.toArray nss) :: (ne ++ [(I, oI)])) →
      (∀ z, [Str.ofString "got", Str.ofString "signs", Str.ofString "told"].contains z = false → m' z = if z = Str.ofString "parts" then some (.ref lp) else if z = Str.ofString "want" then some (.str want tw) else m₀ z) → Q .next { s with heap := h', toks := tk' }) :
    wpAny (model PySem.Challenge.rw_mq0101_01.prog w) (callerA.deeper (envOf (Str.ofString "law") sc L fa code)) (assign tb.1 (envOf (Str.ofString "law") sc L fa code) (.ref D)) (fun _ s₃ => wpAny (model PySem.Challenge.rw_mq0101_01.prog w) (callerA.deeper (envOf (Str.ofString "law") sc L fa code)) (execs tb.2 (envOf (Str.ofString "law") sc L fa code)) Q (fun e s' => wpAny (model PySem.Challenge.rw_mq0101_01.prog w) (callerA.deeper (envOf (Str.ofString "law") sc L fa code)) (leaving (envOf (Str.ofString "law") sc L fa code) e) (fun _ s'' => E e s'') (fun e' s'' => E e' s'') s') s₃) (fun e s' => wpAny (model PySem.Challenge.rw_mq0101_01.prog w) (callerA.deeper (envOf (Str.ofString "law") sc L fa code)) (leaving (envOf (Str.ofString "law") sc L fa code) e) (fun _ s'' => E e s'') (fun e' s'' => E e' s'') s') { s with heap := h, toks := tk } := by
  w_top off
  k_with_none
  revert X; k_fill; intro X
  injection hb with hb
  injection hs with hs
  subst hb hs
  dsimp only
  (k_with "call ref" => refine hold_of ?_)
  k_steps
  unfold Hold
  rename News _ _ _ _ => N9
  refine' ell_c ?B1 ?F1 ?X1 N9 ?T1 ?k1 hw hg ?d1 ?u1 ?_
  case B1 => k_asm
  case F1 => k_asm
  case X1 => k_asm
  case T1 => k_asm
  case k1 => exact rfl
  case d1 => ktr_room
  case u1 => ktr_units
  intro h2 tk2 F2 N2
  try dsimp only
  k_steps
  unfold Hold
  rename News _ _ _ _ => N9
  refine' fits_c (l := lp) (k := ls) (news := (D, { cls := .type "tuple", data := .seq #[.str got tg, .ref ls] }) :: (ne ++ [(I, oI)])) ?B3 ?F3 ?X3 (cb_drop N9 ?N3) ?T3 ?k3 iP iS hP hS ?d3 ?u3 ?_
  case B3 => k_asm
  case F3 => k_asm
  case X3 => k_asm
  case T3 => k_asm
  case k3 => exact rfl
  case d3 => ktr_room
  case u3 => ktr_units
  case N3 => kcj_all
  intro h4 tk4 F4 N4
  rw [heq]
  try dsimp only
  k_steps
  · rename (_ != _) = true => hbad
    simp at hbad
  · refine' hret _ _ _ ?F5 (cb_drop ?N5 ?hn5) ?m5
    case F5 => k_asm
    case N5 => k_asm
    case hn5 => kcj_all
    case m5 =>
      intro z z2
      have z3 : z ≠ Str.ofString "got" ∧ z ≠ Str.ofString "signs" ∧ z ≠ Str.ofString "told" := by
        refine ⟨?_, ?_, ?_⟩ <;> intro e <;> subst e <;> revert z2 <;> decide +kernel
      try dsimp only
      rw [if_neg z3.2.2, if_neg z3.2.1, if_neg z3.1, z2]
      simp only [Bool.false_eq_true, if_false]
end
end Mine
end
section
namespace Mine
section
variable {w : World} {loose : List Str} {mean : ExcName → Option Value} {mg mb : Str → Option Value} {base g : Heap} {L : Addr} {s : Shared} {E : Value → Shared → Prop}
def cut (b : Array UInt8) (k : Int) : Array UInt8 := KBy.picked b none (some k)
def Entry (ne : List (Addr × Obj)) (want : Str) (P : List Int) (v : Value) : Prop :=
  ∃ (D ls : Addr) (txt : Str) (tt : Tok) (vss : List Value) (nss : Nat) (S : List Int), v = .ref D ∧ (D, { cls := .type "tuple", data := .seq #[.str txt tt, .ref ls] }) ∈ ne ∧ (ls, listOf vss.toArray nss) ∈ ne ∧ IntsAre vss S ∧ S.length ≤ 100 ∧ txt.length ≤ 100 ∧ ellOf want txt = fitsOf P S
theorem signs_len {b : Array UInt8} {nd : List Int} (h : b.size ≤ 25) : (signsOf b nd).length ≤ 100 := by
  unfold signsOf
  rw [List.length_append, List.length_map, List.length_map, rangeKs_length, List.length_replicate]
  have := Int.fmod_lt_of_pos (-((b.size : Int) * 4 + 2).fdiv 3) (b := 4) (by decide)
  omega
theorem patStep_len (acc : List Int) (x : Int) : (patStep acc x).length ≤ acc.length + 1 := by
  unfold patStep
  split
  · simp; omega
  · simp
theorem patFold_len : ∀ (S acc : List Int), (S.foldl patStep acc).length ≤ acc.length + S.length
  | [], acc => Nat.le_refl _
  | x :: r, acc => by
    rw [List.foldl_cons, List.length_cons]
    have h1 := patFold_len r (patStep acc x)
    have h2 := patStep_len acc x
    omega
theorem patOf_len (S : List Int) : (patOf S).length ≤ S.length := by
  have := patFold_len S []
  unfold patOf; simpa using this
theorem alt_dots : AltOk 46 46 [62, 63] := .inl ⟨rfl, rfl, rfl⟩
theorem wrote_len {b : Array UInt8} {x y : UInt8} {nd : List Int} (h : AltOk x y nd) (hb : b.size ≤ 25) : (wrote b x y).length ≤ 100 := by
  rw [wrote_signs h, txt_len]; exact signs_len hb
set_option maxRecDepth 100000 in
set_option maxHeartbeats 8000000 in
theorem law_turn2 {b : List Stmt} {sc : Scope} (hb : loop? 17 7 = some b) (hs : scope? 17 = some sc) {fa lo I : Addr} {code : Value} {tf t : Tok} {os : List Value} {no : Nat} {k : Int} {bf : Array UInt8} {oI : Obj} {ne : List (Addr × Obj)} {h : Heap} {tk : Nat} {u m₀ : Str → Option Value} {Q : Flow → Shared → Prop}
    (B : Below callerA base [] g) (X : (hd.heap_39 w.params).In g) (T : Top hd.view_39 loose mean mg mb g)
    (F : Fr g L h (fun z => if z = Str.ofString "size" then some (.int k t) else if [Str.ofString "want", Str.ofString "parts", Str.ofString "got", Str.ofString "signs", Str.ofString "told"].contains z then u z else if z = Str.ofString "others" then some (.ref lo) else if z = Str.ofString "front" then some (.bytes bf tf) else m₀ z))
    (N : News g L h ((lo, listOf os.toArray no) :: (ne ++ [(I, oI)])))
    (k0 : 0 ≤ k) (k1 : k ≤ (bf.size : Int)) (lf : bf.size ≤ 25)
    (hent : ∀ v ∈ os, Entry ne (wrote (cut bf k) 46 46) (patOf (signsOf (cut bf k) [62, 63])) v)
    (hret : ∀ (h' : Heap) (tk' : Nat) (m' : Str → Option Value), Fr g L h' m' → News g L h' ((lo, listOf os.toArray no) :: (ne ++ [(I, oI)])) →
      (∀ z, z ≠ Str.ofString "size" → [Str.ofString "want", Str.ofString "parts", Str.ofString "got", Str.ofString "signs", Str.ofString "told"].contains z = false → m' z = if z = Str.ofString "others" then some (.ref lo) else if z = Str.ofString "front" then some (.bytes bf tf) else m₀ z) → Q .next { s with heap := h', toks := tk' }) :
    wpAny (model PySem.Challenge.rw_mq0101_01.prog w) (callerA.deeper (envOf (Str.ofString "law") sc L fa code)) (execs b (envOf (Str.ofString "law") sc L fa code)) Q (fun e s' => wpAny (model PySem.Challenge.rw_mq0101_01.prog w) (callerA.deeper (envOf (Str.ofString "law") sc L fa code)) (leaving (envOf (Str.ofString "law") sc L fa code) e) (fun _ s'' => E e s'') (fun e' s'' => E e' s'') s') { s with heap := h, toks := tk } := by
  w_top off
  k_with_none
  revert X; k_fill; intro X
  injection hb with hb
  injection hs with hs
  subst hb hs
  (k_with "call ref" => refine hold_of ?_)
  (k_with "call builtin:bytes.decode" => refine hold_of ?_)
  (k_with "pyIter ref" => refine hold_of ?_)
  k_steps
  rename Fr _ _ _ _ => F9
  rename News _ _ _ _ => N9
  have hz25 : (KBw.bInts bf).length ≤ 16777216 := by rw [KBw.ints_length]; omega
  refine KBc.slice_K F9 N9 rfl .none (.int k t) hz25 ?_
  intro h1 t1 tk1 F1 N1 hb1
  have hsz1 : (KBy.picked bf none (some k)).size ≤ 25 := Nat.le_trans (KBc.size_picked_le bf none (some k)) lf
  k_steps
  unfold Hold
  rename News _ _ _ _ => N9
  refine' b64_c (x := 46) (y := 46) ?B1 ?F1 ?X1 N9 ?T1 ?k1 hsz1 ?d1 ?u1 ?_
  case B1 => k_asm
  case F1 => k_asm
  case X1 => k_asm
  case T1 => k_asm
  case k1 => exact rfl
  case d1 => ktr_room
  case u1 => ktr_units
  intro t2 h2 tk2 F2 N2
  try dsimp only
  k_steps
  unfold Hold
  refine decodeA_K ?asc ?dsz ?_
  case asc => exact asc_out (by decide) (by decide)
  case dsz => rw [Array.size_map, byteArr_size]; have := encOut_len (KBy.picked bf none (some k)); omega
  intro t3 tk3
  try dsimp only
  k_steps
  rename Fr _ _ _ _ => F9
  rename News _ _ _ _ => N9
  refine KBc.slice_K F9 N9 rfl .none (.int k t) hz25 ?_
  intro h4 t4 tk4 F4 N4 hb4
  k_steps
  unfold Hold
  rename News _ _ _ _ => N9
  rename _ ∧ AllLt _ _ => hl9
  refine' signs_c (vd := [.int 62 _, .int 63 _]) (nd := [62, 63]) ?B5 ?F5 ?X5 N9 ?T5 ?k5 ?iD5 ?nd5 hsz1 ?d5 ?u5 ?_
  case B5 => k_asm
  case F5 => k_asm
  case X5 => k_asm
  case T5 => k_asm
  case k5 => exact rfl
  case iD5 => exact .cons _ _ (.cons _ _ .nil)
  case nd5 => decide
  case d5 => ktr_room
  case u5 => ktr_units
  intro ls vss nss h5 tk5 is5 F5 N5 lt5
  try dsimp only
  k_steps
  unfold Hold
  rename News _ _ _ _ => N9
  refine' pattern_c (l := ls) (vs := vss) (nn := nss) (news := (lo, listOf os.toArray no) :: (ne ++ [(I, oI)])) ?B6 ?F6 ?X6 (cb_drop N9 ?N6) ?T6 ?k6 is5 ?len6 ?d6 ?u6 ?_
  case B6 => k_asm
  case F6 => k_asm
  case X6 => k_asm
  case T6 => k_asm
  case k6 => exact rfl
  case len6 => exact signs_len hsz1
  case d6 => ktr_room
  case u6 => ktr_units
  case N6 => kcj_all
  intro lp vsp nsp h6 tk6 is6 F6 N6 lt6
  try dsimp only
  k_steps
  rename Fr _ _ _ _ => lF'
  with_unfolding_all refine' For_turns lF' ?_
  k_whole
  k_steps
  unfold Hold
  rename Fr _ _ _ _ => F7
  rename News _ _ _ _ => N7
  refine' turnsL (fix := (lp, listOf vsp.toArray nsp) :: (ls, listOf vss.toArray nss) :: (lo, listOf os.toArray no) :: (ne ++ [(I, oI)])) [Str.ofString "got", Str.ofString "signs", Str.ofString "told"] ?hh ?hl F7 N7 ?turn ?done
  case hh => rfl
  case hl => exact .tail _ (.tail _ (.head _))
  case turn =>
    intro v u' I' oI' h9 tk9 hv hI' F9 N9
    obtain ⟨D, lsx, tx, tt, vssx, nssx, Sx, rfl, hD, hls, hiS, hSl, htl, heq⟩ := hent v hv
    refine' law_turn3 (D := D) (ls := lsx) (lp := lp) (I := I') (oI := oI') (got := tx) (tg := tt) (vss := vssx) (nss := nssx) (ne := (lp, listOf vsp.toArray nsp) :: (ls, listOf vss.toArray nss) :: (lo, listOf os.toArray no) :: (ne ++ [(I, oI)])) (tb := (_, _)) rfl rfl B X T F9 (cb_drop N9 ?n9) hiS is6 ?hw htl hSl ?hP heq ?ret
    case n9 =>
      intro p hp
      rcases List.mem_cons.mp hp with rfl | hp
      · exact List.mem_append_left _ (.tail _ (.tail _ (.tail _ (List.mem_append_left _ hD))))
      · rcases List.mem_cons.mp hp with rfl | hp
        · exact List.mem_append_left _ (.head _)
        · rcases List.mem_cons.mp hp with rfl | hp
          · exact List.mem_append_left _ (.tail _ (.tail _ (.tail _ (List.mem_append_left _ hls))))
          · exact hp
    case hw => exact wrote_len alt_dots hsz1
    case hP => exact Nat.le_trans (patOf_len _) (signs_len hsz1)
    case ret =>
      intro h' tk' m' F' N' hm'
      exact EndT.intro F' N' (fun q hq => .tail _ (.tail _ (.tail _ hq))) hm'
  case done =>
    intro u' h9 tk9 F9 N9
    try dsimp only
    k_steps
    refine hret _ _ _ F9 (fun p hp => N9 p (.tail _ (.tail _ hp))) ?_
    intro z z1 z2
    have z3 : z ≠ Str.ofString "want" ∧ z ≠ Str.ofString "parts" ∧ [Str.ofString "got", Str.ofString "signs", Str.ofString "told"].contains z = false := by
      refine ⟨?_, ?_, ?_⟩
      · intro e; subst e; revert z2; decide +kernel
      · intro e; subst e; revert z2; decide +kernel
      · have e : [Str.ofString "want", Str.ofString "parts", Str.ofString "got", Str.ofString "signs", Str.ofString "told"].contains z = ([Str.ofString "want", Str.ofString "parts"].contains z || [Str.ofString "got", Str.ofString "signs", Str.ofString "told"].contains z) := by
          simp only [List.contains_cons, List.contains_nil, Bool.or_false, Bool.or_assoc]
        rw [e, Bool.or_eq_false_iff] at z2
        exact z2.2
    try dsimp only
    rw [z3.2.2, if_neg Bool.false_ne_true, if_neg z3.2.1, if_neg z3.1, if_neg z1, z2]
    simp only [Bool.false_eq_true, if_false]
end
end Mine
end
section
namespace Mine
local macro_rules | `(tactic| walk_at "no such key 0") => `(tactic| skip)
section
variable {w : World} {loose : List Str} {mean : ExcName → Option Value} {mg mb : Str → Option Value} {base g : Heap} {L : Addr} {s : Shared} {E : Value → Shared → Prop}
def Ent0 (ne : List (Addr × Obj)) (v : Value) : Prop := ∃ (D ls : Addr) (tt : Tok) (vss : List Value) (nss : Nat) (S : List Int), v = .ref D ∧ (D, ({ cls := .type "tuple", data := .seq #[.str (txt sgc S) tt, .ref ls] } : Obj)) ∈ ne ∧ (ls, listOf vss.toArray nss) ∈ ne ∧ IntsAre vss S ∧ S.length ≤ 100 ∧ Dom S
def LoI (lo : Addr) (i : Nat) (c : List Value × Nat × List (Addr × Obj)) : Prop := c.1.length ≤ i ∧ (∀ v ∈ c.1, Ent0 c.2.2 v) ∧ ∀ p ∈ c.2.2, p.1 ≠ lo
theorem Ent0.more {ne ne' : List (Addr × Obj)} {v : Value} (h : Ent0 ne v) (hs : ∀ p ∈ ne, p ∈ ne') : Ent0 ne' v := by
  obtain ⟨D, ls, tt, vss, nss, S, e, h1, h2, h3⟩ := h
  exact ⟨D, ls, tt, vss, nss, S, e, hs _ h1, hs _ h2, h3⟩
theorem Ent0.entry {ne : List (Addr × Obj)} {v : Value} (h : Ent0 ne v) (b : Array UInt8) : Entry ne (wrote b 46 46) (patOf (signsOf b [62, 63])) v := by
  obtain ⟨D, ls, tt, vss, nss, S, e, h1, h2, h3, h4, h5⟩ := h
  refine ⟨D, ls, txt sgc S, tt, vss, nss, S, e, h1, h2, h3, h4, by rw [txt_len]; exact h4, ?_⟩
  rw [wrote_signs alt_dots]
  exact ell_fits sgc_inj rfl (signs_dom _ _) h5
theorem fr_front {g h : Heap} {L : Addr} {m : Str → Option Value} {a b : Str} {va vb : Value} (F : Fr g L h m) (ha : m a = some va) (hb : m b = some vb) : Fr g L h (fun z => if z = a then some va else if z = b then some vb else m z) := by
  have e : (fun z => if z = a then some va else if z = b then some vb else m z) = m := by
    funext z
    by_cases h1 : z = a
    · rw [if_pos h1, h1, ha]
    · rw [if_neg h1]
      by_cases h2 : z = b
      · rw [if_pos h2, h2, hb]
      · rw [if_neg h2]
  rw [e]; exact F
theorem alt_nd {x y : UInt8} {nd : List Int} (h : AltOk x y nd) : nd.length ≤ 2 ∧ x.toNat < 128 ∧ y.toNat < 128 := by
  rcases h with ⟨rfl, rfl, rfl⟩ | ⟨rfl, rfl, rfl⟩ | ⟨rfl, rfl, rfl⟩ <;> decide
theorem from_two (n : Nat) : 0 ≤ (if (n : Int) - 2 > 0 then (n : Int) - 2 else 0) ∧ (if (n : Int) - 2 > 0 then (n : Int) - 2 else 0) ≤ (n : Int) := by
  split <;> omega
set_option maxRecDepth 100000 in
set_option maxHeartbeats 8000000 in
theorem law_rest {b : List Stmt} {sc : Scope} (hb : stmts? 17 4 = some b) (hs : scope? 17 = some sc) {fa l1 l2 d : Addr} {code : Value} {x y : UInt8} {ta : Tok} {vs1 vs2 vd : List Value} {ns1 ns2 nd : List Int} {n1 n2 : Nat} {m₀ : Str → Option Value} {Q : Flow → Shared → Prop}
    (B : Below callerA base [] g) (X : (hd.heap_39 w.params).In g) (T : Top hd.view_39 loose mean mg mb g)
    (F : Fr g L s.heap (fun z => if z = Str.ofString "dots" then some (.ref d) else if z = Str.ofString "altchars" then some (.bytes #[x, y] ta) else if z = Str.ofString "second" then some (.ref l2) else if z = Str.ofString "first" then some (.ref l1) else m₀ z))
    (N : News g L s.heap [(l1, listOf vs1.toArray n1), (l2, listOf vs2.toArray n2), (d, { cls := .type "tuple", data := .seq vd.toArray })])
    (i1 : IntsAre vs1 ns1) (i2 : IntsAre vs2 ns2) (r1 : ∀ x ∈ ns1, 0 ≤ x ∧ x < 64) (r2 : ∀ x ∈ ns2, 0 ≤ x ∧ x < 64) (le1 : ns1.length ≤ 25) (le2 : ns2.length ≤ 25)
    (iD : IntsAre vd nd) (alt : AltOk x y nd)
    (hret : ∀ h' tk' m', Fr g L h' m' → Q (.ret (.bool true)) { s with heap := h', toks := tk' }) :
    wpAny (model PySem.Challenge.rw_mq0101_01.prog w) (callerA.deeper (envOf (Str.ofString "law") sc L fa code)) (execs b (envOf (Str.ofString "law") sc L fa code)) Q (fun e s' => wpAny (model PySem.Challenge.rw_mq0101_01.prog w) (callerA.deeper (envOf (Str.ofString "law") sc L fa code)) (leaving (envOf (Str.ofString "law") sc L fa code) e) (fun _ s'' => E e s'') (fun e' s'' => E e' s'') s') s := by
  w_top off
  k_with_none
  revert X; k_fill; intro X
  injection hb with hb
  injection hs with hs
  subst hb hs
  dsimp only [List.drop]
  (k_with "call ref" => refine hold_of ?_)
  k_steps
  unfold Hold
  rename News _ _ _ _ => N9
  refine' octets_c ?B1 ?F1 ?X1 N9 ?T1 ?k1 i1 r1 le1 ?d1 ?u1 ?_
  case B1 => k_asm
  case F1 => k_asm
  case X1 => k_asm
  case T1 => k_asm
  case k1 => exact rfl
  case d1 => ktr_room
  case u1 => ktr_units
  intro bf tf h' tk' lf F' N'
  try dsimp only
  k_steps
  unfold Hold
  rename News _ _ _ _ => N9
  refine' octets_c (l := l2) (news := [(l1, listOf vs1.toArray n1), (d, { cls := .type "tuple", data := .seq vd.toArray })]) ?B2 ?F2 ?X2 (cb_drop N9 ?N2) ?T2 ?k2 i2 r2 le2 ?d2 ?u2 ?_
  case B2 => k_asm
  case F2 => k_asm
  case X2 => k_asm
  case T2 => k_asm
  case k2 => exact rfl
  case d2 => ktr_room
  case u2 => ktr_units
  case N2 => kcj_all
  intro bb tb h' tk' lb F' N'
  try dsimp only
  (k_with "pyIter ref" => refine hold_of ?_)
  k_steps
  unfold Hold
  rename IsRange _ _ _ _ _ _ _ _ => R1
  rename Fr _ _ _ _ => F8
  rename News _ _ _ _ => N8
  rename _ < _ ∧ _ < _ ∧ _ < _ ∧ _ < _ => hlt
  obtain ⟨_, _, _, hdl⟩ := hlt
  obtain ⟨lo, hlo, hdl⟩ : ∃ z : Addr, z = _ ∧ d < z := ⟨_, rfl, hdl⟩
  subst hlo
  obtain ⟨hnd, hx, hy⟩ := alt_nd alt
  obtain ⟨hr0, hr1⟩ := from_two bb.size
  generalize (if (bb.size : Int) - 2 > 0 then (bb.size : Int) - 2 else 0) = a0 at R1 hr0 hr1
  refine' kstG_range (fix := [(d, { cls := .type "tuple", data := .seq vd.toArray })]) (fun c : List Value × Nat × List (Addr × Obj) => (lo, listOf c.1.toArray c.2.1) :: c.2.2) (fun _ => []) [Str.ofString "written"] (LoI lo) ([], 0, []) ?hh R1 ?hsmall (rangeSize_nat _ _) F8 (cb_drop N8 ?hn8) ?hk ?hp ?turn ?done
  case hh => rfl
  case hsmall => exact small_one (by omega) (by omega) (by omega) (by omega)
  case hn8 => kcj_all
  case hk => intro p hp; cases hp
  case hp => exact ⟨Nat.zero_le _, fun v hv => absurd hv List.not_mem_nil, fun p hp => absurd hp List.not_mem_nil⟩
  case turn =>
    rintro ⟨os, no, ne⟩ i t u I oI h9 tk9 hi ⟨hP1, hP2, hP3⟩ hI F9 N9
    dsimp only at hP1 hP2 hP3 N9
    refine' law_turn1 (d := d) (I := I) (oI := oI) (os := os) (no := no) (ne := ne) rfl rfl B X T F9 (cb_drop N9 ?n9) ?k0 ?k1 lb iD hnd hx hy ?hos ?hld ?hlI ?ret
    case k0 => omega
    case k1 => omega
    case hos => omega
    case hld => exact Nat.ne_of_lt hdl
    case hlI =>
      intro p hp
      rcases List.mem_append.mp hp with hp | hp
      · exact hP3 p hp
      · rw [List.mem_singleton.mp hp]
        exact fun e => hI _ (.head _) e.symm
    case n9 => 
      intro p hp
      rcases List.mem_cons.mp hp with rfl | hp
      · exact .head _
      · rcases List.mem_cons.mp hp with rfl | hp
        · exact .tail _ (List.mem_append_right _ (.head _))
        · rcases List.mem_append.mp hp with hp | hp
          · exact .tail _ (List.mem_append_left _ hp)
          · exact .tail _ (List.mem_append_right _ (.tail _ hp))
    case ret =>
      intro D ls vss nss t3 h' tk' m' is1 nD nls hnew F' N' hm'
      have hw := wrote_signs alt (KBy.picked bb none (some (a0 + (i : Int))))
      unfold wrote at hw
      rw [hw] at N'
      have hnI := hnew (I, oI) (List.mem_append_right _ (.head _))
      refine' EndG.intro (os ++ [.ref D], no + 1, (D, { cls := .type "tuple", data := .seq #[.str (txt sgc (signsOf (KBy.picked bb none (some (a0 + (i : Int)))) nd)) t3, .ref ls] }) :: (ls, listOf vss.toArray nss) :: ne) F' N' ?a1 ?a2 ?a3 ?a4 ?a5 ?a6
      case a1 =>
        intro p hp
        rcases List.mem_cons.mp hp with rfl | hp
        · have e : (os ++ [Value.ref D]).toArray = os.toArray.push (.ref D) := by simp
          rw [e]
          exact .tail _ (.tail _ (.tail _ (.head _)))
        · rcases List.mem_cons.mp hp with rfl | hp
          · exact .head _
          · rcases List.mem_cons.mp hp with rfl | hp
            · exact .tail _ (.head _)
            · exact .tail _ (.tail _ (.tail _ (.tail _ (List.mem_append_left _ hp))))
      case a2 =>
        intro p hp
        rcases List.mem_cons.mp hp with rfl | hp
        · exact .tail _ (.tail _ (.head _))
        · exact .tail _ (.tail _ (.tail _ (.tail _ (List.mem_append_right _ hp))))
      case a3 =>
        intro p hp
        rcases List.mem_cons.mp hp with rfl | hp
        · exact hI (lo, listOf os.toArray no) (.head _)
        · rcases List.mem_cons.mp hp with rfl | hp
          · exact fun e => hnI.1 e.symm
          · rcases List.mem_cons.mp hp with rfl | hp
            · exact fun e => hnI.2 e.symm
            · exact hI _ (.tail _ (List.mem_append_left _ hp))
      case a4 => intro p hp; cases hp
      case a5 => exact fun z z1 _ z3 => hm' z z1 z3
      case a6 =>
        refine ⟨by simp; exact hP1, fun v hv => ?_, fun p hp => ?_⟩
        · rcases List.mem_append.mp hv with hv | hv
          · exact (hP2 v hv).more (fun p hp => .tail _ (.tail _ hp))
          · rw [List.mem_singleton.mp hv]
            exact ⟨D, ls, t3, vss, nss, _, rfl, .head _, .tail _ (.head _), is1, signs_len (Nat.le_trans (KBc.size_picked_le bb none _) lb), signs_dom _ _⟩
        · rcases List.mem_cons.mp hp with rfl | hp
          · exact nD
          · rcases List.mem_cons.mp hp with rfl | hp
            · exact nls
            · exact hP3 p hp
  case done =>
    rintro ⟨os, no, ne⟩ u h9 tk9 ⟨hP1, hP2, hP3⟩ F9 N9
    dsimp only at F9 N9 hP1 hP2 hP3
    k_steps
    unfold Hold
    rename IsRange _ _ _ _ _ _ _ _ => R2
    rename Fr _ _ _ _ => F8
    rename News _ _ _ _ => N8
    have F7 := fr_front F8 (a := Str.ofString "others") (b := Str.ofString "front") (va := .ref lo) (vb := .bytes bf tf) (by rfl) (by rfl)
    obtain ⟨hq0, hq1⟩ := from_two bf.size
    generalize (if (bf.size : Int) - 2 > 0 then (bf.size : Int) - 2 else 0) = b0 at R2 hq0 hq1
    refine' kstG_range (fix := (lo, listOf os.toArray no) :: ne) (fun _ : Unit => []) (fun _ => []) [Str.ofString "want", Str.ofString "parts", Str.ofString "got", Str.ofString "signs", Str.ofString "told"] (fun _ _ => True) () ?hh2 R2 ?hsmall2 (rangeSize_nat _ _) F7 (cb_drop N8 ?hn2) ?hk2 trivial ?turn2 ?done2
    case hh2 => rfl
    case hsmall2 => exact small_one (by omega) (by omega) (by omega) (by omega)
    case hn2 =>
      intro p hp
      rcases List.mem_cons.mp hp with rfl | hp
      · exact .head _
      · exact .tail _ (List.mem_append_left _ hp)
    case hk2 => intro p hp; cases hp
    case turn2 =>
      rintro c i t u' I oI h10 tk10 hi _ hI F10 N10
      refine' law_turn2 (I := I) (oI := oI) (ne := ne) rfl rfl B X T F10 N10 ?k02 ?k12 lf ?hent ?ret2
      case k02 => omega
      case k12 => omega
      case hent => exact fun v hv => (hP2 v hv).entry _
      case ret2 =>
        intro h' tk' m' F' N' hm'
        exact EndG.intro () F' N' (fun p hp => absurd hp List.not_mem_nil) (fun p hp => hp) (fun p hp => absurd hp List.not_mem_nil) (fun p hp => absurd hp List.not_mem_nil) (fun z z1 _ z3 => hm' z z1 z3) trivial
    case done2 =>
      intro c u' h10 tk10 _ F10 N10
      dsimp only at F10 N10 ⊢
      k_steps
      exact hret _ _ _ F10
end
end Mine
end
section
namespace Mine
set_option maxRecDepth 100000 in
set_option maxHeartbeats 8000000 in
theorem law_c : PySem.Challenge.rw_mq0101_01.Holds := by
  w_top off
  k_with_none
  refine Mine.hd ?_
  w_strict (k_go0)
  (k_with "call ref" => refine hold_of ?_)
  k_steps
  unfold Hold
  rename IntsAre _ (List.map _ _) => hI8
  rename News _ _ _ _ => N9
  refine' figures_c ?B1 ?F1 ?X1 N9 ?T1 ?k1 hI8 ?ns1 ?len1 ?h01 ?h11 ?d1 ?u1 ?_
  case B1 => k_asm
  case F1 => k_asm
  case X1 => k_asm
  case T1 => k_asm
  case k1 => exact rfl
  case ns1 => 
    intro n hn
    obtain ⟨z, _, rfl⟩ := List.mem_map.mp hn
    exact ⟨Int.fmod_nonneg_of_pos _ (by decide), Int.fmod_lt_of_pos _ (by decide)⟩
  case len1 => simp; omega
  case h01 => exact Int.fmod_nonneg_of_pos _ (by decide)
  case h11 => exact Int.fmod_lt_of_pos _ (by decide)
  case d1 => ktr_room
  case u1 => ktr_units
  intro t l1 l2 vs1 vs2 ns1 ns2 n1 n2 h' tk' i1 i2 r1 r2 le1 le2 F' N'
  dsimp only
  (k_with "execs cons" => (rename KcsAt _ => zz; refine hold_of ?_))
  k_steps
  · unfold Hold
    rename Fr _ _ _ _ => F9
    rename News _ _ _ _ => N9
    refine' law_rest (l1 := l1) (l2 := l2) (n1 := n1) (n2 := n2) (vd := [.int 62 _, .int 63 _]) (nd := [62, 63]) rfl rfl ?B0 ?X0 ?T0 F9 (cb_drop N9 ?n0) i1 i2 r1 r2 le1 le2 ?iD0 ?alt0 ?hret0
    case B0 => k_asm
    case X0 => k_asm
    case T0 => k_asm
    case n0 => kcj_all
    case iD0 => exact .cons _ _ (.cons _ _ .nil)
    case alt0 => exact .inl ⟨rfl, rfl, rfl⟩
    case hret0 =>
      intro h9 tk9 m9 F9
      k_steps
  · unfold Hold
    rename Fr _ _ _ _ => F9
    rename News _ _ _ _ => N9
    refine' law_rest (l1 := l1) (l2 := l2) (n1 := n1) (n2 := n2) (vd := [.int 62 _]) (nd := [62]) rfl rfl ?B1 ?X1 ?T1 F9 (cb_drop N9 ?n1) i1 i2 r1 r2 le1 le2 ?iD1 ?alt1 ?hret1
    case B1 => k_asm
    case X1 => k_asm
    case T1 => k_asm
    case n1 => kcj_all
    case iD1 => exact .cons _ _ .nil
    case alt1 => exact .inr (.inl ⟨rfl, rfl, rfl⟩)
    case hret1 =>
      intro h9 tk9 m9 F9
      k_steps
  · unfold Hold
    rename Fr _ _ _ _ => F9
    rename News _ _ _ _ => N9
    refine' law_rest (l1 := l1) (l2 := l2) (n1 := n1) (n2 := n2) (vd := [.int 63 _]) (nd := [63]) rfl rfl ?B2 ?X2 ?T2 F9 (cb_drop N9 ?n2) i1 i2 r1 r2 le1 le2 ?iD2 ?alt2 ?hret2
    case B2 => k_asm
    case X2 => k_asm
    case T2 => k_asm
    case n2 => kcj_all
    case iD2 => exact .cons _ _ .nil
    case alt2 => exact .inr (.inr ⟨rfl, rfl, rfl⟩)
    case hret2 =>
      intro h9 tk9 m9 F9
      k_steps
end Mine
end
theorem PySem.Challenge.cw_mq0101_01_holds : PySem.Challenge.rw_mq0101_01.Holds :=
  Mine.law_c
