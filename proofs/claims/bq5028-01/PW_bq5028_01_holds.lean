import PyProof.Rows.All
import Wide.All
import OpenK.AllK
import Wide.FinOn
import PySem.Challenge.RW_bq5028_01
set_option Elab.async false

namespace Mine
open PySem PySem.W PyProof.Rows
set_option maxRecDepth 100000
set_option maxHeartbeats 8000000
open_top hd for PySem.Challenge.rw_bq5028_01
end Mine

namespace Mine
open PySem PySem.W PySem.Calls PySem.Spec PyProof.Rows
set_option maxRecDepth 100000
structure Stuck (P : Prop) : Prop where
  out : P
abbrev top (dp un : Nat) (env : Env) (outer : List Env) : Around := { handled := none, depth := dp, frames := some (env :: outer), guards := some [], units := un }
/-- what a call of the def at f, with these values, finds and gives back -/
def Says (w : World) (p : Program) (loose : List Str) (mean : ExcName → Option Value) (mg mb : Str → Option Value) (f : Addr) (vals : List Value) (dd du : Nat) (Pre : List (Addr × Obj) → Prop) (Post : Value → List (Addr × Obj) → Prop) : Prop :=
  ∀ (dp un : Nat) (env : Env) (outer : List Env) (A₀ : Around) (base h₀ : Heap) (L : Addr) (m : Str → Option Value) (news : List (Addr × Obj)) (s : Shared) (Q E : Value → Shared → Prop),
    env.frame = some L → env.scope.kind = .function → dp + dd < recursionLimit → un + du < cLine →
    Below A₀ base outer h₀ → Fr h₀ L s.heap m → (hd.heap_39 w.params).In h₀ → News h₀ L s.heap news → Top p loose mean mg mb h₀ → Pre news →
    (∀ r news' h' tk', Fr h₀ L h' m → News h₀ L h' news' → Post r news' → Q r { s with heap := h', toks := tk' }) →
    wpAny (model PySem.Challenge.rw_bq5028_01.row.prog w) (top dp un env outer) (call (.ref f) vals) Q E s

abbrev lst3 (B : Addr) (i c : Int) (ti tc : Tok) (k : Nat) : Obj := listOf #[.ref B, .int i ti, .int c tc] k
/-- the drawing state: its list, the place, the seed -/
def StOk (_S B : Addr) (o : Obj) : Prop := ∃ i c ti tc k, o = lst3 B i c ti tc k ∧ 0 ≤ i ∧ 0 ≤ c ∧ c < 2147483647
/-- the ints that are drawn from -/
def BOk (o : Obj) : Prop := ∃ vs ns k, o = listOf vs.toArray k ∧ IntsAre vs ns ∧ ns.length ≤ 60

/-- a call that may turn the drawing state and nothing else -/
def SaysS (w : World) (p : Program) (loose : List Str) (mean : ExcName → Option Value) (mg mb : Str → Option Value) (f : Addr) (S B : Addr) (vals : List Value) (dd du : Nat) (Post : Value → Prop) : Prop :=
  ∀ o oB b, StOk S B o → BOk oB → @Ne Nat S B → (∀ q ∈ b, @Ne Nat q.1 S) →
    Says w p loose mean mg mb f vals dd du (fun news => news = (S, o) :: (B, oB) :: b) (fun r news' => ∃ o', StOk S B o' ∧ news' = (S, o') :: (B, oB) :: b ∧ Post r)

theorem saysS_use {w : World} {p : Program} {loose : List Str} {mean : ExcName → Option Value} {mg mb : Str → Option Value} {f S B : Addr} {vals : List Value} {dd du : Nat} {Post : Value → Prop}
    {dp un : Nat} {env : Env} {outer : List Env} {A₀ : Around} {base h₀ : Heap} {L : Addr} {m : Str → Option Value} {news : List (Addr × Obj)} {g : Obj → List (Addr × Obj)} {o oB : Obj} {s : Shared} {Q E : Value → Shared → Prop}
    (C : SaysS w p loose mean mg mb f S B vals dd du Post) (hf : env.frame = some L) (hk : env.scope.kind = .function) (hdp : dp + dd < recursionLimit) (hu : un + du < cLine)
    (Bl : Below A₀ base outer h₀) (F : Fr h₀ L s.heap m) (X : (hd.heap_39 w.params).In h₀) (N : News h₀ L s.heap news) (T : Top p loose mean mg mb h₀)
    (U : UpdF S o news g) (hB : (B, oB) ∈ news) (hS : StOk S B o) (hO : BOk oB) (hSB : @Ne Nat S B)
    (ret : ∀ r o' h' tk', Post r → StOk S B o' → Fr h₀ L h' m → News h₀ L h' (g o') → Q r { s with heap := h', toks := tk' }) :
    wpAny (model PySem.Challenge.rw_bq5028_01.row.prog w) (top dp un env outer) (call (.ref f) vals) Q E s := by
  obtain ⟨own, rest, rfl, hg, h1, h2⟩ := U.split
  refine C o oB (own ++ rest) hS hO hSB ?_ dp un env outer A₀ base h₀ L m _ s Q E hf hk hdp hu Bl F X (fun q hq => N q ?_) T rfl ?_
  · intro q hq
    rcases List.mem_append.mp hq with hq | hq
    · exact h1 q hq
    · exact h2 q hq
  · rcases List.mem_cons.mp hq with rfl | hq
    · exact List.mem_append_right _ (.head _)
    · rcases List.mem_cons.mp hq with rfl | hq
      · exact hB
      · rcases List.mem_append.mp hq with hq | hq
        · exact List.mem_append_left _ hq
        · exact List.mem_append_right _ (.tail _ hq)
  · rintro r news' h' tk' F' N' ⟨o', hS', rfl, hP⟩
    refine ret r o' h' tk' hP hS' F' fun q hq => N' q ?_
    rw [hg] at hq
    rcases List.mem_append.mp hq with hq | hq
    · exact .tail _ (.tail _ (List.mem_append_left _ hq))
    · rcases List.mem_cons.mp hq with rfl | hq
      · exact .head _
      · exact .tail _ (.tail _ (List.mem_append_right _ hq))

/-- a block whose element may turn the drawing state and nothing else -/
theorem comp_draw {prog : Program} {w : World} {A : Around} {h₀ : Heap} {L : Addr} {m : Str → Option Value} {env : Env} {elt : PySem.Expr} {x : Str} {scope : Scope} {cl : List (Str × Addr)} {s : Shared} {P : Nat → Value → Prop} {Fin : List Value → List (Addr × Obj) → Prop}
    {n : Nat} {S B : Addr} {o : Obj} {news : List (Addr × Obj)} {g : Obj → List (Addr × Obj)} (Pel : Value → Prop) (U : UpdF S o news g) (hS : StOk S B o)
    (turn : ∀ v I oI C oC D m₂ ys o' h tk (E' : Value → Shared → Prop), StOk S B o' → LCg.NsObj oC m₂ → m₂ x = some v → Fr h₀ L h m → News h₀ L h ((I, oI) :: (C, oC) :: (D, LCg.lst ys) :: g o') → LCg.Off3 I C D (g o') → ((@Ne Nat I C) ∧ (@Ne Nat I D) ∧ (@Ne Nat C D)) →
      wpAny (model prog w) A (eval elt (compEnvC scope cl C env)) (LCg.CompEnd h₀ L m { s with heap := h, toks := tk } I oI C oC D (LCg.lst ys) (fun _ => True) (fun y news' => ∃ o'', StOk S B o'' ∧ news' = g o'' ∧ Pel y)) E' { s with heap := h, toks := tk })
    (fin : ∀ ys o', StOk S B o' → ys.length = n → (∀ y ∈ ys, Pel y) → Fin ys (g o')) : LCg.CompRest prog w A h₀ L m env elt x scope cl s (fun _ => True) P Fin n 0 [] news := by
  have key : ∀ (j i : Nat) (ys : List Value) (o' : Obj), i + j = n → ys.length = i → (∀ y ∈ ys, Pel y) → StOk S B o' → LCg.CompRest prog w A h₀ L m env elt x scope cl s (fun _ => True) P Fin j i ys (g o') := by
    intro j
    induction j with
    | zero => intro i ys o' hi hl hp hs; exact LCg.CompRest.zero (fin ys o' hs (by omega) hp)
    | succ j ih =>
      intro i ys o' hi hl hp hs
      refine LCg.CompRest.succ fun v I oI C oC D m₂ h tk E' _ hC hx F N off ne => ?_
      refine wpAny_mono (turn v I oI C oC D m₂ ys o' h tk E' hs hC hx F N off ne) (fun y s₂ hq => ?_) fun _ _ e => e
      obtain ⟨h', tk', nw, e, F', N', off', hT, o'', hs', rfl, hy⟩ := hq
      refine ⟨h', tk', g o'', e, F', N', off', hT, ih (i + 1) _ o'' (by omega) (by simp [hl]) ?_ hs'⟩
      intro z hz
      rcases List.mem_append.mp hz with hz | hz
      · exact hp z hz
      · rw [List.mem_singleton.mp hz]; exact hy
  obtain ⟨own, rest, e1, hg, _, _⟩ := U.split
  have e2 : news = g o := by rw [e1, hg]
  rw [e2]
  exact key n 0 [] o (by omega) rfl (fun _ h => nomatch h) hS

theorem strs_of {p : Str → Prop} : ∀ {ys : List Value}, (∀ y ∈ ys, ∃ x t, y = .str x t ∧ p x) → ∃ xs, StrsAre ys xs ∧ ∀ x ∈ xs, p x
  | [], _ => ⟨[], .nil, fun _ h => nomatch h⟩
  | y :: r, h => by
    obtain ⟨x, t, rfl, hp⟩ := h y (.head _)
    obtain ⟨xs, hx, hq⟩ := strs_of (ys := r) fun z hz => h z (.tail _ hz)
    refine ⟨x :: xs, .cons x t hx, fun z hz => ?_⟩
    rcases List.mem_cons.mp hz with rfl | hz
    · exact hp
    · exact hq z hz
theorem ints_of {p : Int → Prop} : ∀ {ys : List Value}, (∀ y ∈ ys, ∃ x t, y = .int x t ∧ p x) → ∃ xs, IntsAre ys xs ∧ ∀ x ∈ xs, p x
  | [], _ => ⟨[], .nil, fun _ h => nomatch h⟩
  | y :: r, h => by
    obtain ⟨x, t, rfl, hp⟩ := h y (.head _)
    obtain ⟨xs, hx, hq⟩ := ints_of (ys := r) fun z hz => h z (.tail _ hz)
    refine ⟨x :: xs, .cons x t hx, fun z hz => ?_⟩
    rcases List.mem_cons.mp hz with rfl | hz
    · exact hp
    · exact hq z hz

theorem sum_le_of {b : Nat} : ∀ {xs : List Str}, (∀ a ∈ xs, a.length ≤ b) → (xs.map (·.length)).sum ≤ xs.length * b
  | [], _ => by simp
  | a :: r, h => by
    have h1 := sum_le_of (xs := r) fun z hz => h z (.tail _ hz)
    have h2 := h a (.head _)
    simp only [List.map_cons, List.sum_cons, List.length_cons, Nat.add_mul, Nat.one_mul]
    omega
/-- sep.join of a made list of texts -/
theorem m_join {prog : Program} {w : World} {A : Around} {E : Value → Shared → Prop} {s : Shared} {h₀ : Heap} {L D : Addr} {news : List (Addr × Obj)} {ys : List Value} {k : Nat} {xs : List Str} {x : Str} {t : Tok} {Q : Value → Shared → Prop} (b n : Nat)
    (N : News h₀ L s.heap news) (hm : (D, listOf ys.toArray k) ∈ news) (hX : StrsAre ys xs) (hb : ∀ a ∈ xs, a.length ≤ b) (hn : xs.length ≤ n) (hs : n * (b + x.length) ≤ 16777216)
    (h : ∀ t' k, Q (.str (Txt.join x xs) t') { s with toks := k }) : wpAny (model prog w) A (call (.builtin "str.join") [.str x t, .ref D]) Q E s := by
  have hl : s.heap.IsList D ys.toArray := ⟨_, (N _ hm).1, rfl, _, rfl⟩
  refine join_list hl hX ?_ h
  have h1 := sum_le_of hb
  have h2 : xs.length * b + xs.length * x.length ≤ n * (b + x.length) := by
    rw [← Nat.mul_add]; exact Nat.mul_le_mul_right _ hn
  omega

/-- a call that leaves the ledger as it is -/
def SaysP (w : World) (p : Program) (loose : List Str) (mean : ExcName → Option Value) (mg mb : Str → Option Value) (f : Addr) (vals : List Value) (dd du : Nat) (Pre : List (Addr × Obj) → Prop) (Post : Value → Prop) : Prop :=
  ∀ b, Pre b → Says w p loose mean mg mb f vals dd du (fun news => news = b) (fun r news' => news' = b ∧ Post r)
theorem saysP_use {w : World} {p : Program} {loose : List Str} {mean : ExcName → Option Value} {mg mb : Str → Option Value} {f : Addr} {vals : List Value} {dd du : Nat} {Pre : List (Addr × Obj) → Prop} {Post : Value → Prop}
    {dp un : Nat} {env : Env} {outer : List Env} {A₀ : Around} {base h₀ : Heap} {L : Addr} {m : Str → Option Value} {news : List (Addr × Obj)} {s : Shared} {Q E : Value → Shared → Prop}
    (C : SaysP w p loose mean mg mb f vals dd du Pre Post) (hf : env.frame = some L) (hk : env.scope.kind = .function) (hdp : dp + dd < recursionLimit) (hu : un + du < cLine)
    (Bl : Below A₀ base outer h₀) (F : Fr h₀ L s.heap m) (X : (hd.heap_39 w.params).In h₀) (N : News h₀ L s.heap news) (T : Top p loose mean mg mb h₀) (hP : Pre news)
    (ret : ∀ r h' tk', Post r → Fr h₀ L h' m → News h₀ L h' news → Q r { s with heap := h', toks := tk' }) :
    wpAny (model PySem.Challenge.rw_bq5028_01.row.prog w) (top dp un env outer) (call (.ref f) vals) Q E s := by
  refine C news hP dp un env outer A₀ base h₀ L m _ s Q E hf hk hdp hu Bl F X N T rfl ?_
  rintro r news' h' tk' F' N' ⟨rfl, hp⟩
  exact ret r h' tk' hp F' N'

/-- the end of a turn of a loop over pairs that turns one text -/
def PairEnd (h₀ : Heap) (L : Addr) (m₀ : Str → Option Value) (xi xc tn : Str) (own news : List (Addr × Obj)) (y : Str) (s₁ : Shared) (f : Flow) (s₂ : Shared) : Prop :=
  (f = .next ∨ f = .cont) ∧ ∃ h' tk m', s₂ = { s₁ with heap := h', toks := tk } ∧ Fr h₀ L h' m' ∧ News h₀ L h' (own ++ news) ∧ (∃ z t, m' tn = some (.str z t) ∧ z = y) ∧ ∀ z, z ≠ tn → z ≠ xi → z ≠ xc → m' z = m₀ z
theorem pair_str {prog : Program} {w : World} {A : Around} {E : Value → Shared → Prop} {h₀ : Heap} {env : Env} {α : Type} {K : ItemKind α} {as : List α} {xv : Value} {s : Shared} {m₀ : Str → Option Value} {news : List (Addr × Obj)} {xi xc : Str} {body : List Stmt} {Q : Flow → Shared → Prop}
    (S : PairSrc prog w A E h₀ env K as xv s m₀ news) (tn : Str) (acc : Nat → Str) {y₀ : Str} {t₀ : Tok} (h0 : m₀ tn = some (.str y₀ t₀)) (ha : y₀ = acc 0)
    (turn : ∀ (i : Nat) a t u tT h tk own, as[i]? = some a → K.is a u → Fr h₀ env.locals h (fun y => if y = xc then some u else if y = xi then some (.int i t) else if y = tn then some (.str (acc i) tT) else m₀ y) → News h₀ env.locals h (own ++ news) →
      wpAny (model prog w) A (execs body env) (PairEnd h₀ env.locals m₀ xi xc tn own news (acc (i + 1)) { s with heap := h, toks := tk }) E { s with heap := h, toks := tk })
    (done : ∀ vi vc t h tk, Fr h₀ env.locals h (fun y => if y = tn then some (.str (acc as.length) t) else if y = xc then vc else if y = xi then vi else m₀ y) → News h₀ env.locals h news → Q .next { s with heap := h, toks := tk }) :
    wpAny (model prog w) A (pyIter xv) (fun it s₂ => PairAt3 prog w A h₀ env xi xc body Q E it s₂) E s := by
  refine S xi xc body Q (fun i m₁ nw => nw = news ∧ (∃ t, m₁ tn = some (.str (acc i) t)) ∧ ∀ z, z ≠ tn → z ≠ xi → z ≠ xc → m₁ z = m₀ z) ⟨rfl, ⟨t₀, by rw [h0, ha]⟩, fun _ _ _ _ => rfl⟩ ?_ ?_
  · rintro i a t u m₁ news₁ s₁ own ⟨h, tk, rfl⟩ hi hu ⟨rfl, ⟨tT, hT⟩, hm⟩ _ _ F N
    have e : (fun y => if y = xc then some u else if y = xi then some (Value.int i t) else m₁ y) = fun y => if y = xc then some u else if y = xi then some (Value.int i t) else if y = tn then some (.str (acc i) tT) else m₀ y := by
      funext y
      by_cases h1 : y = xc
      · simp [h1]
      · by_cases h2 : y = xi
        · simp [h2]
        · by_cases h3 : y = tn
          · simp only [if_neg h1, if_neg h2, if_pos h3]; rw [h3]; exact hT
          · simp only [if_neg h1, if_neg h2, if_neg h3]; exact hm y h3 h2 h1
    rw [e] at F
    refine wpAny_mono (turn i a t u tT h tk own hi hu F N) (fun f s₂ hq => ?_) fun _ _ x => x
    obtain ⟨hf, h', tk', m', rfl, F', N', ⟨z, t', hz, rfl⟩, hr⟩ := hq
    rcases hf with rfl | rfl
    · exact ⟨rfl, h', tk', m', _, rfl, F', N', rfl, rfl, ⟨t', hz⟩, hr⟩
    · exact ⟨rfl, h', tk', m', _, rfl, F', N', rfl, rfl, ⟨t', hz⟩, hr⟩
  · rintro h' tk m' news' F N _ ⟨rfl, ⟨t, hT⟩, hm⟩
    have e : m' = fun y => if y = tn then some (.str (acc as.length) t) else if y = xc then m' xc else if y = xi then m' xi else m₀ y := by
      funext y
      by_cases h3 : y = tn
      · simp only [if_pos h3]; rw [h3]; exact hT
      · by_cases h1 : y = xc
        · simp only [if_neg h3, if_pos h1]; rw [h1]
        · by_cases h2 : y = xi
          · simp only [if_neg h3, if_neg h1, if_pos h2]; rw [h2]
          · simp only [if_neg h1, if_neg h2, if_neg h3]; exact hm y h3 h2 h1
    rw [e] at F
    exact done _ _ t h' tk F N

theorem strs_at : ∀ {vs : List Value} {xs : List Str}, StrsAre vs xs → ∀ {i : Nat} {v : Value}, vs[i]? = some v → ∃ x t, xs[i]? = some x ∧ v = .str x t
  | _, _, .cons x t h, 0, v, e => ⟨x, t, rfl, (Option.some.inj e).symm⟩
  | _, _, .cons _ _ h, i + 1, v, e => strs_at h (i := i) e
theorem strs_snoc {y : Str} {t : Tok} : ∀ {vs : List Value} {ys : List Str}, StrsAre vs ys → StrsAre (vs ++ [.str y t]) (ys ++ [y])
  | _, _, .nil => .cons y t .nil
  | _, _, .cons z u r => .cons z u (strs_snoc r)
/-- a block over a list of texts, each turned into a text -/
theorem comp_strs {prog : Program} {w : World} {A : Around} {h₀ : Heap} {L : Addr} {m : Str → Option Value} {env : Env} {elt : PySem.Expr} {xn : Str} {scope : Scope} {cl : List (Str × Addr)} {s : Shared} {S : List (Addr × Obj) → Prop} {Fin : List Value → List (Addr × Obj) → Prop}
    {vs : List Value} {xs : List Str} {news : List (Addr × Obj)} (f : Str → Str) (hX : StrsAre vs xs)
    (turn : ∀ x t I oI C oC D m₂ ys h tk (E' : Value → Shared → Prop), x ∈ xs → LCg.NsObj oC m₂ → m₂ xn = some (.str x t) → Fr h₀ L h m → News h₀ L h ((I, oI) :: (C, oC) :: (D, LCg.lst ys) :: news) → LCg.Off3 I C D news → ((@Ne Nat I C) ∧ (@Ne Nat I D) ∧ (@Ne Nat C D)) →
      wpAny (model prog w) A (eval elt (compEnvC scope cl C env)) (LCg.CompEnd h₀ L m { s with heap := h, toks := tk } I oI C oC D (LCg.lst ys) S (fun y news' => news' = news ∧ ∃ z t, y = .str z t ∧ z = f x)) E' { s with heap := h, toks := tk })
    (fin : ∀ ys, StrsAre ys (xs.map f) → Fin ys news) : LCg.CompRest prog w A h₀ L m env elt xn scope cl s S (fun i v => vs.toArray[i]? = some v) Fin vs.toArray.size 0 [] news := by
  have hlen : vs.toArray.size = xs.length := by rw [List.size_toArray]; exact hX.length
  have key : ∀ (j i : Nat) (ys : List Value), i + j = vs.toArray.size → StrsAre ys ((xs.take i).map f) → LCg.CompRest prog w A h₀ L m env elt xn scope cl s S (fun i v => vs.toArray[i]? = some v) Fin j i ys news := by
    intro j
    induction j with
    | zero =>
      intro i ys hi hy
      have e : i = xs.length := by omega
      subst e
      rw [List.take_length] at hy
      exact LCg.CompRest.zero (fin ys hy)
    | succ j ih =>
      intro i ys hi hy
      refine LCg.CompRest.succ fun v I oI C oC D m₂ h tk E' hv hC hx F N off ne => ?_
      obtain ⟨x, t, hxi, rfl⟩ := strs_at hX (i := i) (v := v) (by simpa using hv)
      refine wpAny_mono (turn x t I oI C oC D m₂ ys h tk E' (List.mem_of_getElem? hxi) hC hx F N off ne) (fun y s₂ hq => ?_) fun _ _ e => e
      obtain ⟨h', tk', nw, e, F', N', off', hT, hn, z, t', rfl, rfl⟩ := hq
      rw [hn] at N' off' hT
      refine ⟨h', tk', news, e, F', N', off', hT, ih (i + 1) _ (by omega) ?_⟩
      rw [List.take_add_one, hxi]
      simpa using strs_snoc hy
  exact key _ 0 [] (by omega) .nil

theorem off1_mem {D : Addr} : ∀ {l : List (Addr × Obj)}, LCg.Off1 D l → ∀ p ∈ l, p.1 ≠ D
  | [], _, _, h => nomatch h
  | q :: r, x, p, h => by
    rcases List.mem_cons.mp h with rfl | h
    · exact x.1
    · exact off1_mem x.2 p h
/-- enumerate over a list that the call has made; the list leaves the ledger while the loop runs -/
theorem enum_made {prog : Program} {w : World} {A : Around} {E : Value → Shared → Prop} {s : Shared} {h₀ : Heap} {L D : Addr} {m : Str → Option Value} {news : List (Addr × Obj)} {ys : List Value} {zs : List Str} {k : Nat} {Q : Value → Shared → Prop}
    (hh : A.handled = none) (hY : StrsAre ys zs) (F : Fr h₀ L s.heap m) (N : News h₀ L s.heap ((D, listOf ys.toArray k) :: news)) (hD : ∀ p ∈ news, p.1 ≠ D)
    (h : ∀ h' e, Fr h₀ L h' m → News h₀ L h' news → PairSrcL prog w A E h₀ L ItemKind.str zs (.ref e) { s with heap := h' } m news → Q (.ref e) { s with heap := h' }) :
    wpAny (model prog w) A (call (.type "enumerate") [.ref D]) Q E s := by
  have own := N (D, listOf ys.toArray k) (.head _)
  have hls : s.heap.IsList D ys.toArray := ⟨_, own.1, rfl, _, rfl⟩
  have dlt : D < s.heap.objs.size := Heap.lt_size own.1
  have llt : L < s.heap.objs.size := F.ns.lt
  have lt : ∀ q ∈ news, q.1 < s.heap.objs.size := fun q hq => Heap.lt_size (N q (.tail _ hq)).1
  have nil : ∀ b, s.heap.objs.size ≤ b → h₀.get? b = none := fun b hb => Heap.get?_none_of_le (Nat.le_trans F.above (Nat.le_trans (Nat.le_of_lt llt) hb))
  refine call_enumerate_list hls fun h₁ e0 i0 hz up => h h₁ _ (F.keeps up) (fun p hp => ⟨up _ _ (N p (.tail _ hp)).1, (N p (.tail _ hp)).2⟩) fun env hE => ?_
  subst hE
  have side : ∀ {b : Addr}, b ∈ [s.heap.objs.size + 1, s.heap.objs.size, D] → b = s.heap.objs.size + 1 ∨ b = s.heap.objs.size ∨ b = D := by
    intro b hb
    simpa using hb
  refine enumSrc (Draws.list (A := A.in1) hh s.heap.objs.size D (Nat.ne_of_lt dlt) ys.toArray) e0 ⟨i0, _, up _ _ own.1, rfl, _, rfl⟩ (Nat.succ_ne_self _) (fun hm => ?_) (by simp) (fun hm => ?_) (nil _ (Nat.le_succ _)) (nil _ (Nat.le_refl _)) (fun b hb q hq e => ?_)
    (by rw [List.size_toArray]; exact hY.length) (fun i x hx => (StrsAre.areOf hY).get i x (by simpa using hx)) (F.keeps up) (fun p hp => ⟨up _ _ (N p (.tail _ hp)).1, (N p (.tail _ hp)).2⟩)
  · rcases List.mem_cons.mp hm with g | g
    · exact Nat.succ_ne_self _ g
    · exact Nat.lt_asymm dlt ((List.mem_singleton.mp g) ▸ Nat.lt_succ_self _)
  · rcases side hm with g | g | g
    · exact Nat.not_succ_le_self _ (Nat.le_of_lt (g ▸ llt))
    · exact Nat.lt_irrefl _ (g ▸ llt)
    · exact own.2.1 g.symm
  · have := lt q hq
    rcases side hb with g | g | g
    · exact Nat.not_succ_le_self _ (Nat.le_of_lt ((e.symm.trans g) ▸ this))
    · exact Nat.lt_irrefl _ ((e.symm.trans g) ▸ this)
    · exact hD q hq (e.symm.trans g)
theorem item_ok {v : Int} (h0 : 0 ≤ v) (h1 : v < 12) : PyData.strOk (Txt.item (Str.ofString "abXY_09 .,%é") v) = true := by
  have h : v = 0 ∨ v = 1 ∨ v = 2 ∨ v = 3 ∨ v = 4 ∨ v = 5 ∨ v = 6 ∨ v = 7 ∨ v = 8 ∨ v = 9 ∨ v = 10 ∨ v = 11 := by omega
  rcases h with rfl | rfl | rfl | rfl | rfl | rfl | rfl | rfl | rfl | rfl | rfl | rfl <;> decide +kernel
theorem app_ok {a b : Str} (ha : PyData.strOk a = true) (hb : PyData.strOk b = true) : PyData.strOk (a ++ b) = true := by
  unfold PyData.strOk at ha hb ⊢
  rw [PySem.Str.cps_append, Array.all_append, ha, hb]
  rfl
theorem join_ok : ∀ {xs : List Str}, (∀ a ∈ xs, PyData.strOk a = true) → PyData.strOk (Txt.join (Str.ofString "") xs) = true := by
  intro xs h
  rw [show Txt.join (Str.ofString "") xs = Str.join (Str.ofString "") xs from StrLaws.glued_eq_join _ _]
  induction xs with
  | nil => decide +kernel
  | cons a r ih =>
    cases r with
    | nil => exact h a (.head _)
    | cons b r =>
      show PyData.strOk (a ++ Str.ofString "" ++ Str.join (Str.ofString "") (b :: r)) = true
      exact app_ok (app_ok (h a (.head _)) (by decide +kernel)) (ih fun z hz => h z (.tail _ hz))
end Mine

namespace Mine
open PySem PySem.W PySem.Calls PySem.Spec PyProof.Rows
set_option maxRecDepth 100000
local macro_rules | `(tactic| walk_at "m_enter") => `(tactic| (refine' code_def ?k1 ?k2 ?k3 ?k4 ?k5 ?kA ?kF ?kK ?k6 ?k7 ?k8 ?k9 ?kB ?_ ?c2 ?c3 ?c4 ?c5; (case kA => exact rfl); (case kF => first | exact rfl | assumption); (case kK => first | exact rfl | assumption); (case k1 => k_asm); (case k2 => k_asm); (case k3 => k_asm); (case k4 => k_asm); (case k5 => k_asm); (case k6 => k_is); (case k7 => k_is); (case k8 => (dsimp only; omega)); (case k9 => exact BindsTo.of_eq rfl); (case c5 => decide); (case kB => exact locs rfl); (case c2 => exact rfl); (case c3 => exact rfl); (case c4 => exact rfl); k_whole; intro g' L' h' FG' F' N' B' X' T'; (try dsimp only); (try k_fold)))
local macro_rules | `(tactic| k_all) => `(tactic| assumption)
set_option maxHeartbeats 4000000 in
theorem next_says (w : World) (p : Program) (loose : List Str) (mean : ExcName → Option Value) (mg mb : Str → Option Value) (S B : Addr) (many : Int) (tm : Tok) (hm0 : 0 < many) (hm1 : many ≤ 100) :
    SaysS w p loose mean mg mb 34 S B [.ref S, .int many tm] 1 8 (fun r => ∃ v t, r = .int v t ∧ 0 ≤ v ∧ v < many) := by
  rintro o oB b ⟨i, c, ti, tc, k, rfl, h0, hc0, hc1⟩ ⟨vs, ns, nb, rfl, hI, hlen⟩ hSB hb
  unfold Says
  k_fill
  intro dp un env outer A₀ base h₀ L m news s Q E hf hke hdp hu B F X N T hpre ret
  subst hpre
  refine wpAny_call ?_
  k_dflt walk_at "m_enter"
  k_steps
  all_goals (refine ret _ _ _ _ (by k_asm) (by k_asm) ⟨_, ⟨_, _, _, _, _, rfl, ?_, ?_, ?_⟩, rfl, _, _, rfl, fmod_lo _ hm0, fmod_hi _ hm0⟩ <;> first | omega | exact fmod_lo _ (by decide) | exact fmod_hi _ (by decide))
end Mine

namespace Mine
open PySem PySem.W PySem.Calls PySem.Spec PyProof.Rows
set_option maxRecDepth 100000
local macro_rules | `(tactic| walk_at "m_enter") => `(tactic| (refine' code_def ?k1 ?k2 ?k3 ?k4 ?k5 ?kA ?kF ?kK ?k6 ?k7 ?k8 ?k9 ?kB ?_ ?c2 ?c3 ?c4 ?c5; (case kA => exact rfl); (case kF => first | exact rfl | assumption); (case kK => first | exact rfl | assumption); (case k1 => k_asm); (case k2 => k_asm); (case k3 => k_asm); (case k4 => k_asm); (case k5 => k_asm); (case k6 => k_is); (case k7 => k_is); (case k8 => (dsimp only; omega)); (case k9 => exact BindsTo.of_eq rfl); (case c5 => decide); (case kB => exact locs rfl); (case c2 => exact rfl); (case c3 => exact rfl); (case c4 => exact rfl); k_whole; intro g' L' h' FG' F' N' B' X' T'; (try dsimp only); (try k_fold)))
local macro_rules | `(tactic| walk_at "pyIter ref") => `(tactic| refine Stuck.out ?_)
/-- the first n signs of a text -/
def takeS (x : Str) (n : Nat) : Str := ⟨(x.cps.toList.take n).toArray⟩
/-- a name as the law shows it -/
def cutS (x : Str) : Str := if x.length ≤ 11 then x else takeS x 11 ++ Str.ofString ".."
theorem takeS_len (x : Str) (n : Nat) : (takeS x n).length ≤ n := by
  show ((x.cps.toList.take n).toArray).size ≤ n
  rw [List.size_toArray, List.length_take]; omega
theorem takeS_next {x a : Str} {i n : Nat} (h : (signs x)[i]? = some a) (hn : i < n) : takeS x (min i n) ++ a = takeS x (min (i + 1) n) := by
  have e1 : min i n = i := by omega
  have e2 : min (i + 1) n = i + 1 := by omega
  rw [e1, e2]
  unfold signs at h
  rw [List.getElem?_map] at h
  obtain ⟨c, hc, rfl⟩ := Option.map_eq_some_iff.mp h
  refine PySem.Str.ext' ?_
  rw [PySem.Str.cps_append]
  show (x.cps.toList.take i).toArray ++ #[c] = (x.cps.toList.take (i + 1)).toArray
  rw [List.take_add_one, hc]
  simp
theorem takeS_stay {x : Str} {i n : Nat} (hn : ¬ i < n) : takeS x (min i n) = takeS x (min (i + 1) n) := by
  have e1 : min i n = n := by omega
  have e2 : min (i + 1) n = n := by omega
  rw [e1, e2]
theorem takeS_all {x : Str} {n : Nat} (h : x.length ≤ n) : takeS x n = x := by
  have : x.cps.size ≤ n := h
  unfold takeS
  rw [List.take_of_length_le (by simpa using this)]
theorem takeS_beq {x : Str} {n : Nat} : (takeS x (min x.length n) == x) = decide (x.length ≤ n) := by
  by_cases h : x.length ≤ n
  · rw [Nat.min_eq_left h, takeS_all (Nat.le_refl _)]; simp [h]
  · have e : takeS x (min x.length n) ≠ x := fun e => by
      have := takeS_len x (min x.length n)
      rw [e] at this
      omega
    simp [h, e]
set_option maxHeartbeats 4000000 in
theorem short_says (w : World) (p : Program) (loose : List Str) (mean : ExcName → Option Value) (mg mb : Str → Option Value) (x : Str) (t : Tok) (hx : x.length ≤ 30) :
    SaysP w p loose mean mg mb 46 [.str x t] 1 8 (fun _ => True) (fun r => ∃ t, r = .str (cutS x) t) := by
  intro b _
  unfold Says
  k_fill
  intro dp un env outer A₀ base h₀ L m news s Q E hf hke hdp hu B F X N T hpre ret
  subst hpre
  have hMk := kstMark
  refine wpAny_call ?_
  k_dflt walk_at "m_enter"
  k_steps
  constructor
  rename_i hS
  refine pair_str (PairSrcL.at hS _ rfl) (Str.ofString "told") (fun i => takeS x (min i 11)) rfl (by simp [takeS]; rfl) ?_ ?_
  · intro i a t u tT h tk own hi hu F' N'
    obtain ⟨tu, rfl⟩ := hu
    have hl1 := sign_length_one x a (List.mem_of_getElem? hi)
    have hl2 := takeS_len x (min i 11)
    have hl3 : (takeS x (min i 11)).length ≤ 11 := by omega
    k_steps
    · exact ⟨.inl rfl, _, _, _, rfl, by k_asm, by k_asm, ⟨_, _, rfl, takeS_next hi (by omega)⟩, by intro z h1 h2 h3; simp only [if_neg h1, if_neg h2, if_neg h3]⟩
    · exact ⟨.inl rfl, _, _, _, rfl, by k_asm, by k_asm, ⟨_, _, rfl, takeS_stay (by omega)⟩, by intro z h1 h2 h3; simp only [if_neg h1, if_neg h2, if_neg h3]⟩
  · intro vi vc t h tk F' N'
    dsimp only at F'
    rw [signs_length] at F'
    have hl2 := takeS_len x (min x.length 11)
    have hl3 : (takeS x (min x.length 11)).length ≤ 11 := by omega
    k_steps
    · rename_i e _ _ _ _
      rw [takeS_beq, decide_eq_true_eq] at e
      have hc : takeS x (min x.length 11) = cutS x := by
        unfold cutS
        rw [if_pos e, Nat.min_eq_left e, takeS_all (Nat.le_refl _)]
      rw [hc]
      exact ret _ _ _ _ (by k_asm) (by k_asm) ⟨rfl, _, rfl⟩
    · rename_i e _ _ _ _ _ _ _
      rw [takeS_beq, decide_eq_false_iff_not] at e
      have hc : takeS x (min x.length 11) ++ Str.ofString ".." = cutS x := by
        unfold cutS
        rw [if_neg e, Nat.min_eq_right (by omega)]
      rw [hc]
      exact ret _ _ _ _ (by k_asm) (by k_asm) ⟨rfl, _, rfl⟩
end Mine

namespace Mine
open PySem PySem.W PySem.Calls PySem.Spec PyProof.Rows
set_option maxRecDepth 100000
local macro_rules | `(tactic| walk_at "m_enter") => `(tactic| (refine' code_def ?k1 ?k2 ?k3 ?k4 ?k5 ?kA ?kF ?kK ?k6 ?k7 ?k8 ?k9 ?kB ?_ ?c2 ?c3 ?c4 ?c5; (case kA => exact rfl); (case kF => first | exact rfl | assumption); (case kK => first | exact rfl | assumption); (case k1 => k_asm); (case k2 => k_asm); (case k3 => k_asm); (case k4 => k_asm); (case k5 => k_asm); (case k6 => k_is); (case k7 => k_is); (case k8 => (dsimp only; omega)); (case k9 => exact BindsTo.of_eq rfl); (case c5 => decide); (case kB => exact locs rfl); (case c2 => exact rfl); (case c3 => exact rfl); (case c4 => exact rfl); k_whole; intro g' L' h' FG' F' N' B' X' T'; (try dsimp only); (try k_fold)))
local macro_rules | `(tactic| walk_at "m_room") => `(tactic| ((try simp only [depth_under_make, depth_under_kw, depth_in1, depth_deeper, depth_caller]); (try dsimp only [top]); first | omega | decide))
local macro_rules | `(tactic| walk_at "m_units") => `(tactic| (have hcL9 := cLine_is; (try simp only [units_in1, units_deeper, Around.mark_units, units_caller]); (try dsimp only [top]); first | omega | (simp only [cLine] at *; omega)))
local macro_rules | `(tactic| walk_at "pyIter ref") => `(tactic| refine Stuck.out ?_)
local macro_rules | `(tactic| walk_at "call type:enumerate") => `(tactic| (k_here; k_dflt (refine' enum_made ?kh ?kY ?kF ?kN ?kD ?_; (case kh => exact rfl); (case kF => k_asm); (case kN => k_asm); (case kY => k_asm); (case kD => exact off1_mem (by k_asm)); k_whole); intro h' e' F' N' hS'))
local macro_rules | `(tactic| kt_len) => `(tactic| ((with_reducible rename (∀ i, PySem.Str.length (List.getD _ i _) ≤ 13) => hg9); exact hg9 _))
local macro_rules | `(tactic| walk_at "CompSrc") => `(tactic| refine Stuck.out ?_)
local macro_rules | `(tactic| walk_at "m_short") => `(tactic| (refine' saysP_use (short_says _ _ _ _ _ _ _ _ ?m0) ?kf ?kk ?kd ?ku ?kB ?kF ?kX ?kN ?kT True.intro ?_; (case kf => exact rfl); (case kk => exact rfl); (case kB => k_asm); (case kF => k_asm); (case kX => k_asm); (case kN => k_asm); (case kT => k_asm); (case m0 => assumption); (case kd => walk_at "m_room"); (case ku => walk_at "m_units"); k_whole; intro r' h' tk' hP9 F' N'; (obtain ⟨t', e9⟩ := hP9); subst e9))
local macro_rules | `(tactic| walk_at "call ref") => `(tactic| (k_here; k_dflt (walk_at "m_short")))
theorem cutS_len (x : Str) : (cutS x).length ≤ 13 := by
  unfold cutS
  split
  · omega
  · have := takeS_len x 11
    rw [Str.length_append]
    have e : (Str.ofString "..").length = 2 := by decide
    omega
theorem txt_join (sep : Str) (l : List Str) : Txt.join sep l = Str.join sep l := StrLaws.glued_eq_join sep l
theorem app_nil (x : Str) : x ++ Str.ofString "" = x := PySem.Str.ext' (by rw [PySem.Str.cps_append]; show x.cps ++ #[] = x.cps; simp)
theorem nil_app (x : Str) : Str.ofString "" ++ x = x := PySem.Str.ext' (by rw [PySem.Str.cps_append]; show #[] ++ x.cps = x.cps; simp)
theorem m_join_snoc (sep a : Str) : ∀ l : List Str, Str.join sep (l ++ [a]) = if l = [] then a else Str.join sep l ++ sep ++ a
  | [] => rfl
  | [x] => rfl
  | x :: y :: r => by
    have ih := m_join_snoc sep a (y :: r)
    rw [if_neg (List.cons_ne_nil _ _)] at ih ⊢
    show x ++ sep ++ Str.join sep ((y :: r) ++ [a]) = (x ++ sep ++ Str.join sep (y :: r)) ++ sep ++ a
    rw [ih]
    simp only [PySem.Str.append_assoc]
theorem jnext_pos {sep z : Str} {zs : List Str} {i : Nat} (h : zs[i]? = some z) (hi : 0 < i) : Txt.join sep (zs.take i) ++ sep ++ z = Txt.join sep (zs.take (i + 1)) := by
  rw [List.take_add_one, h, txt_join, txt_join]
  show _ = Str.join sep (zs.take i ++ [z])
  rw [m_join_snoc, if_neg]
  intro e
  have hl := congrArg List.length e
  have := (List.getElem?_eq_some_iff.mp h).1
  rw [List.length_take, List.length_nil] at hl
  omega
theorem jnext_zero {sep z : Str} {zs : List Str} {i : Nat} (h : zs[i]? = some z) (hi : i = 0) : Txt.join sep (zs.take i) ++ Str.ofString "" ++ z = Txt.join sep (zs.take (i + 1)) := by
  subst hi
  rw [List.take_add_one, h, txt_join, txt_join]
  show Str.ofString "" ++ Str.ofString "" ++ z = z
  rw [app_nil, nil_app]
theorem five_row : ∀ {zs : List Str}, 5 ≤ zs.length →
    zs.getD (Int.toNat 0) Str.empty ++ Str.ofString ", " ++ zs.getD (Int.toNat 1) Str.empty ++ Str.ofString ", " ++ zs.getD (Int.toNat 2) Str.empty ++ Str.ofString ", ..., " ++ zs.getD (-1 + (zs.length : Int)).toNat Str.empty
      = Txt.join (Str.ofString ", ") (zs.take 3) ++ Str.ofString ", ..., " ++ zs.getD (zs.length - 1) Str.empty
  | a :: b :: c :: d :: r, h => by
    have e3 : (-1 + ((a :: b :: c :: d :: r).length : Int)).toNat = (a :: b :: c :: d :: r).length - 1 := by omega
    rw [e3, txt_join]
    show a ++ Str.ofString ", " ++ b ++ Str.ofString ", " ++ c ++ Str.ofString ", ..., " ++ _ = (a ++ Str.ofString ", " ++ (b ++ Str.ofString ", " ++ c)) ++ Str.ofString ", ..., " ++ _
    simp only [PySem.Str.append_assoc]
theorem join_len {sep : Str} {b : Nat} {l : List Str} (h : ∀ a ∈ l, a.length ≤ b) : (Txt.join sep l).length ≤ l.length * (b + sep.length) := by
  rw [txt_join]
  refine Nat.le_trans (StrLaws.join_length_le sep l) ?_
  have := sum_le_of h
  rw [Nat.mul_add]
  omega
/-- a row of names as the law shows it -/
def rowS (xs : List Str) : Str :=
  if xs.length ≤ 4 then Txt.join (Str.ofString ", ") (xs.map cutS) else Txt.join (Str.ofString ", ") ((xs.map cutS).take 3) ++ Str.ofString ", ..., " ++ (xs.map cutS).getD ((xs.map cutS).length - 1) Str.empty
set_option maxHeartbeats 4000000 in
theorem row_says (w : World) (p : Program) (loose : List Str) (mean : ExcName → Option Value) (mg mb : Str → Option Value) (D : Addr) (vs : List Value) (k : Nat) (xs : List Str) (hX : StrsAre vs xs) (h30 : ∀ x ∈ xs, x.length ≤ 30) (h1 : 0 < xs.length) (h7 : xs.length ≤ 7) :
    SaysP w p loose mean mg mb 51 [.ref D] 4 40 (fun b => (D, listOf vs.toArray k) ∈ b) (fun r => ∃ t, r = .str (rowS xs) t) := by
  intro b hD
  unfold Says
  k_fill
  intro dp un env outer A₀ base h₀ L m news s Q E hf hke hdp hu B F X N T hpre ret
  subst hpre
  have hMk := kstMark
  refine wpAny_call ?_
  k_dflt walk_at "m_enter"
  k_steps
  constructor
  refine LCg.CompSrc.ledger (by rfl) (by k_asm) (by k_asm) (by k_mem) (by rw [PySem.sizeLine_eq, List.size_toArray, hX.length]; omega) ?_
  intro g
  refine comp_strs cutS hX ?_ ?_
  · intro x t I oI C oC D' m₂ ys h tk E' hx hC hx2 F' N' off ne
    have h30' := h30 x hx
    k_steps
    exact LCg.CompEnd.intro (by k_asm) (by k_asm) _ (fun _ h => h) off (Or.inr ⟨_, hD, rfl, _, rfl⟩) ⟨rfl, _, _, rfl, rfl⟩
  · intro ys hY
    obtain ⟨zs, hz⟩ : ∃ zs, zs = xs.map cutS := ⟨_, rfl⟩
    rw [← hz] at hY
    have hzl : zs.length = xs.length := by rw [hz, List.length_map]
    have hz13 : ∀ z ∈ zs, z.length ≤ 13 := by
      intro z hz'
      rw [hz] at hz'
      obtain ⟨x, _, rfl⟩ := List.mem_map.mp hz'
      exact cutS_len x
    have hg : ∀ i, (zs.getD i Str.empty).length ≤ 13 := fun i => by
      by_cases hi : i < zs.length
      · have e : zs.getD i Str.empty = zs[i] := by simp [List.getD, hi]
        rw [e]; exact hz13 _ (List.getElem_mem hi)
      · have e : zs.getD i Str.empty = Str.empty := by simp [List.getD, Nat.not_lt.mp hi]
        rw [e]; exact Nat.zero_le _
    have e2 : (Str.ofString ", ").length = 2 := by decide
    have hj : ∀ i, zs.length ≤ 4 → (Txt.join (Str.ofString ", ") (zs.take i)).length ≤ 60 := fun i h4 => by
      have h5 := join_len (sep := Str.ofString ", ") (l := zs.take i) fun a ha => hz13 a (List.mem_of_mem_take ha)
      have h6 : (zs.take i).length ≤ 4 := by rw [List.length_take]; omega
      rw [e2] at h5
      omega
    k_steps
    · constructor
      rename_i h4 _ _ _ _ _ _ _ _ hS
      have h4' : zs.length ≤ 4 := by omega
      refine pair_str (PairSrcL.at hS _ rfl) (Str.ofString "told") (fun i => Txt.join (Str.ofString ", ") (zs.take i)) rfl (by rfl) ?_ ?_
      · intro i a t u tT h tk own hi hu F' N'
        obtain ⟨tu, rfl⟩ := hu
        have hl1 := hz13 a (List.mem_of_getElem? hi)
        have hl2 := hj i h4'
        k_steps
        · exact ⟨.inl rfl, _, _, _, rfl, by k_asm, by k_asm, ⟨_, _, rfl, jnext_pos hi (by omega)⟩, by intro z h1 h2 h3; simp only [if_neg h1, if_neg h2, if_neg h3]⟩
        · exact ⟨.inl rfl, _, _, _, rfl, by k_asm, by k_asm, ⟨_, _, rfl, jnext_zero hi (by omega)⟩, by intro z h1 h2 h3; simp only [if_neg h1, if_neg h2, if_neg h3]⟩
      · intro vi vc t h tk F' N'
        dsimp only at F'
        rw [List.take_length] at F'
        k_steps
        have hc : Txt.join (Str.ofString ", ") zs = rowS xs := by
          unfold rowS
          rw [if_pos (by omega), hz]
        rw [hc]
        exact ret _ _ _ _ (by k_asm) (by k_asm) ⟨rfl, _, rfl⟩
    · have hc : zs.getD (Int.toNat 0) Str.empty ++ Str.ofString ", " ++ zs.getD (Int.toNat 1) Str.empty ++ Str.ofString ", " ++ zs.getD (Int.toNat 2) Str.empty ++ Str.ofString ", ..., " ++ zs.getD (-1 + (zs.length : Int)).toNat Str.empty = rowS xs := by
        unfold rowS
        rw [if_neg (by omega), ← hz]
        exact five_row (by omega)
      rw [hc]
      exact ret _ _ _ _ (by k_asm) (fun q hq => (by k_asm : News _ _ _ ((_, _) :: news)) q (.tail _ hq)) ⟨rfl, _, rfl⟩
end Mine

namespace Mine
open PySem PySem.W PySem.Calls PySem.Spec PyProof.Rows
set_option maxRecDepth 100000
local macro_rules | `(tactic| walk_at "m_enter") => `(tactic| (refine' code_def ?k1 ?k2 ?k3 ?k4 ?k5 ?kA ?kF ?kK ?k6 ?k7 ?k8 ?k9 ?kB ?_ ?c2 ?c3 ?c4 ?c5; (case kA => exact rfl); (case kF => first | exact rfl | assumption); (case kK => first | exact rfl | assumption); (case k1 => k_asm); (case k2 => k_asm); (case k3 => k_asm); (case k4 => k_asm); (case k5 => k_asm); (case k6 => k_is); (case k7 => k_is); (case k8 => (dsimp only; omega)); (case k9 => exact BindsTo.of_eq rfl); (case c5 => decide); (case kB => exact locs rfl); (case c2 => exact rfl); (case c3 => exact rfl); (case c4 => exact rfl); k_whole; intro g' L' h' FG' F' N' B' X' T'; (try dsimp only); (try k_fold)))
local macro_rules | `(tactic| walk_at "m_room") => `(tactic| ((try simp only [depth_under_make, depth_under_kw, depth_in1, depth_deeper, depth_caller]); (try dsimp only [top]); first | omega | decide))
local macro_rules | `(tactic| walk_at "m_units") => `(tactic| (have hcL9 := cLine_is; (try simp only [units_in1, units_deeper, Around.mark_units, units_caller]); (try dsimp only [top]); first | omega | (simp only [cLine] at *; omega)))
local macro_rules | `(tactic| walk_at "pyIter ref") => `(tactic| refine Stuck.out ?_)
local macro_rules | `(tactic| walk_at "call builtin:len") => `(tactic| (k_here; (with_reducible show wpAny _ _ (call (Value.builtin "len") [Value.ref _]) _ _ _); k_dflt (refine' kst_len ?k1 ?k2 ?k3 ?k4 ?_; (case k1 => k_asm); (case k2 => k_mem); (case k3 => exact StrsAre.length (by assumption)); (case k4 => omega); k_whole)))
def pickS (l : List Str) (lo hi : Option Int) : List Str := (l.drop (kms_lo lo l.length)).take (kms_hi hi l.length - kms_lo lo l.length)
theorem strs_pick {vs : List Value} {xs : List Str} (h : StrsAre vs xs) (lo hi : Option Int) : StrsAre (kms_pick vs lo hi) (pickS xs lo hi) := by
  unfold kms_pick pickS
  rw [h.length]
  exact (h.drop' _).take' _
section
variable {prog : Program} {w : World} {A : Around} {E : Value → Shared → Prop} {s : Shared} {h₀ : Heap} {L l b : Addr} {m : Str → Option Value} {news : List (Addr × Obj)} {value slice : PySem.Expr} {vs ws : List Value} {xs ys zs : List Str} {k j : Nat} {vl vu : Value} {lo hi : Option Int} {Q : Value → Shared → Prop}
theorem m_slice (F : Fr h₀ L s.heap m) (N : News h₀ L s.heap news) (hm : (l, listOf vs.toArray k) ∈ news) (hX : StrsAre vs xs) (pl : IsPart vl lo) (pu : IsPart vu hi) (e : pickS xs lo hi = zs)
    (h : ∀ D us h', Fr h₀ L h' m → News h₀ L h' ((D, listOf (List.toArray us) 0) :: news) → (∀ p ∈ news, p.1 < D) → StrsAre us zs → Q (.ref D) { s with heap := h' })
    (hs : subscripted slice false (.ref l) (.ref s.heap.objs.size) = operate [.ref s.heap.objs.size, .ref l] (getItem (.ref l) (.ref s.heap.objs.size))) (ht : ∀ r, letTemporaryGo value (.ref l) r = pure ()) (hz : xs.length ≤ 1000) :
    wpAny (model prog w) A (subscriptTail value slice (.ref l) (.ref s.heap.objs.size)) Q E { s with heap := s.heap.push { cls := .type "slice", data := .fields #[vl, vu, .none] } } :=
  kms_slice_lit F N ⟨_, (N _ hm).1, rfl, _, rfl⟩ pl pu rfl (fun D h' F' N' l1 => h D _ h' F' N' l1 (by rw [← e]; exact strs_pick hX lo hi)) hs ht (by rw [PySem.sizeLine_eq, List.size_toArray, hX.length]; omega)
theorem m_cat (F : Fr h₀ L s.heap m) (N : News h₀ L s.heap news) (h1 : (l, listOf vs.toArray k) ∈ news) (h2 : (b, listOf ws.toArray j) ∈ news) (hX : StrsAre vs xs) (hY : StrsAre ws ys)
    (h : ∀ D us h', Fr h₀ L h' m → News h₀ L h' ((D, listOf (List.toArray us) 0) :: news) → (∀ p ∈ news, p.1 < D) → StrsAre us (xs ++ ys) → Q (.ref D) { s with heap := h' })
    (hz : xs.length + ys.length ≤ 1000) : wpAny (model prog w) A (binaryOp .Add (.ref l) (.ref b)) Q E s :=
  kmk_add_lit F N ⟨_, (N _ h1).1, rfl, _, rfl⟩ ⟨_, (N _ h2).1, rfl, _, rfl⟩ rfl (fun D h' F' N' l1 => h D _ h' F' N' l1 (hX.append' hY)) (by
    show vs.length + ws.length ≤ sizeLine
    rw [PySem.sizeLine_eq, hX.length, hY.length]; omega)
end
theorem pick_04 (xs : List Str) : pickS xs (some 0) (some 4) = xs.take 4 := by
  show (xs.drop (min (Int.toNat 0) xs.length)).take (min (Int.toNat 4) xs.length - min (Int.toNat 0) xs.length) = xs.take 4
  rw [show Int.toNat 0 = 0 from rfl, Nat.zero_min, List.drop_zero, Nat.sub_zero, show Int.toNat 4 = 4 from rfl, kmk_take_min]
theorem pick_03 (xs : List Str) : pickS xs (some 0) (some 3) = xs.take 3 := by
  show (xs.drop (min (Int.toNat 0) xs.length)).take (min (Int.toNat 3) xs.length - min (Int.toNat 0) xs.length) = xs.take 3
  rw [show Int.toNat 0 = 0 from rfl, Nat.zero_min, List.drop_zero, Nat.sub_zero, show Int.toNat 3 = 3 from rfl, kmk_take_min]
theorem pick_last (xs : List Str) : pickS xs (some (-1)) none = xs.drop (xs.length - 1) := by
  show (xs.drop (xs.length - 1)).take (xs.length - (xs.length - 1)) = _
  rw [List.take_of_length_le (by rw [List.length_drop]; omega)]
theorem slice_none {x : Str} {n : Nat} (h : n ≤ x.length) : Txt.slice x none (some (n : Int)) = takeS x n := by
  have hl : (x.cps.toList.length : Int) = x.length := by rw [Array.length_toList]; rfl
  have e := eq_of_beq (slice_closes_to (x := x) (j := (n : Int)) ⟨by omega, by omega⟩)
  rw [e]
  unfold takeS
  rw [show (0 : Int).toNat = 0 from rfl, List.drop_zero, show ((n : Int) - 0).toNat = n by omega]
theorem slice_zero {x : Str} {n : Nat} (h : n ≤ x.length) : Txt.slice x (some 0) (some (n : Int)) = takeS x n := by
  have hl : (x.cps.toList.length : Int) = x.length := by rw [Array.length_toList]; rfl
  have e := eq_of_beq (slice_closes (x := x) (i := 0) (j := (n : Int)) ⟨by omega, by omega, by omega⟩)
  rw [e]
  unfold takeS
  rw [show (0 : Int).toNat = 0 from rfl, List.drop_zero, show ((n : Int) - 0).toNat = n by omega]
theorem cut_long {x : Str} (h : 11 < x.length) : Txt.slice x none (some 11) ++ Str.ofString ".." = cutS x := by
  unfold cutS
  rw [if_neg (by omega), show (11 : Int) = ((11 : Nat) : Int) from rfl, slice_none (by omega)]
theorem cut_short {x : Str} (h : ¬ 11 < x.length) : x = cutS x := by
  unfold cutS
  rw [if_pos (by omega)]
local macro_rules | `(tactic| walk_at "call builtin:str.join") => `(tactic| (k_here; k_dflt (refine' m_join 13 7 ?kN ?km ?kX ?kb ?kn ?ks ?_; (case kN => k_asm); (case km => k_mem); (case kX => k_asm); (case kb => k_asm); (case kn => ((try simp only [List.length_take]); omega)); (case ks => decide); k_whole); intro t' k'))
local macro_rules | `(tactic| walk_at "m_size") => `(tactic| (rw [PySem.sizeLine_eq]; first | omega | ((with_reducible rename (∀ i, PySem.Str.length (List.getD _ i _) ≤ 13) => hg9); exact Nat.le_trans (hg9 _) (by decide))))
local macro_rules | `(tactic| walk_at "convS str") => `(tactic| (k_here; k_dflt (refine' SB.convS_str ?_ ?hz; (case hz => walk_at "m_size"); k_whole); intro t' k'))
local macro_rules | `(tactic| walk_at "formatField str") => `(tactic| (k_here; k_dflt (refine' SB.field_str ?_ ?hz; (case hz => walk_at "m_size"); k_whole); intro t' k'))
local macro_rules | `(tactic| walk_at "le") => `(tactic| ((with_reducible show PySem.Str.length _ ≤ sizeLine); (simp only [PySem.Str.length_append]); rw [PySem.sizeLine_eq]; omega))
local macro_rules | `(tactic| k_mem) => `(tactic| assumption)
local macro_rules | `(tactic| walk_at "subscriptTail Name Slice ref ref") => `(tactic| (k_here; (with_reducible show wpAny _ _ (subscriptTail _ (PySem.Expr.Slice _ _ none _) (Value.ref _) (Value.ref _)) _ _ _); k_dflt (refine' m_slice ?F ?N ?l ?x ?p ?q ?e ?_ ?s ?t ?z; (case F => k_asm); (case N => k_asm); (case l => k_mem); (case x => k_asm); (case p => kmk_part); (case q => kmk_part); (case e => first | exact pick_04 _ | exact pick_03 _ | exact pick_last _); (case s => with_unfolding_all rfl); (case t => kmk_pure); (case z => ((try simp only [List.length_append, List.length_take, List.length_drop, List.length_map]); omega))); intro D' us' h' F' N' l1 hX'; (try k_lt l1)))
local macro_rules | `(tactic| walk_at "binaryOp Add ref ref") => `(tactic| (k_here; (with_reducible show wpAny _ _ (binaryOp _ (Value.ref _) (Value.ref _)) _ _ _); k_dflt (refine' m_cat ?F ?N ?a ?b ?i ?j ?_ ?z; (case F => k_asm); (case N => k_asm); (case a => k_mem); (case b => k_mem); (case i => k_asm); (case j => k_asm); (case z => ((try simp only [List.length_append, List.length_take, List.length_drop, List.length_map]); omega))); intro D' us' h' F' N' l1 hX'; (try k_lt l1)))
local macro_rules | `(tactic| walk_at "CompSrc") => `(tactic| refine Stuck.out ?_)
theorem empty_app' (x : Str) : Str.empty ++ x = x := PySem.Str.ext' (by rw [PySem.Str.cps_append]; show #[] ++ x.cps = x.cps; simp)
theorem repr_row {xs zs : List Str} (h : 5 ≤ xs.length) (hz : zs = (xs.take 3 ++ xs.drop (xs.length - 1)).map cutS) :
    Str.empty ++ Txt.join (Str.ofString ", ") (zs.take 3) ++ Str.ofString ", ..., " ++ zs.getD (-1 + (zs.length : Int)).toNat Str.empty = rowS xs := by
  have hl : zs.length = 4 := by rw [hz, List.length_map, List.length_append, List.length_take, List.length_drop]; omega
  have h1 : zs.take 3 = (xs.map cutS).take 3 := by
    rw [hz, ← List.map_take, ← List.map_take, List.take_append_of_le_length (by rw [List.length_take]; omega), List.take_take]
    rfl
  have h2 : zs.getD 3 Str.empty = (xs.map cutS).getD ((xs.map cutS).length - 1) Str.empty := by
    have e : zs[3]? = (xs.map cutS)[(xs.map cutS).length - 1]? := by
      rw [hz, List.getElem?_map, List.getElem?_map, List.length_map, List.getElem?_append_right (by rw [List.length_take]; omega), List.getElem?_drop, List.length_take]
      congr 2
      omega
    unfold List.getD
    rw [e]
  have h3 : (-1 + (zs.length : Int)).toNat = 3 := by omega
  unfold rowS
  rw [if_neg (by omega), h3, h1, h2, empty_app']
set_option maxHeartbeats 4000000 in
theorem repr_says (w : World) (p : Program) (loose : List Str) (mean : ExcName → Option Value) (mg mb : Str → Option Value) (D : Addr) (vs : List Value) (k : Nat) (xs : List Str) (hX : StrsAre vs xs) (h30 : ∀ x ∈ xs, x.length ≤ 30) (h7 : xs.length ≤ 7) :
    SaysP w p loose mean mg mb 27 [.ref D] 4 40 (fun b => (D, listOf vs.toArray k) ∈ b) (fun r => (xs.length = 0 ∧ r = .none) ∨ (0 < xs.length ∧ ∃ t, r = .str (rowS xs) t)) := by
  intro b hD
  unfold Says
  k_fill
  intro dp un env outer A₀ base h₀ L m news s Q E hf hke hdp hu B F X N T hpre ret
  subst hpre
  have hMk := kstMark
  refine wpAny_call ?_
  k_dflt walk_at "m_enter"
  k_steps
  · exact ret _ _ _ _ (by k_asm) (by k_asm) ⟨rfl, .inl ⟨by omega, rfl⟩⟩
  · constructor
    rename_i h4 D' us h1 l1 hU h2 F2 N2
    have h4' : xs.length ≤ 4 := by omega
    rw [List.take_of_length_le h4'] at hU
    refine LCg.CompSrc.ledger (by rfl) F2 N2 (.head _) (by rw [PySem.sizeLine_eq, List.size_toArray, hU.length]; omega) ?_
    intro g
    refine comp_strs cutS hU ?_ ?_
    · intro x t I oI C oC D2 m₂ ys h tk E' hx hC hx2 F' N' off ne
      have h30' := h30 x hx
      k_steps
      · exact LCg.CompEnd.intro (by k_asm) (by k_asm) _ (fun _ h => h) off (Or.inr ⟨_, .head _, rfl, _, rfl⟩) ⟨rfl, _, _, rfl, cut_long (by omega)⟩
      · exact LCg.CompEnd.intro (by k_asm) (by k_asm) _ (fun _ h => h) off (Or.inr ⟨_, .head _, rfl, _, rfl⟩) ⟨rfl, _, _, rfl, cut_short (by omega)⟩
    · intro ys hY
      obtain ⟨zs, hz⟩ : ∃ zs, zs = xs.map cutS := ⟨_, rfl⟩
      rw [← hz] at hY
      have hzl : zs.length = xs.length := by rw [hz, List.length_map]
      have hz13 : ∀ z ∈ zs, z.length ≤ 13 := by
        intro z hz'
        rw [hz] at hz'
        obtain ⟨x, _, rfl⟩ := List.mem_map.mp hz'
        exact cutS_len x
      k_steps
      have hc : Txt.join (Str.ofString ", ") zs = rowS xs := by
        unfold rowS
        rw [if_pos h4', hz]
      rw [hc]
      exact ret _ _ _ _ (by k_asm) (fun q hq => (by k_asm : News _ _ _ ((_, _) :: (_, _) :: news)) q (.tail _ (.tail _ hq))) ⟨rfl, .inr ⟨by omega, _, rfl⟩⟩
  · constructor
    rename_i h4 _ _ _ _ _ _ _ _ D' us h1 hU l1 h2 F2 N2
    have h4' : ¬ xs.length ≤ 4 := by omega
    refine LCg.CompSrc.ledger (by rfl) F2 N2 (.head _) (by rw [PySem.sizeLine_eq, List.size_toArray, hU.length, List.length_append, List.length_take, List.length_drop]; omega) ?_
    intro g
    refine comp_strs cutS hU ?_ ?_
    · intro x t I oI C oC D2 m₂ ys h tk E' hx hC hx2 F' N' off ne
      have h30' : x.length ≤ 30 := by
        rcases List.mem_append.mp hx with hx | hx
        · exact h30 x (List.mem_of_mem_take hx)
        · exact h30 x (List.mem_of_mem_drop hx)
      k_steps
      · exact LCg.CompEnd.intro (by k_asm) (by k_asm) _ (fun _ h => h) off (Or.inr ⟨_, .head _, rfl, _, rfl⟩) ⟨rfl, _, _, rfl, cut_long (by omega)⟩
      · exact LCg.CompEnd.intro (by k_asm) (by k_asm) _ (fun _ h => h) off (Or.inr ⟨_, .head _, rfl, _, rfl⟩) ⟨rfl, _, _, rfl, cut_short (by omega)⟩
    · intro ys hY
      obtain ⟨zs, hz⟩ : ∃ zs, zs = (xs.take 3 ++ xs.drop (xs.length - 1)).map cutS := ⟨_, rfl⟩
      rw [← hz] at hY
      have hzl : zs.length = 4 := by rw [hz, List.length_map, List.length_append, List.length_take, List.length_drop]; omega
      have hz13 : ∀ z ∈ zs, z.length ≤ 13 := by
        intro z hz'
        rw [hz] at hz'
        obtain ⟨x, _, rfl⟩ := List.mem_map.mp hz'
        exact cutS_len x
      have hz13' : ∀ z ∈ zs.take 3, z.length ≤ 13 := fun z hz' => hz13 z (List.mem_of_mem_take hz')
      have hg : ∀ i, (zs.getD i Str.empty).length ≤ 13 := fun i => by
        by_cases hi : i < zs.length
        · have e : zs.getD i Str.empty = zs[i] := by simp [List.getD, hi]
          rw [e]; exact hz13 _ (List.getElem_mem hi)
        · have e : zs.getD i Str.empty = Str.empty := by simp [List.getD, Nat.not_lt.mp hi]
          rw [e]; exact Nat.zero_le _
      have hj : (Txt.join (Str.ofString ", ") (zs.take 3)).length ≤ 60 := by
        have h5 := join_len (sep := Str.ofString ", ") hz13'
        have e2 : (Str.ofString ", ").length = 2 := by decide
        have h6 : (zs.take 3).length = 3 := by rw [List.length_take]; omega
        rw [e2, h6] at h5
        omega
      have hgl := hg (-1 + (zs.length : Int)).toNat
      have e7 : (Str.ofString ", ..., ").length = 7 := by decide
      have e0 : Str.empty.length = 0 := rfl
      k_steps
      rw [repr_row (by omega) hz]
      exact ret _ _ _ _ (by k_asm) (fun q hq => (by k_asm : News _ _ _ ((_, _) :: (_, _) :: (_, _) :: (_, _) :: (_, _) :: news)) q (.tail _ (.tail _ (.tail _ (.tail _ (.tail _ hq)))))) ⟨rfl, .inr ⟨by omega, _, rfl⟩⟩
end Mine

namespace Mine
open PySem PySem.W PySem.Calls PySem.Spec PyProof.Rows
set_option maxRecDepth 100000
local macro_rules | `(tactic| k_all) => `(tactic| assumption)
local macro_rules | `(tactic| walk_at "m_room") => `(tactic| ((try simp only [depth_under_make, depth_under_kw, depth_in1, depth_deeper, depth_caller]); (try dsimp only [top]); first | omega | decide))
local macro_rules | `(tactic| walk_at "m_units") => `(tactic| (have hcL9 := cLine_is; (try simp only [units_in1, units_deeper, Around.mark_units, units_caller]); (try dsimp only [top]); first | omega | (simp only [cLine] at *; omega)))
local macro_rules | `(tactic| walk_at "m_enterC") => `(tactic| (refine' code_defC ?k1 ?k2 ?k3 ?k4 ?k5 ?kA ?kF ?kK ?k6 ?k7 ?k8 ?k9 ?kB ?kD ?_ ?c2 ?c3 ?c4; (case kA => exact rfl); (case kF => first | exact rfl | assumption); (case kK => first | exact rfl | assumption); (case k1 => k_asm); (case k2 => k_asm); (case k3 => k_asm); (case k4 => k_asm); (case k5 => k_asm); (case k6 => k_is); (case k7 => k_is); (case k8 => (dsimp only; omega)); (case k9 => exact BindsTo.of_eq rfl); (case kB => exact rfl); (case kD => decide +kernel); (case c2 => exact rfl); (case c3 => exact rfl); (case c4 => exact rfl); k_whole; intro g' L' h' tk' cells' FG' F' N' Y' B' X' T' l1; (try k_lt l1); k_cells Y'; (try simp only [List.cons_append, List.nil_append] at N'); (try dsimp only); (try k_fold)))
local macro_rules | `(tactic| walk_at "m_st") => `(tactic| with_reducible assumption)
local macro_rules | `(tactic| walk_at "m_next") => `(tactic| (refine' saysS_use (next_says _ _ _ _ _ _ _ _ _ _ ?m0 ?m1) ?kf ?kk ?kd ?ku ?kB ?kF ?kX ?kN ?kT ?kU ?km ?kS ?kO ?kne ?_; (case kf => exact rfl); (case kk => exact rfl); (case kB => k_asm); (case kF => k_asm); (case kX => k_asm); (case kN => k_asm); (case kT => k_asm); (case kU => k_updF); (case kS => k_asm); (case km => k_mem); (case kO => k_asm); (case kne => k_asm); (case m0 => decide); (case m1 => decide); (case kd => walk_at "m_room"); (case ku => walk_at "m_units"); k_whole; intro r' o' h' tk' hP9 hS' F' N'; (obtain ⟨v', t', e9, hv0', hv1'⟩ := hP9); subst e9; (try dsimp only at N')))
local macro_rules | `(tactic| walk_at "call ref") => `(tactic| (k_here; k_dflt (walk_at "m_next")))
local macro_rules | `(tactic| walk_at "CompSrc") => `(tactic| (k_here; (try k_fmods); (try kcf_lens); k_dflt (refine LCg.CompSrc.range (by rfl) (by k_asm) (by k_asm) (by assumption) (by first | exact small_one (by kcf_bnd) (by kcf_bnd) (by kcf_bnd) (by kcf_bnd) | decide) (by first | exact rangeSize_nat _ _ | rfl) (by first | exact Nat.le_of_ble_eq_true rfl | (rw [PySem.sizeLine_eq]; first | omega | ((simp only [List.size_toArray]); omega)) | size_fits) ?_; intro g'; refine' comp_draw (fun y => ∃ x t, y = .str x t ∧ (x.length = 1 ∧ PyData.strOk x = true)) ?kU ?kS ?kt ?kfin; (case kS => k_asm); (case kU => k_updF); (case' kt => (intro v' I' oI' C' oC' D' m' ys' o' h' tk' E' hS' hC' hx' F' N' off' ne'; (try dsimp only at N' off'); (try simp only [LCg.Off3, and_true] at off'))); (case' kfin => (intro ys' o' hS' hl' hp'; (obtain ⟨xs', hX', hQ'⟩ := strs_of hp'); (have hO' := fun a ha => (hQ' a ha).2); (have hP' := fun a ha => (hQ' a ha).1); clear hQ'; (have hC' := StrsAre.carried hX'); (have hL' := StrsAre.length hX'); (try dsimp only))))))
local macro_rules | `(tactic| walk_at "CompEnd") => `(tactic| (refine' LCg.CompEnd.intro ?kF ?kN _ ?ksub ?koff True.intro ⟨_, ?kS, rfl, ?kel⟩; (case kS => k_asm); (case kF => k_asm); (case kN => k_asm); (case ksub => exact fun _ h => h); (case koff => first | assumption | ((simp only [LCg.Off3, and_true]); assumption)); (case kel => exact ⟨_, _, rfl, by assumption, item_ok (by assumption) (by assumption)⟩)))
local macro_rules | `(tactic| walk_at "call builtin:str.join") => `(tactic| (k_here; k_dflt (refine' m_join 1 30 ?kN ?km ?kX ?kb ?kn ?ks ?_; (case kN => k_asm); (case km => k_mem); (case kX => k_asm); (case kb => exact fun a ha => Nat.le_of_eq (by first | (with_reducible rename (∀ a ∈ _, Str.length a = 1) => hP9; exact hP9 a ha) | fail "")); (case kn => omega); (case ks => decide); k_whole); intro t' k'))
set_option maxHeartbeats 4000000 in
theorem name_says (w : World) (p : Program) (loose : List Str) (mean : ExcName → Option Value) (mg mb : Str → Option Value) (S B : Addr) :
    SaysS w p loose mean mg mb 39 S B [.ref S] 4 40 (fun r => ∃ x t, r = .str x t ∧ (x.length ≤ 30 ∧ PyData.strOk x = true)) := by
  rintro o oB b hS hO hSB hb
  unfold Says
  k_fill
  intro dp un env outer A₀ base h₀ L m news s Q E hf hke hdp hu B F X N T hpre ret
  subst hpre
  have hMk := kstMark
  refine wpAny_call ?_
  k_dflt walk_at "m_enterC"
  k_steps
  rename_i xs hX hK hP _ hL _ _ _ _ _ _ _ _ kF kN _ _
  refine ret _ _ _ _ kF (fun q hq => kN q (.tail _ (.tail _ (.tail _ hq)))) ⟨_, by k_asm, rfl, _, _, rfl, ?_, join_ok hK⟩
  rw [KT.join_ones xs hP]
  omega
end Mine

namespace Mine
open PySem PySem.W PySem.Calls PySem.Spec PyProof.Rows
set_option maxRecDepth 100000
local macro_rules | `(tactic| walk_at "m_pad") => `(tactic| skip)
local macro_rules | `(tactic| walk_at "m_pad") => `(tactic| skip)
local macro_rules | `(tactic| walk_at "m_enter") => `(tactic| (refine' code_def ?k1 ?k2 ?k3 ?k4 ?k5 ?kA ?kF ?kK ?k6 ?k7 ?k8 ?k9 ?kB ?_ ?c2 ?c3 ?c4 ?c5; (case kA => exact rfl); (case kF => first | exact rfl | assumption); (case kK => first | exact rfl | assumption); (case k1 => k_asm); (case k2 => k_asm); (case k3 => k_asm); (case k4 => k_asm); (case k5 => k_asm); (case k6 => k_is); (case k7 => k_is); (case k8 => (dsimp only; omega)); (case k9 => first | exact BindsTo.of_eq rfl | exact binds_K (by k_in) rfl (by k_is) rfl rfl rfl); (case c5 => decide); (case kB => exact locs rfl); (case c2 => exact rfl); (case c3 => exact rfl); (case c4 => exact rfl); k_whole; intro g' L' h' FG' F' N' B' X' T'; (try dsimp only); (try k_fold)))
/-- a text as the law shortens it -/
def ellS (x : Str) (n : Nat) : Str := if n < x.length then takeS x n ++ Str.ofString "..." else x
theorem ell_long {x : Str} {n : Nat} (h : n < x.length) : Txt.slice x (some 0) (some (n : Int)) ++ Str.ofString "..." = ellS x n := by
  unfold ellS
  rw [if_pos h, slice_zero (by omega)]
theorem ell_rest {x : Str} {n : Nat} (h : ¬ n < x.length) : x = ellS x n := by
  unfold ellS
  rw [if_neg h]
set_option maxHeartbeats 4000000 in
theorem ell_str (w : World) (p : Program) (loose : List Str) (mean : ExcName → Option Value) (mg mb : Str → Option Value) (x : Str) (t tm : Tok) (n : Nat) (hx : x.length ≤ 30) (hn : n ≤ 31) :
    SaysP w p loose mean mg mb 22 [.str x t, .int (n : Int) tm] 4 40 (fun _ => True) (fun r => ∃ t, r = .str (ellS x n) t) := by
  intro b hb
  unfold Says
  k_fill
  intro dp un env outer A₀ base h₀ L m news s Q E hf hke hdp hu B F X N T hpre ret
  subst hpre
  have hMk := kstMark
  refine wpAny_call ?_
  k_dflt walk_at "m_enter"
  k_steps
  · rw [ell_long (by omega)]
    exact ret _ _ _ _ (by k_asm) (by k_asm) ⟨rfl, _, rfl⟩
  · refine ret _ _ _ _ (by k_asm) (by k_asm) ⟨rfl, t, ?_⟩
    rw [← ell_rest (by omega)]
set_option maxHeartbeats 4000000 in
theorem ell_str25 (w : World) (p : Program) (loose : List Str) (mean : ExcName → Option Value) (mg mb : Str → Option Value) (x : Str) (t : Tok) (hx : x.length ≤ 30) :
    SaysP w p loose mean mg mb 22 [.str x t] 4 40 (fun _ => True) (fun r => ∃ t, r = .str (ellS x 25) t) := by
  intro b hb
  unfold Says
  k_fill
  intro dp un env outer A₀ base h₀ L m news s Q E hf hke hdp hu B F X N T hpre ret
  subst hpre
  have hMk := kstMark
  refine wpAny_call ?_
  k_dflt walk_at "m_enter"
  k_steps
  · rw [show (25 : Int) = ((25 : Nat) : Int) from rfl, ell_long (n := 25) (by omega)]
    exact ret _ _ _ _ (by k_asm) (by k_asm) ⟨rfl, _, rfl⟩
  · refine ret _ _ _ _ (by k_asm) (by k_asm) ⟨rfl, t, ?_⟩
    rw [← ell_rest (by omega)]
theorem ell_strZ (w : World) (p : Program) (loose : List Str) (mean : ExcName → Option Value) (mg mb : Str → Option Value) (x : Str) (t tm : Tok) (m : Int) (hx : x.length ≤ 30) (h0 : 0 ≤ m) (h1 : m ≤ 31) :
    SaysP w p loose mean mg mb 22 [.str x t, .int m tm] 4 40 (fun _ => True) (fun r => ∃ t, r = .str (ellS x m.toNat) t) := by
  have e : m = ((m.toNat : Nat) : Int) := by omega
  have h := ell_str w p loose mean mg mb x t tm m.toNat hx (by omega)
  rw [← e] at h
  exact h
end Mine

namespace Mine
open PySem PySem.W PySem.Calls PySem.Spec PyProof.Rows
set_option maxRecDepth 100000
theorem noLen_int : typeLookup (.type "int") "__len__" = pure none := by rw [typeLookup_type, builtinLookup_eq_fast]; kernel_rfl
theorem noLen_none : typeLookup (.type "NoneType") "__len__" = pure none := by rw [typeLookup_type, builtinLookup_eq_fast]; kernel_rfl
/-- len of what has no length raises TypeError -/
theorem len_raises {prog : Program} {w : World} {A : Around} {E : Value → Shared → Prop} {s : Shared} {v : Value} {T : String} {Q : Value → Shared → Prop} (hh : A.handled = none) (hT : s.TypeIs v T) (hno : typeLookup (.type T) "__len__" = pure none)
    (hn : (Value.type T == Value.type "builtin_function_or_method") = false) (hl : (shownName T).length ≤ 1000)
    (hE : ∀ h' tk e, Heap.NewExc s.heap h' e "TypeError" → E (.ref e) { s with heap := h', toks := tk }) : wpAny (model prog w) A (call (.builtin "len") [v]) Q E s := by
  refine call_function_entry kind_len plain_len entry_len (args_len1 _) ?_
  unfold Builtin.«len»
  refine wpAny_bind (m := oneArg "len" _) (wpAny_pure ?_)
  refine wpAny_bind (m := callSpecial? v (Str.ofString "__len__")) (wpAny_callSpecial?_none (name := Str.ofString "__len__") hT hno ?_)
  refine wpAny_bind (wpAny_rule ?_)
  refine wpAny_bind (wpAny_typeNameOf' hT hn ?_)
  refine wpAny_raiseTypeError hh hE ?_
  show (Str.ofString _).length ≤ sizeLine
  rw [PySem.ofString_length, sizeLine_eq]
  simp only [String.length_append, toString]
  have e1 : "object of type '".length ≤ 100 := by decide
  have e2 : "' has no len()".length ≤ 100 := by decide
  omega

/-- a call from a stack of one frame; it may raise and catch within -/
def SaysT (w : World) (p : Program) (loose : List Str) (mean : ExcName → Option Value) (mg mb : Str → Option Value) (f : Addr) (vals : List Value) (dd du : Nat) (Post : Value → Prop) : Prop :=
  ∀ (dp un : Nat) (env : Env) (h₀ : Heap) (L : Addr) (m : Str → Option Value) (news : List (Addr × Obj)) (s : Shared) (Q E : Value → Shared → Prop),
    env.frame = some L → env.scope.kind = .function → dp + dd < recursionLimit → un + du < cLine →
    Fr h₀ L s.heap m → (hd.heap_39 w.params).In h₀ → News h₀ L s.heap news → Top p loose mean mg mb h₀ →
    (∀ r h' tk', Post r → Fr h₀ L h' m → News h₀ L h' news → Q r { s with heap := h', toks := tk' }) →
    wpAny (model PySem.Challenge.rw_bq5028_01.row.prog w) (top dp un env []) (call (.ref f) vals) Q E s
/-- the object of the caller's names -/
theorem caller_of {h₀ h : Heap} {L : Addr} {m : Str → Option Value} (F : Fr h₀ L h m) : ∃ oL, h.get? L = some oL ∧ TI.Caller h₀ L m oL ∧ ∃ es ep, oL.data = .dict es ep :=
  match F.ns with
  | ⟨oL, es, ep, g, d, r⟩ => ⟨oL, g, ⟨fun _ _ e => ⟨_, es, ep, e, d, r⟩, ⟨es, ep, d⟩, F.above⟩, es, ep, d⟩
/-- entering a def that catches, from a stack of one frame: the caller's names stand in the ledger -/
theorem m_codeT {prog : Program} {w : World} {A : Around} {s : Shared} {h₀ : Heap} {L : Addr} {m : Str → Option Value} {env : Env} {news : List (Addr × Obj)} {K : Frag} {p : Program} {loose : List Str} {mean : ExcName → Option Value} {mg mb : Str → Option Value}
    {R : Result → Shared → Prop} {name qual : Str} {params : Arguments} {body : List Stmt} {scope : Scope} {dV kV doc pm cdv ct oc : Value} {an od : Option Addr} {osl : Array (Option Value)} {f : Addr} {args : Args} {binds : List (Str × Value)}
    (F : Fr h₀ L s.heap m) (X₀ : K.In h₀) (N : News h₀ L s.heap news) (T : Top p loose mean mg mb h₀) (hf : env.frame = some L) (hke : env.scope.kind = .function)
    (ho : K.lookup f = some ⟨oc, od, .func (fnOf name qual params body scope dV kV doc pm an cdv ct), osl⟩) (hcd : codeIn K cdv qual = true) (hroom : A.depth < recursionLimit)
    (hbind : BindsTo s (fnOf name qual params body scope dV kV doc pm an cdv ct) args binds) (hloc : ∀ y ∈ binds, scope.names.lookup y.1 = some .local)
    (h : ∀ L' oL h₁, TI.Caller h₀ L m oL → TI.Frs [env] [(L, oL)] → TLg.AllNe L news → Fr h₀ L' h₁ (fun y => binds.reverse.lookup y) → News h₀ L' h₁ (news ++ [(L, oL)]) →
      wpAny (model prog w) (A.deeper (envOf qual scope L' f cdv)) (execs body (envOf qual scope L' f cdv))
        (fun fl s' => R (.ok (.ret (match fl with | .ret v => v | _ => .none))) s')
        (fun e s' => wpAny (model prog w) (A.deeper (envOf qual scope L' f cdv)) (leaving (envOf qual scope L' f cdv) e) (fun _ s'' => R (.error e) s'') (fun e' s'' => R (.error e') s'') s')
        { s with heap := h₁, toks := s.toks + binds.length })
    (hco : scope.isCoroutine = false) (hgen : scope.isGenerator = false) (hk : scope.kind = .function)
    (hcell : ∀ x ∈ scope.names, x.2 ≠ .cell) : codeAny (model prog w) A (.call (.ref f) args) R s := by
  obtain ⟨oL, gL, hC, hD⟩ := caller_of F
  refine codeAny_call_def (fd := fnOf name qual params body scope dV kV doc pm an cdv ct) (body := body) (binds := binds) hroom (F.keep _ _ (X₀ _ _ ho)) rfl (T.nolimit.keeps F.keep) (codeRec_of (X₀.keeps F.keep) hcd) rfl hbind hcell hloc
    (fun h₁ hns up => h _ oL h₁ hC ⟨by rw [hke]; decide, hf, hD, trivial⟩ (TLgL.allNe_of fun p hp => (N p hp).2.1) ⟨hns, fun b o g => up b o (F.keep b o g), Nat.le_trans F.above (Nat.le_of_lt F.ns.lt)⟩ fun p hp => ?_) hco hgen hk
  simp only [List.mem_append, List.mem_singleton] at hp
  rcases hp with hp | rfl
  · exact ⟨up _ _ (N p hp).1, Nat.ne_of_lt (Heap.lt_size (N p hp).1), (N p hp).2.2⟩
  · exact ⟨up _ _ gL, Nat.ne_of_lt F.ns.lt, Heap.get?_none_of_le F.above⟩
theorem back_T {h₀ h' : Heap} {L L' : Addr} {m m' : Str → Option Value} {oL : Obj} {news : List (Addr × Obj)} {sl : Array (Option Value)} (s : Shared) (C : TI.Caller h₀ L m oL) (F' : Fr h₀ L' h' m') (N' : News h₀ L' h' (news ++ [(L, { oL with slots := sl })])) (hne : TLg.AllNe L news) : Fr h₀ L h' m ∧ News h₀ L h' news :=
  TLg.leave_back (P := Fr h₀ L h' m ∧ News h₀ L h' news) (s' := { s with heap := h' }) (new := news) C F' N' hne fun a b => ⟨a, b⟩
end Mine

namespace Mine
open PySem PySem.W PySem.Calls PySem.Spec PyProof.Rows
set_option maxRecDepth 100000
local macro_rules | `(tactic| walk_at "m_pad") => `(tactic| skip)
local macro_rules | `(tactic| walk_at "m_enterT") => `(tactic| (refine' m_codeT ?k1 ?k2 ?k3 ?k4 ?kF ?kK ?k6 ?k7 ?k8 ?k9 ?kB ?_ ?c2 ?c3 ?c4 ?c5; (case kF => assumption); (case kK => assumption); (case k1 => k_asm); (case k2 => k_asm); (case k3 => k_asm); (case k4 => k_asm); (case k6 => k_is); (case k7 => k_is); (case k8 => (dsimp only; omega)); (case k9 => first | exact BindsTo.of_eq rfl | exact binds_K (by k_in) rfl (by k_is) rfl rfl rfl); (case c5 => decide); (case kB => exact locs rfl); (case c2 => exact rfl); (case c3 => exact rfl); (case c4 => exact rfl); k_whole; intro L' oL' h' C' Fs' hne' F' N'; (try dsimp only); (try k_fold)))
local macro_rules | `(tactic| walk_at "call builtin:len") => `(tactic| (k_here; first
  | ((with_reducible show wpAny _ _ (call (Value.builtin "len") [Value.int _ _]) _ _ _); k_dflt (refine' len_raises ?hh ?hT noLen_int ?hn ?hl ?_; (case hh => exact rfl); (case hT => exact rfl); (case hn => decide); (case hl => decide); k_whole); intro h' tk' e' hx')
  | ((with_reducible show wpAny _ _ (call (Value.builtin "len") [Value.none]) _ _ _); k_dflt (refine' len_raises ?hh ?hT noLen_none ?hn ?hl ?_; (case hh => exact rfl); (case hT => exact rfl); (case hn => decide); (case hl => decide); k_whole); intro h' tk' e' hx')))
local macro_rules | `(tactic| walk_at "noteFrame ref") => `(tactic| (k_here; (with_reducible rename Heap.NewExc _ _ _ _ => hx9); k_dflt (refine' TLg.noted_new1 ?k1 ?k2 hx9 ?k3 ?k4 ?k5 ?_ ?k6; (case k1 => exact rfl); (case k2 => assumption); (case k3 => assumption); (case k4 => assumption); (case k5 => assumption); (case k6 => exact rfl)); clear hx9; intro h2' sl' Fs2' H'; have HH' := TT.HeldNA.held H'))
set_option maxHeartbeats 4000000 in
theorem ell_int (w : World) (mean : ExcName → Option Value) (mg mb : Str → Option Value) (n : Int) (t tm : Tok) :
    SaysT w hd.view_39 (looseW hd.view_39 [Str.ofString "ellipses_string"]) mean mg mb 22 [.int n t, .int 2 tm] 4 40 (fun r => r = .int n t) := by
  unfold SaysT
  k_fill
  intro dp un env h₀ L m news s Q E hf hke hdp hu F X N T ret
  have hMk := kstMark
  refine wpAny_call ?_
  k_dflt walk_at "m_enterT"
  rename_i C Fs hne _ _
  k_steps
  rename_i F2 N2
  obtain ⟨F9, N9⟩ := back_T s C F2 N2 hne
  exact ret _ _ _ rfl F9 N9
set_option maxHeartbeats 4000000 in
theorem ell_none (w : World) (mean : ExcName → Option Value) (mg mb : Str → Option Value) :
    SaysT w hd.view_39 (looseW hd.view_39 [Str.ofString "ellipses_string"]) mean mg mb 22 [.none] 4 40 (fun r => r = .none) := by
  unfold SaysT
  k_fill
  intro dp un env h₀ L m news s Q E hf hke hdp hu F X N T ret
  have hMk := kstMark
  refine wpAny_call ?_
  k_dflt walk_at "m_enterT"
  rename_i C Fs hne _ _
  k_steps
  rename_i F2 N2
  obtain ⟨F9, N9⟩ := back_T s C F2 N2 hne
  exact ret _ _ _ rfl F9 N9
end Mine

namespace Mine
open PySem PySem.W PySem.Calls PySem.Spec PyProof.Rows
set_option maxRecDepth 100000
theorem fills_list : fillsNumberSlot (.type "list") "mod" = pure false := by
  have a : typeLookup (.type "list") (PySem.dunder "mod") = pure none := by rw [typeLookup_type, builtinLookup_eq_fast]; kernel_rfl
  have b : typeLookup (.type "list") (PySem.dunderR "mod") = pure none := by rw [typeLookup_type, builtinLookup_eq_fast]; kernel_rfl
  unfold fillsNumberSlot
  simp [a, b]
theorem sub_lt : isSubtype (.type "list") (.type "tuple") = pure false := by rw [isSubtype_type]; kernel_rfl
theorem maps_list {M : Model} {A : Around} {E : Value → Shared → Prop} {s : Shared} {a : Addr} {Q : Bool → Shared → Prop} (hT : s.TypeIs (.ref a) "list") (h : ∀ b, Q b s) : wpAny M A (fillsMappingSlot (.ref a)) Q E s := by
  unfold fillsMappingSlot
  refine wpAny_bind (wpAny_specialOf hT slot_list_getitem.lookup ?_)
  exact wpAny_pure (h _)
theorem reads_ints {h : Heap} : ∀ {vs : List Value} {ns : List Int}, IntsAre vs ns → ReadsAll h vs (ns.map PyData.int) []
  | _, _, .nil => .nil
  | _, _, .cons i t r => .cons (.int i t) (reads_ints r)
theorem ints_noDict (ns : List Int) : PyData.hasDictAll (ns.map PyData.int) = false := by
  induction ns with
  | nil => rfl
  | cons a r ih => simp [PyData.hasDictAll, PyData.hasDict, ih]
theorem ints_depth (ns : List Int) : (PyData.list (ns.map PyData.int)).depth ≤ 1 := by
  have h : PyData.depthAll (ns.map PyData.int) = 0 := by
    induction ns with
    | nil => rfl
    | cons a r ih => simp [PyData.depthAll, PyData.depth, ih]
  simp [PyData.depth, h]
set_option maxHeartbeats 4000000 in
theorem fmt_list (prog : Program) (w : World) (A : Around) (s : Shared) (Q : Fin → Shared → Prop) (E : Value → Shared → Prop) (t : Tok) (D : Addr) (vs : List Value) (n : Nat) (ns : List Int) (hI : IntsAre vs ns)
    (ho : s.heap.get? D = some (listOf vs.toArray n)) (hg : A.guards = some []) (hu : A.units + 3 < cLine) (hs : (PyData.list (ns.map PyData.int)).shown.length ≤ 100) (hsh : (PyData.list (ns.map PyData.int)).showable = true)
    (h : ∀ h' t' k, (∀ b o, s.heap.get? b = some o → h'.get? b = some o) → Q (.done (.ret (.str ((PyData.list (ns.map PyData.int)).shown ++ Str.ofString "...") t'))) { s with heap := h', toks := k }) :
    wpAny (model prog w) A (Builtin.«str.__mod__» ⟨[.str (Str.mk #[37, 115, 46, 46, 46]) t, .ref D], []⟩) Q E s := by
  have hT : s.TypeIs (.ref D) "list" := ⟨_, ho, rfl⟩
  rw [KPt.entry_is_r]
  unfold Builtin.Str.percentFormat
  refine wpAny_bind (wpAny_isInstance hT sub_lt ?_)
  refine wpAny_bind (KPt.asStr_ref ho rfl ?_)
  refine wpAny_bind (maps_list hT ?_)
  intro bb
  kpc_if
  refine wpAny_bind (wpAny_pure ?_)
  refine wpAny_bind ?_
  rw [KPc.range_list]
  refine KPc.start ?_
  intro w0 g0
  refine KPc.turn ?_
  kpc_check
  (repeat kpc_if)
  refine wpAny_bind ?_
  refine wpAny_holding ?_
  (repeat kpc_if)
  refine wpAny_bind ?_
  kpc_if
  refine strOf_of_reads (h₀ := s.heap) (.list ho rfl rfl (reads_ints hI)) hsh (fun e => absurd (show PyData.hasDictAll (ns.map PyData.int) = true from e) (by rw [ints_noDict]; exact Bool.false_ne_true)) hg (by
    have hd : (PyData.list (ns.map PyData.int)).depth ≤ 1 := ints_depth ns
    omega) (fun _ _ e => e) (fun h' u tk hk => ?_) (by rw [sizeLine_eq]; omega)
  refine wpAny_bind (wpAny_of_eq (a := some _) rfl ?_)
  have h9 := fun t k => h h' t k hk
  refine wpAny_pure ?_
  refine wpAny_pure ?_
  kpc_piece
  kpc_turns
/-- "%s..." % a made list of ints -/
theorem mod_list {prog : Program} {w : World} {A : Around} {s : Shared} {Q : Value → Shared → Prop} {E : Value → Shared → Prop} {t : Tok} {D : Addr} {vs : List Value} {n : Nat} {ns : List Int} {X : Str} (hX : X = Str.mk #[37, 115, 46, 46, 46]) (hI : IntsAre vs ns)
    (ho : s.heap.get? D = some (listOf vs.toArray n)) (hg : A.guards = some []) (hu : A.units + 5 < cLine) (hs : (PyData.list (ns.map PyData.int)).shown.length ≤ 100) (hsh : (PyData.list (ns.map PyData.int)).showable = true)
    (h : ∀ h' t' k, (∀ b o, s.heap.get? b = some o → h'.get? b = some o) → Q (.str ((PyData.list (ns.map PyData.int)).shown ++ Str.ofString "...") t') { s with heap := h', toks := k }) :
    wpAny (model prog w) A (binaryOp .Mod (.str X t) (.ref D)) Q E s := by
  subst hX
  have hT : s.TypeIs (.ref D) "list" := ⟨_, ho, rfl⟩
  have hm : Meets (Builtin.«str.__mod__» ⟨[.str (Str.mk #[37, 115, 46, 46, 46]) t, .ref D], []⟩) (fun A' R s' => A'.guards = some [] ∧ A'.units + 4 < cLine ∧ s'.heap.get? D = some (listOf vs.toArray n) ∧
      ∀ h' t' k, (∀ b o, s'.heap.get? b = some o → h'.get? b = some o) → R (.ok (.ret (.str ((PyData.list (ns.map PyData.int)).shown ++ Str.ofString "...") t'))) { s' with heap := h', toks := k }) :=
    Meets.of_wp fun prog w A' R s' hS => fmt_list prog w A'.in1 s' _ _ t D vs n ns hI hS.2.2.1 hS.1 (by show A'.units + 1 + 3 < cLine; have := hS.2.1; omega) hs hsh fun h' t' k hk => ⟨_, rfl, hS.2.2.2 h' t' k hk⟩
  exact KPt.bin_left (T := "str") (U := "list") (op := .Mod) (by decide) (typeIs_str s _ t) hT F.fills_str_mod fills_list F.slot_str_mod
    (call_meets F.slot_str_mod (typeIs_str s _ t) F.entry_str_mod (F.args_str_mod_2 _ _) hm ⟨hg, by omega, ho, fun h' t' k hk => ⟨(fun e => nomatch e), h h' t' k hk⟩⟩)
end Mine

namespace Mine
open PySem PySem.W PySem.Calls PySem.Spec PyProof.Rows
set_option maxRecDepth 100000
local macro_rules | `(tactic| walk_at "m_pad") => `(tactic| skip)
local macro_rules | `(tactic| walk_at "m_pad") => `(tactic| skip)
local macro_rules | `(tactic| walk_at "m_enter") => `(tactic| (refine' code_def ?k1 ?k2 ?k3 ?k4 ?k5 ?kA ?kF ?kK ?k6 ?k7 ?k8 ?k9 ?kB ?_ ?c2 ?c3 ?c4 ?c5; (case kA => exact rfl); (case kF => first | exact rfl | assumption); (case kK => first | exact rfl | assumption); (case k1 => k_asm); (case k2 => k_asm); (case k3 => k_asm); (case k4 => k_asm); (case k5 => k_asm); (case k6 => k_is); (case k7 => k_is); (case k8 => (dsimp only; omega)); (case k9 => first | exact BindsTo.of_eq rfl | exact binds_K (by k_in) rfl (by k_is) rfl rfl rfl); (case c5 => decide); (case kB => exact locs rfl); (case c2 => exact rfl); (case c3 => exact rfl); (case c4 => exact rfl); k_whole; intro g' L' h' FG' F' N' B' X' T'; (try dsimp only); (try k_fold)))
/-- two shown numbers, as the law lays them out -/
def rowsS (a b : Int) : Str := Str.ofString "[" ++ Str.ofString (toString a) ++ Str.ofString ", " ++ Str.ofString (toString b) ++ Str.ofString "]..."
theorem rows_shown (a b : Int) : (PyData.list [PyData.int a, PyData.int b]).shown ++ Str.ofString "..." = rowsS a b := by
  show (((Str.ofString "[" ++ Str.ofString "" ++ Str.ofString (toString a)) ++ Str.ofString ", " ++ Str.ofString (toString b)) ++ Str.ofString "]") ++ Str.ofString "..." = rowsS a b
  unfold rowsS
  rw [app_nil, show Str.ofString "]..." = Str.ofString "]" ++ Str.ofString "..." from by decide +kernel]
  simp only [PySem.Str.append_assoc]
theorem digit_len {a : Int} (h : 0 ≤ a ∧ a < 9) : (Str.ofString (toString a)).length ≤ 1 := toString_length_le h.1 (by decide) (by omega)
theorem digit_log {a : Int} (h : 0 ≤ a ∧ a < 9) : a.natAbs.log2 < 1920 := shown (N := 2 ^ 1920) (by omega) (by omega) (Int.le_refl _)
theorem rows_len {a b : Int} (ha : 0 ≤ a ∧ a < 9) (hb : 0 ≤ b ∧ b < 9) : (PyData.list [PyData.int a, PyData.int b]).shown.length ≤ 100 := by
  have h := congrArg Str.length (rows_shown a b)
  unfold rowsS at h
  simp only [PySem.Str.length_append] at h
  have h1 := digit_len ha
  have h2 := digit_len hb
  have e1 : (Str.ofString "[").length = 1 := by decide
  have e2 : (Str.ofString ", ").length = 2 := by decide
  have e3 : (Str.ofString "]...").length = 4 := by decide
  omega
theorem rows_showable {a b : Int} (ha : 0 ≤ a ∧ a < 9) (hb : 0 ≤ b ∧ b < 9) : (PyData.list [PyData.int a, PyData.int b]).showable = true := by
  simp [PyData.showable, PyData.showableAll, digit_log ha, digit_log hb]
local macro_rules | `(tactic| walk_at "binaryOp Mod str ref") => `(tactic| refine Stuck.out ?_)
local macro_rules | `(tactic| k_mem) => `(tactic| assumption)
local macro_rules | `(tactic| walk_at "call builtin:len") => `(tactic| (k_here; (with_reducible show wpAny _ _ (call (Value.builtin "len") [Value.ref _]) _ _ _); k_dflt (refine' kst_len ?k1 ?k2 ?k3 ?k4 ?_; (case k1 => k_asm); (case k2 => k_mem); (case k3 => exact IntsAre.length (by assumption)); (case k4 => omega); k_whole)))
set_option maxHeartbeats 4000000 in
theorem ell_list (w : World) (p : Program) (loose : List Str) (mean : ExcName → Option Value) (mg mb : Str → Option Value) (D : Addr) (tm : Tok) (vs : List Value) (k : Nat) (ns : List Int) (hI : IntsAre vs ns) (h9 : ∀ n ∈ ns, 0 ≤ n ∧ n < 9) (h4 : ns.length ≤ 4) :
    SaysP w p loose mean mg mb 22 [.ref D, .int 2 tm] 4 40 (fun b => (D, listOf vs.toArray k) ∈ b) (fun r => (ns.length ≤ 2 ∧ r = .ref D) ∨ (∃ a b c rest t, ns = a :: b :: c :: rest ∧ r = .str (rowsS a b) t)) := by
  intro b hb
  unfold Says
  k_fill
  intro dp un env outer A₀ base h₀ L m news s Q E hf hke hdp hu B F X N T hpre ret
  subst hpre
  have hMk := kstMark
  refine wpAny_call ?_
  k_dflt walk_at "m_enter"
  k_steps
  · constructor
    rename_i h2 D2 ws h3 F2 N2 _ hI2 _ _
    match ns, hI, h9, h4, h2, hI2 with
    | a :: b :: c :: rest, _, h9, _, _, hI2 =>
      have ha := h9 a (.head _)
      have hb' := h9 b (.tail _ (.head _))
      refine mod_list (by decide +kernel) (ns := [a, b]) hI2 (N2 _ (.head _)).1 (by rfl) ?_ (rows_len ha hb') (rows_showable ha hb') ?_
      · show un + 3 + 5 < cLine
        omega
      · intro h' t' k' hk
        have F3 := F2.keeps hk
        have N3 := N2.grown hk
        have e : (PyData.list ([a, b].map PyData.int)).shown ++ Str.ofString "..." = rowsS a b := rows_shown a b
        rw [e]
        clear hk
        k_steps
        exact ret _ _ _ _ (by k_asm) (fun q hq => (by k_asm : News _ _ _ ((_, _) :: news)) q (.tail _ hq)) ⟨rfl, .inr ⟨_, _, _, _, _, rfl, rfl⟩⟩
  · exact ret _ _ _ _ (by k_asm) (by k_asm) ⟨rfl, .inl ⟨by omega, rfl⟩⟩
end Mine

namespace Mine
open PySem PySem.W PySem.Calls PySem.Spec PyProof.Rows
set_option maxRecDepth 100000
/-- the end of a turn of the law's own loops: the drawing state and one cell may have turned -/
def TurnEnd (h₀ : Heap) (L : Addr) (S B cM cS : Addr) (oB oS : Obj) (own : List (Addr × Obj)) (x : Str) (stored : List Str) (m₀ : Str → Option Value) (s₁ : Shared) (Q : Flow → Shared → Prop) (f : Flow) (s₂ : Shared) : Prop :=
  match f with
  | .ret v => Q (.ret v) s₂
  | .brk => Q .next s₂
  | _ => ∃ h' tk m' o' oM' v, s₂ = { s₁ with heap := h', toks := tk } ∧ Fr h₀ L h' m' ∧ News h₀ L h' ((S, o') :: (B, oB) :: (cM, oM') :: (cS, oS) :: own) ∧ StOk S B o' ∧ oM'.data = .cell v ∧ ∀ z, z ≠ x → stored.contains z = false → m' z = m₀ z
theorem loop_state {prog : Program} {w : World} {A : Around} {E : Value → Shared → Prop} {s : Shared} {env : Env} {h₀ : Heap} {x : Str} {body : List Stmt} {Q : Flow → Shared → Prop} {r : Addr} {b₀ : Int} {t₀ u₀ v₀ : Tok} {n : Nat} {m₀ : Str → Option Value} {S B cM cS : Addr} {o oB oM oS : Obj} {vM : Option Value}
    (stored : List Str) (hh : A.handled = none) (hr : IsRange s.heap r 0 b₀ 1 t₀ u₀ v₀) (hsmall : Builtin.Range.small 0 b₀ 1 = true) (hn : Builtin.Range.rangeSize 0 b₀ 1 = (n : Int))
    (F : Fr h₀ env.locals s.heap m₀) (N : News h₀ env.locals s.heap [(S, o), (B, oB), (cM, oM), (cS, oS)]) (hS : StOk S B o) (hM : oM.data = .cell vM)
    (turn : ∀ (o' oM' : Obj) v k t (u : Str → Option Value) h tk own, StOk S B o' → oM'.data = .cell v → OwnOff own [S, B, cM, cS] →
      Fr h₀ env.locals h (fun y => if y = x then some (.int k t) else if stored.contains y then u y else m₀ y) → News h₀ env.locals h ((S, o') :: (B, oB) :: (cM, oM') :: (cS, oS) :: own) →
      wpAny (model prog w) A (execs body env) (TurnEnd h₀ env.locals S B cM cS oB oS own x stored m₀ { s with heap := h, toks := tk } Q) E { s with heap := h, toks := tk })
    (done : ∀ (o' oM' : Obj) v (u : Str → Option Value) h tk, StOk S B o' → oM'.data = .cell v → Fr h₀ env.locals h (fun y => if y = x then u y else if stored.contains y then u y else m₀ y) → News h₀ env.locals h [(S, o'), (B, oB), (cM, oM'), (cS, oS)] → Q .next { s with heap := h, toks := tk }) :
    wpAny (model prog w) A (pyIter (.ref r)) (fun it s₂ => LoopAtV prog w A h₀ env x body Q E it s₂) E s := by
  refine kst_range (σ := Obj × Obj) (fun c => [(S, c.1), (B, oB), (cM, c.2), (cS, oS)]) (fun _ => []) (fun c => StOk S B c.1 ∧ ∃ v, c.2.data = .cell v) stored (fun _ _ => True) (o, oM) hh hr hsmall hn F N ⟨hS, vM, hM⟩ (fun _ h => nomatch h) trivial ?_ ?_
  · rintro ⟨o', oM'⟩ pre k t u h tk own _ _ hoff ⟨hS', v, hM'⟩ _ F' N'
    refine wpAny_mono (turn o' oM' v k t u h tk own hS' hM' hoff F' N') (fun f s₂ hq => ?_) fun _ _ e => e
    have fin : (∃ h' tk m' o' oM' v, s₂ = { ({ s with heap := h, toks := tk } : Shared) with heap := h', toks := tk } ∧ Fr h₀ env.locals h' m' ∧ News h₀ env.locals h' ((S, o') :: (B, oB) :: (cM, oM') :: (cS, oS) :: own) ∧ StOk S B o' ∧ oM'.data = .cell v ∧ ∀ z, z ≠ x → stored.contains z = false → m' z = m₀ z) →
        InvEndN h₀ env.locals (KstS (fun c : Obj × Obj => [(S, c.1), (B, oB), (cM, c.2), (cS, oS)]) (fun _ => []) (fun c => StOk S B c.1 ∧ ∃ v, c.2.data = .cell v) x stored m₀ (fun _ _ => True) (pre ++ [k])) own [S, B, cM, cS] { s with heap := h, toks := tk } s₂ := by
      rintro ⟨h', tk', m', o'', oM'', v', rfl, F'', N'', hS'', hM'', hm⟩
      exact ⟨h', tk', m', _, [(S, o''), (B, oB), (cM, oM''), (cS, oS)], rfl, F'', N'', fun p hp => List.mem_append_left own hp, fun p hp => List.mem_append_right [(S, o''), (B, oB), (cM, oM''), (cS, oS)] hp, rfl,
        (o'', oM''), rfl, ⟨hS'', v', hM''⟩, (fun _ h => nomatch h), (fun z h1 _ h2 => hm z h1 h2), trivial⟩
    cases f with
    | ret v => exact hq
    | brk => exact hq
    | next => obtain ⟨h', tk', r⟩ := hq; exact fin ⟨h', tk', r⟩
    | cont => obtain ⟨h', tk', r⟩ := hq; exact fin ⟨h', tk', r⟩
  · rintro ⟨o', oM'⟩ u h tk ⟨hS', v, hM'⟩ _ F' N'
    exact done o' oM' v u h tk hS' hM' F' N'
theorem bok_of {us : List Value} {ns : List Int} {k : Nat} (h : IntsAre us (ns.take 60)) : BOk (listOf us.toArray k) := ⟨us, _, k, rfl, h, by rw [List.length_take]; omega⟩
theorem turn_next {h₀ h' : Heap} {L S B cM cS : Addr} {o' oB oM' oS : Obj} {own all : List (Addr × Obj)} {x : Str} {stored : List Str} {m₀ m' : Str → Option Value} {s₁ : Shared} {Q : Flow → Shared → Prop} {tk : Nat} {v : Option Value}
    (F : Fr h₀ L h' m') (N : News h₀ L h' all) (sub : ∀ p ∈ (S, o') :: (B, oB) :: (cM, oM') :: (cS, oS) :: own, p ∈ all) (hS : StOk S B o') (hM : oM'.data = .cell v) (hm : ∀ z, z ≠ x → stored.contains z = false → m' z = m₀ z) :
    TurnEnd h₀ L S B cM cS oB oS own x stored m₀ s₁ Q .next { s₁ with heap := h', toks := tk } := ⟨h', tk, m', o', oM', v, rfl, F, fun p hp => N p (sub p hp), hS, hM, hm⟩
theorem off_stored {stored : List Str} {z y : Str} (h : stored.contains z = false) (hy : stored.contains y = true) : ¬ z = y := fun e => by rw [e, hy] at h; cases h
structure StopIf : Prop where
  mark :: (one : True)
structure StopIfExp : Prop where
  mark :: (one : True)
/-- the same names, the same ledger, and this text -/
def SameT {h₀ h : Heap} {L : Addr} {m : Str → Option Value} {news : List (Addr × Obj)} (_F : Fr h₀ L h m) (_N : News h₀ L h news) (s : Shared) (y : Str) (v : Value) (s' : Shared) : Prop :=
  ∃ t' h' tk', v = .str y t' ∧ s' = { s with heap := h', toks := tk' } ∧ Fr h₀ L h' m ∧ News h₀ L h' news
theorem sameT_intro {h₀ h h' : Heap} {L : Addr} {m : Str → Option Value} {news : List (Addr × Obj)} {F : Fr h₀ L h m} {N : News h₀ L h news} {s : Shared} {y z : Str} {t' : Tok} {tk' : Nat} (e : z = y) (F' : Fr h₀ L h' m) (N' : News h₀ L h' news) :
    SameT F N s y (.str z t') { s with heap := h', toks := tk' } := ⟨t', h', tk', by rw [e], rfl, F', N'⟩
/-- the same names but one that holds this text, the same ledger -/
def SameN {h₀ h : Heap} {L : Addr} {m : Str → Option Value} {news : List (Addr × Obj)} {x : Str} {v₀ : Value} (_F : Fr h₀ L h (fun y => if y = x then some v₀ else m y)) (_N : News h₀ L h news) (s : Shared) (y : Str) (f : Flow) (s' : Shared) : Prop :=
  f = .next ∧ ∃ t' h' tk', s' = { s with heap := h', toks := tk' } ∧ Fr h₀ L h' (fun z => if z = x then some (.str y t') else m z) ∧ News h₀ L h' news
theorem sameN_intro {h₀ h h' : Heap} {L : Addr} {m m' : Str → Option Value} {news news' : List (Addr × Obj)} {x : Str} {v₀ : Value} {F : Fr h₀ L h (fun y => if y = x then some v₀ else m y)} {N : News h₀ L h news} {s : Shared} {y z : Str} {t' : Tok} {tk' : Nat} (e : z = y)
    (F' : Fr h₀ L h' m') (hm : ∀ q, m' q = if q = x then some (.str z t') else m q) (N' : News h₀ L h' news') (sub : ∀ p ∈ news, p ∈ news') :
    SameN F N s y .next { s with heap := h', toks := tk' } := ⟨rfl, t', h', tk', rfl, by rw [← e]; rw [show m' = _ from funext hm] at F'; exact F', fun p hp => N' p (sub p hp)⟩
theorem join_T {prog : Program} {w : World} {A : Around} {c : Sem Value} {E Q : Value → Shared → Prop} {s : Shared} {h₀ : Heap} {L : Addr} {m : Str → Option Value} {news : List (Addr × Obj)} (F : Fr h₀ L s.heap m) (N : News h₀ L s.heap news) (y : Str)
    (walk : wpAny (model prog w) A c (SameT F N s y) E s) (cont : ∀ t' h' tk', Fr h₀ L h' m → News h₀ L h' news → Q (.str y t') { s with heap := h', toks := tk' }) : wpAny (model prog w) A c Q E s :=
  wpAny_mono walk (fun _ _ hq => by
    obtain ⟨t', h', tk', rfl, rfl, F', N'⟩ := hq
    exact cont t' h' tk' F' N') fun _ _ e => e
theorem join_N {prog : Program} {w : World} {A : Around} {c : Sem Flow} {E : Value → Shared → Prop} {Q : Flow → Shared → Prop} {s : Shared} {h₀ : Heap} {L : Addr} {m : Str → Option Value} {x : Str} {v₀ : Value} {news : List (Addr × Obj)} (F : Fr h₀ L s.heap (fun y => if y = x then some v₀ else m y)) (N : News h₀ L s.heap news) (y : Str)
    (walk : wpAny (model prog w) A c (SameN F N s y) E s) (cont : ∀ t' h' tk', Fr h₀ L h' (fun z => if z = x then some (.str y t') else m z) → News h₀ L h' news → Q .next { s with heap := h', toks := tk' }) : wpAny (model prog w) A c Q E s :=
  wpAny_mono walk (fun _ _ hq => by
    obtain ⟨rfl, t', h', tk', rfl, F', N'⟩ := hq
    exact cont t' h' tk' F' N') fun _ _ e => e
end Mine

namespace Mine
open PySem PySem.W PySem.Calls PySem.Spec PyProof.Rows PyProof.V
set_option maxRecDepth 100000
theorem st_canLay : ∀ xs : List Str, (∀ x ∈ xs, PyData.strOk x = true) → PyData.canLayAll0 (xs.map PyData.str) = true
  | [], _ => rfl
  | a :: r, h => by simp [PyData.canLayAll0, PyData.canLay0, st_canLay r (fun x hx => h x (.tail _ hx)), h a (.head _)]
theorem st_depth : ∀ xs : List Str, PyData.depthAll (xs.map PyData.str) = 0
  | [] => rfl
  | _ :: r => by simp [PyData.depthAll, PyData.depth, st_depth r]
theorem st_shaped (xs : List Str) (h : ∀ x ∈ xs, PyData.strOk x = true) : SeqAt.shaped (.list (xs.map PyData.str)) = true := by
  simp [SeqAt.shaped, PyData.canLay0, PyData.depth, st_canLay xs h, st_depth]
theorem st_sameAll : ∀ xs ys : List Str, PySem.Spec.sameAll (xs.map PyData.str) (ys.map PyData.str) = decide (xs = ys)
  | [], [] => by simp [PySem.Spec.sameAll]
  | [], _ :: _ => by simp [PySem.Spec.sameAll]
  | _ :: _, [] => by simp [PySem.Spec.sameAll]
  | a :: r, b :: t => by
    simp only [List.map_cons, PySem.Spec.sameAll, PySem.Spec.same, st_sameAll r t]
    by_cases h : a = b <;> by_cases h' : r = t <;> simp [h, h']
theorem st_same (xs ys : List Str) : PySem.Spec.same (.list (xs.map PyData.str)) (.list (ys.map PyData.str)) = decide (xs = ys) := by
  simp only [PySem.Spec.same]; exact st_sameAll xs ys
section
variable {prog : Program} {w : World} {A : Around} {E : Value → Shared → Prop} {s : Shared} {a b L : Addr} {h₀ : Heap} {news : List (Addr × Obj)} {vs us : List Value} {j k : Nat} {xs ys : List Str} {ns ms : List Int} {Q : Value → Shared → Prop}
theorem lst_of (N : News h₀ L s.heap news) (h : (a, listOf vs.toArray k) ∈ news) : s.heap.IsList a vs.toArray := ⟨_, (N _ h).1, rfl, _, rfl⟩
/-- two made lists of texts -/
theorem m_ne_strs (N : News h₀ L s.heap news) (ha : (a, listOf vs.toArray j) ∈ news) (hb : (b, listOf us.toArray k) ∈ news) (hi : StrsAre vs xs) (hj : StrsAre us ys) (hx : ∀ x ∈ xs, PyData.strOk x = true) (hy : ∀ x ∈ ys, PyData.strOk x = true) (hu : A.units + 64 < cLine) (h : Q (.bool (!decide (xs = ys))) s) :
    wpAny (model prog w) A (compareOp .NotEq (.ref a) (.ref b)) Q E s :=
  ne_dataH_same (reads_newData (lst_of N ha) hi.carried) (reads_newData (lst_of N hb) hj.carried) (st_shaped _ hx) (st_shaped _ hy) hu (SeqAt.noMix_of_shape (.list .str) rfl _ _ (list_map_has fun _ => rfl) (list_map_has fun _ => rfl)) (by rw [st_same]; exact h)
theorem m_eq_strs (N : News h₀ L s.heap news) (ha : (a, listOf vs.toArray j) ∈ news) (hb : (b, listOf us.toArray k) ∈ news) (hi : StrsAre vs xs) (hj : StrsAre us ys) (hx : ∀ x ∈ xs, PyData.strOk x = true) (hy : ∀ x ∈ ys, PyData.strOk x = true) (hu : A.units + 64 < cLine) (h : Q (.bool (decide (xs = ys))) s) :
    wpAny (model prog w) A (compareOp .Eq (.ref a) (.ref b)) Q E s :=
  eq_dataH_same (reads_newData (lst_of N ha) hi.carried) (reads_newData (lst_of N hb) hj.carried) (st_shaped _ hx) (st_shaped _ hy) hu (SeqAt.noMix_of_shape (.list .str) rfl _ _ (list_map_has fun _ => rfl) (list_map_has fun _ => rfl)) (by rw [st_same]; exact h)
theorem m_ne_ints (N : News h₀ L s.heap news) (ha : (a, listOf vs.toArray j) ∈ news) (hb : (b, listOf us.toArray k) ∈ news) (hi : IntsAre vs ns) (hj : IntsAre us ms) (hu : A.units + 64 < cLine) (h : Q (.bool (!decide (ns = ms))) s) :
    wpAny (model prog w) A (compareOp .NotEq (.ref a) (.ref b)) Q E s := ke_ne_ints (lst_of N ha) (lst_of N hb) hi hj hu h
theorem m_ne_same (N : News h₀ L s.heap news) (ha : (a, listOf vs.toArray j) ∈ news) (hb : (b, listOf us.toArray k) ∈ news) (hi : StrsAre vs xs) (hj : StrsAre us xs) (hx : ∀ x ∈ xs, PyData.strOk x = true) (hu : A.units + 64 < cLine) (h : Q (.bool false) s) :
    wpAny (model prog w) A (compareOp .NotEq (.ref a) (.ref b)) Q E s := m_ne_strs N ha hb hi hj hx hx hu (by simpa using h)
theorem m_eq_nil0 (N : News h₀ L s.heap news) (ha : (a, listOf vs.toArray j) ∈ news) (hb : (b, listOf ([] : List Value).toArray k) ∈ news) (hi : StrsAre vs xs) (hz : xs.length = 0) (hx : ∀ x ∈ xs, PyData.strOk x = true) (hu : A.units + 64 < cLine) (h : Q (.bool true) s) :
    wpAny (model prog w) A (compareOp .Eq (.ref a) (.ref b)) Q E s := m_eq_strs N ha hb hi .nil hx (fun _ h => nomatch h) hu (by
    have e : xs = [] := List.length_eq_zero_iff.mp hz
    simpa [e] using h)
theorem m_eq_nil1 (N : News h₀ L s.heap news) (ha : (a, listOf vs.toArray j) ∈ news) (hb : (b, listOf ([] : List Value).toArray k) ∈ news) (hi : StrsAre vs xs) (hz : 0 < xs.length) (hx : ∀ x ∈ xs, PyData.strOk x = true) (hu : A.units + 64 < cLine) (h : Q (.bool false) s) :
    wpAny (model prog w) A (compareOp .Eq (.ref a) (.ref b)) Q E s := m_eq_strs N ha hb hi .nil hx (fun _ h => nomatch h) hu (by
    have e : xs ≠ [] := fun e => by rw [e] at hz; exact absurd hz (by decide)
    simpa [e] using h)
theorem m_menu {value slice : PySem.Expr} {lo hi m : Int} {u : Tok} (N : News h₀ L s.heap news) (hm : (a, listOf vs.toArray j) ∈ news) (hI : IntsAre vs ns) (hall : ns.all (fun k => decide (lo ≤ k) && decide (k ≤ hi)) = true) (h0 : 0 ≤ m) (h1 : m < ns.length) (hfit : m < 2 ^ 63)
    (h : ∀ z t, lo ≤ z → z ≤ hi → Q (.int z t) s) (hs : subscripted slice false (.ref a) (.int m u) = operate [.ref a, .int m u] (getItem (.ref a) (.int m u))) :
    wpAny (model prog w) A (subscriptTail value slice (.ref a) (.int m u)) Q E s :=
  item_anyK (lst_of N hm) hI h0 h1 hfit (fun t => h _ t (kmn_in (i := m.toNat) (d := 0) (by omega) hall).1 (kmn_in (i := m.toNat) (d := 0) (by omega) hall).2) hs
end
end Mine

namespace Mine
open PySem PySem.W PySem.Calls PySem.Spec PyProof.Rows PyProof.V PyProof.Rows.LCg
set_option maxRecDepth 100000
/-- where a turn of the list over an enumerated text comes back to -/
def PickEnd (h₀ : Heap) (L : Addr) (m : Str → Option Value) (news : List (Addr × Obj)) (R : Value → Prop) (s : Shared) (y : Value) (s' : Shared) : Prop :=
  R y ∧ ∃ h' tk', s' = { s with heap := h', toks := tk' } ∧ Fr h₀ L h' m ∧ News h₀ L h' news
section
variable {prog : Program} {w : World} {A : Around} {E : Value → Shared → Prop} {s : Shared} {h₀ : Heap} {L : Addr} {m : Str → Option Value} {env : Env}
def PickTurn (prog : Program) (w : World) (A : Around) (h₀ : Heap) (L : Addr) (m : Str → Option Value) (env : Env) (elt c : PySem.Expr) (a b : Str) (scope : Scope) (cl : List (Str × Addr)) (x : Str) (J : Nat → List Value → Prop) (news : List (Addr × Obj)) (s : Shared) : Prop :=
  ∀ (i : Nat) z t u ys I oI C oC D it oi m₂ h tk (E' : Value → Shared → Prop), (signs x)[i]? = some z → J i ys → NsObj oC m₂ → m₂ a = some (.int (i : Int) t) → m₂ b = some (.str z u) → Fr h₀ L h m → News h₀ L h ((I, oI) :: (C, oC) :: (D, lst ys) :: (it, oi) :: news) →
    wpAny (model prog w) A (isTrue c (compEnvC scope cl C env) (eval c (compEnvC scope cl C env))) (fun okb s₃ => if okb = true then
      wpAny (model prog w) A (eval elt (compEnvC scope cl C env)) (PickEnd h₀ L m ((I, oI) :: (C, oC) :: (D, lst ys) :: (it, oi) :: news) (fun y => J (i + 1) (ys ++ [y])) { s with heap := h, toks := tk }) E' s₃
      else PickEnd h₀ L m ((I, oI) :: (C, oC) :: (D, lst ys) :: (it, oi) :: news) (fun _ => J (i + 1) ys) { s with heap := h, toks := tk } .none s₃) E' { s with heap := h, toks := tk }
/-- what the loop owns: the enumerator, its names, its list, the signs' iterator -/
abbrev quad (e : Addr) (oe : Obj) (C : Addr) (oC : Obj) (D : Addr) (ys : List Value) (it : Addr) (oi : Obj) (news : List (Addr × Obj)) : List (Addr × Obj) := (e, oe) :: (C, oC) :: (D, lst ys) :: (it, oi) :: news
structure Apart (e it C D : Addr) (news : List (Addr × Obj)) : Prop where
  ei : e ≠ it
  eC : e ≠ C
  eD : e ≠ D
  iC : it ≠ C
  iD : it ≠ D
  CD : C ≠ D
  rest : ∀ p ∈ news, p.1 ≠ e ∧ p.1 ≠ it ∧ p.1 ≠ C ∧ p.1 ≠ D
theorem fr_off {h h' : Heap} (ws : List Addr) (F : Fr h₀ L h m) (k : ∀ b o, b ∉ ws → h.get? b = some o → h'.get? b = some o) (hL : L ∉ ws) (h0 : ∀ b ∈ ws, h₀.get? b = none) : Fr h₀ L h' m :=
  ⟨F.ns.at' fun o e => k L o hL e, fun b o e => k b o (fun hb => nomatch (h0 b hb).symm.trans e) (F.keep b o e), F.above⟩
theorem new_at {h : Heap} {b : Addr} (F : Fr h₀ L h m) (hb : h.objs.size ≤ b) : b ≠ L ∧ h₀.get? b = none :=
  ⟨fun e => Nat.not_lt.mpr hb (e ▸ F.ns.lt), Option.eq_none_iff_forall_ne_some.mpr fun o e => Nat.not_lt.mpr hb (Heap.lt_size (F.keep b o e))⟩
section
variable {h h' : Heap} {e it C D : Addr} {oe oi oC oe' oi' oC' : Obj} {ys ys' : List Value} {news : List (Addr × Obj)}
/-- the same owned places with other contents; the rest as it was -/
theorem quad_next (P : Apart e it C D news) (N : News h₀ L h (quad e oe C oC D ys it oi news)) (k : ∀ b o, b ≠ e → b ≠ it → b ≠ C → b ≠ D → h.get? b = some o → h'.get? b = some o)
    (g1 : h'.get? e = some oe') (g2 : h'.get? C = some oC') (g3 : h'.get? D = some (lst ys')) (g4 : h'.get? it = some oi') : News h₀ L h' (quad e oe' C oC' D ys' it oi' news) := by
  intro p hp
  simp only [quad, List.mem_cons] at hp
  rcases hp with rfl | rfl | rfl | rfl | hp
  · exact ⟨g1, (N (e, oe) (by simp)).2⟩
  · exact ⟨g2, (N (C, oC) (by simp)).2⟩
  · exact ⟨g3, (N (D, lst ys) (by simp)).2⟩
  · exact ⟨g4, (N (it, oi) (by simp)).2⟩
  · have z := N p (by simp [hp])
    obtain ⟨a1, a2, a3, a4⟩ := P.rest p hp
    exact ⟨k _ _ a1 a2 a3 a4 z.1, z.2⟩
theorem quad_fr (F : Fr h₀ L h m) (N : News h₀ L h (quad e oe C oC D ys it oi news)) (k : ∀ b o, b ≠ e → b ≠ it → b ≠ C → b ≠ D → h.get? b = some o → h'.get? b = some o) : Fr h₀ L h' m := by
  have n1 := (N (e, oe) (by simp)).2
  have n2 := (N (C, oC) (by simp)).2
  have n3 := (N (D, lst ys) (by simp)).2
  have n4 := (N (it, oi) (by simp)).2
  refine fr_off [e, it, C, D] F (fun b o hb => ?_) ?_ ?_
  · simp only [List.mem_cons, List.not_mem_nil, or_false, not_or] at hb
    exact k b o hb.1 hb.2.1 hb.2.2.1 hb.2.2.2
  · simp only [List.mem_cons, List.not_mem_nil, or_false, not_or]
    exact ⟨n1.1.symm, n4.1.symm, n2.1.symm, n3.1.symm⟩
  · intro b hb
    simp only [List.mem_cons, List.not_mem_nil, or_false] at hb
    rcases hb with rfl | rfl | rfl | rfl
    · exact n1.2
    · exact n4.2
    · exact n2.2
    · exact n3.2
end
/-- the loop over an enumerated text, with a test, from a ledger that holds all that it owns -/
theorem pick_loop {elt iter c : PySem.Expr} {a b : Str} {pa pb tp : Pos} {kk : Nat} {scope : Scope} {cl : List (Str × Addr)} {pos : Pos} {e it C D : Addr} {n : Nat} {Pt : Nat → Array Value → Prop} {St : Nat → Heap → Prop} {Mid : Nat → Addr → Heap → Prop} {x : Str} {news : List (Addr × Obj)}
    {J : Nat → List Value → Prop} {R : Result → Shared → Prop} {oe oi oC : Obj} {m₁ : Str → Option Value}
    (hh : A.handled = none) (U : WalksU prog w A e [e, it] [e, it] n Pt St Mid) (hsz : n ≤ sizeLine)
    (hPt : ∀ i vals, Pt i vals → ∃ t u z, (signs x)[i]? = some z ∧ vals = #[.int (i : Int) t, .str z u]) (live : ∀ i h, St i h → ∃ o o', h.get? e = some o ∧ h.get? it = some o')
    (hkind : scope.kind = .function) (hxa : scope.names.lookup a = some .local) (hxb : scope.names.lookup b = some .local) (hab : ¬ a = b)
    (P : Apart e it C D news) (turn : ∀ g t, PickTurn prog w A h₀ L m env elt c a b scope cl x J news { s with heap := g, toks := t }) (hJl : ∀ i ys, J i ys → ys.length ≤ i)
    (hst : St 0 s.heap) (hJ : J 0 []) (F : Fr h₀ L s.heap m) (hC : NsObj oC m₁) (N : News h₀ L s.heap (quad e oe C oC D [] it oi news))
    (out : ∀ h t ys oC m₂, J n ys → Fr h₀ L h m → NsObj oC m₂ → News h₀ L h ((C, oC) :: (D, lst ys) :: news) → R (.ok .next) { s with heap := h, toks := t }) :
    codeAny (model prog w) A (.compLoop (.ListComp elt [⟨.Tuple [.Name a pa, .Name b pb] kk tp, iter, [c], 0⟩] scope pos) 0 (.ref e) (.ref D) (compEnvC scope cl C env)) R s := by
  have W := KTurns.ofWalksU (elts := [.Name a pa, .Name b pb]) (k := kk) (pos := tp) U
  refine kct_loop (fun k s' => ∃ i h t ys oe oi oC m₂, k = n + 1 - i ∧ i ≤ n ∧ s' = { s with heap := h, toks := t } ∧ J i ys ∧ St i h ∧ Fr h₀ L h m ∧ NsObj oC m₂ ∧ News h₀ L h (quad e oe C oC D ys it oi news))
    (fun k s' => ?_) (n + 1) ⟨0, s.heap, s.toks, [], oe, oi, oC, m₁, rfl, Nat.zero_le _, rfl, hJ, hst, F, hC, N⟩
  rintro ⟨i, h, t, ys, oe, oi, oC, m₂, rfl, hi, rfl, hj, st, F, hC, N⟩
  have again : ∀ {h₁ : Heap} {t₁ : Tok} {oe₁ oi₁ oC₁ : Obj} {m₃ : Str → Option Value} {ys₁ : List Value}, i < n → J (i + 1) ys₁ → St (i + 1) h₁ → Fr h₀ L h₁ m → NsObj oC₁ m₃ → News h₀ L h₁ (quad e oe₁ C oC₁ D ys₁ it oi₁ news) →
      ∃ q, q < n + 1 - i ∧ ∃ i h t ys oe oi oC m₂, q = n + 1 - i ∧ i ≤ n ∧ ({ s with heap := h₁, toks := t₁ } : Shared) = { s with heap := h, toks := t } ∧ J i ys ∧ St i h ∧ Fr h₀ L h m ∧ NsObj oC m₂ ∧ News h₀ L h (quad e oe C oC D ys it oi news) :=
    fun hlt j1 s1 F1 c1 N1 => ⟨n + 1 - (i + 1), by omega, i + 1, _, _, _, _, _, _, _, rfl, hlt, rfl, j1, s1, F1, c1, N1⟩
  have drawn : ∀ {h₁ : Heap}, (∀ b o, b ∉ [e, it] → h.get? b = some o → h₁.get? b = some o) → ∀ b o, b ≠ e → b ≠ it → h.get? b = some o → h₁.get? b = some o := fun k b o h1 h2 => k b o (by simp [h1, h2])
  have gC := (N (C, oC) (by simp)).1
  have gD := (N (D, lst ys) (by simp)).1
  rcases Nat.lt_or_ge i n with hlt | hge
  · refine W.item i _ _ _ hlt st fun v h₁ t₁ md k₁ => W.go i v _ _ _ md fun h₂ hv st₂ k₂ => ?_
    obtain ⟨T, vals, rfl, hp, hT⟩ := hv
    obtain ⟨ti, tz, z, hz, rfl⟩ := hPt i vals hp
    have kd : ∀ b o, b ≠ e → b ≠ it → h.get? b = some o → h₂.get? b = some o := fun b o h1 h2 g => k₂ b o (by simp [h1, h2]) (drawn k₁ b o h1 h2 g)
    refine kcp_assign (env := compEnvC scope cl C env) hh hT (lookup_relabel_local hxa) (lookup_relabel_local hxb) (by simp [compEnvC, relabel, hkind]) (hC.ns (kd _ _ P.eC.symm P.iC.symm gC)) fun h₃ t₃ hns k₃ => ?_
    have st₃ : St (i + 1) h₃ := W.frame _ _ _ st₂ fun b hb o g => k₃ b o (by
      simp only [List.mem_cons, List.not_mem_nil, or_false] at hb
      rcases hb with rfl | rfl
      · exact P.eC
      · exact P.iC) g
    obtain ⟨oe₃, oi₃, ge, gi⟩ := live _ _ st₃
    obtain ⟨oC₃, gC₃, hC₃⟩ := ns_obj hns
    have k03 : ∀ b o, b ≠ e → b ≠ it → b ≠ C → b ≠ D → h.get? b = some o → h₃.get? b = some o := fun b o h1 h2 h3 _ g => k₃ b o h3 (kd b o h1 h2 g)
    have N₃ := quad_next P N k03 ge gC₃ (k₃ D _ P.CD.symm (kd D _ P.eD.symm P.iD.symm gD)) gi
    have F₃ := quad_fr F N k03
    have kept : ∀ {h₄ : Heap} {zs : List Value}, News h₀ L h₄ (quad e oe₃ C oC₃ D zs it oi₃ news) → St (i + 1) h₄ := fun N₄ => W.frame _ _ _ st₃ fun b hb o g => by
      simp only [List.mem_cons, List.not_mem_nil, or_false] at hb
      rcases hb with rfl | rfl
      · exact (congrArg some (Option.some.inj (ge.symm.trans g))) ▸ (N₄ (b, oe₃) (by simp)).1
      · exact (congrArg some (Option.some.inj (gi.symm.trans g))) ▸ (N₄ (b, oi₃) (by simp)).1
    refine wpAny_mono (turn _ _ i z ti tz ys e oe₃ C oC₃ D it oi₃ _ h₃ _ _ hz hj hC₃ (by simp [hab]) (by simp) F₃ N₃) (fun ok s₄ q => ?_) fun _ _ e => e
    cases ok
    · obtain ⟨j1, h₄, t₄, rfl, F₄, N₄⟩ := q
      exact again hlt j1 (kept N₄) F₄ hC₃ N₄
    · refine wpAny_mono q (fun y s₅ q => ?_) fun _ _ e => e
      obtain ⟨j1, h₄, t₄, rfl, F₄, N₄⟩ := q
      refine append_at (hsz := by rw [List.size_toArray]; exact Nat.le_trans (hJl _ _ hj) (Nat.le_trans hi hsz)) (N₄ (D, lst ys) (by simp)).1 fun h₅ hs g5 => ?_
      have k45 : ∀ b o, b ≠ e → b ≠ it → b ≠ C → b ≠ D → h₄.get? b = some o → h₅.get? b = some o := fun b o _ _ _ hb g => hs.extBut b o hb g
      have N₅ := quad_next P N₄ k45 (hs.extBut e _ P.eD (N₄ (e, oe₃) (by simp)).1) (hs.extBut C _ P.CD (N₄ (C, oC₃) (by simp)).1) (g5.trans (congrArg some (lst_snoc ys y))) (hs.extBut it _ P.iD (N₄ (it, oi₃) (by simp)).1)
      exact again hlt j1 (kept N₅) (quad_fr F₄ N₄ k45) hC₃ N₅
  · obtain rfl : i = n := Nat.le_antisymm hi hge
    refine W.done _ _ _ st fun h₁ t₁ k₁ => ?_
    have k01 : ∀ b o, b ≠ e → b ≠ it → b ≠ C → b ≠ D → h.get? b = some o → h₁.get? b = some o := fun b o h1 h2 _ _ g => drawn k₁ b o h1 h2 g
    refine out h₁ t₁ ys oC m₂ hj (quad_fr F N k01) hC fun p hp => ?_
    have z : p ∈ quad e oe C oC D ys it oi news := by
      simp only [quad, List.mem_cons] at hp ⊢
      rcases hp with h1 | h1 | h1
      · exact .inr (.inl h1)
      · exact .inr (.inr (.inl h1))
      · exact .inr (.inr (.inr (.inr h1)))
    have ne : p.1 ≠ e ∧ p.1 ≠ it := by
      simp only [List.mem_cons] at hp
      rcases hp with rfl | rfl | h1
      · exact ⟨P.eC.symm, P.iC.symm⟩
      · exact ⟨P.eD.symm, P.iD.symm⟩
      · exact ⟨(P.rest p h1).1, (P.rest p h1).2.1⟩
    exact ⟨drawn k₁ _ _ ne.1 ne.2 (N p z).1, (N p z).2⟩
theorem pick_eval {elt iter c : PySem.Expr} {a b : Str} {pa pb tp : Pos} {kk : Nat} {scope : Scope} {cl : List (Str × Addr)} {pos : Pos} {Q : Value → Shared → Prop} {x : Str} {t : Tok} {news : List (Addr × Obj)} (nm : Str) (J : Nat → List Value → Prop)
    (_hv : m nm = some (.str x t)) (hh : A.handled = none) (F : Fr h₀ L s.heap m) (N : News h₀ L s.heap news)
    (hclos : closureFor scope env = pure cl) (hcell : ∀ y ∈ scope.names, y.2 ≠ .cell) (hkind : scope.kind = .function)
    (hnames : ∀ y ∈ scope.names, y.2 = .local → scope.names.lookup y.1 = some .local) (hxa : scope.names.lookup a = some .local) (hxb : scope.names.lookup b = some .local) (hab : ¬ a = b)
    (hs : ∀ x, foldedSetIterable iter env x = pure x) (hsz : x.length ≤ sizeLine) (hJ : J 0 []) (hJl : ∀ i ys, J i ys → ys.length ≤ i)
    (call : ∀ Q', wpAny (model prog w) A (call (.type "enumerate") [.str x t]) Q' E s → wpAny (model prog w) A (eval iter env) Q' E s)
    (turn : ∀ g t, PickTurn prog w A h₀ L m env elt c a b scope cl x J news { s with heap := g, toks := t })
    (done : ∀ D ys h' tk, J x.length ys → Fr h₀ L h' m → News h₀ L h' ((D, lst ys) :: news) → Off1 D news → Q (.ref D) { s with heap := h', toks := tk }) :
    wpAny (model prog w) A (eval (.ListComp elt [⟨.Tuple [.Name a pa, .Name b pb] kk tp, iter, [c], 0⟩] scope pos) env) Q E s := by
  rw [eval_ListComp]
  refine wpAny_comprehension_free (use := none) rfl hs hclos hkind hnames (call _ (call_enumerate_str fun h₁ he hit hz1 k1 => wpAny_pyIter_enum he ?_))
  obtain ⟨St, Dr, st⟩ : ∃ St, Draws prog w A.in1 s.heap.objs.size [s.heap.objs.size] x.cps.size (fun i v => ∃ c u, x.cps[i]? = some c ∧ v = .str ⟨#[c]⟩ u) St ∧ St 0 h₁ := by
    rcases ha : x.cps.all (· < 128) with _ | _
    · rw [show strIterType x = "str_iterator" by simp [strIterType, ha]] at hit
      exact ⟨_, Draws.strWide (A := A.in1) hh s.heap.objs.size x t, hit⟩
    · rw [show strIterType x = "str_ascii_iterator" by simp [strIterType, ha]] at hit
      exact ⟨_, Draws.strAscii (A := A.in1) hh s.heap.objs.size x t, hit⟩
  have U := (WalksT.enumerateD Dr (s.heap.objs.size + 1) (Nat.succ_ne_self _) (by simp) (by simp)).toU
  refine wpAny_newObj_type (wpAny_newFunctionEnv hcell (fun _ h => nomatch h) (fun h₂ hns hsb => ?_) hkind)
  dsimp only at hns hsb ⊢
  have hz2 : (h₁.push { cls := .type "list", dict := none, data := .seq ([] : List Value).toArray }).objs.size = s.heap.objs.size + 3 := by rw [Heap.size_push, hz1]
  have gD := Heap.get?_push_size h₁ (o := { cls := .type "list", dict := none, data := .seq ([] : List Value).toArray }) rfl
  have up : ∀ b o, b < s.heap.objs.size + 3 → (h₁.push { cls := .type "list", dict := none, data := .seq ([] : List Value).toArray }).get? b = some o → h₂.get? b = some o :=
    fun b o hb g => hsb.extBut b o (Nat.ne_of_lt (by rw [hz2]; exact hb)) (Heap.get?_push_of_some _ g)
  have k2 : ∀ b o, h₁.get? b = some o → h₂.get? b = some o := fun b o g => up b o (Nat.lt_succ_of_lt (hz1 ▸ Heap.lt_size g)) (Heap.get?_push_of_some _ g)
  replace gD := up _ _ (Nat.lt_succ_of_le (Nat.le_of_eq hz1)) gD
  obtain ⟨oC, gC, hC⟩ := ns_obj hns
  obtain ⟨oi, gi⟩ := Dr.live _ _ st
  obtain ⟨oe, ge⟩ : ∃ o, h₁.get? (s.heap.objs.size + 1) = some o := ⟨_, he⟩
  have old : ∀ b o, s.heap.get? b = some o → h₂.get? b = some o := fun b o g => k2 b o (k1 b o g)
  have nw : ∀ b, s.heap.objs.size ≤ b → b ≠ L ∧ h₀.get? b = none := fun b hb => new_at F hb
  have lt : ∀ p ∈ news, p.1 < s.heap.objs.size := fun p hp => Heap.lt_size (N p hp).1
  rw [hz1] at gD
  rw [hz2] at gC hsb ⊢
  rw [hz1]
  have P : Apart (s.heap.objs.size + 1) s.heap.objs.size (s.heap.objs.size + 3) (s.heap.objs.size + 2) news :=
    ⟨Nat.ne_of_gt (by omega), Nat.ne_of_lt (by omega), Nat.ne_of_lt (by omega), Nat.ne_of_lt (by omega), Nat.ne_of_lt (by omega), Nat.ne_of_gt (by omega),
      fun p hp => ⟨Nat.ne_of_lt (Nat.lt_add_right 1 (lt p hp)), Nat.ne_of_lt (lt p hp), Nat.ne_of_lt (Nat.lt_add_right 3 (lt p hp)), Nat.ne_of_lt (Nat.lt_add_right 2 (lt p hp))⟩⟩
  have N2 : News h₀ L h₂ (quad (s.heap.objs.size + 1) oe (s.heap.objs.size + 3) oC (s.heap.objs.size + 2) [] s.heap.objs.size oi news) := by
    intro p hp
    simp only [quad, List.mem_cons] at hp
    rcases hp with rfl | rfl | rfl | rfl | hp
    · exact ⟨k2 _ _ ge, nw _ (Nat.le_add_right _ _)⟩
    · exact ⟨gC, nw _ (Nat.le_add_right _ _)⟩
    · exact ⟨gD, nw _ (Nat.le_add_right _ _)⟩
    · exact ⟨k2 _ _ gi, nw _ (Nat.le_refl _)⟩
    · exact ⟨old _ _ (N p hp).1, (N p hp).2⟩
  have st2 := U.frame 0 h₁ h₂ ⟨⟨_, he⟩, st⟩ fun b _ o g => k2 b o g
  have loop := pick_loop (R := fun r s' => compPost (model prog w) A E none Q (.ref (s.heap.objs.size + 2)) (s.heap.objs.size + 3) r s') (env := env) (elt := elt) (iter := iter) (c := c) (cl := cl) (kk := kk) (pa := pa) (pb := pb) (tp := tp) (pos := pos) (L := L) (m := m) (h₀ := h₀)
    (s := { s with heap := h₂, toks := s.toks + ([] : List (Str × Value)).length }) hh U hsz
    (fun i vals hp => by
      obtain ⟨ti, v, ⟨z, tz, hz, rfl⟩, rfl⟩ := hp
      exact ⟨ti, tz, _, signs_get hz, rfl⟩)
    (fun i h st => ⟨_, _, st.1.choose_spec, (Dr.live _ _ st.2).choose_spec⟩) hkind hxa hxb hab P turn hJl st2 hJ (F.keeps old) hC N2
    (fun h t ys oC m₂ hj F3 hC3 N3 => ⟨m₂, hC3.ns (N3 _ (.head _)).1, fun h₄ hsb4 => done _ ys h₄ t hj (F3.change hsb4 (nw _ (Nat.le_add_right _ _)).1 (nw _ (Nat.le_add_right _ _)).2) (fun p hp => by
      have ne : p.1 ≠ s.heap.objs.size + 3 := by
        rcases List.mem_cons.mp hp with rfl | hp
        · exact P.CD.symm
        · exact (P.rest p hp).2.2.1
      exact ⟨hsb4.extBut _ _ ne (N3 p (.tail _ hp)).1, (N3 p (.tail _ hp)).2⟩)
      (Off3.of (I := s.heap.objs.size + 2) (C := s.heap.objs.size + 2) fun p hp => ⟨(P.rest p hp).2.2.2, (P.rest p hp).2.2.2, (P.rest p hp).2.2.2⟩).one⟩)
  exact codeAny_compStart_list loop (U.self 0 _ _ _ st2 loop)
end
/-- the signs below m -/
def pickJ (x : Str) (m : Int) (i : Nat) (ys : List Value) : Prop := StrsAre ys ((signs x).take (min i m.toNat)) ∧ ys.length ≤ i
theorem pickJ_nil (x : Str) (m : Int) : pickJ x m 0 [] := ⟨by simp; exact .nil, Nat.le_refl _⟩
theorem pickJ_stay {x : Str} {m : Int} {i : Nat} {ys : List Value} (h : pickJ x m i ys) (hi : ¬ (i : Int) < m) : pickJ x m (i + 1) ys :=
  ⟨by rw [show min (i + 1) m.toNat = min i m.toNat by omega]; exact h.1, Nat.le_succ_of_le h.2⟩
theorem pickJ_step {x z : Str} {m : Int} {i : Nat} {u : Tok} {ys : List Value} (h : pickJ x m i ys) (hz : (signs x)[i]? = some z) (hi : (i : Int) < m) : pickJ x m (i + 1) (ys ++ [.str z u]) :=
  ⟨by
    have e1 : min i m.toNat = i := by omega
    have e2 : min (i + 1) m.toNat = i + 1 := by omega
    have h1 := h.1
    rw [e1] at h1
    rw [e2, List.take_add_one, hz]
    exact h1.append' (.cons _ _ .nil), by rw [List.length_append, List.length_singleton]; exact Nat.succ_le_succ h.2⟩
theorem join_flat : ∀ l : List Str, (Str.join (Str.ofString "") l).cps.toList = (l.map (·.cps.toList)).flatten
  | [] => rfl
  | [a] => by
    show a.cps.toList = _
    simp
  | a :: b :: r => by
    show (a ++ Str.ofString "" ++ Str.join (Str.ofString "") (b :: r)).cps.toList = _
    rw [PySem.Str.cps_append, PySem.Str.cps_append, Array.toList_append, Array.toList_append, join_flat (b :: r)]
    have e : (Str.ofString "").cps.toList = [] := by decide +kernel
    rw [e]
    simp
theorem flat_ones : ∀ l : List Nat, (List.map (fun y => y.cps.toList) (l.map fun n => (⟨#[n]⟩ : Str))).flatten = l
  | [] => rfl
  | a :: r => by
    have h := flat_ones r
    simp only [List.map_cons, List.flatten_cons, h]
    rfl
theorem join_take (x : Str) (n : Nat) : Txt.join (Str.ofString "") ((signs x).take n) = takeS x n := by
  rw [show Txt.join (Str.ofString "") ((signs x).take n) = Str.join (Str.ofString "") ((signs x).take n) from StrLaws.glued_eq_join _ _]
  refine PySem.Str.ext' ?_
  rw [← Array.toList_inj, join_flat]
  unfold signs takeS
  rw [← List.map_take, flat_ones]
theorem pickJ_strs {x : Str} {m : Int} {ys : List Value} (h : pickJ x m x.length ys) (hm : m < x.length) : StrsAre ys ((signs x).take m.toNat) := by
  have := h.1
  rwa [show min x.length m.toNat = m.toNat by omega] at this
theorem signs_ones {x : Str} {n : Nat} : ∀ a ∈ (signs x).take n, a.length ≤ 1 := by
  intro a ha
  have h := List.mem_of_mem_take ha
  unfold signs at h
  obtain ⟨c, _, rfl⟩ := List.mem_map.mp h
  exact Nat.le_refl _
theorem signs_few {x : Str} {n : Nat} (hx : x.length ≤ 30) : ((signs x).take n).length ≤ 30 := by
  rw [List.length_take, signs_length]; omega
structure StopComp : Prop where
  mark :: (one : True)
end Mine

namespace Mine
open PySem PySem.W PySem.Calls PySem.Spec PyProof.Rows PyProof.V
set_option maxRecDepth 100000
theorem saysP_mono {w : World} {p : Program} {loose : List Str} {mean : ExcName → Option Value} {mg mb : Str → Option Value} {f : Addr} {vals : List Value} {dd du : Nat} {Pre : List (Addr × Obj) → Prop} {Post Post' : Value → Prop}
    (h : SaysP w p loose mean mg mb f vals dd du Pre Post) (hp : ∀ r, Post r → Post' r) : SaysP w p loose mean mg mb f vals dd du Pre Post' :=
  fun b hb dp un env outer A₀ base h₀ L m news s Q E hf hk hd hu B F X N T hpre ret => h b hb dp un env outer A₀ base h₀ L m news s Q E hf hk hd hu B F X N T hpre (fun r n h' tk F N hq => ret r n h' tk F N ⟨hq.1, hp r hq.2⟩)
theorem ell_rows (w : World) (p : Program) (loose : List Str) (mean : ExcName → Option Value) (mg mb : Str → Option Value) (D : Addr) (tm : Tok) (vs : List Value) (k : Nat) (ns : List Int) (hI : IntsAre vs ns) (h9 : ∀ n ∈ ns, 0 ≤ n ∧ n < 9) (h4 : ns.length ≤ 4) :
    SaysP w p loose mean mg mb 22 [.ref D, .int 2 tm] 4 40 (fun b => (D, listOf vs.toArray k) ∈ b) (fun r => (ns.length ≤ 2 ∧ r = .ref D) ∨ (3 ≤ ns.length ∧ ∃ t, r = .str (rowsS (ns.getD (Int.toNat 0) 0) (ns.getD (Int.toNat 1) 0)) t)) := by
  refine saysP_mono (ell_list w p loose mean mg mb D tm vs k ns hI h9 h4) fun r h => ?_
  rcases h with h | ⟨a, b, c, rest, t, e, h⟩
  · exact .inl h
  · subst e
    exact .inr ⟨by simp, t, h⟩
theorem digit_at {ns : List Int} (h9 : ∀ n ∈ ns, 0 ≤ n ∧ n < 9) (j : Nat) : 0 ≤ ns.getD j 0 ∧ ns.getD j 0 < 9 := by
  by_cases h : j < ns.length
  · rw [List.getD_eq_getElem?_getD, List.getElem?_eq_getElem h, Option.getD_some]
    exact h9 _ (List.getElem_mem h)
  · rw [List.getD_eq_getElem?_getD, List.getElem?_eq_none (Nat.le_of_not_lt h), Option.getD_none]
    exact ⟨by decide, by decide⟩
section
variable {prog : Program} {w : World} {A : Around} {E : Value → Shared → Prop} {s : Shared} {a b L : Addr} {h₀ : Heap} {news : List (Addr × Obj)} {vs us : List Value} {j k : Nat} {ns : List Int} {Q : Value → Shared → Prop}
theorem m_ne_sameI (N : News h₀ L s.heap news) (ha : (a, listOf vs.toArray j) ∈ news) (hb : (b, listOf us.toArray k) ∈ news) (hi : IntsAre vs ns) (hj : IntsAre us ns) (hu : A.units + 64 < cLine) (h : Q (.bool false) s) :
    wpAny (model prog w) A (compareOp .NotEq (.ref a) (.ref b)) Q E s := m_ne_ints N ha hb hi hj hu (by simpa using h)
end
theorem saysT_use {w : World} {p : Program} {loose : List Str} {mean : ExcName → Option Value} {mg mb : Str → Option Value} {f : Addr} {vals : List Value} {dd du : Nat} {Post : Value → Prop}
    {dp un : Nat} {env : Env} {h₀ : Heap} {L : Addr} {m : Str → Option Value} {news : List (Addr × Obj)} {s : Shared} {Q E : Value → Shared → Prop}
    (C : SaysT w p loose mean mg mb f vals dd du Post) (hf : env.frame = some L) (hk : env.scope.kind = .function) (hdp : dp + dd < recursionLimit) (hu : un + du < cLine)
    (F : Fr h₀ L s.heap m) (X : (hd.heap_39 w.params).In h₀) (N : News h₀ L s.heap news) (T : Top p loose mean mg mb h₀)
    (ret : ∀ r h' tk', Post r → Fr h₀ L h' m → News h₀ L h' news → Q r { s with heap := h', toks := tk' }) :
    wpAny (model PySem.Challenge.rw_bq5028_01.row.prog w) (top dp un env []) (call (.ref f) vals) Q E s := C dp un env h₀ L m news s Q E hf hk hdp hu F X N T ret
end Mine

namespace Mine
open PySem PySem.W PySem.Calls PySem.Spec PyProof.Rows
set_option maxRecDepth 100000
local macro_rules | `(tactic| walk_at "m_room") => `(tactic| ((try simp only [depth_under_make, depth_under_kw, depth_in1, depth_deeper, depth_caller]); (try dsimp only [top]); first | omega | decide))
local macro_rules | `(tactic| walk_at "m_units") => `(tactic| (have hcL9 := cLine_is; (try simp only [units_in1, units_deeper, Around.mark_units, units_caller]); (try dsimp only [top]); first | omega | (simp only [cLine] at *; omega)))
local macro_rules | `(tactic| walk_at "pyIter ref") => `(tactic| refine Stuck.out ?_)
local macro_rules | `(tactic| k_all) => `(tactic| assumption)
local macro_rules | `(tactic| walk_at "m_callS") => `(tactic| ((case kf => exact rfl); (case kk => exact rfl); (case kB => k_asm); (case kF => k_asm); (case kX => k_asm); (case kN => k_asm); (case kT => k_asm); (case kS => k_asm); (case kU => k_updF); (case km => k_mem); (case kO => k_asm); (case kne => k_asm); (case kd => walk_at "m_room"); (case ku => walk_at "m_units"); k_whole))
local macro_rules | `(tactic| walk_at "call ref") => `(tactic| refine Stuck.out ?_)
local macro_rules | `(tactic| walk_at "call ref") => `(tactic| (k_here; k_dflt (refine' saysS_use (name_says _ _ _ _ _ _ _ _) ?kf ?kk ?kd ?ku ?kB ?kF ?kX ?kN ?kT ?kU ?km ?kS ?kO ?kne ?_; walk_at "m_callS"); intro r' o' h' tk' hP9 hS' F' N'; (obtain ⟨x', t', e9, hx'⟩ := hP9); subst e9; (try dsimp only at N')))
local macro_rules | `(tactic| walk_at "call ref") => `(tactic| (k_here; k_dflt (refine' saysS_use (next_says _ _ _ _ _ _ _ _ _ _ ?m0 ?m1) ?kf ?kk ?kd ?ku ?kB ?kF ?kX ?kN ?kT ?kU ?km ?kS ?kO ?kne ?_; (case m0 => decide); (case m1 => decide); walk_at "m_callS"); intro r' o' h' tk' hP9 hS' F' N'; (obtain ⟨v', t', e9, hv0', hv1'⟩ := hP9); subst e9; (try dsimp only at N')))
local macro_rules | `(tactic| walk_at "compareOp NotEq ref ref") => `(tactic| refine Stuck.out ?_)
local macro_rules | `(tactic| walk_at "compareOp Eq ref ref") => `(tactic| refine Stuck.out ?_)
local macro_rules | `(tactic| walk_at "compareOp NotEq ref ref") => `(tactic| (k_here; k_dflt (refine' m_ne_same ?kN ?ka ?kb ?ki ?kj ?kx ?ku ?_; (case kN => k_asm); (case ka => k_mem); (case kb => k_mem); (case ki => k_asm); (case kj => k_asm); (case kx => k_asm); (case ku => walk_at "m_units"); k_whole)))
local macro_rules | `(tactic| walk_at "compareOp NotEq ref ref") => `(tactic| (k_here; k_dflt (refine' m_ne_sameI ?kN ?ka ?kb ?ki ?kj ?ku ?_; (case kN => k_asm); (case ka => k_mem); (case kb => k_mem); (case ki => k_asm); (case kj => k_asm); (case ku => walk_at "m_units"); k_whole)))
local macro_rules | `(tactic| walk_at "compareOp Eq ref ref") => `(tactic| (k_here; k_dflt (first
  | (refine' m_eq_nil0 ?kN ?ka ?kb ?ki ?kz ?kx ?ku ?_; (case kN => k_asm); (case ka => k_mem); (case kb => k_mem); (case ki => k_asm); (case kz => with_reducible assumption); (case kx => k_asm); (case ku => walk_at "m_units"); k_whole)
  | (refine' m_eq_nil1 ?kN ?ka ?kb ?ki ?kz ?kx ?ku ?_; (case kN => k_asm); (case ka => k_mem); (case kb => k_mem); (case ki => k_asm); (case kz => with_reducible assumption); (case kx => k_asm); (case ku => walk_at "m_units"); k_whole))))
local macro_rules | `(tactic| walk_at "CompSrc") => `(tactic| refine Stuck.out ?_)
local macro_rules | `(tactic| walk_at "m_callP") => `(tactic| ((case kf => exact rfl); (case kk => exact rfl); (case kB => k_asm); (case kX => k_asm); (case kT => k_asm); (case kd => walk_at "m_room"); (case ku => walk_at "m_units"); k_whole))
local macro_rules | `(tactic| walk_at "call ref") => `(tactic| (k_here; k_dflt (refine' saysP_use (repr_says _ _ _ _ _ _ _ _ _ _ ?hX ?h3 ?h7) ?kf ?kk ?kd ?ku ?kB ?kF ?kX ?kN ?kT ?kP ?_; (case kF => k_asm); (case kN => k_asm); (case kP => ((show _ ∈ _); k_mem)); (case hX => k_asm); (case h3 => k_asm); (case h7 => omega); walk_at "m_callP"); intro r' h' tk' hP9 F' N'; (rcases hP9 with ⟨hz', e9⟩ | ⟨hz', t', e9⟩ <;> subst e9)))
local macro_rules | `(tactic| walk_at "call ref") => `(tactic| (k_here; k_dflt (refine' saysP_use (row_says _ _ _ _ _ _ _ _ _ _ ?hX ?h3 ?h1 ?h7) ?kf ?kk ?kd ?ku ?kB ?kF ?kX ?kN ?kT ?kP ?_; (case kF => k_asm); (case kN => k_asm); (case kP => ((show _ ∈ _); k_mem)); (case hX => k_asm); (case h3 => k_asm); (case h1 => omega); (case h7 => omega); walk_at "m_callP"); intro r' h' tk' hP9 F' N'; (obtain ⟨t', e9⟩ := hP9); subst e9))
local macro_rules | `(tactic| walk_at "subscriptTail") => `(tactic| (k_here; (with_reducible show wpAny _ _ (subscriptTail _ _ (Value.ref _) (Value.int _ _)) _ _ _); k_dflt (refine' m_menu (lo := 0) (hi := 31) ?k1 ?k2 ?k3 ?k4 ?k5 ?k6 ?k7 ?_ ?k8; (case k1 => k_asm); (case k2 => k_mem); (case k3 => l_ints); (case k4 => decide); (case k5 => omega); (case k6 => ((simp only [List.length_cons, List.length_nil]); omega)); (case k7 => omega); (case k8 => with_unfolding_all rfl); k_whole); intro m' t' hm0' hm1'))
local macro_rules | `(tactic| walk_at "call ref") => `(tactic| (k_here; k_dflt (refine' saysP_use (ell_str25 _ _ _ _ _ _ _ _ ?hx) ?kf ?kk ?kd ?ku ?kB ?kF ?kX ?kN ?kT True.intro ?_; (case hx => omega); (case kF => k_asm); (case kN => k_asm); walk_at "m_callP"); intro r' h' tk' hP9 F' N'; (obtain ⟨t', e9⟩ := hP9); subst e9))
local macro_rules | `(tactic| walk_at "call ref") => `(tactic| (k_here; k_dflt (refine' saysP_use (ell_strZ _ _ _ _ _ _ _ _ _ _ ?hx ?h0 ?h1) ?kf ?kk ?kd ?ku ?kB ?kF ?kX ?kN ?kT True.intro ?_; (case hx => omega); (case h0 => omega); (case h1 => omega); (case kF => k_asm); (case kN => k_asm); walk_at "m_callP"); intro r' h' tk' hP9 F' N'; (obtain ⟨t', e9⟩ := hP9); subst e9))
local macro_rules | `(tactic| walk_at "call ref") => `(tactic| (k_here; k_dflt (refine' saysP_use (ell_rows _ _ _ _ _ _ _ _ _ _ _ ?hX ?h9 ?h4) ?kf ?kk ?kd ?ku ?kB ?kF ?kX ?kN ?kT ?kP ?_; (case kF => k_asm); (case kN => k_asm); (case kP => ((show _ ∈ _); k_mem)); (case hX => k_asm); (case h9 => k_asm); (case h4 => omega); walk_at "m_callP"); intro r' h' tk' hP9 F' N'; (rcases hP9 with ⟨hz', e9⟩ | ⟨hz', t', e9⟩ <;> subst e9)))
local macro_rules | `(tactic| walk_at "m_callT") => `(tactic| ((case kf => exact rfl); (case kk => exact rfl); (case kF => k_asm); (case kX => k_asm); (case kN => k_asm); (case kT => k_asm); (case kd => walk_at "m_room"); (case ku => walk_at "m_units"); k_whole))
local macro_rules | `(tactic| walk_at "call ref") => `(tactic| (k_here; k_dflt (refine' saysT_use (ell_int _ _ _ _ _ _ _) ?kf ?kk ?kd ?ku ?kF ?kX ?kN ?kT ?_; walk_at "m_callT"); intro r' h' tk' hP9 F' N'; subst hP9))
local macro_rules | `(tactic| walk_at "call ref") => `(tactic| (k_here; k_dflt (refine' saysT_use (ell_none _ _ _ _) ?kf ?kk ?kd ?ku ?kF ?kX ?kN ?kT ?_; walk_at "m_callT"); intro r' h' tk' hP9 F' N'; subst hP9))
local macro_rules | `(tactic| walk_at "exec If") => `(tactic| ((with_reducible rename StopIf => hs9); clear hs9; refine Stuck.out ?_))
local macro_rules | `(tactic| walk_at "eval IfExp") => `(tactic| ((with_reducible rename StopIfExp => hs9); clear hs9; refine Stuck.out ?_))
local macro_rules | `(tactic| walk_at "eval ListComp") => `(tactic| ((with_reducible rename StopComp => hs9); clear hs9; refine Stuck.out ?_))
local macro_rules | `(tactic| walk_at "call type:enumerate") => `(tactic| (k_here; k_dflt refine Stuck.out ?_))
local macro_rules | `(tactic| walk_at "CompEnd") => `(tactic| (refine' LCg.CompEnd.intro ?kF ?kN _ ?ksub ?koff True.intro ⟨_, ?kS, rfl, ?kel⟩; (case kS => k_asm); (case kF => k_asm); (case kN => k_asm); (case ksub => exact fun _ h => h); (case koff => first | assumption | ((simp only [LCg.Off3, and_true]); assumption)); (case kel => first | exact ⟨_, _, rfl, by assumption⟩ | exact ⟨_, _, rfl, by assumption, by assumption⟩)))
local macro_rules | `(tactic| walk_at "exec For Name Call cons nil") => `(tactic| (k_here; (rename Fr _ _ _ _ => lF'); (with_unfolding_all refine' For_invVF lF' ?k1 ?k2 ?_; (case k1 => exact rfl); (case k2 => exact rfl); k_whole)))
set_option maxRecDepth 100000 in
set_option maxHeartbeats 8000000 in
theorem w9 : PySem.Challenge.rw_bq5028_01.Holds := by
  refine hd ?_
  k_go0
  (all_goals try k_fold)
  have hMk := kstMark
  k_steps
  constructor
  rename IsRange _ _ _ _ _ _ _ _ => hR1
  rename Below callerA _ _ _ => K0
  dsimp only [Top.heap] at K0
  rename Fr _ _ _ _ => F1
  rename News _ _ _ _ => N1
  rename PySem.Obj.data _ = Data.cell (some (Value.ref _)) => dS
  rename IntsAre _ (List.take 60 _) => hI60
  rename (List.length (List.take 60 _) = _) => hl60
  rename_i l1a S h2 lS h3 oS F' N' h4 tk4 t1 u1 v1 hkeep
  have hSB := Nat.ne_of_gt lS.1
  have hO := bok_of (k := 0) hI60
  refine loop_state [Str.ofString "names", Str.ofString "handed", Str.ofString "told"] (by rfl) hR1 (by decide) (by rfl) F1 N1 ⟨_, _, _, _, _, rfl, by decide, by decide, by decide⟩ (by assumption) ?_ ?_
  · intro o' oM' v k t u h tk own hS hM hoff F2 N2
    clear hR1 F1 N1 F' N' hkeep
    k_steps
    constructor
    refine LCg.CompSrc.range (by rfl) (by k_asm) (by k_asm) (by assumption) (by exact small_one (by omega) (by omega) (by omega) (by omega)) (by exact rangeSize_nat _ _) (by rw [PySem.sizeLine_eq]; omega) ?_
    intro g
    refine' comp_draw (fun y => ∃ x t, y = .str x t ∧ (x.length ≤ 30 ∧ PyData.strOk x = true)) ?kU ?kS ?kt ?kfin
    case kS => k_asm
    case kU => k_updF
    case kt =>
      intro v I oI C oC D m₂ ys o' h tk E' hS hC hx F N off ne
      (try dsimp only at N off)
      simp only [LCg.Off3, and_true] at off
      k_steps
    case kfin =>
      intro ys o' hS hl hp
      obtain ⟨xs, hX, h30⟩ := strs_of hp
      have hok := fun a ha => (h30 a ha).2
      replace h30 := fun a ha => (h30 a ha).1
      have hX7 : xs.length ≤ 7 := by rw [← hX.length, hl]; omega
      k_steps
      · refine turn_next (by k_asm) (by k_asm) (fun _ h => .tail _ (.tail _ (.tail _ h))) hS hM ?_
        intro z n1 n2
        refine (if_neg (off_stored n2 (by decide +kernel))).trans ((if_neg (off_stored n2 (by decide +kernel))).trans ((if_neg (off_stored n2 (by decide +kernel))).trans ((if_neg n1).trans (if_neg ?_))))
        rw [n2]; exact Bool.false_ne_true
      · rename_i e
        simp at e
      · refine turn_next (by k_asm) (by k_asm) (fun _ h => .tail _ (.tail _ (.tail _ h))) hS hM ?_
        intro z n1 n2
        refine (if_neg (off_stored n2 (by decide +kernel))).trans ((if_neg (off_stored n2 (by decide +kernel))).trans ((if_neg (off_stored n2 (by decide +kernel))).trans ((if_neg n1).trans (if_neg ?_))))
        rw [n2]; exact Bool.false_ne_true
  · intro o' oM' v u h tk hS hM F2 N2
    clear hR1 F1 N1 F' N' hkeep
    dsimp only
    k_steps
    constructor
    rename IsRange _ _ _ _ _ _ _ _ => hR1
    rename Fr _ _ _ _ => F1
    rename News _ _ _ _ => N1
    refine loop_state [Str.ofString "text", Str.ofString "due", Str.ofString "told", Str.ofString "rows", Str.ofString "shown", Str.ofString "number"] (by rfl) hR1 (by decide) (by rfl) F1 N1 hS hM ?_ ?_
    · clear hR1 F1 N1
      intro o' oM' v k t u h tk own hS hM hoff F2 N2
      have hs1 : StopIfExp := ⟨trivial⟩
      k_steps

      constructor
      rename Str => x
      rename (Str.length _ ≤ 30 ∧ _) => hx
      rename PySem.Obj.data _ = Data.cell (some (Value.int _ _)) => dM
      rename Int => mI
      rename (0 ≤ mI) => hmI0
      rename (mI ≤ 31) => hmI1
      rename Fr _ _ _ _ => F9
      rename News _ _ _ _ => N9
      refine join_T F9 N9 (ellS x mI.toNat) ?ife ?ifc
      case ife =>
        k_steps
        · rename mI = 25 => e25
          refine sameT_intro (by rw [e25]; rfl) ?_ ?_ <;> assumption
        · refine sameT_intro rfl ?_ ?_ <;> assumption
      case ifc =>
        clear F9 N9
        intro t9 h9 tk9 F8 N8
        have hs2 : StopIf := ⟨trivial⟩
        k_steps
        constructor
        rename Fr _ _ _ _ => F9
        rename News _ _ _ _ => N9
        refine join_N F9 N9 (ellS x mI.toNat) ?dw ?dc
        case dw =>
          have hs3 : StopComp := ⟨trivial⟩
          k_steps
          · constructor
            rename mI < _ => hlt
            refine' pick_eval (Str.ofString "text") (pickJ x mI) ?hv rfl F9 N9 ?h1 ?h2 ?h3 ?h4 ?h5 ?h6 ?h7 ?h8 ?h9 (pickJ_nil _ _) (fun _ _ h => h.2) ?call ?R ?done
            case hv => rfl
            case h1 => with_unfolding_all rfl
            case h2 => decide
            case h3 => rfl
            case h4 => decide
            case h5 => rfl
            case h6 => rfl
            case h7 => decide +kernel
            case h8 => intro _; with_unfolding_all rfl
            case h9 => refine Nat.le_trans hx.1 ?_; decide
            case call =>
              intro Q9 hq9
              k_steps
              constructor
              exact hq9
            case R =>
              intro g9 tk8
              intro i9 z9 t9' u9 ys9 I9 oI9 C9 oC9 D9 it9 oi9 m9 h9' tk9' E9 hz9 hJ9 hC9 ha9 hb9 F99 N99
              k_steps
              · exact ⟨pickJ_step hJ9 hz9 (by assumption), _, _, rfl, F99, N99⟩
              · exact ⟨pickJ_stay hJ9 (by assumption), _, _, rfl, F99, N99⟩
            case done =>
              intro D9 ys9 h9' tk9' hJ9 F99 N99 off99
              have hX9 := pickJ_strs hJ9 hlt
              have hP9 := signs_ones (x := x) (n := mI.toNat)
              have hL9 := signs_few (n := mI.toNat) hx.1
              k_steps
              k_dflt (refine' m_join 1 30 ?kN ?km ?kX ?kb ?kn ?ks ?_; (case kN => exact N99); (case km => exact .head _); (case kX => exact hX9); (case kb => exact hP9); (case kn => exact hL9); (case ks => decide); k_whole)
              intro t7 k7
              rw [join_take]
              have h31 : (takeS x mI.toNat).length ≤ 31 := Nat.le_trans (takeS_len _ _) (by omega)
              k_steps
              rename Fr _ _ _ _ => F98
              rename News _ _ _ _ => N98
              refine' sameN_intro (F := F9) ?e1 F98 ?e2 N98 ?e3
              case e1 =>
                unfold ellS
                rw [if_pos (by omega)]
              case e2 =>
                intro q
                dsimp only
                by_cases h : q = Str.ofString "due"
                · rw [if_pos h, if_pos h]
                · rw [if_neg h, if_neg h, if_neg h]
              case e3 => exact fun p h => .tail _ h
          · refine' sameN_intro (F := F9) ?f1 F9 ?f2 N9 (fun _ h => h)
            case f2 =>
              intro q
              rfl
            case f1 => exact ell_rest (by omega)
        case dc =>
          clear F9 N9
          intro t8 h8 tk8 F7 N7
          k_steps
          · rename_i e
            simp at e
          constructor
          refine LCg.CompSrc.range (by rfl) (by k_asm) (by k_asm) (by assumption) (by exact small_one (by omega) (by omega) (by omega) (by omega)) (by exact rangeSize_nat _ _) (by rw [PySem.sizeLine_eq]; omega) ?_
          intro g
          refine' comp_draw (fun y => ∃ n t, y = .int n t ∧ (0 ≤ n ∧ n < 9)) ?kU ?kS ?kt ?kfin
          case kS => k_asm
          case kU => k_updF
          case kt =>
            intro v I oI C oC D m₂ ys o' h tk E' hS hC hx F N off ne
            (try dsimp only at N off)
            simp only [LCg.Off3, and_true] at off
            k_steps
          case kfin =>
            intro ys o' hS hl hp
            obtain ⟨ns, hX, h9⟩ := ints_of hp
            have h4 : ns.length ≤ 4 := by rw [← hX.length, hl]; omega
            have hd0 := digit_len (digit_at h9 (Int.toNat 0))
            have hd1 := digit_len (digit_at h9 (Int.toNat 1))
            obtain ⟨hg00, hg01⟩ := digit_at h9 (Int.toNat 0)
            obtain ⟨hg10, hg11⟩ := digit_at h9 (Int.toNat 1)
            k_steps
            · rename_i e
              exact absurd rfl e
            · refine turn_next (by k_asm) (by k_asm) (fun _ h => .tail _ (.tail _ (.tail _ (.tail _ h)))) (by assumption) dM ?_
              intro z n1 n2
              refine (if_neg (off_stored n2 (by decide +kernel))).trans ((if_neg (off_stored n2 (by decide +kernel))).trans ((if_neg (off_stored n2 (by decide +kernel))).trans ((if_neg (off_stored n2 (by decide +kernel))).trans ((if_neg (off_stored n2 (by decide +kernel))).trans ((if_neg (off_stored n2 (by decide +kernel))).trans ((if_neg n1).trans (if_neg ?_)))))))
              rw [n2]; exact Bool.false_ne_true
            · rename_i e
              simp [rowsS] at e
            · rename_i e
              exact absurd rfl e
            · refine turn_next (by k_asm) (by k_asm) (fun _ h => .tail _ (.tail _ (.tail _ (.tail _ h)))) (by assumption) dM ?_
              intro z n1 n2
              refine (if_neg (off_stored n2 (by decide +kernel))).trans ((if_neg (off_stored n2 (by decide +kernel))).trans ((if_neg (off_stored n2 (by decide +kernel))).trans ((if_neg (off_stored n2 (by decide +kernel))).trans ((if_neg (off_stored n2 (by decide +kernel))).trans ((if_neg (off_stored n2 (by decide +kernel))).trans ((if_neg n1).trans (if_neg ?_)))))))
              rw [n2]; exact Bool.false_ne_true
    · intro o' oM' v u h tk hS hM F2 N2
      clear hR1 F1 N1
      dsimp only
      k_steps
end Mine
theorem PySem.Challenge.cw_bq5028_01_holds : PySem.Challenge.rw_bq5028_01.Holds := by
  exact Mine.w9
