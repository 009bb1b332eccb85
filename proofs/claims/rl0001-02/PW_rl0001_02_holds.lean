import PyProof.Rows.All
import Wide.All
import OpenK.AllK
import Wide.FinOn
import PySem.Challenge.RW_rl0001_02
set_option Elab.async false
section
open PySem PySem.W PyProof.Rows
set_option Elab.async false
set_option maxRecDepth 100000
set_option maxHeartbeats 8000000
namespace Mine
open_top hd for PySem.Challenge.rw_rl0001_02
end Mine
end
section
open PySem PySem.W PyProof.Rows PySem.Spec PySem.Calls
set_option Elab.async false
set_option maxRecDepth 100000
set_option maxHeartbeats 4000000
namespace Mine
open PySem.Builtin PySem.Builtin.Str
/-- got.find(w, i, j) -/
def find4 (x y : Str) (i j : Int) : Int :=
  match occurrences x y (fromIndex x.length i) (min (fromIndex x.length j) x.length) 1 with | k :: _ => (k : Int) | [] => -1
theorem gives_find4 (x y : Str) (i j : Int) (t u v v' : Tok) : Gives («str.find» ⟨[.str x t, .str y u, .int i v, .int j v'], []⟩) (.int (find4 x y i j)) := by
  show Gives (match occurrences x y (fromIndex x.length i) (min (fromIndex x.length j) x.length) 1 with | k :: _ => retInt k | [] => (do rule "str.find.not-found"; retInt (-1))) _
  unfold find4
  cases occurrences x y (fromIndex x.length i) (min (fromIndex x.length j) x.length) 1 with
  | nil => exact .rule (.of_eq rfl)
  | cons k _ => exact .of_eq rfl
section
variable {prog : Program} {w : World} {A : Around} {E : Value → Shared → Prop} {s : Shared} {h₀ : Heap} {L : Addr} {m : Str → Option Value} {news news' : List (Addr × Obj)}
theorem call_find4 {x y : Str} {t u v v' : Tok} {i j : Int} {Q : Value → Shared → Prop} (hq : Q (.int (find4 x y i j) s.toks) { s with toks := s.toks + 1 }) :
    wpAny (model prog w) A (call (.builtin "str.find") [.str x t, .str y u, .int i v, .int j v']) Q E s :=
  call_gives F.slot_str_find (typeIs_str _ _ _) F.entry_str_find (F.args_str_find_4 _ _ _ _) (gives_find4 x y i j t u v v') hq
theorem strs_of {l : List (Str × Tok)} {ws : List Str} (e : l.map (·.1) = ws) : StrsAre (strValues l) ws := by
  subst e; exact strsAre_of_values l
theorem sub_le (x : Str) (i j : Nat) : (strSub x i j).length ≤ x.length := by
  have e : (strSub x i j).length = (strSub x i j).cps.toList.length := by simp [Str.length]
  rw [e, StrLaws.strSub_toList, List.length_take, List.length_drop]
  have : x.cps.toList.length = x.length := by simp [Str.length]
  omega
theorem split_le (x y : Str) : ∀ p ∈ Txt.split x y, p.length ≤ x.length := by
  intro p hp
  unfold Txt.split at hp
  split at hp
  · rw [List.mem_singleton.mp hp]; exact Nat.le_refl _
  · split at hp
    · rw [List.mem_singleton.mp hp]; exact Nat.le_refl _
    · unfold partsBetween at hp
      obtain ⟨⟨i, j⟩, _, rfl⟩ := List.mem_map.mp hp
      exact sub_le x i j
theorem split_count (x y : Str) : (Txt.split x y).length ≤ x.length + 2 := by
  unfold Txt.split
  split
  · simp
  · split
    · simp
    · have h := StrLaws.occ_length_le x y 0 x.length (x.length + 1)
      simp [partsBetween]
      omega
/-- the pieces: the first, the middle ones, the last -/
theorem split_made {x y : Str} {t u : Tok} {Q : Value → Shared → Prop} (F : Fr h₀ L s.heap m) (N : News h₀ L s.heap news) (hy : (y.length == 0) = false)
    (h2 : 2 ≤ (Txt.split x y).length)
    (h : ∀ D a ta mid vm z tz h' k, Txt.split x y = a :: (mid ++ [z]) → StrsAre vm mid → a.length ≤ x.length → z.length ≤ x.length → (∀ p ∈ mid, p.length ≤ x.length) → vm.length ≤ x.length + 1 → Fr h₀ L h' m → News h₀ L h' ((D, listOf (.str a ta :: (vm ++ [.str z tz])).toArray 0) :: news) → (∀ p ∈ news, p.1 < D) → Q (.ref D) { s with heap := h', toks := k })
    (hsz : x.length + 2 ≤ sizeLine) :
    wpAny (model prog w) A (call (.builtin "str.split") [.str x t, .str y u]) Q E s := by
  refine KSpl.split1 F N hy (fun D l h' k e _ F' N' hl => ?_) hsz
  have S := strs_of e
  cases hs : Txt.split x y with
  | nil => rw [hs] at h2; simp at h2
  | cons a r =>
    rw [hs] at S h2
    obtain ⟨ta, vs', ev, S'⟩ := StrsAre.cons_inv S
    rcases PyProof.Rows.strs_nil_or_snoc S' with ⟨_, er⟩ | ⟨vi, yi, z, tz, ev', er, S''⟩
    · subst er; simp at h2
    · subst er
      rw [ev, ev'] at N'
      have hle := split_le x y
      rw [hs] at hle
      have hcount : vi.length ≤ x.length + 1 := by
        have := split_count x y
        rw [hs] at this
        have e2 := StrsAre.length S''
        simp at this
        omega
      exact h D a ta yi vi z tz h' k hs S'' (hle a (by simp)) (hle z (by simp)) (fun p hp => hle p (by simp [hp])) hcount F' N' hl
theorem len_made {l : Addr} {its : List Value} {n k : Nat} {Q : Value → Shared → Prop} (N : News h₀ L s.heap news) (hm : (l, listOf its.toArray n) ∈ news) (e : its.length = k) (hfit : (k : Int) < 2 ^ 63)
    (h : Q (.int (k : Int) (s.toks + 1)) { s with toks := s.toks + 1 + 1 }) : wpAny (model prog w) A (call (.builtin "len") [.ref l]) Q E s := kst_len N hm e hfit h
/-- del ws[i] of a made list -/
theorem del_made {D : Addr} {its its' : List Value} {n : Nat} {i : Int} {u : Tok} {k : Nat} {Q : Unit → Shared → Prop} (F : Fr h₀ L s.heap m) (N : News h₀ L s.heap news)
    (hfit : Builtin.List.listFitsIndex i = true) (hk : seqIndex? i its.length = some k) (he : its.eraseIdx k = its')
    (U : Upd D (listOf its.toArray n) (listOf its'.toArray (n + 1)) news news')
    (h : ∀ h', Fr h₀ L h' m → News h₀ L h' news' → Q () { s with heap := h' }) (hsz : its.length ≤ sizeLine) :
    wpAny (model prog w) A (delItem (.ref D) (.int i u)) Q E s := by
  obtain ⟨pre, post, rfl, rfl, a, b⟩ := U.split
  have z := N (D, listOf its.toArray n) (List.mem_append.mpr (.inr (.head _)))
  subst he
  exact delItem_at (hsz := by simpa using hsz) z.1 hfit (by simpa using hk) fun h' hs ho' => h h' (F.change hs z.2.1 z.2.2) (news_set N a b hs (by simpa using ho'))
theorem del_first {D : Addr} {its r : List Value} {v : Value} {n : Nat} {i : Int} {u : Tok} {Q : Unit → Shared → Prop} (F : Fr h₀ L s.heap m) (N : News h₀ L s.heap news) (hi : i = 0) (hr : its = v :: r)
    (U : Upd D (listOf its.toArray n) (listOf r.toArray (n + 1)) news news')
    (h : ∀ h', Fr h₀ L h' m → News h₀ L h' news' → Q () { s with heap := h' }) (hsz : its.length ≤ sizeLine) :
    wpAny (model prog w) A (delItem (.ref D) (.int i u)) Q E s := by
  subst hi hr
  refine del_made (k := 0) F N (by decide) ?_ ?_ U h hsz
  · simp [seqIndex?]
  · rfl
theorem del_last {D : Addr} {its r : List Value} {v : Value} {n : Nat} {i : Int} {u : Tok} {Q : Unit → Shared → Prop} (F : Fr h₀ L s.heap m) (N : News h₀ L s.heap news) (hi : i = -1) (hr : its = r ++ [v])
    (U : Upd D (listOf its.toArray n) (listOf r.toArray (n + 1)) news news')
    (h : ∀ h', Fr h₀ L h' m → News h₀ L h' news' → Q () { s with heap := h' }) (hsz : its.length ≤ sizeLine) :
    wpAny (model prog w) A (delItem (.ref D) (.int i u)) Q E s := by
  subst hi hr
  refine del_made (k := r.length) F N (by decide) ?_ ?_ U h hsz
  · simp [seqIndex?]
    omega
  · simp [List.eraseIdx_append_of_length_le]
/-- an item of a made list, from the front or from behind -/
theorem item_made {value slice : PySem.Expr} {l : Addr} {its : List Value} {n : Nat} {k : Int} {u : Tok} {v : Value} {Q : Value → Shared → Prop} (N : News h₀ L s.heap news) (hm : (l, listOf its.toArray n) ∈ news)
    (h0 : 0 ≤ k) (hhi : k < 2 ^ 63) (hx : its[k.toNat]? = some v) (h : Q v s)
    (hs : subscripted slice false (.ref l) (.int k u) = operate [.ref l, .int k u] (getItem (.ref l) (.int k u)) := by with_unfolding_all rfl) (hg : ∀ r, letTemporaryGo value (.ref l) r = pure () := by intro _; with_unfolding_all rfl) :
    wpAny (model prog w) A (subscriptTail value slice (.ref l) (.int k u)) Q E s := by
  have hl : s.heap.IsList l its.toArray := ⟨_, (N _ hm).1, rfl, n, rfl⟩
  exact subscriptTail_builtin hl.typeIs slot_list_getitem.lookup (wpAny_getItem_list hl h0 hhi (by simpa using hx) h) hs hg
theorem last_snoc {r : List Value} {v : Value} : (r ++ [v]).getLast? = some v := by simp
theorem last_csnoc {r : List Value} {a v : Value} : (a :: (r ++ [v])).getLast? = some v := by rw [← List.cons_append]; exact last_snoc
theorem last_made {value slice : PySem.Expr} {l : Addr} {its : List Value} {n : Nat} {k : Int} {u : Tok} {v : Value} {Q : Value → Shared → Prop} (N : News h₀ L s.heap news) (hm : (l, listOf its.toArray n) ∈ news)
    (hk : k = -1) (hx : its.getLast? = some v) (h : Q v s)
    (hs : subscripted slice false (.ref l) (.int k u) = operate [.ref l, .int k u] (getItem (.ref l) (.int k u)) := by with_unfolding_all rfl) (hg : ∀ r, letTemporaryGo value (.ref l) r = pure () := by intro _; with_unfolding_all rfl) :
    wpAny (model prog w) A (subscriptTail value slice (.ref l) (.int k u)) Q E s := by
  have hl : s.heap.IsList l its.toArray := ⟨_, (N _ hm).1, rfl, n, rfl⟩
  have hpos : 0 < its.length := by
    cases its with
    | nil => simp at hx
    | cons a r => simp
  refine subscriptTail_builtin hl.typeIs slot_list_getitem.lookup (wpAny_getItem_list_neg hl (by omega) (by simp; omega) (by omega) ?_ h) hs hg
  have e : (k + (its.toArray.size : Int)).toNat = its.length - 1 := by simp; omega
  rw [e]
  rw [List.getLast?_eq_getElem?] at hx
  simpa using hx
end
end Mine
end
section
open PySem PySem.W PyProof.Rows PySem.Spec PySem.Calls
set_option Elab.async false
set_option maxRecDepth 100000
set_option maxHeartbeats 4000000
namespace Mine
/-- a turn's end: the loop's own object stands, what the invariant asks holds -/
def TurnEnd (h₀ : Heap) (L : Addr) (J : (Str → Option Value) → List (Addr × Obj) → Prop) (I : Addr) (oI : Obj) (s₁ s₂ : Shared) : Prop :=
  ∃ h' tk m' news', s₂ = { s₁ with heap := h', toks := tk } ∧ Fr h₀ L h' m' ∧ News h₀ L h' ((I, oI) :: news') ∧ (∀ p ∈ news', p.1 ≠ I) ∧ J m' news'
def TurnPost (h₀ : Heap) (L : Addr) (J : (Str → Option Value) → List (Addr × Obj) → Prop) (I : Addr) (oI : Obj) (s₁ : Shared) (Q : Flow → Shared → Prop) (f : Flow) (s₂ : Shared) : Prop :=
  match f with
  | .ret v => Q (.ret v) s₂
  | .brk => Q .next s₂
  | _ => TurnEnd h₀ L J I oI s₁ s₂
theorem TurnEnd.intro {h₀ : Heap} {L I : Addr} {J : (Str → Option Value) → List (Addr × Obj) → Prop} {oI : Obj} {s₁ : Shared} {h' : Heap} {tk : Nat} {m' : Str → Option Value} {news' all : List (Addr × Obj)}
    (F : Fr h₀ L h' m') (N : News h₀ L h' all) (hs : ∀ p ∈ (I, oI) :: news', p ∈ all) (off : ∀ p ∈ news', p.1 ≠ I) (hj : J m' news') : TurnEnd h₀ L J I oI s₁ { s₁ with heap := h', toks := tk } :=
  ⟨h', tk, m', news', rfl, F, fun p hp => N p (hs p hp), off, hj⟩
section
variable {prog : Program} {w : World} {A : Around} {E : Value → Shared → Prop} {s : Shared} {env : Env} {h₀ : Heap} {x : Str} {body : List Stmt} {Q : Flow → Shared → Prop}
theorem iter_made {l : Addr} {vs : List Value} {nn : Nat} {m₀ : Str → Option Value} {news : List (Addr × Obj)} (J : Nat → (Str → Option Value) → List (Addr × Obj) → Prop)
    (hh : A.handled = none) (F : Fr h₀ env.locals s.heap m₀) (N : News h₀ env.locals s.heap news) (hJl : ∀ i m nx, J i m nx → (l, listOf vs.toArray nn) ∈ nx) (hj : J 0 m₀ news)
    (turn : ∀ i v m₁ news₁ I oI h tk, vs[i]? = some v → J i m₁ news₁ → (∀ p ∈ news₁, p.1 ≠ I) → (∀ p ∈ news, p.1 < I) → Fr h₀ env.locals h (fun y => if y = x then some v else m₁ y) → News h₀ env.locals h ((I, oI) :: news₁) →
      wpAny (model prog w) A (execs body env) (TurnPost h₀ env.locals (J (i + 1)) I oI { s with heap := h, toks := tk } Q) E { s with heap := h, toks := tk })
    (done : ∀ m₁ news₁ h tk, J vs.length m₁ news₁ → Fr h₀ env.locals h m₁ → News h₀ env.locals h news₁ → Q .next { s with heap := h, toks := tk }) :
    wpAny (model prog w) A (pyIter (.ref l)) (fun it s₂ => LoopAtV prog w A h₀ env x body Q E it s₂) E s := by
  have hl := hJl _ _ _ hj
  have hol : s.heap.get? l = some (listOf vs.toArray nn) := (N _ hl).1
  have hls : s.heap.IsList l vs.toArray := ⟨_, hol, rfl, nn, rfl⟩
  have hne : l ≠ s.heap.objs.size := Nat.ne_of_lt (Heap.lt_size hol)
  have hlow : ∀ p ∈ news, p.1 < s.heap.objs.size := fun p hp => Heap.lt_size (N p hp).1
  have hI0 : h₀.get? s.heap.objs.size = none := next_is_new F
  refine wpAny_pyIter_list hls ?_
  have W := Walks.list (prog := prog) (w := w) hh s.heap.objs.size l hne vs.toArray
  have hlen : vs.toArray.size = vs.length := by simp
  rw [hlen] at W
  refine ⟨_, _, _, vs.length, _, _, m₀, news, J, rfl, W, ?_, ?_, ?_, ⟨⟨_, Heap.get?_push_size _ rfl, rfl, rfl⟩, hls.at fun o e => Heap.get?_push_of_some _ e⟩, F.push _, (fun p hp => ⟨Heap.get?_push_of_some _ (N p hp).1, (N p hp).2⟩), hj, ?_, ?_⟩
  · intro hm
    rcases List.mem_cons.mp hm with e | hm
    · exact absurd F.ns.lt (e ▸ Nat.lt_irrefl _)
    · exact (N _ hl).2.1 ((List.mem_singleton.mp hm).symm)
  · intro b hb
    rw [List.mem_singleton.mp hb]
    exact hI0
  · intro p hp hI
    exact absurd (hlow p hp) ((List.mem_singleton.mp hI) ▸ Nat.lt_irrefl _)
  · rintro i v m₁ news₁ s₁ own ⟨hh', tk', rfl⟩ hin hP hJ hoff hown hget hfp hst F₁ N₁
    obtain ⟨oI, heI, _⟩ := hst.1
    have hIown : (s.heap.objs.size, oI) ∈ own := hfp _ (by simp) hI0 oI heI
    have N₂ : News h₀ env.locals hh' ((s.heap.objs.size, oI) :: news₁) := fun p hp => by
      rcases List.mem_cons.mp hp with rfl | hp
      · exact N₁ _ (List.mem_append.mpr (.inl hIown))
      · exact N₁ _ (List.mem_append.mpr (.inr hp))
    have hlo : hh'.get? l = some (listOf vs.toArray nn) := (N₁ _ (List.mem_append.mpr (.inr (hJl _ _ _ hJ)))).1
    have hoff' : ∀ p ∈ news₁, p.1 ≠ s.heap.objs.size := fun p hp e => hoff p hp (by simp [e])
    refine wpAny_mono (turn i v m₁ news₁ _ oI hh' tk' (by simpa using hP) hJ hoff' hlow F₁ N₂) (fun f s₂ p => ?_) fun _ _ e => e
    have fin : TurnEnd h₀ env.locals (J (i + 1)) s.heap.objs.size oI { s with heap := hh', toks := tk' } s₂ →
        LoopStepU h₀ env.locals [s.heap.objs.size] own (J (i + 1)) { s with heap := hh', toks := tk' } .next s₂ := by
      rintro ⟨h', tk, m', news', e, F', N', hof, hm⟩
      refine ⟨rfl, h', tk, m', news', e, F', fun p hp => ?_, fun p hp hI => hof p hp (List.mem_singleton.mp hI), hm⟩
      rcases List.mem_append.mp hp with h | h
      · have hg : hh'.get? p.1 = some p.2 := hget p h
        rcases List.mem_cons.mp (hown p h) with h2 | h2
        · have heI' : hh'.get? s.heap.objs.size = some oI := heI
          rw [h2, heI'] at hg
          have h3 : p = (s.heap.objs.size, oI) := Prod.ext h2 (Option.some.inj hg).symm
          rw [h3]
          exact N' _ (.head _)
        · have h2 := List.mem_singleton.mp h2
          rw [h2, hlo] at hg
          have h3 : p = (l, listOf vs.toArray nn) := Prod.ext h2 (Option.some.inj hg).symm
          rw [h3]
          exact N' _ (.tail _ (hJl _ _ _ hm))
      · exact N' p (.tail _ h)
    cases f with
    | ret v => exact .ret p
    | brk => exact .brk p
    | next => exact .next (fin p)
    | cont => exact .cont (fin p)
  · rintro h' tk m' news' F' N' _ hJ
    exact done m' news' h' tk hJ F' N'
theorem iter_rng {r : Addr} {a₀ b₀ c₀ : Int} {t₀ u₀ v₀ : Tok} {n : Nat} {m₀ : Str → Option Value} {news : List (Addr × Obj)} (J : Nat → (Str → Option Value) → List (Addr × Obj) → Prop)
    (hh : A.handled = none) (hr : IsRange s.heap r a₀ b₀ c₀ t₀ u₀ v₀) (hsmall : Builtin.Range.small a₀ b₀ c₀ = true) (hn : Builtin.Range.rangeSize a₀ b₀ c₀ = (n : Int))
    (F : Fr h₀ env.locals s.heap m₀) (N : News h₀ env.locals s.heap news) (hj : J 0 m₀ news)
    (turn : ∀ i t m₁ news₁ I oI h tk, i < n → J i m₁ news₁ → (∀ p ∈ news₁, p.1 ≠ I) → (∀ p ∈ news, p.1 < I) → Fr h₀ env.locals h (fun y => if y = x then some (.int (a₀ + (i : Int) * c₀) t) else m₁ y) → News h₀ env.locals h ((I, oI) :: news₁) →
      wpAny (model prog w) A (execs body env) (TurnPost h₀ env.locals (J (i + 1)) I oI { s with heap := h, toks := tk } Q) E { s with heap := h, toks := tk })
    (done : ∀ m₁ news₁ h tk, J n m₁ news₁ → Fr h₀ env.locals h m₁ → News h₀ env.locals h news₁ → Q .next { s with heap := h, toks := tk }) :
    wpAny (model prog w) A (pyIter (.ref r)) (fun it s₂ => LoopAtV prog w A h₀ env x body Q E it s₂) E s := by
  have hlow : ∀ p ∈ news, p.1 < s.heap.objs.size := fun p hp => Heap.lt_size (N p hp).1
  have hI0 : h₀.get? s.heap.objs.size = none := next_is_new F
  refine wpAny_pyIter_range hr hsmall ?_
  have W : Walks prog w A s.heap.objs.size [s.heap.objs.size] [s.heap.objs.size] n (fun i v => i < n ∧ ∃ t, v = .int (a₀ + i * c₀) t)
      (fun i h => IsRangeIter h s.heap.objs.size (a₀ + (i : Nat) * c₀) ((n : Int) - (i : Nat)) c₀) := (Walks.range hh _ a₀ c₀ n).bound
  refine ⟨_, _, _, n, _, _, m₀, news, J, rfl, W, ?_, ?_, ?_, (by show IsRangeIter _ _ _ _ _; rw [hn]; simpa using Heap.get?_push_size _ rfl), F.push _, (fun p hp => ⟨Heap.get?_push_of_some _ (N p hp).1, (N p hp).2⟩), hj, ?_, ?_⟩
  · intro hm
    exact absurd F.ns.lt ((List.mem_singleton.mp hm) ▸ Nat.lt_irrefl _)
  · intro b hb
    rw [List.mem_singleton.mp hb]
    exact hI0
  · intro p hp hI
    exact absurd (hlow p hp) ((List.mem_singleton.mp hI) ▸ Nat.lt_irrefl _)
  · rintro i v m₁ news₁ s₁ own ⟨hh', tk', rfl⟩ hin ⟨_, t, rfl⟩ hJ hoff hown hget hfp hst F₁ N₁
    obtain ⟨oI, heI⟩ : ∃ oI, hh'.get? s.heap.objs.size = some oI := ⟨_, hst⟩
    have hIown : (s.heap.objs.size, oI) ∈ own := hfp _ (by simp) hI0 oI heI
    have N₂ : News h₀ env.locals hh' ((s.heap.objs.size, oI) :: news₁) := fun p hp => by
      rcases List.mem_cons.mp hp with rfl | hp
      · exact N₁ _ (List.mem_append.mpr (.inl hIown))
      · exact N₁ _ (List.mem_append.mpr (.inr hp))
    have hoff' : ∀ p ∈ news₁, p.1 ≠ s.heap.objs.size := fun p hp e => hoff p hp (by simp [e])
    refine wpAny_mono (turn i t m₁ news₁ _ oI hh' tk' hin hJ hoff' hlow F₁ N₂) (fun f s₂ p => ?_) fun _ _ e => e
    have fin : TurnEnd h₀ env.locals (J (i + 1)) s.heap.objs.size oI { s with heap := hh', toks := tk' } s₂ →
        LoopStepU h₀ env.locals [s.heap.objs.size] own (J (i + 1)) { s with heap := hh', toks := tk' } .next s₂ := by
      rintro ⟨h', tk, m', news', e, F', N', hof, hm⟩
      refine ⟨rfl, h', tk, m', news', e, F', fun p hp => ?_, fun p hp hI => hof p hp (List.mem_singleton.mp hI), hm⟩
      rcases List.mem_append.mp hp with h | h
      · have hg : hh'.get? p.1 = some p.2 := hget p h
        have h2 := List.mem_singleton.mp (hown p h)
        rw [h2, heI] at hg
        have h3 : p = (s.heap.objs.size, oI) := Prod.ext h2 (Option.some.inj hg).symm
        rw [h3]
        exact N' _ (.head _)
      · exact N' p (.tail _ h)
    cases f with
    | ret v => exact .ret p
    | brk => exact .brk p
    | next => exact .next (fin p)
    | cont => exact .cont (fin p)
  · rintro h' tk m' news' F' N' _ hJ
    exact done m' news' h' tk hJ F' N'
end
end Mine
end
section
open PySem PySem.W PyProof.Rows
namespace Mine
/-- the marker -/
abbrev dots : Str := Str.ofString "..."
/-- the search of the pieces, one behind the other -/
def emLoop (y : Str) (e : Int) : List Str → Int → Bool
  | [], _ => true
  | w :: r, sp => if find4 y w sp e < 0 then false else emLoop y e r (find4 y w sp e + w.length)
/-- the pieces: the first, those between, the last -/
def emParts (a : Str) (mid : List Str) (z : Str) (y : Str) : Bool :=
  if a.length ≠ 0 && !Txt.startswith y a then false
  else if z.length ≠ 0 && !Txt.endswith y z then false
  else
    let sp : Int := if a.length ≠ 0 then a.length else 0
    let ep : Int := if z.length ≠ 0 then (y.length : Int) - z.length else y.length
    if ep < sp then false
    else emLoop y ep ((if a.length ≠ 0 then [] else [a]) ++ mid ++ (if z.length ≠ 0 then [] else [z])) sp
def em (x y : Str) : Bool :=
  if Txt.contains x dots then
    match Txt.split x dots with
    | a :: r => emParts a r.dropLast (r.getLastD Str.empty) y
    | [] => false
  else x == y
open PySem.Builtin PySem.Builtin.Str in
theorem kind_pos (x : Str) : 1 ≤ Builtin.Str.strKind x := by
  unfold Builtin.Str.strKind
  split
  · exact Nat.le_refl _
  · split <;> omega
open PySem.Builtin PySem.Builtin.Str in
theorem split_two {x : Str} (h : (occurrences x dots 0 x.length 1).isEmpty = false) : 2 ≤ (Txt.split x dots).length := by
  have hf := (StrLaws.found_iff x dots).mp (by rw [h]; rfl)
  obtain ⟨i, h1, h2⟩ := hf
  have hl : dots.length = 3 := by decide
  have hk : Builtin.Str.strKind dots = 1 := by decide +kernel
  have hp := kind_pos x
  unfold Txt.split
  rw [if_neg (by simp only [Bool.or_eq_true, decide_eq_true_eq]; omega)]
  rcases StrLaws.occ_head x dots (x.length + 1) (by omega) with ⟨_, hn⟩ | ⟨j, r, e, _, _⟩
  · exact absurd ⟨h1, h2⟩ (hn i)
  · rw [e]
    simp [partsBetween]
theorem upd_low {d : Addr} {o o' : Obj} {r : List (Addr × Obj)} (h : ∀ p ∈ r, p.1 < d) : Upd d o o' ((d, o) :: r) ((d, o') :: r) := Upd.head fun p hp => Nat.ne_of_lt (h p hp)
theorem em_parts {x y a z : Str} {mid : List Str} (hc : Txt.contains x dots = true) (hs : Txt.split x dots = a :: (mid ++ [z])) : em x y = emParts a mid z y := by
  unfold em
  rw [if_pos hc, hs]
  simp
theorem em_bare {x y : Str} (h : (Builtin.Str.occurrences x dots 0 x.length 1).isEmpty = true) : (x == y) = em x y := by
  unfold em Txt.contains
  rw [h]
  simp
theorem has_dots {x : Str} (h : (Builtin.Str.occurrences x dots 0 x.length 1).isEmpty = false) : Txt.contains x dots = true := by
  unfold Txt.contains
  rw [h]
  rfl
end Mine
end
section
open PySem PySem.W PyProof.Rows PySem.Spec PySem.Calls
set_option Elab.async false
set_option maxRecDepth 100000
set_option maxHeartbeats 4000000
namespace Mine
/-- a mark: the walk stops here -/
def Stop (_n : Nat) (P : Prop) : Prop := P
theorem Stop.out (n : Nat) {P : Prop} (h : Stop n P) : P := h
def EmNext (h₀ : Heap) (L : Addr) (news : List (Addr × Obj)) (m₀ : Str → Option Value) (y : Str) (e : Int) (b : Bool) (rest : List Str) (I : Addr) (oI : Obj) (s₁ s₂ : Shared) : Prop :=
  ∃ h' tk m' sp t all, s₂ = { s₁ with heap := h', toks := tk } ∧ Fr h₀ L h' m' ∧ News h₀ L h' all ∧ (∀ p ∈ (I, oI) :: news, p ∈ all) ∧ m' (Str.ofString "startpos") = some (.int sp t) ∧
    (∀ z, z ≠ Str.ofString "w" → z ≠ Str.ofString "startpos" → m' z = m₀ z) ∧ emLoop y e rest sp = b
def EmPost (h₀ : Heap) (L : Addr) (news : List (Addr × Obj)) (m₀ : Str → Option Value) (y : Str) (e : Int) (b : Bool) (rest : List Str) (I : Addr) (oI : Obj) (s₁ : Shared) (Q : Flow → Shared → Prop) (f : Flow) (s₂ : Shared) : Prop :=
  match f with
  | .ret v => Q (.ret v) s₂
  | .brk => Q .next s₂
  | _ => EmNext h₀ L news m₀ y e b rest I oI s₁ s₂
section
variable {prog : Program} {w : World} {A : Around} {E : Value → Shared → Prop} {s : Shared} {env : Env} {h₀ : Heap} {body : List Stmt} {Q : Flow → Shared → Prop}
theorem em_iter {D : Addr} {vs : List Value} {ws : List Str} {nn : Nat} {m₀ : Str → Option Value} {news : List (Addr × Obj)} {y : Str} {ty t₀ te : Tok} {e sp₀ : Int} {B : Nat}
    (hh : A.handled = none) (F : Fr h₀ env.locals s.heap m₀) (N : News h₀ env.locals s.heap news) (hl : (D, listOf vs.toArray nn) ∈ news) (hS : StrsAre vs ws) (hle : ∀ p ∈ ws, p.length ≤ B)
    (_hgot : m₀ (Str.ofString "got") = some (.str y ty)) (_hend : m₀ (Str.ofString "endpos") = some (.int e te)) (hsp : m₀ (Str.ofString "startpos") = some (.int sp₀ t₀))
    (turn : ∀ wd tw rest sp tsp I oI h tk, wd.length ≤ B → emLoop y e (wd :: rest) sp = emLoop y e ws sp₀ → (∀ p ∈ news, p.1 < I) →
      Fr h₀ env.locals h (fun z => if z = Str.ofString "w" then some (.str wd tw) else if z = Str.ofString "startpos" then some (.int sp tsp) else m₀ z) → News h₀ env.locals h ((I, oI) :: news) →
      wpAny (model prog w) A (execs body env) (EmPost h₀ env.locals news m₀ y e (emLoop y e ws sp₀) rest I oI { s with heap := h, toks := tk } Q) E { s with heap := h, toks := tk })
    (done : ∀ m₁ h tk, emLoop y e ws sp₀ = true → Fr h₀ env.locals h m₁ → News h₀ env.locals h news → Q .next { s with heap := h, toks := tk }) :
    wpAny (model prog w) A (pyIter (.ref D)) (fun it s₂ => LoopAtV prog w A h₀ env (Str.ofString "w") body Q E it s₂) E s := by
  refine iter_made (fun i m nx => nx = news ∧ ∃ sp t, m (Str.ofString "startpos") = some (.int sp t) ∧ (∀ z, z ≠ Str.ofString "w" → z ≠ Str.ofString "startpos" → m z = m₀ z) ∧ emLoop y e (ws.drop i) sp = emLoop y e ws sp₀)
    hh F N (fun i m nx h => h.1 ▸ hl) ⟨rfl, sp₀, t₀, hsp, fun _ _ _ => rfl, rfl⟩ ?_ ?_
  · rintro i v m₁ news₁ I oI h tk hv ⟨rfl, sp, tsp, hm1, hm2, hb⟩ _ hlow F₁ N₁
    obtain ⟨wd, tw, rfl, hw⟩ := hS.item i v hv
    have hd : ws.drop i = wd :: ws.drop (i + 1) := by
      have hlt : i < ws.length := (List.getElem?_eq_some_iff.mp hw).1
      rw [List.drop_eq_getElem_cons hlt]
      rw [(List.getElem?_eq_some_iff.mp hw).2]
    rw [hd] at hb
    have em : (fun z => if z = Str.ofString "w" then some (Value.str wd tw) else m₁ z) = fun z => if z = Str.ofString "w" then some (.str wd tw) else if z = Str.ofString "startpos" then some (.int sp tsp) else m₀ z := map_one hm1 hm2
    rw [em] at F₁
    refine wpAny_mono (turn wd tw (ws.drop (i + 1)) sp tsp I oI h tk (hle _ (List.mem_of_getElem? hw)) hb hlow F₁ N₁) (fun f s₂ p => ?_) fun _ _ x => x
    have fin : EmNext h₀ env.locals news₁ m₀ y e (emLoop y e ws sp₀) (ws.drop (i + 1)) I oI { s with heap := h, toks := tk } s₂ →
        TurnEnd h₀ env.locals (fun m nx => nx = news₁ ∧ ∃ sp t, m (Str.ofString "startpos") = some (.int sp t) ∧ (∀ z, z ≠ Str.ofString "w" → z ≠ Str.ofString "startpos" → m z = m₀ z) ∧ emLoop y e (ws.drop (i + 1)) sp = emLoop y e ws sp₀) I oI { s with heap := h, toks := tk } s₂ := by
      rintro ⟨h', tk', m', sp', t', all, rfl, F', N', hin, h1, h2, h3⟩
      exact TurnEnd.intro F' N' hin (fun p hp => Nat.ne_of_lt (hlow p hp)) ⟨rfl, sp', t', h1, h2, h3⟩
    cases f with
    | ret v => exact p
    | brk => exact p
    | next => exact fin p
    | cont => exact fin p
  · rintro m₁ nx h tk ⟨rfl, sp, t, _, _, hb⟩ F₁ N₁
    have hlen := StrsAre.length hS
    rw [hlen, List.drop_length] at hb
    exact done m₁ h tk hb.symm F₁ N₁
theorem EmNext.intro {L I : Addr} {news all : List (Addr × Obj)} {m₀ m' : Str → Option Value} {y : Str} {e sp : Int} {b : Bool} {rest : List Str} {oI : Obj} {s₁ : Shared} {h' : Heap} {tk : Nat} {t : Tok}
    (F : Fr h₀ L h' m') (N : News h₀ L h' all) (hs : ∀ p ∈ (I, oI) :: news, p ∈ all) (h1 : m' (Str.ofString "startpos") = some (.int sp t)) (h2 : ∀ z, z ≠ Str.ofString "w" → z ≠ Str.ofString "startpos" → m' z = m₀ z) (h3 : emLoop y e rest sp = b) :
    EmNext h₀ L news m₀ y e b rest I oI s₁ { s₁ with heap := h', toks := tk } := ⟨h', tk, m', sp, t, all, rfl, F, N, hs, h1, h2, h3⟩
theorem le_cons {B : Nat} {a : Str} {l : List Str} (ha : a.length ≤ B) (hl : ∀ p ∈ l, p.length ≤ B) : ∀ p ∈ a :: l, p.length ≤ B := fun p hp => by
  rcases List.mem_cons.mp hp with rfl | hp
  · exact ha
  · exact hl p hp
theorem le_snoc {B : Nat} {a : Str} {l : List Str} (hl : ∀ p ∈ l, p.length ≤ B) (ha : a.length ≤ B) : ∀ p ∈ l ++ [a], p.length ≤ B := fun p hp => by
  rcases List.mem_append.mp hp with hp | hp
  · exact hl p hp
  · rw [List.mem_singleton.mp hp]; exact ha
theorem same_led {l : List (Addr × Obj)} : ∀ p ∈ l, p ∈ l := fun _ h => h
theorem news_t1 {h₀ h : Heap} {L : Addr} {a : Addr × Obj} {l : List (Addr × Obj)} (N : News h₀ L h (a :: l)) : News h₀ L h l := fun p hp => N p (.tail _ hp)
theorem news_t2 {h₀ h : Heap} {L : Addr} {a b : Addr × Obj} {l : List (Addr × Obj)} (N : News h₀ L h (a :: b :: l)) : News h₀ L h l := fun p hp => N p (.tail _ (.tail _ hp))
theorem news_t3 {h₀ h : Heap} {L : Addr} {a b c : Addr × Obj} {l : List (Addr × Obj)} (N : News h₀ L h (a :: b :: c :: l)) : News h₀ L h l := fun p hp => N p (.tail _ (.tail _ (.tail _ hp)))
theorem emLoop_go {y wd : Str} {e sp : Int} {rest : List Str} {b : Bool} (hb : emLoop y e (wd :: rest) sp = b) (hn : 0 ≤ find4 y wd sp e) : emLoop y e rest (find4 y wd sp e + wd.length) = b := by
  unfold emLoop at hb
  rw [if_neg (by omega)] at hb
  exact hb
theorem emLoop_no {y wd : Str} {e sp : Int} {rest : List Str} {b : Bool} (hb : emLoop y e (wd :: rest) sp = b) (hn : find4 y wd sp e < 0) : b = false := by
  unfold emLoop at hb
  rw [if_pos hn] at hb
  exact hb.symm
end
end Mine
end
section
open PySem PySem.W PyProof.Rows
set_option Elab.async false
set_option maxRecDepth 100000
set_option maxHeartbeats 8000000
set_option pp.deepTerms false
set_option pp.deepTerms.threshold 6
namespace Mine
local macro_rules | `(tactic| walk_at "call builtin:str.split") => `(tactic| (k_here; (refine split_made (by k_asm) (by k_asm) (by decide) (split_two (by assumption)) ?_ (by rw [PySem.sizeLine_eq]; omega)); intro D' a' ta' mid' vm' z' tz' h' k' hsp' hS' ha' hz' hm' hc' F' N' l1))
local macro_rules | `(tactic| walk_at "call builtin:len") => `(tactic| (k_here; (with_reducible show wpAny _ _ (call (Value.builtin "len") [Value.ref _]) _ _ _); (refine' len_made ?N ?m ?e ?f ?_; (case N => k_asm); (case m => k_mem); (case e => (simp only [List.length_cons, List.length_append, List.length_nil]; rfl)); (case f => omega); k_whole)))
local macro_rules | `(tactic| walk_at "subscriptTail Name Constant ref int") => `(tactic| (k_here; (refine' item_made ?N ?m ?a ?b ?c ?_ ?d ?e; (case N => k_asm); (case m => k_mem); (case a => decide); (case b => decide); (case c => exact rfl); (case d => with_unfolding_all rfl); (case e => (intro _; with_unfolding_all rfl)); k_whole)))
local macro_rules | `(tactic| walk_at "subscriptTail Name UnaryOp ref int") => `(tactic| (k_here; (refine' last_made ?N ?m ?k ?c ?_ ?d ?e; (case N => k_asm); (case m => k_mem); (case k => rfl); (case c => (first | with_reducible exact last_snoc | with_reducible exact last_csnoc)); (case d => with_unfolding_all rfl); (case e => (intro _; with_unfolding_all rfl)); k_whole)))
local macro_rules | `(tactic| walk_at "truthy str") => `(tactic| (k_here; (refine SBL.truthy (by omega) ?_)))
local macro_rules | `(tactic| walk_at "delItem ref int") => `(tactic| (k_here; k_dflt (first
  | (refine' del_first ?F ?N ?i ?r ?U ?_ ?z; (case i => exact rfl); (case F => k_asm); (case N => k_asm); (case U => (refine Upd.tail (by k_ne) (upd_low (by assumption)))); (case r => exact rfl); (case z => (simp only [List.length_cons, List.length_append, List.length_nil, PySem.sizeLine_eq]; omega)); k_whole)
  | (refine' del_last ?F ?N ?i ?r ?U ?_ ?z; (case i => exact rfl); (case F => k_asm); (case N => k_asm); (case U => (refine Upd.tail (by k_ne) (upd_low (by assumption)))); (case r => first | exact rfl | exact (List.cons_append ..).symm); (case z => (simp only [List.length_cons, List.length_append, List.length_nil, PySem.sizeLine_eq]; omega)); k_whole)); intro h' F' N'; (try k_sweep)))
local macro_rules | `(tactic| walk_at "exec For Name Name cons nil") => `(tactic| (k_here; (rename Fr _ _ _ _ => lF'); (with_unfolding_all refine' For_invVF lF' ?k1 ?k2 ?_; (case k1 => exact rfl); (case k2 => exact rfl); k_whole)))
local macro_rules | `(tactic| walk_at "pyIter ref") => `(tactic| (k_here; (rename Fr _ _ _ _ => lF'); (rename News _ _ _ _ => lN'); k_dflt ((with_unfolding_all refine' em_iter ?hh lF' lN' ?hl ?hS ?le ?g ?e ?sp ?_ ?_); (case hh => exact rfl); (case g => exact rfl); (case e => exact rfl); (case sp => exact rfl); (case hl => k_mem); (case hS => repeat (first | assumption | exact StrsAre.nil | apply StrsAre.cons | apply PySem.W.KStt.strs_snoc)); (case le => first | assumption | exact le_snoc (by assumption) (by assumption) | exact le_cons (by assumption) (by assumption) | exact le_cons (by assumption) (le_snoc (by assumption) (by assumption))); (all_goals (clear lF' lN'; first | (intro wd' tw' rest' sp' tsp' I' oI' h' tk' hmem' hb' hlow' F' N'; (try k_fold)) | (intro m' h' tk' hb' F' N'))))))
local macro_rules | `(tactic| walk_at "EmPost") => `(tactic| (dsimp only [EmPost]))
local macro_rules | `(tactic| walk_at "EmNext") => `(tactic| (k_here; k_dflt (refine EmNext.intro (by assumption) (by assumption) same_led (by exact rfl) (by intro z h1 h2; simp only [if_neg h1, if_neg h2]) (emLoop_go (by assumption) (by omega)))))
local macro_rules | `(tactic| walk_at "call builtin:str.find") => `(tactic| (k_here; (refine call_find4 ?_)))
theorem em_claim (w : World) (mean : ExcName → Option Value) (mg mb : Str → Option Value) (news : List (Addr × Obj)) (x : Str) (t : Tok) (y : Str) (u : Tok) :
  CbClaim Challenge.rw_rl0001_02.row.prog w (Mine.hd.heap_39 w.params) Mine.hd.view_39 (looseW Mine.hd.view_39 []) mean mg mb 21 news [] (x.length ≤ 1000 ∧ y.length ≤ 1000)
    [.str x t, .str y u] (fun _ => .bool (em x y)) := by
  w_top off
  w_strict (k_fill
            dsimp only [CbClaim, CbLists, CbRet]; intros; rename_i hret
            refine wpAny_call ?_
            k_dflt cell_enter
            k_steps
            all_goals (refine cb_retB hret ?_ (by k_asm) (by first | k_asm | exact news_t2 (by k_asm) | exact news_t3 (by k_asm)))
            all_goals first
              | exact em_bare (by assumption)
              | (rw [em_parts (has_dots (by assumption)) (by assumption)]; simp_all [emParts]; done)
              | (rw [em_parts (has_dots (by assumption)) (by assumption)]; rename emLoop _ _ (_ :: _) _ = _ => hb; have hb2 := emLoop_no hb (by assumption); clear hb; simp_all [emParts]; done)
              | skip
            )
end Mine
end
section
open PySem PySem.W PyProof.Rows
set_option Elab.async false
namespace Mine
open PySem.Builtin PySem.Builtin.Str PySem.StrLaws
/-! patterns: none is the mark of three dots, some c a sign -/
abbrev Pat := List (Option Nat)
def render : Pat → List Nat
  | [] => []
  | none :: p => 46 :: 46 :: 46 :: render p
  | some c :: p => c :: render p
def anyTail (f : List Nat → Bool) : List Nat → Bool
  | [] => f []
  | a :: y => f (a :: y) || anyTail f y
def pm : Pat → List Nat → Bool
  | [], y => y.isEmpty
  | none :: p, y => anyTail (pm p) y
  | some _ :: _, [] => false
  | some c :: p, a :: y => c == a && pm p y
def lits (w : List Nat) : Pat := w.map some
def clean (p : Pat) : Prop := some 46 ∉ p
def pieces : Pat → List (List Nat)
  | [] => [[]]
  | none :: p => [] :: pieces p
  | some c :: p => match pieces p with
    | w :: ws => (c :: w) :: ws
    | [] => [[c]]
def cuts : Nat → Pat → List Nat
  | _, [] => []
  | a, none :: p => a :: cuts (a + 3) p
  | a, some _ :: p => cuts (a + 1) p
/-- a text out of its signs -/
abbrev txt (l : List Nat) : Str := ⟨l.toArray⟩
theorem txt_len (l : List Nat) : (txt l).length = l.length := by simp [Str.length]
theorem txt_list (l : List Nat) : (txt l).cps.toList = l := by simp
theorem dots_list : dots.cps.toList = [46, 46, 46] := by decide +kernel
theorem dots_len : dots.length = 3 := by decide +kernel
theorem pieces_ne (p : Pat) : ∃ w ws, pieces p = w :: ws := by
  cases p with
  | nil => exact ⟨_, _, rfl⟩
  | cons a p =>
    cases a with
    | none => exact ⟨_, _, rfl⟩
    | some c =>
      cases h : pieces p with
      | nil => exact ⟨[c], [], by simp [pieces, h]⟩
      | cons w ws => exact ⟨c :: w, ws, by simp [pieces, h]⟩
theorem pieces_some {c : Nat} {p : Pat} {w : List Nat} {ws : List (List Nat)} (h : pieces p = w :: ws) : pieces (some c :: p) = (c :: w) :: ws := by simp [pieces, h]
theorem sub_dots (l : List Nat) (i : Nat) : subAt (txt l) dots i = ((l.drop i).take 3 == [46, 46, 46]) := by
  rw [subAt_eq, txt_list, dots_list, dots_len]
theorem occ_step_no {L : List Nat} {hi limit i : Nat} {l : List Nat} {st : Array Nat × Nat} (h : ¬ (st.snd ≤ i ∧ i + 3 ≤ hi ∧ (L.drop i).take 3 = [46, 46, 46])) :
    (forIn (i :: l) st (occBody (txt L) dots hi limit)).run = (forIn l st (occBody (txt L) dots hi limit)).run := by
  rw [List.forIn_cons]
  have hc : ¬ (((st.fst.size < limit ∧ st.snd ≤ i) ∧ i + dots.length ≤ hi) ∧ subAt (txt L) dots i = true) := by
    rintro ⟨⟨⟨_, h1⟩, h2⟩, h3⟩
    rw [sub_dots, beq_iff_eq] at h3
    rw [dots_len] at h2
    exact h ⟨h1, h2, h3⟩
  conv => lhs; unfold occBody
  rw [if_neg hc]
  rfl
theorem occ_step_yes {L : List Nat} {hi limit i : Nat} {l : List Nat} {st : Array Nat × Nat} (hs : st.fst.size < limit) (h1 : st.snd ≤ i) (h2 : i + 3 ≤ hi) (h3 : (L.drop i).take 3 = [46, 46, 46]) :
    (forIn (i :: l) st (occBody (txt L) dots hi limit)).run = (forIn l (st.fst.push i, i + 3) (occBody (txt L) dots hi limit)).run := by
  rw [List.forIn_cons]
  have hc : ((st.fst.size < limit ∧ st.snd ≤ i) ∧ i + dots.length ≤ hi) ∧ subAt (txt L) dots i = true := by
    refine ⟨⟨⟨hs, h1⟩, by rw [dots_len]; exact h2⟩, ?_⟩
    rw [sub_dots, beq_iff_eq]
    exact h3
  conv => lhs; unfold occBody
  rw [if_pos hc, dots_len]
  rfl
theorem occ_cuts (limit : Nat) : ∀ (p : Pat) (pre : List Nat) (st : Array Nat × Nat), clean p → st.fst.size ≤ pre.length → st.snd ≤ pre.length → (pre ++ render p).length < limit →
    (forIn (List.range' pre.length ((render p).length + 1)) st (occBody (txt (pre ++ render p)) dots (pre ++ render p).length limit)).run.fst.toList = st.fst.toList ++ cuts pre.length p
  | [], pre, st, _, hs, hf, hl => by
    simp only [render, List.length_nil, List.append_nil, cuts]
    have h1 : List.range' pre.length (0 + 1) = [pre.length] := rfl
    have h2 := occ_step_no (L := pre) (hi := pre.length) (limit := limit) (i := pre.length) (l := []) (st := st) (by omega)
    rw [h1, h2]
    simp
  | some c :: p, pre, st, hc, hs, hf, hl => by
    have ih := occ_cuts limit p (pre ++ [c]) st (fun h => hc (List.mem_cons_of_mem _ h)) (by simp; omega) (by simp; omega) (by simpa [render] using hl)
    have hne : c ≠ 46 := fun h => hc (by rw [h]; exact List.mem_cons_self)
    have e : pre ++ render (some c :: p) = (pre ++ [c]) ++ render p := by simp [render]
    have hr : List.range' pre.length ((render (some c :: p)).length + 1) = pre.length :: List.range' (pre ++ [c]).length ((render p).length + 1) := by
      simp [render, List.range'_succ]
    rw [hr, occ_step_no (by
      rintro ⟨_, _, h3⟩
      rw [List.drop_left] at h3
      simp [render] at h3
      exact hne h3.1)]
    rw [e, ih]
    simp [cuts]
  | none :: p, pre, st, hc, hs, hf, hl => by
    have ih := occ_cuts limit p (pre ++ [46, 46, 46]) (st.fst.push pre.length, pre.length + 3) (fun h => hc (List.mem_cons_of_mem _ h)) (by simp; omega) (by simp) (by simpa [render] using hl)
    have e : pre ++ render (none :: p) = (pre ++ [46, 46, 46]) ++ render p := by simp [render]
    have hr : List.range' pre.length ((render (none :: p)).length + 1) = pre.length :: (pre.length + 1) :: (pre.length + 2) :: List.range' (pre ++ [46, 46, 46]).length ((render p).length + 1) := by
      simp [render, List.range'_succ]
    rw [hr]
    rw [occ_step_yes (by simp at hl; omega) hf (by simp [render]) (by rw [List.drop_left]; simp [render])]
    rw [occ_step_no (by simp), occ_step_no (by simp)]
    rw [e, ih]
    simp [cuts]
theorem occ_render (p : Pat) (hc : clean p) : occurrences (txt (render p)) dots 0 (txt (render p)).length ((txt (render p)).length + 1) = cuts 0 p := by
  have h := occ_cuts ((render p).length + 1) p [] (#[], 0) hc (Nat.zero_le _) (Nat.zero_le _) (by simp)
  rw [occ_eq, txt_len]
  simpa using h
theorem parts_cuts : ∀ (p : Pat) (pre w : List Nat) (v : List Nat) (vs : List (List Nat)), pieces p = v :: vs →
    partsFrom (txt (pre ++ (w ++ render p))) 3 pre.length (cuts (pre ++ w).length p) = (txt (w ++ v)) :: vs.map txt
  | [], pre, w, v, vs, h => by
    simp only [pieces] at h
    obtain ⟨rfl, rfl⟩ := List.cons.inj h
    simp only [cuts, render, partsFrom, List.append_nil, List.map_nil]
    congr 1
    apply Str.ext'
    apply Array.toList_inj.mp
    rw [strSub_toList, txt_list, txt_len]
    simp
  | some c :: p, pre, w, v, vs, h => by
    obtain ⟨v', vs', h'⟩ := pieces_ne p
    rw [pieces_some h'] at h
    obtain ⟨rfl, rfl⟩ := List.cons.inj h
    have ih := parts_cuts p pre (w ++ [c]) v' vs' h'
    have e1 : pre ++ (w ++ render (some c :: p)) = pre ++ ((w ++ [c]) ++ render p) := by simp [render]
    have e2 : cuts (pre ++ w).length (some c :: p) = cuts (pre ++ (w ++ [c])).length p := by simp [cuts, Nat.add_assoc]
    rw [e1, e2, ih]
    simp
  | none :: p, pre, w, v, vs, h => by
    simp only [pieces] at h
    obtain ⟨rfl, rfl⟩ := List.cons.inj h
    obtain ⟨v', vs', h'⟩ := pieces_ne p
    have ih := parts_cuts p (pre ++ w ++ [46, 46, 46]) [] v' vs' h'
    have e1 : pre ++ (w ++ render (none :: p)) = (pre ++ w ++ [46, 46, 46]) ++ ([] ++ render p) := by simp [render]
    have e2 : cuts (pre ++ w).length (none :: p) = (pre ++ w).length :: cuts ((pre ++ w ++ [46, 46, 46]) ++ []).length p := by simp [cuts, Nat.add_assoc]
    rw [e2]
    simp only [partsFrom]
    have e3 : (pre ++ w).length + 3 = (pre ++ w ++ [46, 46, 46]).length := by simp [Nat.add_assoc]
    rw [e3, e1, ih, h']
    simp only [List.append_nil, List.nil_append, List.map_cons, List.cons.injEq, and_true]
    apply Str.ext'
    apply Array.toList_inj.mp
    rw [strSub_toList, txt_list]
    simp
theorem cuts_nil : ∀ (a : Nat) (p : Pat), cuts a p = [] ↔ none ∉ p
  | _, [] => by simp [cuts]
  | a, none :: p => by simp [cuts]
  | a, some c :: p => by simp [cuts, cuts_nil (a + 1) p]
theorem occ_one (p : Pat) (hc : clean p) : (occurrences (txt (render p)) dots 0 (txt (render p)).length 1).isEmpty = decide (none ∉ p) := by
  have h1 := occ_head (txt (render p)) dots 1 (Nat.le_refl _)
  have h2 := occ_head (txt (render p)) dots ((txt (render p)).length + 1) (by omega)
  rw [occ_render p hc] at h2
  by_cases hn : none ∈ p
  · have hne : cuts 0 p ≠ [] := fun h => (cuts_nil 0 p).mp h hn
    rcases h2 with ⟨h2, _⟩ | ⟨i, r, _, hat, _⟩
    · exact absurd h2 hne
    · rcases h1 with ⟨_, h1⟩ | ⟨j, r', h1, _⟩
      · exact absurd hat (h1 i)
      · rw [h1]; simp [hn]
  · rcases h2 with ⟨_, h2⟩ | ⟨i, r, e, _, _⟩
    · rcases h1 with ⟨h1, _⟩ | ⟨j, r', _, hat, _⟩
      · rw [h1]; simp [hn]
      · exact absurd hat (h2 j)
    · rw [(cuts_nil 0 p).mpr hn] at e; cases e
theorem split_render (p : Pat) (hc : clean p) (hn : none ∈ p) : Txt.split (txt (render p)) dots = (pieces p).map txt := by
  have h1 := occ_one p hc
  have hf : (occurrences (txt (render p)) dots 0 (txt (render p)).length 1).isEmpty = false := by rw [h1]; simp [hn]
  obtain ⟨i, hi, _⟩ := (found_iff (txt (render p)) dots).mp (by rw [hf]; rfl)
  have hk : Builtin.Str.strKind dots = 1 := by decide +kernel
  have hp := kind_pos (txt (render p))
  have hne : cuts 0 p ≠ [] := fun h => (cuts_nil 0 p).mp h hn
  unfold Txt.split
  rw [if_neg (by simp only [Bool.or_eq_true, decide_eq_true_eq]; omega), occ_render p hc, if_neg (by simpa using hne), partsBetween_eq, dots_len]
  obtain ⟨v, vs, h⟩ := pieces_ne p
  have := parts_cuts p [] [] v vs h
  rw [h]
  simpa using this
end Mine
end
section
open PySem PySem.W PyProof.Rows
set_option Elab.async false
namespace Mine
open PySem.Builtin PySem.Builtin.Str PySem.StrLaws
theorem anyTail_iff (f : List Nat → Bool) : ∀ y, anyTail f y = true ↔ ∃ a b, y = a ++ b ∧ f b = true
  | [] => by
    simp only [anyTail]
    constructor
    · exact fun h => ⟨[], [], rfl, h⟩
    · rintro ⟨a, b, h, hb⟩
      have hb' : b = [] := (List.append_eq_nil_iff.mp h.symm).2
      rw [hb'] at hb; exact hb
  | c :: y => by
    simp only [anyTail, Bool.or_eq_true, anyTail_iff f y]
    constructor
    · rintro (h | ⟨a, b, rfl, hb⟩)
      · exact ⟨[], c :: y, rfl, h⟩
      · exact ⟨c :: a, b, rfl, hb⟩
    · rintro ⟨a, b, h, hb⟩
      cases a with
      | nil => left; rw [List.nil_append] at h; rw [h]; exact hb
      | cons d a =>
        right
        obtain ⟨rfl, rfl⟩ := List.cons.inj h
        exact ⟨a, b, rfl, hb⟩
theorem pm_none (p : Pat) (y : List Nat) : pm (none :: p) y = true ↔ ∃ a b, y = a ++ b ∧ pm p b = true := anyTail_iff (pm p) y
theorem pm_nil (y : List Nat) : pm [] y = true ↔ y = [] := by simp [pm]
theorem pm_some (c : Nat) (p : Pat) (y : List Nat) : pm (some c :: p) y = true ↔ ∃ t, y = c :: t ∧ pm p t = true := by
  cases y with
  | nil => simp [pm]
  | cons a y =>
    simp only [pm, Bool.and_eq_true, beq_iff_eq]
    constructor
    · rintro ⟨rfl, h⟩; exact ⟨y, rfl, h⟩
    · rintro ⟨t, h, ht⟩
      obtain ⟨rfl, rfl⟩ := List.cons.inj h
      exact ⟨rfl, ht⟩
theorem pm_lits (p : Pat) : ∀ (w y : List Nat), pm (lits w ++ p) y = true ↔ ∃ t, y = w ++ t ∧ pm p t = true
  | [], y => by simp [lits]
  | c :: w, y => by
    have : lits (c :: w) ++ p = some c :: (lits w ++ p) := rfl
    rw [this, pm_some]
    constructor
    · rintro ⟨t, rfl, h⟩
      obtain ⟨t', rfl, h'⟩ := (pm_lits p w t).mp h
      exact ⟨t', rfl, h'⟩
    · rintro ⟨t, rfl, h⟩
      exact ⟨w ++ t, rfl, (pm_lits p w _).mpr ⟨t, rfl, h⟩⟩
theorem pm_snoc (z : List Nat) : ∀ (p : Pat) (y : List Nat), pm (p ++ lits z) y = true ↔ ∃ t, y = t ++ z ∧ pm p t = true
  | [], y => by
    have h := pm_lits [] z y
    rw [List.append_nil] at h
    rw [List.nil_append, h]
    constructor
    · rintro ⟨t, rfl, ht⟩
      rw [(pm_nil t).mp ht]
      exact ⟨[], by simp, by simp [pm]⟩
    · rintro ⟨t, rfl, ht⟩
      rw [(pm_nil t).mp ht]
      exact ⟨[], by simp, by simp [pm]⟩
  | none :: p, y => by
    rw [List.cons_append, pm_none]
    constructor
    · rintro ⟨a, b, rfl, h⟩
      obtain ⟨t, rfl, ht⟩ := (pm_snoc z p b).mp h
      exact ⟨a ++ t, by simp, (pm_none p _).mpr ⟨a, t, rfl, ht⟩⟩
    · rintro ⟨t, rfl, ht⟩
      obtain ⟨a, b, rfl, hb⟩ := (pm_none p t).mp ht
      exact ⟨a, b ++ z, by simp, (pm_snoc z p _).mpr ⟨b, rfl, hb⟩⟩
  | some c :: p, y => by
    rw [List.cons_append, pm_some]
    constructor
    · rintro ⟨t, rfl, h⟩
      obtain ⟨t', rfl, ht'⟩ := (pm_snoc z p t).mp h
      exact ⟨c :: t', rfl, (pm_some c p _).mpr ⟨t', rfl, ht'⟩⟩
    · rintro ⟨t, rfl, ht⟩
      obtain ⟨t', rfl, ht'⟩ := (pm_some c p t).mp ht
      exact ⟨t' ++ z, rfl, (pm_snoc z p _).mpr ⟨t', rfl, ht'⟩⟩
theorem pm_mono {p : Pat} {a b : List Nat} (h : pm (none :: p) b = true) : pm (none :: p) (a ++ b) = true := by
  obtain ⟨a', b', rfl, hb⟩ := (pm_none p b).mp h
  exact (pm_none p _).mpr ⟨a ++ a', b', by simp, hb⟩
/-- the pieces between, a mark ahead of each and one behind -/
def spat : List (List Nat) → Pat
  | [] => [none]
  | w :: ws => none :: (lits w ++ spat ws)
theorem spat_head (ws : List (List Nat)) : ∃ q, spat ws = none :: q := by
  cases ws with
  | nil => exact ⟨[], rfl⟩
  | cons w ws => exact ⟨_, rfl⟩
theorem spat_mono {ws : List (List Nat)} {a b : List Nat} (h : pm (spat ws) b = true) : pm (spat ws) (a ++ b) = true := by
  obtain ⟨q, e⟩ := spat_head ws
  rw [e] at h ⊢
  exact pm_mono h
theorem pm_two (p : Pat) (y : List Nat) : pm (none :: none :: p) y = pm (none :: p) y := by
  rw [Bool.eq_iff_iff, pm_none (none :: p), pm_none p]
  constructor
  · rintro ⟨a, b, rfl, h⟩
    obtain ⟨a', b', rfl, h'⟩ := (pm_none p b).mp h
    exact ⟨a ++ a', b', by simp, h'⟩
  · rintro ⟨a, b, rfl, h⟩
    exact ⟨[], a ++ b, rfl, (pm_none p _).mpr ⟨a, b, rfl, h⟩⟩
theorem spat_first (ws : List (List Nat)) (y : List Nat) : pm (spat ([] :: ws)) y = pm (spat ws) y := by
  obtain ⟨q, e⟩ := spat_head ws
  show pm (none :: (lits [] ++ spat ws)) y = _
  rw [e]
  exact pm_two q y
theorem pm_congr_none {p q : Pat} (h : ∀ y, pm p y = pm q y) (y : List Nat) : pm (none :: p) y = pm (none :: q) y := by
  rw [Bool.eq_iff_iff, pm_none, pm_none]
  simp only [h]
theorem pm_congr_lits {p q : Pat} (w : List Nat) (h : ∀ y, pm p y = pm q y) (y : List Nat) : pm (lits w ++ p) y = pm (lits w ++ q) y := by
  rw [Bool.eq_iff_iff, pm_lits, pm_lits]
  simp only [h]
theorem spat_last : ∀ (ws : List (List Nat)) (y : List Nat), pm (spat (ws ++ [[]])) y = pm (spat ws) y
  | [], y => by
    show pm (none :: (lits [] ++ [none])) y = pm [none] y
    exact pm_two [] y
  | w :: ws, y => by
    show pm (none :: (lits w ++ spat (ws ++ [[]]))) y = pm (none :: (lits w ++ spat ws)) y
    exact pm_congr_none (pm_congr_lits w (spat_last ws)) y
/-- the pieces, marks between -/
def ipat : List (List Nat) → Pat
  | [] => []
  | [w] => lits w
  | w :: ws => lits w ++ none :: ipat ws
theorem ipat_cons {w : List Nat} {ws : List (List Nat)} (h : ws ≠ []) : ipat (w :: ws) = lits w ++ none :: ipat ws := by
  cases ws with
  | nil => exact absurd rfl h
  | cons _ _ => rfl
theorem ipat_pieces : ∀ p : Pat, ipat (pieces p) = p
  | [] => rfl
  | none :: p => by
    obtain ⟨w, ws, e⟩ := pieces_ne p
    have ih := ipat_pieces p
    show ipat ([] :: pieces p) = _
    rw [ipat_cons (by rw [e]; simp), ih]
    rfl
  | some c :: p => by
    obtain ⟨w, ws, e⟩ := pieces_ne p
    have ih := ipat_pieces p
    rw [pieces_some e]
    rw [e] at ih
    cases ws with
    | nil =>
      show lits (c :: w) = _
      have : lits w = p := ih
      show some c :: lits w = _
      rw [this]
    | cons v vs =>
      rw [ipat_cons (by simp)] at ih ⊢
      show some c :: (lits w ++ none :: ipat (v :: vs)) = _
      rw [ih]
theorem ipat_ends : ∀ (mid : List (List Nat)) (z : List Nat), none :: ipat (mid ++ [z]) = spat mid ++ lits z
  | [], z => rfl
  | w :: mid, z => by
    have ih := ipat_ends mid z
    show none :: ipat (w :: (mid ++ [z])) = none :: (lits w ++ spat mid) ++ lits z
    rw [ipat_cons (by simp), ih]
    simp
theorem occ_head_rng (x y : Str) (lo hi : Nat) : (occurrences x y lo hi 1 = [] ∧ ∀ i, lo ≤ i → ¬ At x y hi i) ∨
    ∃ i r, occurrences x y lo hi 1 = i :: r ∧ lo ≤ i ∧ At x y hi i ∧ ∀ k, lo ≤ k → k < i → ¬ At x y hi k := by
  rw [occ_eq]
  rcases occ_first x y hi 1 (Nat.le_refl _) (List.range' lo (hi + 1 - lo)) lo (fun i hi' => by have := List.mem_range'_1.mp hi'; omega) with ⟨h0, hn⟩ | ⟨pre, a, post, e, h0, ha, hn⟩
  · refine .inl ⟨by rw [h0], fun i hlo hi' => ?_⟩
    exact hn i (by have := hi'.1; rw [List.mem_range'_1]; omega) hi'
  · have hs := range'_split_from e
    refine .inr ⟨a, ((forIn (List.range' lo (hi + 1 - lo)) ((#[] : Array Nat), lo) (occBody x y hi 1)).run.fst.toList).tail, ?_, hs.1, ha, fun k hk0 hk => hn k (hs.2 k hk0 hk)⟩
    generalize (forIn (List.range' lo (hi + 1 - lo)) ((#[] : Array Nat), lo) (occBody x y hi 1)).run.fst = arr at h0
    have h1 : arr.toList[0]? = some a := by simpa using h0
    cases hL : arr.toList with
    | nil => rw [hL] at h1; cases h1
    | cons b t => rw [hL] at h1; simp at h1; rw [h1]; rfl
theorem at_iff (Y w : List Nat) (e s j : Nat) (he : e ≤ Y.length) (hs : s ≤ e) : At (txt Y) (txt w) e (s + j) ↔ ∃ t, ((Y.take e).drop s).drop j = w ++ t ∧ s + j ≤ e := by
  unfold At
  rw [subAt_eq, txt_list, txt_list, txt_len, beq_iff_eq, List.drop_drop]
  have hd : (Y.take e).drop (s + j) = (Y.drop (s + j)).take (e - (s + j)) := by rw [List.drop_take]
  rw [hd]
  constructor
  · rintro ⟨h1, h2⟩
    refine ⟨((Y.drop (s + j)).take (e - (s + j))).drop w.length, ?_, by omega⟩
    have : w = ((Y.drop (s + j)).take (e - (s + j))).take w.length := by
      rw [List.take_take, Nat.min_eq_left (by omega)]; exact h2.symm
    conv => lhs; rw [← List.take_append_drop w.length ((Y.drop (s + j)).take (e - (s + j)))]
    rw [← this]
  · rintro ⟨t, ht, hle⟩
    have hlen := congrArg List.length ht
    rw [List.length_take, List.length_drop, List.length_append] at hlen
    have hle2 : s + j + w.length ≤ e := by omega
    refine ⟨hle2, ?_⟩
    have h3 := congrArg (List.take w.length) ht
    rw [List.take_take, Nat.min_eq_left (by omega), List.take_left] at h3
    exact h3
theorem find4_spec (Y w : List Nat) (s e : Nat) (he : e ≤ Y.length) (hs : s ≤ e) :
    (find4 (txt Y) (txt w) s e = -1 ∧ ∀ a t, (Y.take e).drop s ≠ a ++ (w ++ t)) ∨
    ∃ a t, find4 (txt Y) (txt w) s e = ((s + a.length : Nat) : Int) ∧ (Y.take e).drop s = a ++ (w ++ t) ∧ ∀ a' t', (Y.take e).drop s = a' ++ (w ++ t') → a.length ≤ a'.length := by
  have hlo : fromIndex (txt Y).length (s : Int) = s := by unfold fromIndex; omega
  have hhi : min (fromIndex (txt Y).length (e : Int)) (txt Y).length = e := by rw [txt_len]; unfold fromIndex; omega
  have hTlen : ((Y.take e).drop s).length = e - s := by rw [List.length_drop, List.length_take]; omega
  unfold find4
  rw [hlo, hhi]
  rcases occ_head_rng (txt Y) (txt w) s e with ⟨h0, hn⟩ | ⟨i, r, h0, hi, hat, hmin⟩
  · left
    rw [h0]
    refine ⟨rfl, fun a t h => ?_⟩
    have hl := congrArg List.length h
    rw [hTlen, List.length_append, List.length_append] at hl
    refine hn (s + a.length) (by omega) ((at_iff Y w e s a.length he hs).mpr ⟨t, ?_, by omega⟩)
    rw [h, List.drop_left]
  · right
    rw [h0]
    obtain ⟨j, rfl⟩ : ∃ j, i = s + j := ⟨i - s, by omega⟩
    obtain ⟨t, ht, hle⟩ := (at_iff Y w e s j he hs).mp hat
    have hj : (((Y.take e).drop s).take j).length = j := by rw [List.length_take, hTlen]; omega
    refine ⟨((Y.take e).drop s).take j, t, by rw [hj], ?_, fun a' t' h => ?_⟩
    · rw [← ht, List.take_append_drop]
    · rw [hj]
      refine Nat.le_of_not_lt fun hlt => ?_
      refine hmin (s + a'.length) (by omega) (by omega) ((at_iff Y w e s a'.length he hs).mpr ⟨t', ?_, by omega⟩)
      rw [h, List.drop_left]
theorem emLoop_pm (Y : List Nat) (e : Nat) (he : e ≤ Y.length) : ∀ (ws : List (List Nat)) (s : Nat), s ≤ e → emLoop (txt Y) (e : Int) (ws.map txt) (s : Int) = pm (spat ws) ((Y.take e).drop s)
  | [], s, hs => by
    show true = _
    symm
    exact (pm_none [] _).mpr ⟨_, [], (List.append_nil _).symm, by simp [pm]⟩
  | w :: ws, s, hs => by
    have hTlen : ((Y.take e).drop s).length = e - s := by rw [List.length_drop, List.length_take]; omega
    show (if find4 (txt Y) (txt w) (s : Int) (e : Int) < 0 then false else emLoop (txt Y) e (ws.map txt) (find4 (txt Y) (txt w) (s : Int) (e : Int) + (txt w).length)) = pm (none :: (lits w ++ spat ws)) _
    rcases find4_spec Y w s e he hs with ⟨h0, hn⟩ | ⟨a, t, h0, hT, hmin⟩
    · rw [h0, if_pos (by decide)]
      symm
      rw [Bool.eq_false_iff]
      intro h
      obtain ⟨a, b, hab, hb⟩ := (pm_none _ _).mp h
      obtain ⟨t, rfl, _⟩ := (pm_lits _ w b).mp hb
      exact hn a t hab
    · rw [h0, if_neg (by omega), txt_len]
      have hl := congrArg List.length hT
      rw [hTlen, List.length_append, List.length_append] at hl
      have e1 : ((s + a.length : Nat) : Int) + (w.length : Int) = ((s + (a.length + w.length) : Nat) : Int) := by omega
      rw [e1, emLoop_pm Y e he ws (s + (a.length + w.length)) (by omega)]
      have e2 : (Y.take e).drop (s + (a.length + w.length)) = t := by
        rw [← List.drop_drop, hT, ← List.append_assoc, ← List.length_append, List.drop_left]
      rw [e2, hT, Bool.eq_iff_iff]
      constructor
      · intro h
        exact (pm_none _ _).mpr ⟨a, w ++ t, rfl, (pm_lits _ w _).mpr ⟨t, rfl, h⟩⟩
      · intro h
        obtain ⟨a', b, hab, hb⟩ := (pm_none _ _).mp h
        obtain ⟨t', rfl, ht'⟩ := (pm_lits _ w b).mp hb
        have hle := hmin a' t' (by rw [hT, hab])
        -- t' is a tail of t
        have hl1 := congrArg List.length hab
        simp only [List.length_append] at hl1
        have ht : t = (t.take (t.length - t'.length)) ++ t' := by
          have h1 : (a ++ (w ++ t)).drop (a.length + w.length + (t.length - t'.length)) = (a' ++ (w ++ t')).drop (a'.length + w.length) := by
            rw [hab]; congr 1; omega
          have h2 : (a' ++ (w ++ t')).drop (a'.length + w.length) = t' := by
            rw [← List.append_assoc, ← List.length_append, List.drop_left]
          have h3 : (a ++ (w ++ t)).drop (a.length + w.length + (t.length - t'.length)) = t.drop (t.length - t'.length) := by
            rw [← List.drop_drop, ← List.append_assoc, ← List.length_append, List.drop_left]
          rw [h3, h2] at h1
          conv => lhs; rw [← List.take_append_drop (t.length - t'.length) t]
          rw [h1]
        rw [ht]
        exact spat_mono ht'
end Mine
end
section
open PySem PySem.W PyProof.Rows
set_option Elab.async false
namespace Mine
open PySem.Builtin PySem.Builtin.Str PySem.StrLaws
theorem starts_iff (Y A : List Nat) : Txt.startswith (txt Y) (txt A) = true ↔ ∃ t, Y = A ++ t := by
  unfold Txt.startswith
  rw [Bool.and_eq_true, decide_eq_true_eq, subAt_eq, txt_list, txt_list, txt_len, txt_len, beq_iff_eq, List.drop_zero]
  constructor
  · rintro ⟨_, h⟩
    refine ⟨Y.drop A.length, ?_⟩
    conv => lhs; rw [← List.take_append_drop A.length Y, h]
  · rintro ⟨t, rfl⟩
    exact ⟨by simp, by simp⟩
theorem ends_iff (Y Z : List Nat) : Txt.endswith (txt Y) (txt Z) = true ↔ ∃ t, Y = t ++ Z := by
  unfold Txt.endswith
  rw [Bool.and_eq_true, decide_eq_true_eq, subAt_eq, txt_list, txt_list, txt_len, txt_len, beq_iff_eq]
  constructor
  · rintro ⟨hl, h⟩
    refine ⟨Y.take (Y.length - Z.length), ?_⟩
    have h2 : (Y.drop (Y.length - Z.length)).take Z.length = Y.drop (Y.length - Z.length) := List.take_of_length_le (by rw [List.length_drop]; omega)
    rw [h2] at h
    conv => lhs; rw [← List.take_append_drop (Y.length - Z.length) Y, h]
  · rintro ⟨t, rfl⟩
    refine ⟨by simp, ?_⟩
    have : (t ++ Z).length - Z.length = t.length := by simp
    rw [this, List.drop_left]
    simp
theorem spat_ends (A Z : List Nat) (mid : List (List Nat)) (y : List Nat) :
    pm (spat ((if A.length ≠ 0 then [] else [A]) ++ mid ++ (if Z.length ≠ 0 then [] else [Z]))) y = pm (spat mid) y := by
  have hz : ∀ l : List (List Nat), pm (spat (l ++ (if Z.length ≠ 0 then [] else [Z]))) y = pm (spat l) y := by
    intro l
    split
    · rw [List.append_nil]
    · rename_i h
      have : Z = [] := List.length_eq_zero_iff.mp (by simpa using h)
      subst this
      exact spat_last l y
  rw [hz]
  split
  · rfl
  · rename_i h
    have : A = [] := List.length_eq_zero_iff.mp (by simpa using h)
    subst this
    exact spat_first mid y
theorem emParts_pm (A Z Y : List Nat) (mid : List (List Nat)) : emParts (txt A) (mid.map txt) (txt Z) (txt Y) = pm (lits A ++ (spat mid ++ lits Z)) Y := by
  have hR : pm (lits A ++ (spat mid ++ lits Z)) Y = true ↔ ∃ t, Y = A ++ (t ++ Z) ∧ pm (spat mid) t = true := by
    rw [pm_lits]
    constructor
    · rintro ⟨t, rfl, h⟩
      obtain ⟨t', rfl, h'⟩ := (pm_snoc Z _ t).mp h
      exact ⟨t', rfl, h'⟩
    · rintro ⟨t, rfl, h⟩
      exact ⟨t ++ Z, rfl, (pm_snoc Z _ _).mpr ⟨t, rfl, h⟩⟩
  unfold emParts
  have elist : (if (txt A).length ≠ 0 then [] else [txt A]) ++ mid.map txt ++ (if (txt Z).length ≠ 0 then [] else [txt Z]) = ((if A.length ≠ 0 then [] else [A]) ++ mid ++ (if Z.length ≠ 0 then [] else [Z])).map txt := by
    rw [txt_len, txt_len]
    split <;> split <;> simp
  have esp : (if (txt A).length ≠ 0 then ((txt A).length : Int) else 0) = (A.length : Int) := by
    rw [txt_len]; split <;> omega
  have eep : (if (txt Z).length ≠ 0 then ((txt Y).length : Int) - ((txt Z).length : Int) else (txt Y).length) = (Y.length : Int) - (Z.length : Int) := by
    rw [txt_len, txt_len]; split <;> omega
  simp only [elist, esp, eep]
  split
  · rename_i h
    symm
    rw [Bool.eq_false_iff]
    intro hh
    obtain ⟨t, ht, _⟩ := hR.mp hh
    simp only [Bool.and_eq_true, Bool.not_eq_true'] at h
    have := (starts_iff Y A).mpr ⟨t ++ Z, ht⟩
    rw [h.2] at this; cases this
  · rename_i hA
    have hA' : ∃ t, Y = A ++ t := by
      by_cases h0 : A = []
      · subst h0; exact ⟨Y, rfl⟩
      · refine (starts_iff Y A).mp ?_
        cases hs : Txt.startswith (txt Y) (txt A) with
        | true => rfl
        | false =>
          exfalso; apply hA
          rw [txt_len, hs]
          simp [List.length_eq_zero_iff, h0]
    split
    · rename_i h
      symm
      rw [Bool.eq_false_iff]
      intro hh
      obtain ⟨t, ht, _⟩ := hR.mp hh
      simp only [Bool.and_eq_true, Bool.not_eq_true'] at h
      have := (ends_iff Y Z).mpr ⟨A ++ t, by rw [ht, List.append_assoc]⟩
      rw [h.2] at this; cases this
    · rename_i hZ
      have hZ' : ∃ t, Y = t ++ Z := by
        by_cases h0 : Z = []
        · subst h0; exact ⟨Y, by simp⟩
        · refine (ends_iff Y Z).mp ?_
          cases hs : Txt.endswith (txt Y) (txt Z) with
          | true => rfl
          | false =>
            exfalso; apply hZ
            rw [txt_len, hs]
            simp [List.length_eq_zero_iff, h0]
      obtain ⟨ta, hta⟩ := hA'
      obtain ⟨tz, htz⟩ := hZ'
      have hzlen : Y.length = tz.length + Z.length := by rw [htz]; simp
      have ealt : (Y.length : Int) - (Z.length : Int) = (tz.length : Int) := by omega
      rw [ealt]
      split
      · rename_i hlt
        symm
        rw [Bool.eq_false_iff]
        intro hh
        obtain ⟨t, ht, _⟩ := hR.mp hh
        have := congrArg List.length ht
        simp only [List.length_append] at this
        omega
      · rename_i hlt
        have hle : A.length ≤ tz.length := by omega
        rw [emLoop_pm Y tz.length (by omega) _ A.length hle, spat_ends]
        have eT : Y.take tz.length = tz := by rw [htz, List.take_left]
        rw [eT]
        have eA : tz = A ++ tz.drop A.length := by
          have h1 : tz.take A.length = A := by
            have h2 : (Y.take tz.length).take A.length = Y.take A.length := by rw [List.take_take, Nat.min_eq_left hle]
            rw [eT] at h2
            rw [h2, hta, List.take_left]
          conv => lhs; rw [← List.take_append_drop A.length tz, h1]
        rw [Bool.eq_iff_iff, hR]
        constructor
        · intro h
          refine ⟨tz.drop A.length, ?_, h⟩
          rw [← List.append_assoc, ← eA, htz]
        · rintro ⟨t, ht, h⟩
          have : tz = A ++ t := by
            rw [htz, ← List.append_assoc] at ht
            exact List.append_cancel_right ht
          rw [this, List.drop_left]
          exact h
theorem pm_bare : ∀ (p : Pat), none ∉ p → ∀ y, pm p y = (render p == y)
  | [], _, y => by cases y <;> rfl
  | none :: p, h, _ => absurd List.mem_cons_self h
  | some c :: p, h, y => by
    have ih := pm_bare p (fun h' => h (List.mem_cons_of_mem _ h'))
    cases y with
    | nil => rfl
    | cons a y => simp only [pm, ih, render]; rfl
/-- THE DEF: of a text put together of signs and marks it tells whether the pattern fits -/
theorem em_render (p : Pat) (hc : clean p) (Y : List Nat) : em (txt (render p)) (txt Y) = pm p Y := by
  by_cases hn : none ∈ p
  · have h1 : Txt.contains (txt (render p)) dots = true := by
      unfold Txt.contains
      rw [occ_one p hc]
      simp [hn]
    have hs := split_render p hc hn
    obtain ⟨w, ws, e⟩ := pieces_ne p
    have hws : ws ≠ [] := by
      rintro rfl
      have := ipat_pieces p
      rw [e] at this
      have h2 : lits w = p := this
      rw [← h2] at hn
      simp [lits] at hn
    obtain ⟨mid, z, rfl⟩ : ∃ mid z, ws = mid ++ [z] := ⟨ws.dropLast, ws.getLast hws, (List.dropLast_concat_getLast hws).symm⟩
    have hs' : Txt.split (txt (render p)) dots = txt w :: (mid.map txt ++ [txt z]) := by rw [hs, e]; simp
    rw [em_parts h1 hs', emParts_pm]
    have hp := ipat_pieces p
    rw [e, ipat_cons (by simp), ipat_ends] at hp
    rw [hp]
  · have h1 : (occurrences (txt (render p)) dots 0 (txt (render p)).length 1).isEmpty = true := by
      rw [occ_one p hc]; simp [hn]
    rw [← em_bare h1, pm_bare p hn]
    rw [Bool.eq_iff_iff, beq_iff_eq, beq_iff_eq]
    constructor
    · intro h
      have := congrArg (fun x : Str => x.cps.toList) h
      simpa using this
    · intro h; rw [h]
end Mine
end
section
open PySem PySem.W PyProof.Rows PySem.Spec PySem.Calls
set_option Elab.async false
set_option maxRecDepth 100000
set_option maxHeartbeats 4000000
namespace Mine
/-- a mark: the stop of that number is passed -/
structure Passed (n : Nat) : Prop where
  mark :: (one : True)
theorem passed (n : Nat) : Passed n := ⟨trivial⟩
theorem Stop.in_ {n : Nat} {P : Prop} (h : P) : Stop n P := h
theorem map_ext1 {a : Str} {m m' : Str → Option Value} (h1 : m a = m' a) (h : ∀ z, z ≠ a → m z = m' z) : m = m' := by
  funext z
  by_cases e : z = a
  · rw [e]; exact h1
  · exact h z e
theorem map_ext2 {a b : Str} {m m' : Str → Option Value} (h1 : m a = m' a) (h2 : m b = m' b) (h : ∀ z, z ≠ a → z ≠ b → m z = m' z) : m = m' :=
  map_ext1 h1 fun z hz => congrFun (map_ext1 (a := b) (m := fun z => if z = a then none else m z) (m' := fun z => if z = a then none else m' z) (by by_cases e : b = a <;> simp [e, h2]) (fun z hb => by by_cases e : z = a <;> simp [e]; exact h z e hb)) z |> fun q => by simpa [hz] using q
theorem map_ext3 {a b c : Str} {m m' : Str → Option Value} (h1 : m a = m' a) (h2 : m b = m' b) (h3 : m c = m' c) (h : ∀ z, z ≠ a → z ≠ b → z ≠ c → m z = m' z) : m = m' := by
  funext z
  by_cases e1 : z = a
  · rw [e1]; exact h1
  · by_cases e2 : z = b
    · rw [e2]; exact h2
    · by_cases e3 : z = c
      · rw [e3]; exact h3
      · exact h z e1 e2 e3
theorem map_ext4 {a b c d : Str} {m m' : Str → Option Value} (h1 : m a = m' a) (h2 : m b = m' b) (h3 : m c = m' c) (h4 : m d = m' d) (h : ∀ z, z ≠ a → z ≠ b → z ≠ c → z ≠ d → m z = m' z) : m = m' := by
  refine map_ext3 h1 h2 h3 fun z e1 e2 e3 => ?_
  by_cases e4 : z = d
  · rw [e4]; exact h4
  · exact h z e1 e2 e3 e4
theorem map_ext7 {a b c d e f g : Str} {m m' : Str → Option Value} (h1 : m a = m' a) (h2 : m b = m' b) (h3 : m c = m' c) (h4 : m d = m' d) (h5 : m e = m' e) (h6 : m f = m' f) (h7 : m g = m' g)
    (h : ∀ z, z ≠ a → z ≠ b → z ≠ c → z ≠ d → z ≠ e → z ≠ f → z ≠ g → m z = m' z) : m = m' := by
  refine map_ext4 h1 h2 h3 h4 fun z e1 e2 e3 e4 => ?_
  by_cases e5 : z = e
  · rw [e5]; exact h5
  · by_cases e6 : z = f
    · rw [e6]; exact h6
    · by_cases e7 : z = g
      · rw [e7]; exact h7
      · exact h z e1 e2 e3 e4 e5 e6 e7
theorem getD_headD {l : List Int} {t : Tok} : Value.int (l.getD (Int.toNat 0) 0) t = Value.int (l.headD 0) t := by cases l <;> rfl
theorem none_headD {l : List Int} {t : Tok} (h : ¬ 0 < l.length) : Value.int 0 t = Value.int (l.headD 0) t := by
  cases l with
  | nil => rfl
  | cons a r => exact absurd (by simp) h
section
variable {prog : Program} {w : World} {A : Around} {E : Value → Shared → Prop} {s : Shared} {env : Env} {h₀ : Heap} {x : Str} {body : List Stmt} {Q : Flow → Shared → Prop}
/-- the invariant told over the map that stood ahead of the loop -/
theorem iter_madeM {l : Addr} {vs : List Value} {nn : Nat} {m₀ : Str → Option Value} {news : List (Addr × Obj)} (J : (Str → Option Value) → Nat → (Str → Option Value) → List (Addr × Obj) → Prop)
    (hh : A.handled = none) (F : Fr h₀ env.locals s.heap m₀) (N : News h₀ env.locals s.heap news) (hJl : ∀ i m nx, J m₀ i m nx → (l, listOf vs.toArray nn) ∈ nx) (hj : J m₀ 0 m₀ news)
    (turn : ∀ i v m₁ news₁ I oI h tk, vs[i]? = some v → J m₀ i m₁ news₁ → AllLt I news → Fr h₀ env.locals h (fun y => if y = x then some v else m₁ y) → News h₀ env.locals h ((I, oI) :: news₁) →
      wpAny (model prog w) A (execs body env) (TurnPost h₀ env.locals (J m₀ (i + 1)) I oI { s with heap := h, toks := tk } Q) E { s with heap := h, toks := tk })
    (done : ∀ m₁ news₁ h tk, J m₀ vs.length m₁ news₁ → Fr h₀ env.locals h m₁ → News h₀ env.locals h news₁ → Q .next { s with heap := h, toks := tk }) :
    wpAny (model prog w) A (pyIter (.ref l)) (fun it s₂ => LoopAtV prog w A h₀ env x body Q E it s₂) E s :=
  iter_made (J m₀) hh F N hJl hj (fun i v m₁ news₁ I oI h tk hv hj' _ hl F' N' => turn i v m₁ news₁ I oI h tk hv hj' (allLt_of hl) F' N') done
theorem iter_rngM {r : Addr} {a₀ b₀ c₀ : Int} {t₀ u₀ v₀ : Tok} {n : Nat} {m₀ : Str → Option Value} {news : List (Addr × Obj)} (J : (Str → Option Value) → Nat → (Str → Option Value) → List (Addr × Obj) → Prop)
    (hh : A.handled = none) (hr : IsRange s.heap r a₀ b₀ c₀ t₀ u₀ v₀) (hsmall : Builtin.Range.small a₀ b₀ c₀ = true) (hn : Builtin.Range.rangeSize a₀ b₀ c₀ = (n : Int))
    (F : Fr h₀ env.locals s.heap m₀) (N : News h₀ env.locals s.heap news) (hj : J m₀ 0 m₀ news)
    (turn : ∀ i t m₁ news₁ I oI h tk, i < n → J m₀ i m₁ news₁ → AllLt I news → Fr h₀ env.locals h (fun y => if y = x then some (.int (a₀ + (i : Int) * c₀) t) else m₁ y) → News h₀ env.locals h ((I, oI) :: news₁) →
      wpAny (model prog w) A (execs body env) (TurnPost h₀ env.locals (J m₀ (i + 1)) I oI { s with heap := h, toks := tk } Q) E { s with heap := h, toks := tk })
    (done : ∀ m₁ news₁ h tk, J m₀ n m₁ news₁ → Fr h₀ env.locals h m₁ → News h₀ env.locals h news₁ → Q .next { s with heap := h, toks := tk }) :
    wpAny (model prog w) A (pyIter (.ref r)) (fun it s₂ => LoopAtV prog w A h₀ env x body Q E it s₂) E s :=
  iter_rng (J m₀) hh hr hsmall hn F N hj (fun i t m₁ news₁ I oI h tk hi hj' _ hl F' N' => turn i t m₁ news₁ I oI h tk hi hj' (allLt_of hl) F' N') done
end
theorem ints_snoc {pv : List Value} {P P' : List Int} {k : Int} {t : Tok} (h : IntsAre pv P) (e : P' = P ++ [k]) : IntsAre (pv ++ [.int k t]) P' := by
  rw [e]
  exact IntsAre.append h (.cons _ _ .nil)
theorem str_val {x y : Str} {t : Tok} (h : x = y) : some (Value.str x t) = some (Value.str y t) := by rw [h]
theorem int_val {x y : Int} {t : Tok} (h : x = y) : some (Value.int x t) = some (Value.int y t) := by rw [h]
theorem bool_val {x y : Bool} (h : x = y) : some (Value.bool x) = some (Value.bool y) := by rw [h]
/-- forget all but four names -/
theorem fr_four {h₀ h : Heap} {L : Addr} {m : Str → Option Value} (a b c d : Str) {va vb vc vd : Value} (F : Fr h₀ L h m) (ha : m a = some va) (hb : m b = some vb) (hc : m c = some vc) (hd : m d = some vd) :
    ∃ m' : Str → Option Value, Fr h₀ L h (fun z => if z = a then some va else if z = b then some vb else if z = c then some vc else if z = d then some vd else m' z) := by
  refine ⟨m, ?_⟩
  have e : m = fun z => if z = a then some va else if z = b then some vb else if z = c then some vc else if z = d then some vd else m z := by
    funext z
    by_cases e1 : z = a
    · rw [if_pos e1, e1]; exact ha
    · rw [if_neg e1]
      by_cases e2 : z = b
      · rw [if_pos e2, e2]; exact hb
      · rw [if_neg e2]
        by_cases e3 : z = c
        · rw [if_pos e3, e3]; exact hc
        · rw [if_neg e3]
          by_cases e4 : z = d
          · rw [if_pos e4, e4]; exact hd
          · rw [if_neg e4]
  rw [← e]; exact F
/-- a statement that stores one name and makes nothing that counts -/
def StoredAs (h₀ : Heap) (L : Addr) (m : Str → Option Value) (news : List (Addr × Obj)) (x : Str) (val : Tok → Value) (s : Shared) (f : Flow) (s' : Shared) : Prop :=
  f = .next ∧ ∃ h' tk t all, s' = { s with heap := h', toks := tk } ∧ Fr h₀ L h' (fun y => if y = x then some (val t) else m y) ∧ News h₀ L h' all ∧ ∀ p ∈ news, p ∈ all
section
variable {M : Model} {A : Around} {E : Value → Shared → Prop} {s : Shared} {env : Env} {h₀ : Heap} {L : Addr} {m : Str → Option Value} {news : List (Addr × Obj)} {st : Stmt} {Q : Flow → Shared → Prop}
theorem cut_store (x : Str) (val : Tok → Value) (F : Fr h₀ L s.heap m) (_N : News h₀ L s.heap news) (h1 : wpAny M A (exec st env) (StoredAs h₀ L m news x val s) E s)
    (h2 : ∀ h' tk t, Fr h₀ L h' (fun y => if y = x then some (val t) else m y) → News h₀ L h' news → Q .next { s with heap := h', toks := tk }) : wpAny M A (exec st env) Q E s := by
  refine wpAny_mono h1 (fun f s' p => ?_) fun _ _ x => x
  obtain ⟨rfl, h', tk, t, all, rfl, F', N', hs⟩ := p
  exact h2 h' tk t F' fun p hp => N' p (hs p hp)
theorem StoredAs.intro {x : Str} {val : Tok → Value} {h' : Heap} {tk : Nat} {t : Tok} {v : Value} {all : List (Addr × Obj)} {m' : Str → Option Value} (F : Fr h₀ L h' m') (N : News h₀ L h' all) (hs : ∀ p ∈ news, p ∈ all)
    (hm : m' = fun y => if y = x then some v else m y) (hv : v = val t) : StoredAs h₀ L m news x val s .next { s with heap := h', toks := tk } := by
  subst hv hm
  exact ⟨rfl, h', tk, t, all, rfl, F, N, hs⟩
end
end Mine
end
section
open PySem PySem.W PyProof.Rows
set_option Elab.async false
namespace Mine
/-- 'ab\n'[k % 3] -/
def sg3 (k : Int) : Nat := if k.fmod 3 = 0 then 97 else if k.fmod 3 = 1 then 98 else 10
/-- 'ab\n.'[k % 4] -/
def sg4 (k : Int) : Nat := if k.fmod 4 = 0 then 97 else if k.fmod 4 = 1 then 98 else if k.fmod 4 = 2 then 10 else 46
/-- 1 + k // 3 % 4 -/
def pr1 (k : Int) : Int := 1 + (k.fdiv 3).fmod 4
theorem txt_append (a b : List Nat) : txt a ++ txt b = txt (a ++ b) := by
  apply Str.ext'
  rw [Str.cps_append]
  simp
theorem item3 (k : Int) : Txt.item (Str.ofString "ab\n") (k.fmod 3) = txt [sg3 k] := by
  have h : k.fmod 3 = 0 ∨ k.fmod 3 = 1 ∨ k.fmod 3 = 2 := by
    have h1 := Int.fmod_nonneg_of_pos k (b := 3) (by decide)
    have h2 := Int.fmod_lt_of_pos k (b := 3) (by decide)
    omega
  unfold sg3
  rcases h with h | h | h <;> rw [h] <;> decide +kernel
theorem item4 (k : Int) : Txt.item (Str.ofString "ab\n.") (k.fmod 4) = txt [sg4 k] := by
  have h : k.fmod 4 = 0 ∨ k.fmod 4 = 1 ∨ k.fmod 4 = 2 ∨ k.fmod 4 = 3 := by
    have h1 := Int.fmod_nonneg_of_pos k (b := 4) (by decide)
    have h2 := Int.fmod_lt_of_pos k (b := 4) (by decide)
    omega
  unfold sg4
  rcases h with h | h | h | h <;> rw [h] <;> decide +kernel
theorem empty_txt : Str.ofString "" = txt [] := by decide +kernel
theorem dots_txt : Str.ofString "..." = txt [46, 46, 46] := by decide +kernel
theorem item_txt {X : List Nat} {k : Int} (h0 : 0 ≤ k) (h : k < X.length) : Txt.item (txt X) k = txt [X.getD k.toNat 0] := by
  have hk : k.toNat < X.length := by omega
  have e : (txt X).cps[k.toNat]? = some (X.getD k.toNat 0) := by
    simp [List.getD, hk]
  rw [item_meets h0 e]
section
variable {prog : Program} {w : World} {A : Around} {E : Value → Shared → Prop} {s : Shared}
theorem iadd_txt {a b : List Nat} {x y : Str} {t u : Tok} {Q : Value → Shared → Prop} (hx : x = txt a) (hy : y = txt b) (hl : a.length + b.length ≤ 1000000) (h : ∀ t' k, Q (.str (txt (a ++ b)) t') { s with toks := k }) :
    wpAny (model prog w) A (inplaceOp .Add (.str x t) (.str y u)) Q E s := by
  subst hx hy
  refine iadd_str (fun t' k => ?_) (by rw [txt_len, txt_len, sizeLine_eq]; omega)
  rw [txt_append]
  exact h t' k
end
theorem take_map {α β : Type} (f : α → β) {l : List α} {i : Nat} {x : α} (h : l[i]? = some x) : (l.take (i + 1)).map f = (l.take i).map f ++ [f x] := by simp [List.take_add_one, h]
theorem sg3_ne (k : Int) : sg3 k ≠ 46 := by
  unfold sg3
  split
  · decide
  · split <;> decide
theorem pr1_bd (k : Int) : 1 ≤ pr1 k ∧ pr1 k ≤ 4 := by
  have h1 := Int.fmod_nonneg_of_pos (k.fdiv 3) (b := 4) (by decide)
  have h2 := Int.fmod_lt_of_pos (k.fdiv 3) (b := 4) (by decide)
  unfold pr1
  omega
theorem take_snoc {α : Type} {l : List α} {i : Nat} {x : α} (h : l[i]? = some x) : l.take (i + 1) = l.take i ++ [x] := by simp [List.take_add_one, h]
end Mine
end
section
open PySem PySem.W PyProof.Rows
set_option Elab.async false
namespace Mine
/-- sum(prices) + mark * len(prices) + 1 -/
@[irreducible] def topOf (P : List Int) (M : Int) : Int := P.sum + M * P.length + 1
theorem topOf_eq (P : List Int) (M : Int) : P.sum + M * P.length + 1 = topOf P M := by unfold topOf; rfl
/-- one place more: of the mask k -/
def stpGo (X : List Nat) (P : List Int) (M : Int) (k i : Nat) (q : Pat × Int × Bool) : Pat × Int × Bool :=
  if k / 2 ^ i % 2 = 1 then (if q.2.2 then (q.1, q.2.1 + P.getD i 0, true) else (q.1 ++ [none], q.2.1 + P.getD i 0 + M, true))
  else (q.1 ++ [some (X.getD i 0)], q.2.1, false)
def stp0 (X : List Nat) (P : List Int) (M : Int) (k : Nat) : Nat → Pat × Int × Bool
  | 0 => ([], 0, false)
  | i + 1 => stpGo X P M k i (stp0 X P M k i)
/-- the form so far, its cost, whether the last sign was left out: of the mask k, behind i places -/
@[irreducible] def stp (X : List Nat) (P : List Int) (M : Int) (k i : Nat) : Pat × Int × Bool := stp0 X P M k i
theorem stp_zero (X : List Nat) (P : List Int) (M : Int) (k : Nat) : stp X P M k 0 = ([], 0, false) := by unfold stp; rfl
theorem stp_succ (X : List Nat) (P : List Int) (M : Int) (k i : Nat) : stp X P M k (i + 1) = stpGo X P M k i (stp X P M k i) := by unfold stp; rfl
@[irreducible] def fitOf (X : List Nat) (P : List Int) (M : Int) (Y : List Nat) (k : Nat) : Bool := pm (stp X P M k X.length).1 Y
@[irreducible] def costOf (X : List Nat) (P : List Int) (M : Int) (k : Nat) : Int := (stp X P M k X.length).2.1
def lst0 (X : List Nat) (P : List Int) (M : Int) (Y : List Nat) : Nat → Int
  | 0 => topOf P M
  | i + 1 => if fitOf X P M Y i = true ∧ costOf X P M i < lst0 X P M Y i then costOf X P M i else lst0 X P M Y i
/-- the least cost among the masks below i -/
@[irreducible] def lst (X : List Nat) (P : List Int) (M : Int) (Y : List Nat) (i : Nat) : Int := lst0 X P M Y i
theorem lst_zero (X : List Nat) (P : List Int) (M : Int) (Y : List Nat) : lst X P M Y 0 = topOf P M := by unfold lst; rfl
theorem lst_succ (X : List Nat) (P : List Int) (M : Int) (Y : List Nat) (i : Nat) : lst X P M Y (i + 1) = if fitOf X P M Y i = true ∧ costOf X P M i < lst X P M Y i then costOf X P M i else lst X P M Y i := by unfold lst; rfl
def InnerJ (X : List Nat) (P : List Int) (M : Int) (k : Nat) (nx₀ : List (Addr × Obj)) (m₀ : Str → Option Value) (j : Nat) (m : Str → Option Value) (nx : List (Addr × Obj)) : Prop :=
  ∃ tf tc up, m = (fun z => if z = Str.ofString "form" then some (.str (txt (render (stp X P M k j).1)) tf) else if z = Str.ofString "cost" then some (.int (stp X P M k j).2.1 tc) else if z = Str.ofString "dotted" then some (.bool (stp X P M k j).2.2) else if z = Str.ofString "place" then up else m₀ z) ∧ nx = nx₀
theorem InnerJ.intro {X : List Nat} {P : List Int} {M : Int} {k j : Nat} {nx₀ nx : List (Addr × Obj)} {m₀ m : Str → Option Value} {x : Str} {y : Int} {b : Bool} {tf tc : Tok} {q : Pat × Int × Bool} (e : stp X P M k j = q)
    (hf : m (Str.ofString "form") = some (.str x tf)) (hx : x = txt (render q.1)) (hc : m (Str.ofString "cost") = some (.int y tc)) (hy : y = q.2.1) (hd : m (Str.ofString "dotted") = some (.bool b)) (hb : b = q.2.2)
    (h : ∀ z, z ≠ Str.ofString "form" → z ≠ Str.ofString "cost" → z ≠ Str.ofString "dotted" → z ≠ Str.ofString "place" → m z = m₀ z) (hn : nx = nx₀) : InnerJ X P M k nx₀ m₀ j m nx := by
  subst hx hy hb e
  exact ⟨tf, tc, m (Str.ofString "place"), map_ext4 (a := Str.ofString "form") (b := Str.ofString "cost") (c := Str.ofString "dotted") (d := Str.ofString "place") hf hc hd rfl (fun z h1 h2 h3 h4 => by simp only [if_neg h1, if_neg h2, if_neg h3, if_neg h4]; exact h z h1 h2 h3 h4), hn⟩
def MaskJ (X : List Nat) (P : List Int) (M : Int) (Y : List Nat) (aF aP : Addr) (oP : Obj) (m₀ : Str → Option Value) (i : Nat) (m : Str → Option Value) (nx : List (Addr × Obj)) : Prop :=
  ∃ tl uf uc ud up ut um cnt, m = (fun z => if z = Str.ofString "least" then some (.int (lst X P M Y i) tl) else if z = Str.ofString "form" then uf else if z = Str.ofString "cost" then uc else if z = Str.ofString "dotted" then ud else if z = Str.ofString "place" then up else if z = Str.ofString "fit" then ut else if z = Str.ofString "mask" then um else m₀ z) ∧
    nx = [(aF, listOf ((List.range i).map fun k => Value.bool (fitOf X P M Y k)).toArray cnt), (aP, oP)]
theorem MaskJ.intro {X : List Nat} {P : List Int} {M : Int} {Y : List Nat} {aF aP : Addr} {oP : Obj} {m₀ m : Str → Option Value} {i : Nat} {nx : List (Addr × Obj)} {v : Int} {tl : Tok} {its : List Value} {cnt : Nat} (hl : m (Str.ofString "least") = some (.int v tl)) (hv : v = lst X P M Y i)
    (h : ∀ z, z ≠ Str.ofString "least" → z ≠ Str.ofString "form" → z ≠ Str.ofString "cost" → z ≠ Str.ofString "dotted" → z ≠ Str.ofString "place" → z ≠ Str.ofString "fit" → z ≠ Str.ofString "mask" → m z = m₀ z)
    (hi : its = (List.range i).map fun k => Value.bool (fitOf X P M Y k)) (hn : nx = [(aF, listOf its.toArray cnt), (aP, oP)]) : MaskJ X P M Y aF aP oP m₀ i m nx := by
  subst hv hi
  exact ⟨tl, _, _, _, _, _, _, cnt, map_ext7 (a := Str.ofString "least") (b := Str.ofString "form") (c := Str.ofString "cost") (d := Str.ofString "dotted") (e := Str.ofString "place") (f := Str.ofString "fit") (g := Str.ofString "mask") hl rfl rfl rfl rfl rfl rfl
    (fun z h1 h2 h3 h4 h5 h6 h7 => by simp only [if_neg h1, if_neg h2, if_neg h3, if_neg h4, if_neg h5, if_neg h6, if_neg h7]; exact h z h1 h2 h3 h4 h5 h6 h7), hn⟩
section
variable {X : List Nat} {P : List Int} {M : Int} {Y : List Nat} {k i : Nat}
theorem stp_in (h : ((k / 2 ^ i % 2 : Nat) : Int) ≠ 0) (hd : (stp X P M k i).2.2 = true) : stp X P M k (i + 1) = ((stp X P M k i).1, (stp X P M k i).2.1 + P.getD i 0, true) := by
  have h' : k / 2 ^ i % 2 = 1 := by omega
  rw [stp_succ]
  unfold stpGo
  rw [if_pos h', if_pos hd]
theorem stp_new (h : ((k / 2 ^ i % 2 : Nat) : Int) ≠ 0) (hd : (stp X P M k i).2.2 = false) : stp X P M k (i + 1) = ((stp X P M k i).1 ++ [none], (stp X P M k i).2.1 + P.getD i 0 + M, true) := by
  have h' : k / 2 ^ i % 2 = 1 := by omega
  rw [stp_succ]
  unfold stpGo
  rw [if_pos h', if_neg (by rw [hd]; simp)]
theorem stp_keep (h : ((k / 2 ^ i % 2 : Nat) : Int) = 0) : stp X P M k (i + 1) = ((stp X P M k i).1 ++ [some (X.getD i 0)], (stp X P M k i).2.1, false) := by
  have h' : ¬ k / 2 ^ i % 2 = 1 := by omega
  rw [stp_succ]
  unfold stpGo
  rw [if_neg h']
theorem fitOf_eq : fitOf X P M Y k = pm (stp X P M k X.length).1 Y := by unfold fitOf; rfl
theorem costOf_eq : costOf X P M k = (stp X P M k X.length).2.1 := by unfold costOf; rfl
theorem lst_no (h : pm (stp X P M k X.length).1 Y = false) : lst X P M Y k = lst X P M Y (k + 1) := by
  rw [lst_succ, fitOf_eq, h, if_neg (by simp)]
theorem lst_lt (h : pm (stp X P M k X.length).1 Y = true) (hl : (stp X P M k X.length).2.1 < lst X P M Y k) : (stp X P M k X.length).2.1 = lst X P M Y (k + 1) := by
  rw [lst_succ, fitOf_eq, costOf_eq, if_pos ⟨h, hl⟩]
theorem lst_ge (hl : ¬ (stp X P M k X.length).2.1 < lst X P M Y k) : lst X P M Y k = lst X P M Y (k + 1) := by
  rw [lst_succ, costOf_eq, if_neg (fun h => hl h.2)]
theorem fits_snoc {b : Bool} (h : pm (stp X P M k X.length).1 Y = b) : ((List.range k).map fun j => Value.bool (fitOf X P M Y j)) ++ [Value.bool b] = (List.range (k + 1)).map fun j => Value.bool (fitOf X P M Y j) := by
  rw [List.range_succ, List.map_append, ← h, ← fitOf_eq]
  rfl
theorem render_append : ∀ (p q : Pat), render (p ++ q) = render p ++ render q
  | [], _ => rfl
  | none :: p, q => by simp [render, render_append p q]
  | some c :: p, q => by simp [render, render_append p q]
theorem stp_clean (hX : ∀ c ∈ X, c ≠ 46) : ∀ i, i ≤ X.length → clean (stp X P M k i).1
  | 0, _ => by rw [stp_zero]; simp [clean]
  | i + 1, h => by
    have ih := stp_clean hX i (by omega)
    unfold clean at ih ⊢
    rw [stp_succ]
    unfold stpGo
    split
    · split
      · exact ih
      · simpa using ih
    · have hne : X.getD i 0 ≠ 46 := by
        have hi : i < X.length := by omega
        have : X.getD i 0 = X[i] := by simp [List.getD, hi]
        rw [this]
        exact hX _ (List.getElem_mem hi)
      simp only [List.mem_append, List.mem_singleton, not_or]
      exact ⟨ih, fun h => hne (Option.some.inj h).symm⟩
theorem stp_len : ∀ i, (render (stp X P M k i).1).length ≤ 3 * i
  | 0 => by rw [stp_zero]; simp [render]
  | i + 1 => by
    have ih := stp_len i
    rw [stp_succ]
    unfold stpGo
    split
    · split
      · show (render (stp X P M k i).1).length ≤ _
        omega
      · show (render ((stp X P M k i).1 ++ [none])).length ≤ _
        rw [render_append, List.length_append]
        simp only [render, List.length_cons, List.length_nil]
        omega
    · show (render ((stp X P M k i).1 ++ [some (X.getD i 0)])).length ≤ _
      rw [render_append, List.length_append]
      simp only [render, List.length_cons, List.length_nil]
      omega
end
end Mine
end
section
open PySem PySem.W PyProof.Rows PySem.Spec PySem.Calls
set_option Elab.async false
set_option maxRecDepth 100000
set_option maxHeartbeats 4000000
namespace Mine
section
variable {prog : Program} {w : World} {A : Around} {E : Value → Shared → Prop} {s : Shared} {h₀ : Heap} {L : Addr} {m : Str → Option Value} {news news' : List (Addr × Obj)} {Q : Value → Shared → Prop}
theorem len_txt {X : List Nat} {t : Tok} (hl : X.length ≤ 1000000) (h : ∀ t' k', Q (.int (X.length : Int) t') { s with toks := k' }) : wpAny (model prog w) A (call (.builtin "len") [.str (txt X) t]) Q E s := by
  refine PyProof.Rows.len_str (by rw [txt_len]; omega) ?_
  rw [txt_len]
  exact h _ _
theorem shl_one {n : Nat} {t u : Tok} (hn : n ≤ 1000) (h : ∀ t' k', Q (.int ((2 ^ n : Nat) : Int) t') { s with toks := k' }) : wpAny (model prog w) A (binaryOp .LShift (.int 1 t) (.int (n : Int) u)) Q E s := by
  refine lshift_int_small (by omega) (by omega) (by decide) ?_
  have e : (1 : Int) * 2 ^ (n : Int).toNat = ((2 ^ n : Nat) : Int) := by
    rw [Int.one_mul, Int.toNat_natCast, kbt_cast]
  rw [e]
  exact h _ _
theorem shr_nat {k n : Nat} {t u : Tok} (h : ∀ t' k', Q (.int ((k / 2 ^ n : Nat) : Int) t') { s with toks := k' }) : wpAny (model prog w) A (binaryOp .RShift (.int (k : Int) t) (.int (n : Int) u)) Q E s := by
  refine rshift_int (by omega) ?_
  have e : (k : Int).fdiv (2 ^ (n : Int).toNat) = ((k / 2 ^ n : Nat) : Int) := by
    rw [Int.toNat_natCast, ← kbt_cast]
    exact (Int.ofNat_fdiv k (2 ^ n)).symm
  rw [e]
  exact h _ _
theorem and_one {k : Nat} {t u : Tok} (h : ∀ t' k', Q (.int ((k % 2 : Nat) : Int) t') { s with toks := k' }) : wpAny (model prog w) A (binaryOp .BitAnd (.int (k : Int) t) (.int 1 u)) Q E s := by
  refine and_int ?_
  rw [bitAnd_m1]
  have e : (k : Int) % 2 = ((k % 2 : Nat) : Int) := by omega
  rw [e]
  exact h _ _
theorem bitOr_nat (a b : Nat) : Builtin.bitOr (a : Int) (b : Int) = ((a ||| b : Nat) : Int) := by
  unfold Builtin.bitOr
  have h1 : Builtin.bitNot (a : Int) = -(a : Int) - 1 := by unfold Builtin.bitNot; omega
  have h2 : Builtin.bitNot (b : Int) = -(b : Int) - 1 := by unfold Builtin.bitNot; omega
  have ha : ¬ (0 ≤ -(a : Int) - 1) := by omega
  have hb : ¬ (0 ≤ -(b : Int) - 1) := by omega
  rw [h1, h2]
  unfold Builtin.bitAnd
  rw [decide_eq_false ha, decide_eq_false hb]
  dsimp only
  have h3 : (Builtin.bitNot (-(a : Int) - 1)).toNat = a := by unfold Builtin.bitNot; omega
  have h4 : (Builtin.bitNot (-(b : Int) - 1)).toNat = b := by unfold Builtin.bitNot; omega
  rw [h3, h4]
  unfold Builtin.bitNot
  omega
theorem or_nat {a b : Nat} {t u : Tok} (h : ∀ t' k', Q (.int ((a ||| b : Nat) : Int) t') { s with toks := k' }) : wpAny (model prog w) A (binaryOp .BitOr (.int (a : Int) t) (.int (b : Int) u)) Q E s := by
  refine or_int ?_
  rw [bitOr_nat]
  exact h _ _
/-- an int out of a made list of ints, at a place told as a natural number -/
theorem int_item {value slice : PySem.Expr} {l : Addr} {its : List Value} {P : List Int} {n i : Nat} {u : Tok} (N : News h₀ L s.heap news) (hm : (l, listOf its.toArray n) ∈ news) (hI : IntsAre its P)
    (hi : i < P.length) (hb : i ≤ 1000000) (h : ∀ t', Q (.int (P.getD i 0) t') s)
    (hs : subscripted slice false (.ref l) (.int (i : Int) u) = operate [.ref l, .int (i : Int) u] (getItem (.ref l) (.int (i : Int) u)) := by with_unfolding_all rfl) (hg : ∀ r, letTemporaryGo value (.ref l) r = pure () := by intro _; with_unfolding_all rfl) :
    wpAny (model prog w) A (subscriptTail value slice (.ref l) (.int (i : Int) u)) Q E s := by
  obtain ⟨t', ht⟩ := hI.get i (P.getD i 0) (by simp [List.getD, hi])
  exact item_made N hm (by omega) (by omega) (by simpa using ht) (h t') hs hg
/-- any item of a made list, at a place told as a natural number -/
theorem any_item {value slice : PySem.Expr} {l : Addr} {its : List Value} {v : Value} {n i : Nat} {u : Tok} (N : News h₀ L s.heap news) (hm : (l, listOf its.toArray n) ∈ news)
    (hv : its[i]? = some v) (hb : i ≤ 1000000) (h : Q v s)
    (hs : subscripted slice false (.ref l) (.int (i : Int) u) = operate [.ref l, .int (i : Int) u] (getItem (.ref l) (.int (i : Int) u)) := by with_unfolding_all rfl) (hg : ∀ r, letTemporaryGo value (.ref l) r = pure () := by intro _; with_unfolding_all rfl) :
    wpAny (model prog w) A (subscriptTail value slice (.ref l) (.int (i : Int) u)) Q E s :=
  item_made N hm (by omega) (by omega) (by simpa using hv) h hs hg
/-- a sign of a text, at a place told as a natural number -/
theorem sign_item {value slice : PySem.Expr} {X : List Nat} {i : Nat} {t u : Tok} (hi : i < X.length) (hb : X.length ≤ 1000000) (h : ∀ t' k', Q (.str (txt [X.getD i 0]) t') { s with toks := k' })
    (hs : subscripted slice false (.str (txt X) t) (.int (i : Int) u) = operate [.str (txt X) t, .int (i : Int) u] (getItem (.str (txt X) t) (.int (i : Int) u)) := by with_unfolding_all rfl)
    (ht : ∀ r, letTemporaryGo value (.str (txt X) t) r = pure () := by intro _; with_unfolding_all rfl) :
    wpAny (model prog w) A (subscriptTail value slice (.str (txt X) t) (.int (i : Int) u)) Q E s := by
  refine KXi.item (n := X.length) (txt_len X) (by omega) (by omega) (by omega) (fun _ => ?_) hs ht
  rw [item_txt (by omega) (by omega), Int.toNat_natCast]
  exact h _ _
end
end Mine
end
section
open PySem PySem.W PyProof.Rows PySem.Spec PySem.Calls
set_option Elab.async false
set_option maxRecDepth 100000
set_option maxHeartbeats 4000000
namespace Mine
/-! a list comprehension of two clauses -/
abbrev lc2 (elt t1 i1 t2 i2 : Expr) (scope : Scope) (pos : Pos) : Expr := .ListComp elt [⟨t1, i1, [], 0⟩, ⟨t2, i2, [], 0⟩] scope pos
theorem turn2_0 (elt t1 i1 t2 i2 : Expr) (scope : Scope) (pos : Pos) (it acc : Value) (env : Env) :
    compTurn (lc2 elt t1 i1 t2 i2 scope pos) 0 it acc env = (standAt i1.pos >>= fun _ => pyNext it >>= fun r => match r with
      | none => pure (.done .next)
      | some v => letOwnedTupleGo t1 it v >>= fun _ => assign t1 env v >>= fun _ =>
        eval i2 env >>= fun x => standAt i2.pos >>= fun _ => foldedSetIterable i2 env x >>= fun x => holding [x] (pyIter x) >>= fun j => runOwn (.compStart (lc2 elt t1 i1 t2 i2 scope pos) 1 j acc env) env >>= fun _ =>
          again (.compLoop (lc2 elt t1 i1 t2 i2 scope pos) 0 it acc env)) := by rfl
theorem turn2_1 (elt t1 i1 t2 i2 : Expr) (scope : Scope) (pos : Pos) (it acc : Value) (env : Env) :
    compTurn (lc2 elt t1 i1 t2 i2 scope pos) 1 it acc env = (standAt i2.pos >>= fun _ => pyNext it >>= fun r => match r with
      | none => pure (.done .next)
      | some v => letOwnedTupleGo t2 it v >>= fun _ => assign t2 env v >>= fun _ =>
        (eval elt env >>= fun x => call (.builtin "list.append") [acc, x] >>= fun _ => pure ()) >>= fun _ =>
          again (.compLoop (lc2 elt t1 i1 t2 i2 scope pos) 1 it acc env)) := by rfl
section
variable {prog : Program} {w : World} {A : Around} {R : Result → Shared → Prop} {s : Shared} {elt t1 i1 t2 i2 : Expr} {scope : Scope} {pos : Pos} {it acc : Value} {env : Env}
abbrev nb (prog : Program) (w : World) (A : Around) (env : Env) (R : Result → Shared → Prop) : Value → Shared → Prop := notedBy (model prog w) A env fun e s' => R (.error e) s'
theorem loop2_1 (I : Nat → Shared → Prop)
    (turn : ∀ n s, I n s → wpAny (model prog w) A (pyNext it) (fun r s₁ => match r with
      | none => R (.ok .next) s₁
      | some v => wpAny (model prog w) A (assign t2 env v) (fun _ s₂ => wpAny (model prog w) A (eval elt env) (fun x s₃ =>
          wpAny (model prog w) A (call (.builtin "list.append") [acc, x]) (fun _ s₄ => ∃ m, m < n ∧ I m s₄) (nb prog w A env R) s₃) (nb prog w A env R) s₂) (nb prog w A env R) s₁) (nb prog w A env R) s)
    (n : Nat) (h : I n s) (ht : ∀ v, letOwnedTupleGo t2 it v = pure () := by intro _; rfl) :
    codeAny (model prog w) A (.compLoop (lc2 elt t1 i1 t2 i2 scope pos) 1 it acc env) R s := by
  refine codeAny_loop rfl I (fun n s hI => ?_) n h
  show wpAny _ _ ((compTurn (lc2 elt t1 i1 t2 i2 scope pos) 1 it acc env).onRaise (fun x => do noteFrame x env; theTreesLotGoes x)) _ _ s
  refine wpAny_noted ?_
  rw [turn2_1]
  refine wpAny_bind (wpAny_standAt (wpAny_bind (wpAny_mono (turn n s hI) (fun r s₁ h₁ => ?_) fun _ _ x => x)))
  cases r with
  | none => exact wpAny_pure h₁
  | some v =>
    refine wpAny_bind (wpAny_of_eq (ht v) (wpAny_bind (wpAny_mono h₁ (fun _ s₂ h₂ => ?_) fun _ _ x => x)))
    refine wpAny_bind (wpAny_bind (wpAny_mono h₂ (fun x s₃ h₃ => ?_) fun _ _ x => x))
    exact wpAny_bind (wpAny_mono h₃ (fun _ s₄ h₄ => wpAny_pure (wpAny_pure ⟨rfl, h₄⟩)) fun _ _ x => x)
theorem loop2_0 (I : Nat → Shared → Prop)
    (turn : ∀ n s, I n s → wpAny (model prog w) A (pyNext it) (fun r s₁ => match r with
      | none => R (.ok .next) s₁
      | some v => wpAny (model prog w) A (assign t1 env v) (fun _ s₂ => wpAny (model prog w) A (eval i2 env) (fun x s₃ => wpAny (model prog w) A (pyIter x) (fun j s₄ =>
          codeAny (model prog w) A (.compStart (lc2 elt t1 i1 t2 i2 scope pos) 1 j acc env) (fun r s₅ => match r with | .ok _ => ∃ m, m < n ∧ I m s₅ | .error _ => False) s₄) (nb prog w A env R) s₃) (nb prog w A env R) s₂) (nb prog w A env R) s₁) (nb prog w A env R) s)
    (n : Nat) (h : I n s) (ht : ∀ v, letOwnedTupleGo t1 it v = pure () := by intro _; rfl) (hs : ∀ x, foldedSetIterable i2 env x = pure x := by intro _; rfl) :
    codeAny (model prog w) A (.compLoop (lc2 elt t1 i1 t2 i2 scope pos) 0 it acc env) R s := by
  refine codeAny_loop rfl I (fun n s hI => ?_) n h
  show wpAny _ _ ((compTurn (lc2 elt t1 i1 t2 i2 scope pos) 0 it acc env).onRaise (fun x => do noteFrame x env; theTreesLotGoes x)) _ _ s
  refine wpAny_noted ?_
  rw [turn2_0]
  refine wpAny_bind (wpAny_standAt (wpAny_bind (wpAny_mono (turn n s hI) (fun r s₁ h₁ => ?_) fun _ _ x => x)))
  cases r with
  | none => exact wpAny_pure h₁
  | some v =>
    refine wpAny_bind (wpAny_of_eq (ht v) (wpAny_bind (wpAny_mono h₁ (fun _ s₂ h₂ => ?_) fun _ _ x => x)))
    refine wpAny_bind (wpAny_mono h₂ (fun x s₃ h₃ => ?_) fun _ _ x => x)
    refine wpAny_bind (wpAny_standAt (wpAny_bind (wpAny_of_eq (hs x) (wpAny_bind (wpAny_holding (wpAny_mono h₃ (fun j s₄ h₄ => ?_) fun _ _ x => x))))))
    refine wpAny_bind (wpAny_runOwn (codeAny_mono h₄ (fun r s₅ h₅ => ?_)))
    cases r with
    | ok f => exact wpAny_pure ⟨rfl, h₅⟩
    | error e => exact h₅.elim
theorem start2_1 (h0 : codeAny (model prog w) A (.compLoop (lc2 elt t1 i1 t2 i2 scope pos) 1 it acc env) R s)
    (h : wpAny (model prog w) A (pyIter it) (fun it' s' => codeAny (model prog w) A (.compLoop (lc2 elt t1 i1 t2 i2 scope pos) 1 it' acc env) R s') (nb prog w A env R) s) :
    codeAny (model prog w) A (.compStart (lc2 elt t1 i1 t2 i2 scope pos) 1 it acc env) R s := by
  refine codeAny_of_tree ?_
  show wpAny _ _ ((compStart (lc2 elt t1 i1 t2 i2 scope pos) 1 it acc env).onRaise (fun x => do noteFrame x env; standAt theWindowsPlace)) _ _ s
  refine wpAny_notedAt ?_
  unfold compStart
  show wpAny _ _ (ask >>= _) _ _ s
  refine wpAny_bind (wpAny_askSetting (wpAny_ite ?_))
  split
  · first
      | exact wpAny_bind (wpAny_pure (wpAny_pure (And.intro rfl h0)))
      | exact wpAny_pure (And.intro rfl h0)
  · refine wpAny_bind (wpAny_rule ?_)
    show wpAny _ _ (standAt i2.pos >>= _) _ _ s
    exact wpAny_bind (wpAny_standAt (wpAny_bind (wpAny_mono h (fun it' s' h' => wpAny_pure (And.intro rfl h')) fun _ _ x => x)))
end
end Mine
end
section
open PySem PySem.W PyProof.Rows PySem.Spec PySem.Calls
set_option Elab.async false
set_option maxRecDepth 100000
set_option maxHeartbeats 4000000
namespace Mine
theorem strs_snoc {vs : List Value} {xs : List Str} {x : Str} {t : Tok} (h : StrsAre vs xs) : StrsAre (vs ++ [.str x t]) (xs ++ [x]) := kct_snoc h
section
variable {prog : Program} {w : World} {A : Around} {R : Result → Shared → Prop} {s : Shared} {elt t1 i1 i2 : Expr} {scope : Scope} {pos py : Pos} {env : Env} {cl : List (Str × Addr)} {x y : Str}
theorem inner2 {I2 D C aA : Addr} {ws acc₀ : List Value} {ys as : List Str} {xv : Str} {tx : Tok} {m : Str → Option Value}
    (hh : A.handled = none) (hy : (compEnvC scope cl C env).kindOf y = some .local)
    (hp : ((compEnvC scope cl C env).scope.kind == .class || ((compEnvC scope cl C env).scope.kind == .module && (compEnvC scope cl C env).locals != (compEnvC scope cl C env).globals)) = false)
    (hDC : D ≠ C) (hDI : D ≠ I2) (hCI : C ≠ I2) (haI : aA ≠ I2) (haC : aA ≠ C) (haD : aA ≠ D) (hxy : x ≠ y)
    (hit : s.heap.IsListIter I2 aA 0) (hl : s.heap.IsList aA ws.toArray) (hW : StrsAre ws ys) (hacc : s.heap.PlainList D acc₀.toArray) (hA : StrsAre acc₀ as) (hn : s.heap.Ns C m) (hx : m x = some (.str xv tx))
    (helt : ∀ yv ty (s' : Shared) m' (Q : Value → Shared → Prop) (E' : Value → Shared → Prop), yv ∈ ys → s'.heap.Ns C m' → m' x = some (.str xv tx) → m' y = some (.str yv ty) → (∀ tk tr, Q (.str (xv ++ yv) tr) { s' with toks := tk }) →
      wpAny (model prog w) A (eval elt (compEnvC scope cl C env)) Q E' s')
    (hsz : acc₀.length + ws.length ≤ sizeLine)
    (hR : ∀ h' tk m' zs, h'.Ns C m' → h'.PlainList D (List.toArray zs) → StrsAre zs (as ++ ys.map (xv ++ ·)) → zs.length = acc₀.length + ws.length → (∀ b o, b ≠ C → b ≠ I2 → b ≠ D → s.heap.get? b = some o → h'.get? b = some o) → R (.ok .next) { s with heap := h', toks := tk }) :
    codeAny (model prog w) A (.compStart (lc2 elt t1 i1 (.Name y py) i2 scope pos) 1 (.ref I2) (.ref D) (compEnvC scope cl C env)) R s := by
  have loop : codeAny (model prog w) A (.compLoop (lc2 elt t1 i1 (.Name y py) i2 scope pos) 1 (.ref I2) (.ref D) (compEnvC scope cl C env)) R s := by
    refine loop2_1 (fun k s' => ∃ h' tk m' j zs, s' = { s with heap := h', toks := tk } ∧ j ≤ ws.length ∧ k = ws.length + 1 - j ∧ h'.IsListIter I2 aA j ∧ h'.IsList aA ws.toArray ∧ h'.Ns C m' ∧ m' x = some (.str xv tx) ∧
      h'.PlainList D (List.toArray zs) ∧ zs.length = acc₀.length + j ∧ StrsAre zs (as ++ (ys.take j).map (xv ++ ·)) ∧ (∀ b o, b ≠ C → b ≠ I2 → b ≠ D → s.heap.get? b = some o → h'.get? b = some o)) ?_ (ws.length + 1)
      ⟨s.heap, s.toks, m, 0, acc₀, rfl, Nat.zero_le _, rfl, hit, hl, hn, hx, hacc, rfl, by simpa using hA, fun _ _ _ _ _ e => e⟩
    rintro k s' ⟨h', tk, m', j, zs, rfl, hj, rfl, hit', hl', hn', hx', hacc', hzl, hz, hk⟩
    by_cases hlt : j < ws.length
    · have hjs : j < ws.toArray.size := by simpa using hlt
      refine wpAny_pyNext_list_item hit' hl' (x := ws[j]) (by simp [hlt]) fun h₁ hit₁ hs₁ => ?_
      obtain ⟨yv, ty, hyv, hys⟩ := hW.item j ws[j] (by simp [hlt])
      rw [hyv]
      refine wpAny_assign_Name (wpAny_storeName_local hy (hn'.extBut hs₁.extBut hCI) (fun h₂ hn₂ hs₂ => ?_) hp)
      dsimp only at hn₂ hs₂ ⊢
      refine helt yv ty _ _ _ _ (List.mem_of_getElem? hys) hn₂ (by rw [if_neg hxy]; exact hx') (by simp) fun tk₃ tr => ?_
      have hacc₂ : h₂.PlainList D (List.toArray zs) := (hacc'.extBut hs₁.extBut hDI).extBut hs₂.extBut hDC
      refine wpAny_list_append_plain (hsz := by rw [List.size_toArray]; omega) hacc₂ fun h₃ hacc₃ hs₃ => ?_
      refine ⟨ws.length + 1 - (j + 1), by omega, h₃, tk₃, _, j + 1, zs ++ [.str (xv ++ yv) tr], rfl, hlt, rfl, ?_, ?_, hn₂.sameBut hs₃ (Ne.symm hDC), by rw [if_neg hxy]; exact hx', ?_, ?_, ?_, ?_⟩
      · exact (hit₁.extBut hs₂.extBut (Ne.symm hCI)).extBut hs₃.extBut (Ne.symm hDI)
      · exact ((hl'.extBut hs₁.extBut haI).extBut hs₂.extBut haC).extBut hs₃.extBut haD
      · simpa using hacc₃
      · rw [List.length_append, hzl]; simp; omega
      · have h4 := strs_snoc (x := xv ++ yv) (t := tr) hz
        have e : as ++ (ys.take (j + 1)).map (xv ++ ·) = as ++ (ys.take j).map (xv ++ ·) ++ [xv ++ yv] := by
          rw [List.take_add_one, hys]
          simp
        rw [e]
        exact h4
      · intro b o hbC hbI hbD e
        exact hs₃.extBut b o hbD (hs₂.extBut b o hbC (hs₁.extBut b o hbI (hk b o hbC hbI hbD e)))
    · have hje : j = ws.length := by omega
      subst hje
      refine wpAny_pyNext_list_end hh hit' hl' (by simp) fun h₁ he₁ => ?_
      have hlen : ys.length = ws.length := hW.length.symm
      rw [← hlen, List.take_length] at hz
      refine hR h₁ tk m' zs (hn'.at' fun o e => he₁ _ o hCI e) (hacc'.at fun o e => he₁ _ o hDI e) hz hzl fun b o hbC hbI hbD e => he₁ b o hbI (hk b o hbC hbI hbD e)
  exact start2_1 loop (wpAny_pyIter_listiter hit loop)
end
end Mine
end
section
open PySem PySem.W PyProof.Rows PySem.Spec PySem.Calls
set_option Elab.async false
set_option maxRecDepth 100000
set_option maxHeartbeats 4000000
namespace Mine
section
variable {prog : Program} {w : World} {A : Around} {E : Value → Shared → Prop} {s : Shared} {elt i1 i2 : Expr} {scope : Scope} {pos px py : Pos} {env : Env} {cl : List (Str × Addr)} {x y : Str}
theorem outer2 {s₂ : Shared} {I ax aA cc : Addr} {oc : Obj} {vs ws : List Value} {xs ys : List Str} {RR : Value → Addr → Result → Shared → Prop}
    (hh : A.handled = none) (hcell : ∀ z ∈ scope.names, z.2 ≠ .cell) (hkind : scope.kind = .function) (hx : scope.names.lookup x = some .local) (hy : scope.names.lookup y = some .local) (hxy : x ≠ y)
    (hit : s₂.heap.IsListIter I ax 0) (haI : ax ≠ I) (hl : s₂.heap.IsList ax vs.toArray) (hV : StrsAre vs xs) (hcc : s₂.heap.get? cc = some oc) (hcI : cc ≠ I) (hlA : s₂.heap.IsList aA ws.toArray) (hAI : aA ≠ I) (hW : StrsAre ws ys)
    (hi2 : ∀ C (s' : Shared) (Q : Value → Shared → Prop) (E' : Value → Shared → Prop), s'.heap.get? cc = some oc → Q (.ref aA) s' → wpAny (model prog w) A (eval i2 (compEnvC scope cl C env)) Q E' s')
    (helt : ∀ C xv tx yv ty (s' : Shared) m' (Q : Value → Shared → Prop) (E' : Value → Shared → Prop), xv ∈ xs → yv ∈ ys → s'.heap.Ns C m' → m' x = some (.str xv tx) → m' y = some (.str yv ty) → (∀ tk tr, Q (.str (xv ++ yv) tr) { s' with toks := tk }) →
      wpAny (model prog w) A (eval elt (compEnvC scope cl C env)) Q E' s')
    (hs2 : ∀ C x, foldedSetIterable i2 (compEnvC scope cl C env) x = pure x)
    (hsz : (vs.length + 1) * ws.length ≤ sizeLine)
    (hRR : ∀ D C h' tk m' zs, D = s₂.heap.objs.size → s₂.heap.get? D = none → s₂.heap.get? C = none → D ≠ C → h'.Ns C m' → h'.PlainList D (List.toArray zs) → StrsAre zs (xs.flatMap fun a => ys.map (a ++ ·)) → (∀ b o, b ≠ I → s₂.heap.get? b = some o → h'.get? b = some o) → RR (.ref D) C (.ok .next) { s₂ with heap := h', toks := tk }) :
    wpAny (model prog w) A (newList []) (fun acc s₃ => wpAny (model prog w) A (newFunctionEnv scope env.globals cl [] env.qual none .none (some env)) (fun cenv s₄ =>
      codeAny (model prog w) A (.compStart (lc2 elt (.Name x px) i1 (.Name y py) i2 scope pos) 0 (.ref I) acc { cenv with scope := relabel scope env }) (RR acc cenv.locals) s₄) E s₃) E s₂ := by
  refine wpAny_newObj_type (wpAny_newFunctionEnv hcell (by intro y hy; simp at hy) (fun h₁ hns₁ hsb₁ => ?_) hkind)
  dsimp only at hns₁ hsb₁ ⊢
  generalize hH2 : s₂.heap.push { cls := .type "list", dict := none, data := .seq ([] : List Value).toArray } = H2 at hns₁ hsb₁ ⊢
  generalize hDe : s₂.heap.objs.size = D at hns₁ hsb₁ ⊢
  have hC : H2.objs.size = D + 1 := by rw [← hH2, Heap.size_push, hDe]
  generalize hCe : H2.objs.size = C at hns₁ hsb₁ ⊢ hC
  have fresh : ∀ a, D ≤ a → s₂.heap.get? a = none := fun a ha => by
    cases e : s₂.heap.get? a with
    | none => rfl
    | some o' => exact absurd (Heap.lt_size e) (Nat.not_lt.mpr (hDe ▸ ha))
  have lt : ∀ b o, s₂.heap.get? b = some o → b < D := fun b o e => hDe ▸ Heap.lt_size e
  have hDC : D ≠ C := by rw [hC]; exact Nat.ne_of_lt (Nat.lt_succ_self _)
  have old : ∀ b o, s₂.heap.get? b = some o → h₁.get? b = some o := fun b o e => by
    have hb := lt b o e
    exact hsb₁.extBut b o (by rw [hC]; exact Nat.ne_of_lt (Nat.lt_succ_of_lt hb)) (Heap.get?_push_of_some _ (hH2 ▸ Heap.get?_push_of_some _ e))
  have hD2 : H2.get? D = some { cls := .type "list", dict := none, data := .seq ([] : List Value).toArray } := by
    rw [← hH2, ← hDe]
    exact Heap.get?_push_size _ rfl
  have hacc : h₁.PlainList D #[] := ⟨_, hsb₁.extBut D _ hDC (Heap.get?_push_of_some _ hD2)⟩
  obtain ⟨oI, hoI, rI⟩ := id hit
  obtain ⟨ol, hol, _⟩ := id hl
  obtain ⟨oA, hoA, _⟩ := id hlA
  have low : ∀ b o, s₂.heap.get? b = some o → b ≠ C ∧ b ≠ D := fun b o e => by
    have hb := lt b o e
    exact ⟨by rw [hC]; exact Nat.ne_of_lt (Nat.lt_succ_of_lt hb), Nat.ne_of_lt hb⟩
  have hxC : (compEnvC scope cl C env).kindOf x = some .local := lookup_relabel_local hx
  have hyC : (compEnvC scope cl C env).kindOf y = some .local := lookup_relabel_local hy
  have hpC : ((compEnvC scope cl C env).scope.kind == .class || ((compEnvC scope cl C env).scope.kind == .module && (compEnvC scope cl C env).locals != (compEnvC scope cl C env).globals)) = false := by simp [compEnvC, relabel, hkind]
  have loop : ∀ s₃ : Shared, s₃ = { s₂ with heap := h₁, toks := s₂.toks + ([] : List (Str × Value)).length } →
      codeAny (model prog w) A (.compLoop (lc2 elt (.Name x px) i1 (.Name y py) i2 scope pos) 0 (.ref I) (.ref D) (compEnvC scope cl C env)) (RR (.ref D) C) s₃ := by
    rintro s₃ rfl
    refine loop2_0 (fun k s' => ∃ h' tk m' i zs, s' = { s₂ with heap := h', toks := tk } ∧ i ≤ vs.length ∧ k = vs.length + 1 - i ∧ h'.IsListIter I ax i ∧ h'.Ns C m' ∧
        h'.PlainList D (List.toArray zs) ∧ zs.length = i * ws.length ∧ StrsAre zs ((xs.take i).flatMap fun a => ys.map (a ++ ·)) ∧ (∀ b o, b ≠ I → s₂.heap.get? b = some o → h'.get? b = some o)) ?_ (vs.length + 1)
      ⟨h₁, _, _, 0, [], rfl, Nat.zero_le _, rfl, ⟨oI, old _ _ hoI, rI⟩, hns₁, hacc, by simp, by simpa using StrsAre.nil, fun b o _ e => old b o e⟩ (hs := hs2 C)
    rintro k s' ⟨h', tk, m', i, zs, rfl, hi, rfl, hit', hn', hacc', hzl, hz, hk⟩
    have hl' : h'.IsList ax vs.toArray := hl.at fun o e => hk _ o haI e
    by_cases hlt : i < vs.length
    · refine wpAny_pyNext_list_item hit' hl' (x := vs[i]) (by simp [hlt]) fun h₂ hit₂ hs₂ => ?_
      obtain ⟨xv, tx, hxv, hxs⟩ := hV.item i vs[i] (by simp [hlt])
      rw [hxv]
      have hCI : C ≠ I := Ne.symm (low _ _ hoI).1
      refine wpAny_assign_Name (wpAny_storeName_local hxC (hn'.extBut hs₂.extBut hCI) (fun h₃ hn₃ hs₃ => ?_) hpC)
      dsimp only at hn₃ hs₃ ⊢
      have up₃ : ∀ b o, b ≠ I → s₂.heap.get? b = some o → h₃.get? b = some o := fun b o hb e => hs₃.extBut b o (low b o e).1 (hs₂.extBut b o hb (hk b o hb e))
      refine hi2 C _ _ _ (up₃ _ _ hcI hcc) ?_
      have hlA₃ : h₃.IsList aA ws.toArray := hlA.at fun o e => up₃ _ o hAI e
      refine wpAny_pyIter_list hlA₃ ?_
      dsimp only
      have hacc₃ : h₃.PlainList D (List.toArray zs) := (hacc'.extBut hs₂.extBut (Ne.symm (low _ _ hoI).2)).extBut hs₃.extBut hDC
      have hit₃ : h₃.IsListIter I ax (i + 1) := hit₂.extBut hs₃.extBut (Ne.symm hCI)
      have lt₃ : ∀ b o, h₃.get? b = some o → b ≠ h₃.objs.size := fun b o e => Nat.ne_of_lt (Heap.lt_size e)
      obtain ⟨oI₃, hoI₃, rI₃⟩ := id hit₃
      obtain ⟨nD, hD₃⟩ := id hacc₃
      obtain ⟨oC, eC1, eC2, hC₃, rC₃⟩ := id hn₃
      obtain ⟨oA₃, hA₃, rA₃⟩ := id hlA₃
      have push : ∀ b o, h₃.get? b = some o → (h₃.push { cls := .type "list_iterator", data := .fields #[.ref aA, .int 0 0] }).get? b = some o := fun b o e => Heap.get?_push_of_some _ e
      refine inner2 (xv := xv) (tx := tx) (ws := ws) (ys := ys) (as := (xs.take i).flatMap fun a => ys.map (a ++ ·)) (acc₀ := zs) (aA := aA) hh hyC hpC hDC (lt₃ _ _ hD₃) (lt₃ _ _ hC₃) (lt₃ _ _ hA₃) (low _ _ hoA).1 (low _ _ hoA).2 hxy
        ⟨_, Heap.get?_push_size _ rfl, rfl, rfl⟩ (hlA₃.push _) hW (hacc₃.at fun o e => push _ o e) hz (hn₃.at' fun o e => push _ o e) (by simp) ?_ ?_ ?_
      · intro yv ty s' m' Q E' hyv hns hm1 hm2 hQ
        exact helt C xv tx yv ty s' m' Q E' (List.mem_of_getElem? hxs) hyv hns hm1 hm2 hQ
      · rw [hzl]
        have h1 : i * ws.length + ws.length = (i + 1) * ws.length := by rw [Nat.succ_mul]
        rw [h1]
        exact Nat.le_trans (Nat.mul_le_mul_right _ (by omega)) hsz
      · intro h₅ tk₅ m₅ zs₅ hn₅ hacc₅ hz₅ hzl₅ hk₅
        refine ⟨vs.length + 1 - (i + 1), by omega, h₅, tk₅, m₅, i + 1, zs₅, rfl, hlt, rfl, ?_, hn₅, hacc₅, ?_, ?_, ?_⟩
        · exact ⟨oI₃, hk₅ _ _ (low _ _ hoI).1 (lt₃ _ _ hoI₃) (low _ _ hoI).2 (push _ _ hoI₃), rI₃⟩
        · rw [hzl₅, hzl, Nat.succ_mul]
        · have e : ((xs.take (i + 1)).flatMap fun a => ys.map (a ++ ·)) = ((xs.take i).flatMap fun a => ys.map (a ++ ·)) ++ ys.map (xv ++ ·) := by
            rw [List.take_add_one, hxs]
            simp
          rw [e]
          exact hz₅
        · intro b o hb e
          exact hk₅ b o (low b o e).1 (lt₃ _ _ (up₃ b o hb e)) (low b o e).2 (push _ _ (up₃ b o hb e))
    · have hie : i = vs.length := by omega
      subst hie
      refine wpAny_pyNext_list_end hh hit' hl' (by simp) fun h₂ he₂ => ?_
      have hlen : xs.length = vs.length := hV.length.symm
      rw [← hlen, List.take_length] at hz
      have hCI : C ≠ I := Ne.symm (low _ _ hoI).1
      exact hRR D C h₂ tk m' zs hDe.symm (fresh D (Nat.le_refl _)) (fresh C (by rw [hC]; exact Nat.le_succ _)) hDC (hn'.at' fun o e => he₂ _ o hCI e) (hacc'.at fun o e => he₂ _ o (Ne.symm (low _ _ hoI).2) e) hz fun b o hb e => he₂ b o hb (hk b o hb e)
  refine codeAny_compStart_list (loop _ rfl) (wpAny_pyIter_listiter (hit.at fun o e => old _ o e) (loop _ rfl))
end
end Mine
end
section
open PySem PySem.W PyProof.Rows PySem.Spec PySem.Calls
set_option Elab.async false
set_option maxRecDepth 100000
set_option maxHeartbeats 4000000
namespace Mine
/-- what the two clauses' sources must be, and what comes of it -/
def Comp2Src (prog : Program) (w : World) (A : Around) (h₀ : Heap) (L : Addr) (m : Str → Option Value) (env : Env) (elt i2 : Expr) (x y z : Str) (scope : Scope) (cl : List (Str × Addr)) (Q : Flow → Shared → Prop) (xv : Value) (s₁ : Shared) : Prop :=
  ∃ ax aA cc oc vs ws xs ys n₁ n₂ news, xv = .ref ax ∧ A.handled = none ∧ Fr h₀ L s₁.heap m ∧ News h₀ L s₁.heap news ∧ (ax, listOf (List.toArray vs) n₁) ∈ news ∧ StrsAre vs xs ∧ (cc, oc) ∈ news ∧ (aA, listOf (List.toArray ws) n₂) ∈ news ∧ StrsAre ws ys ∧
    (vs.length + 1) * ws.length ≤ sizeLine ∧
    (∀ C (s' : Shared) (Q : Value → Shared → Prop) (E' : Value → Shared → Prop), s'.heap.get? cc = some oc → Q (.ref aA) s' → wpAny (model prog w) A (eval i2 (compEnvC scope cl C env)) Q E' s') ∧
    (∀ C xv tx yv ty (s' : Shared) m' (Q : Value → Shared → Prop) (E' : Value → Shared → Prop), xv ∈ xs → yv ∈ ys → s'.heap.Ns C m' → m' x = some (.str xv tx) → m' y = some (.str yv ty) → (∀ tk tr, Q (.str (xv ++ yv) tr) { s' with toks := tk }) →
      wpAny (model prog w) A (eval elt (compEnvC scope cl C env)) Q E' s') ∧
    (∀ D h tk zs n, Fr h₀ L h (fun q => if q = z then some (.ref D) else m q) → News h₀ L h ((D, listOf (List.toArray zs) n) :: news) → AllLt D news → StrsAre zs (xs.flatMap fun a => ys.map (a ++ ·)) → Q .next { s₁ with heap := h, toks := tk })
section
variable {prog : Program} {w : World} {A : Around} {E : Value → Shared → Prop} {s : Shared} {elt i1 i2 : Expr} {scope : Scope} {pos spos px py pz : Pos} {env : Env} {cl : List (Str × Addr)} {x y z : Str} {h₀ : Heap} {L : Addr} {m : Str → Option Value} {Q : Flow → Shared → Prop}
theorem assign2 (_F₀ : Fr h₀ L s.heap m) (hLe : env.locals = L)
    (hsw : swapsWith (lc2 elt (.Name x px) i1 (.Name y py) i2 scope pos) (some (.Name z pz)) spos.line env = pure true)
    (hclos : closureFor scope env = pure cl) (hcell : ∀ q ∈ scope.names, q.2 ≠ .cell) (hkind : scope.kind = .function)
    (hnames : ∀ q ∈ scope.names, q.2 = .local → scope.names.lookup q.1 = some .local) (hx : scope.names.lookup x = some .local) (hy : scope.names.lookup y = some .local) (hxy : (x == y) = false)
    (hz : env.kindOf z = some .local) (hp : (env.scope.kind == .class || (env.scope.kind == .module && env.locals != env.globals)) = false)
    (h : wpAny (model prog w) A (eval i1 env) (Comp2Src prog w A h₀ L m env elt i2 x y z scope cl Q) E s)
    (hs2 : ∀ C x, foldedSetIterable i2 (compEnvC scope cl C env) x = pure x := by intro _ _; rfl)
    (hs : ∀ x, foldedSetIterable i1 env x = pure x := by intro _; rfl) :
    wpAny (model prog w) A (exec (.Assign [.Name z pz] (lc2 elt (.Name x px) i1 (.Name y py) i2 scope pos) spos) env) Q E s := by
  subst hLe
  have hxy' : x ≠ y := by intro e; rw [e] at hxy; simp at hxy
  rw [exec_Assign_Name_used _ _ _ _ hsw]
  refine wpAny_bind (wpAny_standAt (wpAny_bind ?_))
  show wpAny _ A (do let _ ← comprehension (lc2 elt (.Name x px) i1 (.Name y py) i2 scope pos) scope env _ (newList []) false (eval i1 env) (some (assign (.Name z pz) env))) _ _ s
  refine wpAny_bind (wpAny_mono (wpAny_comprehension_free (use := some (assign (.Name z pz) env)) (Q := fun _ s' => Q .next s') rfl hs hclos hkind hnames
    (wpAny_mono h (fun xv s₁ h₁ => ?_) fun _ _ e => e)) (fun _ s' hq => wpAny_pure (wpAny_pure hq)) fun _ _ e => e)
  obtain ⟨ax, aA, cc, oc, vs, ws, xs, ys, n₁, n₂, news, rfl, hh, F, N, hax, hV, hcc, hA, hW, hsz, hi2, helt, fin⟩ := h₁
  have hl : s₁.heap.IsList ax vs.toArray := ⟨_, (N _ hax).1, rfl, _, rfl⟩
  have hlA : s₁.heap.IsList aA ws.toArray := ⟨_, (N _ hA).1, rfl, _, rfl⟩
  have ne : ∀ b o, s₁.heap.get? b = some o → b ≠ s₁.heap.objs.size := fun b o e => Nat.ne_of_lt (Heap.lt_size e)
  refine wpAny_pyIter_list hl ?_
  have up : ∀ b o, s₁.heap.get? b = some o → (s₁.heap.push { cls := .type "list_iterator", data := .fields #[.ref ax, .int 0 0] }).get? b = some o := fun b o e => Heap.get?_push_of_some _ e
  refine outer2 hh hcell hkind hx hy hxy' ⟨_, Heap.get?_push_size _ rfl, rfl, rfl⟩ (ne _ _ (N _ hax).1) (hl.push _) hV (up _ _ (N _ hcc).1) (ne _ _ (N _ hcc).1) (hlA.push _) (ne _ _ (N _ hA).1) hW hi2 helt hs2 hsz ?_
  intro D C h' tk m' zs hDs hD hC hDC hnC hacc hz' hk
  have keep : ∀ b o, s₁.heap.get? b = some o → h'.get? b = some o := fun b o e => hk b o (ne b o e) (up b o e)
  have low : ∀ b o, s₁.heap.get? b = some o → b ≠ C ∧ b ≠ D := by
    intro b o e
    have e2 := up b o e
    constructor
    · intro q
      rw [q, hC] at e2
      cases e2
    · intro q
      rw [q, hD] at e2
      cases e2
  have F' : Fr h₀ env.locals h' m := F.keeps keep
  have N' : News h₀ env.locals h' news := N.grown keep
  show wpAny _ A (assign (.Name z pz) env (.ref D)) _ _ _
  obtain ⟨oL, _, _, hoL, _⟩ := id F.ns
  have hLC := (low _ _ hoL).1
  have hLD := (low _ _ hoL).2
  have hD₀ : h₀.get? D = none := by
    cases e : h₀.get? D with
    | none => rfl
    | some o => have := up _ _ (F.keep D o e); rw [hD] at this; cases this
  have hC₀ : h₀.get? C = none := by
    cases e : h₀.get? C with
    | none => rfl
    | some o => have := up _ _ (F.keep C o e); rw [hC] at this; cases this
  refine wpAny_assign_Name (wpAny_storeName_local hz F'.ns (fun h₂ hn₂ hs₂ => ?_) hp)
  have hL₀ : h₀.get? env.locals = none := Heap.get?_none_of_le F'.above
  have F₂ : Fr h₀ env.locals h₂ (fun q => if q = z then some (.ref D) else m q) := ⟨hn₂, fun b o e => hs₂.extBut b o (fun q => by rw [q, hL₀] at e; cases e) (F'.keep b o e), F'.above⟩
  refine ⟨m', hnC.sameBut hs₂ (Ne.symm hLC), fun h'' hs'' => ?_⟩
  obtain ⟨nD, hoD⟩ := hacc
  refine fin D h'' _ zs nD (F₂.change hs'' (Ne.symm hLC) hC₀) (fun p hp => ?_) (allLt_of fun p hp => ?_) hz'
  · rcases List.mem_cons.mp hp with rfl | hp
    · exact ⟨hs''.extBut _ _ hDC (hs₂.extBut _ _ (Ne.symm hLD) hoD), Ne.symm hLD, hD₀⟩
    · exact ⟨hs''.extBut _ _ (low _ _ (N p hp).1).1 (hs₂.extBut _ _ (N' p hp).2.1 (N' p hp).1), (N' p hp).2⟩
  · have h1 := Heap.lt_size (N p hp).1
    have h2 : D = s₁.heap.objs.size + 1 := by rw [hDs]; exact Heap.size_push ..
    rw [h2]
    exact Nat.lt_succ_of_lt h1
end
end Mine
end
section
open PySem PySem.W PyProof.Rows PySem.Spec PySem.Calls
set_option Elab.async false
namespace Mine
/-- n marks side by side -/
def marks (n : Int) : Pat := List.replicate n.toNat none
/-- the marks at an end that is not tied -/
def endP (d : Bool) (n : Int) : Pat := if d then [] else marks n
theorem mul_one_two {n : Int} (h : n = 1 ∨ n = 2) : Txt.mul (Str.ofString "...") n = txt (render (marks n)) := by
  rcases h with rfl | rfl <;> decide +kernel
theorem marks_len {n : Int} (h : n = 1 ∨ n = 2) : (render (marks n)).length ≤ 6 := by
  rcases h with rfl | rfl <;> decide
theorem one_two (k : Int) : 1 + k.fmod 2 = 1 ∨ 1 + k.fmod 2 = 2 := by
  have h1 := Int.fmod_nonneg_of_pos k (b := 2) (by decide)
  have h2 := Int.fmod_lt_of_pos k (b := 2) (by decide)
  omega
theorem str_val1 {x y : Str} {t : Tok} (h : x = y) : Value.str x t = Value.str y t := by rw [h]
theorem int_val1 {x y : Int} {t : Tok} (h : x = y) : Value.int x t = Value.int y t := by rw [h]
theorem bool_val1 {x y : Bool} (h : x = y) : Value.bool x = Value.bool y := by rw [h]
theorem end_no {d : Bool} {n : Int} {q : Pat} (h : d = false) : txt (render q ++ render (marks n)) = txt (render (q ++ endP d n)) := by
  rw [render_append, h]; rfl
theorem end_yes {d : Bool} {n : Int} {q : Pat} (h : d = true) : txt (render q) = txt (render (q ++ endP d n)) := by
  rw [h]; simp [endP]
theorem end_len {d : Bool} {n : Int} (h : n = 1 ∨ n = 2) : (render (endP d n)).length ≤ 6 := by
  unfold endP
  cases d
  · exact marks_len h
  · simp [render]
section
variable {prog : Program} {w : World} {A : Around} {E : Value → Shared → Prop} {s : Shared} {Q : Value → Shared → Prop}
theorem mul_dots {n : Int} {t u : Tok} (hn : n = 1 ∨ n = 2) (h : ∀ t' k, Q (.str (txt (render (marks n))) t') { s with toks := k }) :
    wpAny (model prog w) A (binaryOp .Mult (.str (Str.ofString "...") t) (.int n u)) Q E s := by
  have e : (Str.ofString "...").length = 3 := by decide +kernel
  refine KXi.mul (n := 3) e (by omega) (by rcases hn with rfl | rfl <;> decide) (by rcases hn with rfl | rfl <;> decide) (fun t' k _ _ => ?_)
  rw [mul_one_two hn]
  exact h t' k
end
/-- a letter: chr(256 + three % 300 + nth) -/
def letOf (three k : Int) : Str := txt [(256 + three.fmod 300 + k).toNat]
theorem ints_three {vs : List Value} {ns : List Int} (h : IntsAre vs ns) (hl : ns.length = 3) : ∃ a ta b tb c tc, vs = [.int a ta, .int b tb, .int c tc] := by
  cases h with
  | nil => simp at hl
  | cons a ta h =>
    cases h with
    | nil => simp at hl
    | cons b tb h =>
      cases h with
      | nil => simp at hl
      | cons c tc h =>
        cases h with
        | nil => exact ⟨_, _, _, _, _, _, rfl⟩
        | cons d td h => simp at hl
theorem letters_eq {three : Int} {c K : Nat} (hc : 256 + three.fmod 300 = (c : Int)) : (rangeKs 0 K).map (letOf three) = (List.range K).map fun j => txt [c + j] := by
  unfold rangeKs
  rw [List.map_map]
  apply List.map_congr_left
  intro j _
  show txt [(256 + three.fmod 300 + (0 + (j : Int))).toNat] = _
  rw [hc]
  congr 2
  omega
/-- what an expression gives that makes nothing that counts -/
def EvalAs (h₀ : Heap) (L : Addr) (m : Str → Option Value) (news : List (Addr × Obj)) (val : Tok → Value) (s : Shared) (v : Value) (s' : Shared) : Prop :=
  ∃ h' tk t all, v = val t ∧ s' = { s with heap := h', toks := tk } ∧ Fr h₀ L h' m ∧ News h₀ L h' all ∧ ∀ p ∈ news, p ∈ all
section
variable {M : Model} {A : Around} {E : Value → Shared → Prop} {s : Shared} {env : Env} {h₀ : Heap} {L : Addr} {m : Str → Option Value} {news : List (Addr × Obj)} {e : Expr} {Q : Value → Shared → Prop}
theorem cut_eval (val : Tok → Value) (F : Fr h₀ L s.heap m) (_N : News h₀ L s.heap news) (h1 : wpAny M A (eval e env) (EvalAs h₀ L m news val s) E s)
    (h2 : ∀ h' tk t, Fr h₀ L h' m → News h₀ L h' news → Q (val t) { s with heap := h', toks := tk }) : wpAny M A (eval e env) Q E s := by
  refine wpAny_mono h1 (fun v s' p => ?_) fun _ _ x => x
  obtain ⟨h', tk, t, all, rfl, rfl, F', N', hs⟩ := p
  exact h2 h' tk t F' fun p hp => N' p (hs p hp)
theorem EvalAs.intro {val : Tok → Value} {h' : Heap} {tk : Nat} {t : Tok} {v : Value} {all : List (Addr × Obj)} (F : Fr h₀ L h' m) (N : News h₀ L h' all) (hs : ∀ p ∈ news, p ∈ all) (hv : v = val t) :
    EvalAs h₀ L m news val s v { s with heap := h', toks := tk } := ⟨h', tk, t, all, hv, rfl, F, N, hs⟩
end
/-- the letters of the word, with their gaps, j places of them -/
def wpat0 (c K : Nat) (Wd : List Int) : Nat → Pat
  | 0 => []
  | j + 1 => wpat0 c K Wd j ++ (some (c + ((Wd.getD j 0).fmod (K : Int)).toNat) :: (if (j : Int) < (Wd.length : Int) - 1 then marks (1 + ((Wd.getD j 0).fdiv 3).fmod 2) else []))
@[irreducible] def wpat (c K : Nat) (Wd : List Int) (j : Nat) : Pat := wpat0 c K Wd j
theorem wpat_zero (c K : Nat) (Wd : List Int) : wpat c K Wd 0 = [] := by unfold wpat; rfl
theorem wpat_succ (c K : Nat) (Wd : List Int) (j : Nat) : wpat c K Wd (j + 1) = wpat c K Wd j ++ (some (c + ((Wd.getD j 0).fmod (K : Int)).toNat) :: (if (j : Int) < (Wd.length : Int) - 1 then marks (1 + ((Wd.getD j 0).fdiv 3).fmod 2) else [])) := by unfold wpat; rfl
theorem wpat_len (c K : Nat) (Wd : List Int) : ∀ j, (render (wpat c K Wd j)).length ≤ 7 * j
  | 0 => by rw [wpat_zero]; simp [render]
  | j + 1 => by
    have ih := wpat_len c K Wd j
    rw [wpat_succ, render_append, List.length_append]
    have h1 : ∀ (b : Prop) [Decidable b] (n : Int), n = 1 ∨ n = 2 → (render (if b then marks n else [])).length ≤ 6 := by
      intro b _ n hn
      split
      · exact marks_len hn
      · simp [render]
    have h2 := h1 ((j : Int) < (Wd.length : Int) - 1) _ (one_two ((Wd.getD j 0).fdiv 3))
    simp only [render, List.length_cons]
    omega
/-- the form behind j places -/
@[irreducible] def formAt (q : Pat) (c K : Nat) (Wd : List Int) (j : Nat) : Str := txt (render (q ++ wpat c K Wd j))
theorem formAt_eq (q : Pat) (c K : Nat) (Wd : List Int) (j : Nat) : formAt q c K Wd j = txt (render (q ++ wpat c K Wd j)) := by unfold formAt; rfl
theorem form_zero (q : Pat) (c K : Nat) (Wd : List Int) : txt (render q) = formAt q c K Wd 0 := by rw [formAt_eq, wpat_zero, List.append_nil]
theorem form_gap {q : Pat} {c K : Nat} {Wd : List Int} {j : Nat} (h : (j : Int) < (Wd.length : Int) - 1) :
    txt (render (q ++ wpat c K Wd j) ++ [c + ((Wd.getD j 0).fmod (K : Int)).toNat] ++ render (marks (1 + ((Wd.getD j 0).fdiv 3).fmod 2))) = formAt q c K Wd (j + 1) := by
  rw [formAt_eq, wpat_succ, if_pos h, ← List.append_assoc, render_append (q ++ wpat c K Wd j)]
  simp [render]
theorem form_last {q : Pat} {c K : Nat} {Wd : List Int} {j : Nat} (h : ¬ (j : Int) < (Wd.length : Int) - 1) :
    txt (render (q ++ wpat c K Wd j) ++ [c + ((Wd.getD j 0).fmod (K : Int)).toNat]) = formAt q c K Wd (j + 1) := by
  rw [formAt_eq, wpat_succ, if_neg h, ← List.append_assoc, render_append (q ++ wpat c K Wd j)]
  simp [render]
theorem form_len {d : Bool} {n : Int} (hn : n = 1 ∨ n = 2) (c K : Nat) (Wd : List Int) (j : Nat) : (render (([] ++ endP d n) ++ wpat c K Wd j)).length ≤ 6 + 7 * j := by
  have h1 := end_len (d := d) hn
  have h2 := wpat_len c K Wd j
  rw [render_append, List.length_append, List.nil_append]
  omega
def StrJ (x y : Str) (f : Nat → Str) (nx₀ : List (Addr × Obj)) (m₀ : Str → Option Value) (i : Nat) (m : Str → Option Value) (nx : List (Addr × Obj)) : Prop :=
  ∃ t u, m = (fun z => if z = x then some (.str (f i) t) else if z = y then u else m₀ z) ∧ nx = nx₀
theorem StrJ.intro {x y : Str} {f : Nat → Str} {nx₀ nx : List (Addr × Obj)} {m₀ m : Str → Option Value} {i : Nat} {v : Str} {t : Tok} (hxy : (y == x) = false) (hx : m x = some (.str v t)) (hv : v = f i) (h : ∀ z, z ≠ x → z ≠ y → m z = m₀ z) (hn : nx = nx₀) : StrJ x y f nx₀ m₀ i m nx := by
  have hne : y ≠ x := by intro e; rw [e] at hxy; simp at hxy
  subst hv
  exact ⟨t, m y, map_ext2 (a := x) (b := y) (by simpa using hx) (by simp [hne]) (fun z h1 h2 => by simp only [if_neg h1, if_neg h2]; exact h z h1 h2), hn⟩
/-- forget all but six names -/
theorem fr_six {h₀ h : Heap} {L : Addr} {m : Str → Option Value} (a b c d e f : Str) {va vb vc vd ve vf : Value} (F : Fr h₀ L h m) (ha : m a = some va) (hb : m b = some vb) (hc : m c = some vc) (hd : m d = some vd) (he : m e = some ve) (hf : m f = some vf) :
    ∃ m' : Str → Option Value, Fr h₀ L h (fun z => if z = a then some va else if z = b then some vb else if z = c then some vc else if z = d then some vd else if z = e then some ve else if z = f then some vf else m' z) := by
  refine ⟨m, ?_⟩
  have e : m = fun z => if z = a then some va else if z = b then some vb else if z = c then some vc else if z = d then some vd else if z = e then some ve else if z = f then some vf else m z := by
    funext z
    by_cases e1 : z = a
    · rw [if_pos e1, e1]; exact ha
    · rw [if_neg e1]
      by_cases e2 : z = b
      · rw [if_pos e2, e2]; exact hb
      · rw [if_neg e2]
        by_cases e3 : z = c
        · rw [if_pos e3, e3]; exact hc
        · rw [if_neg e3]
          by_cases e4 : z = d
          · rw [if_pos e4, e4]; exact hd
          · rw [if_neg e4]
            by_cases e5 : z = e
            · rw [if_pos e5, e5]; exact he
            · rw [if_neg e5]
              by_cases e6 : z = f
              · rw [if_pos e6, e6]; exact hf
              · rw [if_neg e6]
  rw [← e]; exact F
theorem news_pick3 {h₀ h : Heap} {L : Addr} {all : List (Addr × Obj)} {p1 p2 p3 : Addr × Obj} (N : News h₀ L h all) (h1 : p1 ∈ all) (h2 : p2 ∈ all) (h3 : p3 ∈ all) : News h₀ L h [p1, p2, p3] := fun p hp => by
  simp only [List.mem_cons, List.not_mem_nil, or_false] at hp
  rcases hp with rfl | rfl | rfl
  · exact N _ h1
  · exact N _ h2
  · exact N _ h3
section
variable {prog : Program} {w : World} {A : Around} {E : Value → Shared → Prop} {s : Shared} {h₀ : Heap} {L : Addr} {news : List (Addr × Obj)} {Q : Value → Shared → Prop}
theorem letter_item {value slice : PySem.Expr} {l : Addr} {ys : List Value} {c K n : Nat} {k : Int} {u : Tok} (N : News h₀ L s.heap news) (hm : (l, listOf (List.toArray ys) n) ∈ news) (hL : StrsAre ys ((List.range K).map fun j => txt [c + j]))
    (h0 : 0 ≤ k) (hk : k < (K : Int)) (hb : K ≤ 1000) (h : ∀ t, Q (.str (txt [c + k.toNat]) t) s)
    (hs : subscripted slice false (.ref l) (.int k u) = operate [.ref l, .int k u] (getItem (.ref l) (.int k u)) := by with_unfolding_all rfl) (hg : ∀ r, letTemporaryGo value (.ref l) r = pure () := by intro _; with_unfolding_all rfl) :
    wpAny (model prog w) A (subscriptTail value slice (.ref l) (.int k u)) Q E s := by
  have hk' : k.toNat < K := by omega
  have hlt : k.toNat < ys.length := by rw [hL.length]; simpa using hk'
  obtain ⟨x, t, hx, hxs⟩ := hL.item k.toNat ys[k.toNat] (by simp [hlt])
  have e : x = txt [c + k.toNat] := by
    rw [List.getElem?_map] at hxs
    simp [hk'] at hxs
    exact hxs.symm
  subst e
  exact item_made (n := n) N hm h0 (by omega) (by rw [← hx]; simp [hlt]) (h t) hs hg
end
def tiesOf (fr bk : Bool) (Wd : List Int) : Int := if Wd.length = 0 then 0 else (if fr then 1 else 0) + (if bk then 1 else 0)
def bareOf (fr bk : Bool) (Wd : List Int) : Bool := fr && bk && decide (Wd.length < 2)
def lenOf (K : Nat) : Int := if K < 3 then 6 else 5
section
variable {fr bk : Bool} {Wd : List Int} {K : Nat}
theorem ties_0 (h : ¬ 0 < Wd.length) : 0 = tiesOf fr bk Wd := by unfold tiesOf; rw [if_pos (by omega)]
theorem ties_tt (h : 0 < Wd.length) (hf : fr = true) (hb : bk = true) : 1 + 1 = tiesOf fr bk Wd := by unfold tiesOf; rw [if_neg (by omega), hf, hb]; rfl
theorem ties_tf (h : 0 < Wd.length) (hf : fr = true) (hb : bk = false) : 1 + 0 = tiesOf fr bk Wd := by unfold tiesOf; rw [if_neg (by omega), hf, hb]; rfl
theorem ties_ft (h : 0 < Wd.length) (hf : fr = false) (hb : bk = true) : 0 + 1 = tiesOf fr bk Wd := by unfold tiesOf; rw [if_neg (by omega), hf, hb]; rfl
theorem ties_ff (h : 0 < Wd.length) (hf : fr = false) (hb : bk = false) : 0 + 0 = tiesOf fr bk Wd := by unfold tiesOf; rw [if_neg (by omega), hf, hb]; rfl
theorem bare_f (hf : fr = false) : false = bareOf fr bk Wd := by unfold bareOf; rw [hf]; rfl
theorem bare_a (hf : fr = false) : fr = bareOf fr bk Wd := by unfold bareOf; rw [hf]; rfl
theorem bare_b (hb : bk = false) : bk = bareOf fr bk Wd := by unfold bareOf; rw [hb]; simp
theorem bare_tf (hb : bk = false) : false = bareOf fr bk Wd := by unfold bareOf; rw [hb]; simp
theorem bare_tt (hf : fr = true) (hb : bk = true) : decide ((Wd.length : Int) < 2) = bareOf fr bk Wd := by
  unfold bareOf; rw [hf, hb]; simp only [Bool.true_and, decide_eq_decide]; omega
theorem len_lt (h : (K : Int) < 3) : 6 = lenOf K := by unfold lenOf; rw [if_pos (by omega)]
theorem len_ge (h : ¬ (K : Int) < 3) : 5 = lenOf K := by unfold lenOf; rw [if_neg (by omega)]
theorem len_bd : 5 ≤ lenOf K ∧ lenOf K ≤ 6 := by unfold lenOf; split <;> omega
end
end Mine
end
section
open PySem PySem.W PyProof.Rows
set_option Elab.async false
namespace Mine
/-! the counting: texts of n letters that a pattern fits -/
def words (c K : Nat) : Nat → List (List Nat)
  | 0 => [[]]
  | n + 1 => (words c K n).flatMap fun t => (List.range K).map fun j => t ++ [c + j]
def sm (c K : Nat) (f : List Nat → Nat) (n : Nat) : Nat := ((words c K n).map f).sum
theorem sum_flat {α β : Type} (g : α → List β) (f : β → Nat) : ∀ l : List α, ((l.flatMap g).map f).sum = (l.map fun t => ((g t).map f).sum).sum
  | [] => rfl
  | a :: r => by
    rw [List.flatMap_cons, List.map_append, List.sum_append, List.map_cons, List.sum_cons, sum_flat g f r]
theorem sm_succ (c K : Nat) (f : List Nat → Nat) (n : Nat) : sm c K f (n + 1) = sm c K (fun t => ((List.range K).map fun j => f (t ++ [c + j])).sum) n := by
  unfold sm
  show (((words c K n).flatMap _).map f).sum = _
  rw [sum_flat]
  congr 1
  apply List.map_congr_left
  intro t _
  rw [List.map_map]
  rfl
theorem sum_add {α : Type} (f g : α → Nat) : ∀ l : List α, (l.map fun x => f x + g x).sum = (l.map f).sum + (l.map g).sum
  | [] => rfl
  | a :: r => by
    have := sum_add f g r
    simp only [List.map_cons, List.sum_cons]
    omega
theorem sum_swap {α β : Type} (f : α → β → Nat) (l : List α) : ∀ m : List β, (l.map fun x => (m.map fun y => f x y).sum).sum = (m.map fun y => (l.map fun x => f x y).sum).sum
  | [] => by
    simp only [List.map_nil, List.sum_nil]
    induction l with
    | nil => rfl
    | cons a r ih => simpa using ih
  | b :: m => by
    simp only [List.map_cons, List.sum_cons]
    rw [sum_add (fun x => f x b) (fun x => (m.map fun y => f x y).sum) l, sum_swap f l m]
theorem sm_front (c K : Nat) : ∀ (n : Nat) (f : List Nat → Nat), sm c K f (n + 1) = ((List.range K).map fun j => sm c K (fun t => f ((c + j) :: t)) n).sum
  | 0, f => by
    rw [sm_succ]
    simp [sm, words]
  | n + 1, f => by
    rw [sm_succ, sm_front c K n]
    congr 1
    apply List.map_congr_left
    intro j _
    rw [sm_succ]
    rfl
theorem sum_const {X : Nat} : ∀ K : Nat, ((List.range K).map fun _ => X).sum = K * X
  | 0 => by simp
  | K + 1 => by
    rw [List.range_succ, List.map_append, List.sum_append, sum_const K, Nat.succ_mul]
    simp
theorem sum_one {a X Y : Nat} : ∀ {K : Nat}, a < K → ((List.range K).map fun j => if a = j then X else Y).sum = X + (K - 1) * Y
  | 0, h => absurd h (Nat.not_lt_zero _)
  | K + 1, h => by
    rw [List.range_succ, List.map_append, List.sum_append]
    simp only [List.map_cons, List.map_nil, List.sum_cons, List.sum_nil, Nat.add_zero]
    by_cases e : a = K
    · subst e
      have : ∀ j ∈ List.range a, (if a = j then X else Y) = Y := fun j hj => by
        rw [if_neg]
        have := List.mem_range.mp hj
        omega
      rw [List.map_congr_left this, if_pos rfl, sum_const, Nat.add_sub_cancel]
      omega
    · rw [sum_one (K := K) (by omega), if_neg e]
      have : K + 1 - 1 = (K - 1) + 1 := by omega
      rw [this, Nat.succ_mul]
      omega
def ind (p : Pat) (t : List Nat) : Nat := if pm p t = true then 1 else 0
def cnt (c K : Nat) (p : Pat) (n : Nat) : Nat := sm c K (ind p) n
theorem sm_zero (c K n : Nat) : sm c K (fun _ => 0) n = 0 := by
  unfold sm
  induction words c K n with
  | nil => rfl
  | cons a r ih => simpa using ih
theorem sm_congr {c K n : Nat} {f g : List Nat → Nat} (h : ∀ t, f t = g t) : sm c K f n = sm c K g n := by
  have : f = g := funext h
  rw [this]
section
variable {c K : Nat}
theorem cnt_congr {p q : Pat} (h : ∀ y, pm p y = pm q y) (n : Nat) : cnt c K p n = cnt c K q n := sm_congr fun t => by unfold ind; rw [h]
theorem pm_cons (x : Nat) (p : Pat) (y : Nat) (t : List Nat) : pm (some x :: p) (y :: t) = (x == y && pm p t) := rfl
/-- tied to the front -/
theorem cnt_front {a : Nat} (ha : a < K) (p : Pat) (n : Nat) : cnt c K (some (c + a) :: p) (n + 1) = cnt c K p n := by
  unfold cnt
  rw [sm_front]
  have : ∀ j ∈ List.range K, sm c K (fun t => ind (some (c + a) :: p) ((c + j) :: t)) n = if a = j then sm c K (ind p) n else 0 := by
    intro j _
    by_cases e : a = j
    · subst e
      rw [if_pos rfl]
      apply sm_congr
      intro t
      unfold ind
      rw [pm_cons]
      simp
    · rw [if_neg e, ← sm_zero c K n]
      apply sm_congr
      intro t
      unfold ind
      rw [pm_cons]
      have : (c + a == c + j) = false := by simp [e]
      rw [this]
      simp
  rw [List.map_congr_left this, sum_one ha]
  simp
theorem cnt_front0 (x : Nat) (p : Pat) : cnt c K (some x :: p) 0 = 0 := by simp [cnt, sm, words, ind, pm]
/-- tied to the end -/
theorem pm_end (p : Pat) (x y : Nat) (t : List Nat) : pm (p ++ [some x]) (t ++ [y]) = (x == y && pm p t) := by
  rw [Bool.eq_iff_iff]
  have h := pm_snoc [x] p (t ++ [y])
  have e : p ++ lits [x] = p ++ [some x] := rfl
  rw [e] at h
  rw [h]
  constructor
  · rintro ⟨t', h1, h2⟩
    have h3 := List.append_inj' h1 rfl
    obtain ⟨h4, h5⟩ := h3
    have h6 : y = x := by simpa using h5
    subst h4 h6
    simp [h2]
  · intro h1
    simp only [Bool.and_eq_true, beq_iff_eq] at h1
    exact ⟨t, by rw [h1.1], h1.2⟩
theorem cnt_end {a : Nat} (ha : a < K) (p : Pat) (n : Nat) : cnt c K (p ++ [some (c + a)]) (n + 1) = cnt c K p n := by
  unfold cnt
  rw [sm_succ]
  apply sm_congr
  intro t
  have : ∀ j ∈ List.range K, ind (p ++ [some (c + a)]) (t ++ [c + j]) = if a = j then ind p t else 0 := by
    intro j _
    unfold ind
    rw [pm_end]
    by_cases e : a = j
    · subst e
      simp
    · rw [if_neg e]
      have : (c + a == c + j) = false := by simp [e]
      rw [this]
      simp
  rw [List.map_congr_left this, sum_one ha]
  simp
theorem cnt_end0 (x : Nat) (p : Pat) : cnt c K (p ++ [some x]) 0 = 0 := by
  have h : pm (p ++ [some x]) [] = false := by
    rw [Bool.eq_false_iff]
    intro h
    have h2 := (pm_snoc [x] p []).mp h
    obtain ⟨t, h3, _⟩ := h2
    simp at h3
  simp [cnt, sm, words, ind, h]
/-- dots before, between and behind -/
def freeP (c : Nat) : List Nat → Pat
  | [] => [none]
  | a :: r => none :: some (c + a) :: freeP c r
def hold (K : Nat) : Nat → Nat → Nat
  | 0, 0 => 1
  | 0, _ + 1 => 0
  | n + 1, 0 => K * hold K n 0
  | n + 1, h + 1 => hold K n h + (K - 1) * hold K n (h + 1)
theorem freeP_head (c : Nat) (r : List Nat) : ∃ q, freeP c r = none :: q := by
  cases r with
  | nil => exact ⟨_, rfl⟩
  | cons a r => exact ⟨_, rfl⟩
theorem pm_dots (p : Pat) (y : Nat) (t : List Nat) : pm (none :: p) (y :: t) = (pm p (y :: t) || pm (none :: p) t) := rfl
theorem pm_free {w : Nat} {q : Pat} {t : List Nat} (y : Nat) : pm (none :: some w :: none :: q) (y :: t) = if w = y then pm (none :: q) t else pm (none :: some w :: none :: q) t := by
  rw [pm_dots, pm_cons]
  by_cases e : w = y
  · subst e
    rw [if_pos rfl]
    simp only [beq_self_eq_true, Bool.true_and]
    cases h : pm (none :: q) t with
    | true => rfl
    | false =>
      rw [Bool.false_or, Bool.eq_false_iff]
      intro h2
      obtain ⟨a, b, rfl, hb⟩ := (pm_none _ _).mp h2
      obtain ⟨b', rfl, hb'⟩ := (pm_some w _ _).mp hb
      have h3 := pm_mono (a := a ++ [w]) hb'
      have e3 : a ++ [w] ++ b' = a ++ w :: b' := by simp
      rw [e3, h] at h3
      cases h3
  · rw [if_neg e]
    have : (w == y) = false := by simp [e]
    rw [this]
    simp
theorem cnt_free : ∀ (ws : List Nat) (n : Nat), (∀ a ∈ ws, a < K) → cnt c K (freeP c ws) n = hold K n ws.length
  | [], 0, _ => by simp [cnt, sm, words, ind, freeP, pm, anyTail, hold]
  | [], n + 1, _ => by
    have h1 : ∀ y, pm (freeP c []) y = true := fun y => (pm_none _ _).mpr ⟨y, [], by simp, rfl⟩
    have ih := cnt_free [] n (by simp)
    unfold cnt at ih ⊢
    rw [sm_front]
    have : ∀ j ∈ List.range K, sm c K (fun t => ind (freeP c []) ((c + j) :: t)) n = hold K n 0 := by
      intro j _
      rw [show hold K n 0 = sm c K (ind (freeP c [])) n from ih.symm]
      apply sm_congr
      intro t
      unfold ind
      rw [h1, h1]
    rw [List.map_congr_left this, sum_const]
    rfl
  | a :: r, 0, _ => by
    have h : pm (freeP c (a :: r)) [] = false := by
      obtain ⟨q, e⟩ := freeP_head c r
      simp [freeP, pm, anyTail]
    simp [cnt, sm, words, ind, h, hold]
  | a :: r, n + 1, hK => by
    have ha := hK a List.mem_cons_self
    have ih1 := cnt_free r n (fun b hb => hK b (List.mem_cons_of_mem _ hb))
    have ih2 := cnt_free (a :: r) n hK
    obtain ⟨q, e⟩ := freeP_head c r
    have ep : freeP c (a :: r) = none :: some (c + a) :: none :: q := by simp [freeP, e]
    unfold cnt at ih1 ih2 ⊢
    rw [sm_front]
    have : ∀ j ∈ List.range K, sm c K (fun t => ind (freeP c (a :: r)) ((c + j) :: t)) n = if a = j then hold K n r.length else hold K n (a :: r).length := by
      intro j _
      by_cases e1 : a = j
      · subst e1
        rw [if_pos rfl, ← ih1]
        apply sm_congr
        intro t
        unfold ind
        rw [ep, pm_free, if_pos rfl, e]
      · rw [if_neg e1, ← ih2]
        apply sm_congr
        intro t
        unfold ind
        have hne : ¬ c + a = c + j := by omega
        rw [ep, pm_free, if_neg hne]
    rw [List.map_congr_left this, sum_one ha]
    rfl
end
end Mine
end
section
open PySem PySem.W PyProof.Rows PySem.Spec PySem.Calls
set_option Elab.async false
set_option maxRecDepth 100000
set_option maxHeartbeats 4000000
namespace Mine
@[irreducible] def wordsS (c K n : Nat) : List Str := (words c K n).map txt
theorem wordsS_eq (c K n : Nat) : wordsS c K n = (words c K n).map txt := by unfold wordsS; rfl
theorem wordsS_zero (c K : Nat) : wordsS c K 0 = [Str.ofString ""] := by
  rw [wordsS_eq, empty_txt]; rfl
theorem wordsS_succ (c K n : Nat) : ((wordsS c K n).flatMap fun a => ((List.range K).map fun j => txt [c + j]).map (a ++ ·)) = wordsS c K (n + 1) := by
  rw [wordsS_eq, wordsS_eq]
  show _ = ((words c K n).flatMap _).map txt
  rw [List.flatMap_map, List.map_flatMap]
  congr 1
  funext t
  rw [List.map_map, List.map_map]
  apply List.map_congr_left
  intro j _
  exact txt_append t [c + j]
theorem words_len (c K : Nat) : ∀ n, ∀ t ∈ words c K n, t.length = n
  | 0, t, h => by
    simp only [words, List.mem_singleton] at h
    rw [h]; rfl
  | n + 1, t, h => by
    simp only [words, List.mem_flatMap, List.mem_map, List.mem_range] at h
    obtain ⟨u, hu, j, _, rfl⟩ := h
    simp [words_len c K n u hu]
theorem flat_len {α β : Type} (g : α → List β) (k : Nat) : ∀ l : List α, (∀ a ∈ l, (g a).length = k) → (l.flatMap g).length = l.length * k
  | [], _ => by simp
  | a :: r, h => by
    rw [List.flatMap_cons, List.length_append, flat_len g k r (fun b hb => h b (List.mem_cons_of_mem _ hb)), h a List.mem_cons_self, List.length_cons, Nat.succ_mul]
    omega
theorem words_count (c K : Nat) : ∀ n, (words c K n).length = K ^ n
  | 0 => rfl
  | n + 1 => by
    show ((words c K n).flatMap _).length = _
    rw [flat_len _ K _ (fun a _ => by simp), words_count c K n, Nat.pow_succ]
theorem wordsS_count (c K n : Nat) : (wordsS c K n).length = K ^ n := by rw [wordsS_eq, List.length_map, words_count]
/-- how many of the first i texts fit -/
@[irreducible] def cntAt (c K : Nat) (p : Pat) (n i : Nat) : Int := ((((words c K n).take i).map (ind p)).sum : Nat)
theorem cntAt_zero (c K : Nat) (p : Pat) (n : Nat) : cntAt c K p n 0 = 0 := by unfold cntAt; rfl
theorem cntAt_succ {c K : Nat} {p : Pat} {n i : Nat} {t : List Nat} (h : (words c K n)[i]? = some t) : cntAt c K p n (i + 1) = cntAt c K p n i + (ind p t : Nat) := by
  unfold cntAt
  rw [List.take_add_one, h]
  simp
theorem cntAt_yes {c K : Nat} {p : Pat} {n i : Nat} {t : List Nat} (h : (words c K n)[i]? = some t) (hb : pm p t = true) : cntAt c K p n i + 1 = cntAt c K p n (i + 1) := by
  rw [cntAt_succ h]; simp [ind, hb]
theorem cntAt_no {c K : Nat} {p : Pat} {n i : Nat} {t : List Nat} (h : (words c K n)[i]? = some t) (hb : pm p t = false) : cntAt c K p n i = cntAt c K p n (i + 1) := by
  rw [cntAt_succ h]; simp [ind, hb]
theorem cntAt_all (c K : Nat) (p : Pat) (n : Nat) : cntAt c K p n (wordsS c K n).length = (cnt c K p n : Nat) := by
  unfold cntAt cnt sm
  rw [wordsS_eq, List.length_map, List.take_length]
theorem wordsS_at {c K n i : Nat} {y : Str} (h : (wordsS c K n)[i]? = some y) : ∃ t, y = txt t ∧ (words c K n)[i]? = some t ∧ t.length = n := by
  rw [wordsS_eq, List.getElem?_map] at h
  cases e : (words c K n)[i]? with
  | none => rw [e] at h; simp at h
  | some t =>
    rw [e] at h
    simp at h
    exact ⟨t, h.symm, rfl, words_len c K n t (List.mem_of_getElem? e)⟩
/-- the main loop -/
def TextJ (c K : Nat) (nx₀ : List (Addr × Obj)) (m₀ : Str → Option Value) (i : Nat) (m : Str → Option Value) (nx : List (Addr × Obj)) : Prop :=
  ∃ aT tv nT u1 u2 u3 u4 u5, m = (fun z => if z = Str.ofString "texts" then some (.ref aT) else if z = Str.ofString "length" then u1 else if z = Str.ofString "text" then u2 else if z = Str.ofString "fitting" then u3 else if z = Str.ofString "fit" then u4 else if z = Str.ofString "told" then u5 else m₀ z) ∧
    nx = (aT, listOf (List.toArray tv) nT) :: nx₀ ∧ StrsAre tv (wordsS c K (i - 1))
theorem TextJ.intro {c K : Nat} {nx₀ nx : List (Addr × Obj)} {m₀ m : Str → Option Value} {i nT : Nat} {aT : Addr} {tv : List Value} {S : List Str} (hT : m (Str.ofString "texts") = some (.ref aT))
    (h : ∀ z, z ≠ Str.ofString "texts" → z ≠ Str.ofString "length" → z ≠ Str.ofString "text" → z ≠ Str.ofString "fitting" → z ≠ Str.ofString "fit" → z ≠ Str.ofString "told" → m z = m₀ z)
    (hn : nx = (aT, listOf (List.toArray tv) nT) :: nx₀) (hS : StrsAre tv S) (e : wordsS c K (i - 1) = S) : TextJ c K nx₀ m₀ i m nx := by
  subst e
  exact ⟨aT, tv, nT, _, _, _, _, _, map_ext7 (a := Str.ofString "texts") (b := Str.ofString "length") (c := Str.ofString "text") (d := Str.ofString "fitting") (e := Str.ofString "fit") (f := Str.ofString "told") (g := Str.ofString "told") hT rfl rfl rfl rfl rfl rfl
    (fun z h1 h2 h3 h4 h5 h6 _ => by simp only [if_neg h1, if_neg h2, if_neg h3, if_neg h4, if_neg h5, if_neg h6]; exact h z h1 h2 h3 h4 h5 h6), hn, hS⟩
/-- the counting loop -/
def FitJ (c K : Nat) (p : Pat) (n : Nat) (nx₀ : List (Addr × Obj)) (m₀ : Str → Option Value) (i : Nat) (m : Str → Option Value) (nx : List (Addr × Obj)) : Prop :=
  ∃ t u v, m = (fun z => if z = Str.ofString "fitting" then some (.int (cntAt c K p n i) t) else if z = Str.ofString "fit" then u else if z = Str.ofString "text" then v else m₀ z) ∧ nx = nx₀
theorem FitJ.intro {c K : Nat} {p : Pat} {n : Nat} {nx₀ nx : List (Addr × Obj)} {m₀ m : Str → Option Value} {i : Nat} {x : Int} {t : Tok} (hf : m (Str.ofString "fitting") = some (.int x t)) (hx : x = cntAt c K p n i)
    (h : ∀ z, z ≠ Str.ofString "fitting" → z ≠ Str.ofString "fit" → z ≠ Str.ofString "text" → m z = m₀ z) (hn : nx = nx₀) : FitJ c K p n nx₀ m₀ i m nx := by
  subst hx
  exact ⟨t, _, _, map_ext3 (a := Str.ofString "fitting") (b := Str.ofString "fit") (c := Str.ofString "text") hf rfl rfl (fun z h1 h2 h3 => by simp only [if_neg h1, if_neg h2, if_neg h3]; exact h z h1 h2 h3), hn⟩
section
variable {prog : Program} {w : World} {A : Around} {E : Value → Shared → Prop} {s : Shared} {env : Env} {h₀ : Heap} {x : Str} {body : List Stmt} {Q : Flow → Shared → Prop}
theorem iter_rngO {r : Addr} {a₀ b₀ c₀ : Int} {t₀ u₀ v₀ : Tok} {n : Nat} {m₀ : Str → Option Value} {news : List (Addr × Obj)} (J : (Str → Option Value) → Nat → (Str → Option Value) → List (Addr × Obj) → Prop)
    (hh : A.handled = none) (hr : IsRange s.heap r a₀ b₀ c₀ t₀ u₀ v₀) (hsmall : Builtin.Range.small a₀ b₀ c₀ = true) (hn : Builtin.Range.rangeSize a₀ b₀ c₀ = (n : Int))
    (F : Fr h₀ env.locals s.heap m₀) (N : News h₀ env.locals s.heap news) (hj : J m₀ 0 m₀ news)
    (turn : ∀ i t m₁ news₁ I oI h tk, i < n → J m₀ i m₁ news₁ → (∀ p ∈ news₁, p.1 ≠ I) → AllLt I news → Fr h₀ env.locals h (fun y => if y = x then some (.int (a₀ + (i : Int) * c₀) t) else m₁ y) → News h₀ env.locals h ((I, oI) :: news₁) →
      wpAny (model prog w) A (execs body env) (TurnPost h₀ env.locals (J m₀ (i + 1)) I oI { s with heap := h, toks := tk } Q) E { s with heap := h, toks := tk })
    (done : ∀ m₁ news₁ h tk, J m₀ n m₁ news₁ → Fr h₀ env.locals h m₁ → News h₀ env.locals h news₁ → Q .next { s with heap := h, toks := tk }) :
    wpAny (model prog w) A (pyIter (.ref r)) (fun it s₂ => LoopAtV prog w A h₀ env x body Q E it s₂) E s :=
  iter_rng (J m₀) hh hr hsmall hn F N hj (fun i t m₁ news₁ I oI h tk hi hj' ho hl F' N' => turn i t m₁ news₁ I oI h tk hi hj' ho (allLt_of hl) F' N') done
end
/-- what «if length: texts = [..]» leaves -/
def TextsAs (h₀ : Heap) (L : Addr) (m : Str → Option Value) (nx₀ : List (Addr × Obj)) (I : Addr) (S : List Str) (s : Shared) (f : Flow) (s' : Shared) : Prop :=
  f = .next ∧ ∃ h' tk aT tv nT all, s' = { s with heap := h', toks := tk } ∧ Fr h₀ L h' (fun y => if y = Str.ofString "texts" then some (.ref aT) else m y) ∧ News h₀ L h' all ∧ (∀ p ∈ (aT, listOf (List.toArray tv) nT) :: nx₀, p ∈ all) ∧ aT ≠ I ∧ StrsAre tv S
section
variable {M : Model} {A : Around} {E : Value → Shared → Prop} {s : Shared} {env : Env} {h₀ : Heap} {L I : Addr} {m : Str → Option Value} {nx₀ all : List (Addr × Obj)} {st : Stmt} {Q : Flow → Shared → Prop} {S : List Str}
theorem cut_texts (_F : Fr h₀ L s.heap m) (h1 : wpAny M A (exec st env) (TextsAs h₀ L m nx₀ I S s) E s)
    (h2 : ∀ h' tk aT tv nT, Fr h₀ L h' (fun y => if y = Str.ofString "texts" then some (.ref aT) else m y) → News h₀ L h' ((aT, listOf (List.toArray tv) nT) :: nx₀) → aT ≠ I → StrsAre tv S → Q .next { s with heap := h', toks := tk }) : wpAny M A (exec st env) Q E s := by
  refine wpAny_mono h1 (fun f s' p => ?_) fun _ _ x => x
  obtain ⟨rfl, h', tk, aT, tv, nT, all, rfl, F', N', hs, hI, hS⟩ := p
  exact h2 h' tk aT tv nT F' (fun p hp => N' p (hs p hp)) hI hS
theorem TextsAs.intro {h' : Heap} {tk nT : Nat} {aT : Addr} {tv : List Value} {m' : Str → Option Value} {S' : List Str} (F : Fr h₀ L h' m') (N : News h₀ L h' all) (hs : ∀ p ∈ (aT, listOf (List.toArray tv) nT) :: nx₀, p ∈ all) (hI : aT ≠ I)
    (hm : m' = fun y => if y = Str.ofString "texts" then some (.ref aT) else m y) (hS : StrsAre tv S') (e : S' = S) : TextsAs h₀ L m nx₀ I S s .next { s with heap := h', toks := tk } := by
  subst hm e
  exact ⟨rfl, h', tk, aT, tv, nT, all, rfl, F, N, hs, hI, hS⟩
end
section
variable {prog : Program} {w : World} {A : Around} {E' : Value → Shared → Prop} {s' : Shared} {scope : Scope} {cl : List (Str × Addr)} {C : Addr} {env : Env} {x y : Str} {px py pos : Pos}
/-- text + letter -/
theorem glue {xv yv : Str} {tx ty : Tok} {m' : Str → Option Value} {Q : Value → Shared → Prop} (hn : s'.heap.Ns C m') (h1 : m' x = some (.str xv tx)) (h2 : m' y = some (.str yv ty)) (hl : xv.length + yv.length ≤ sizeLine) (hQ : ∀ tk tr, Q (.str (xv ++ yv) tr) { s' with toks := tk })
    (hk : (compEnvC scope cl C env).scope.kind = .function) (hx : (compEnvC scope cl C env).kindOf x = some .local) (hy : (compEnvC scope cl C env).kindOf y = some .local) (hdx : (x == ("__debug__" : Str)) = false) (hdy : (y == ("__debug__" : Str)) = false) :
    wpAny (model prog w) A (eval (.BinOp (.Name x px) .Add (.Name y py) pos) (compEnvC scope cl C env)) Q E' s' := by
  refine wpAny_BinOp ?_
  refine ldVarK hn h1 ?_ hk hx hdx
  refine ldVarK hn h2 ?_ hk hy hdy
  exact PyProof.Rows.add_str (fun t' tk => hQ tk t') hl
end
end Mine
end
section
open PySem PySem.W PyProof.Rows
set_option Elab.async false
namespace Mine
def Eqv (p q : Pat) : Prop := ∀ y, pm p y = pm q y
theorem Eqv.rfl' (p : Pat) : Eqv p p := fun _ => rfl
theorem Eqv.trans' {p q r : Pat} (h : Eqv p q) (h' : Eqv q r) : Eqv p r := fun y => (h y).trans (h' y)
theorem Eqv.cons {p q : Pat} (x : Option Nat) (h : Eqv p q) : Eqv (x :: p) (x :: q) := by
  cases x with
  | none => exact pm_congr_none h
  | some c =>
    intro y
    cases y with
    | nil => rfl
    | cons a y => rw [pm_cons, pm_cons, h]
theorem Eqv.pre {p q : Pat} (h : Eqv p q) : ∀ r : Pat, Eqv (r ++ p) (r ++ q)
  | [] => h
  | x :: r => Eqv.cons x (Eqv.pre h r)
theorem marks_one {n : Int} (h : n = 1 ∨ n = 2) (p : Pat) : Eqv (marks n ++ p) (none :: p) := by
  rcases h with rfl | rfl
  · exact Eqv.rfl' _
  · exact fun y => pm_two p y
def side (d : Bool) : Pat := if d then [] else [none]
theorem end_one {n : Int} (h : n = 1 ∨ n = 2) (d : Bool) (p : Pat) : Eqv (endP d n ++ p) (side d ++ p) := by
  cases d
  · exact marks_one h p
  · exact Eqv.rfl' _
def bld (c K : Nat) : List Int → Pat
  | [] => []
  | w :: r => some (c + (w.fmod (K : Int)).toNat) :: ((if r.length = 0 then [] else marks (1 + (w.fdiv 3).fmod 2)) ++ bld c K r)
def core (c : Nat) : List Nat → Pat
  | [] => []
  | a :: r => some (c + a) :: ((if r.length = 0 then [] else [none]) ++ core c r)
def idx (K : Nat) (Wd : List Int) : List Nat := Wd.map fun w => (w.fmod (K : Int)).toNat
theorem drop_at {α : Type} {l : List α} {i : Nat} {d : α} (h : i < l.length) : l.drop i = l.getD i d :: l.drop (i + 1) := by
  rw [List.drop_eq_getElem_cons h]
  simp [List.getD, h]
theorem wpat_bld {c K : Nat} {Wd : List Int} : ∀ j, j ≤ Wd.length → wpat c K Wd j ++ bld c K (Wd.drop j) = bld c K Wd
  | 0, _ => by rw [wpat_zero]; rfl
  | j + 1, h => by
    have ih := wpat_bld (c := c) (K := K) (Wd := Wd) j (by omega)
    have hd : Wd.drop j = Wd.getD j 0 :: Wd.drop (j + 1) := drop_at (by omega)
    rw [← ih, hd, wpat_succ]
    show _ = wpat c K Wd j ++ (some _ :: ((if (Wd.drop (j + 1)).length = 0 then [] else marks _) ++ bld c K (Wd.drop (j + 1))))
    rw [List.append_assoc, List.cons_append]
    congr 3
    rw [List.length_drop]
    by_cases e : (j : Int) < (Wd.length : Int) - 1
    · rw [if_pos e, if_neg (by omega)]
    · rw [if_neg e, if_pos (by omega)]
theorem wpat_all {c K : Nat} {Wd : List Int} : wpat c K Wd Wd.length = bld c K Wd := by
  have h := wpat_bld (c := c) (K := K) (Wd := Wd) Wd.length (Nat.le_refl _)
  rw [List.drop_length] at h
  simpa [bld] using h
theorem bld_core (c K : Nat) (q : Pat) : ∀ Wd : List Int, Eqv (bld c K Wd ++ q) (core c (idx K Wd) ++ q)
  | [] => Eqv.rfl' _
  | w :: r => by
    have ih := bld_core c K q r
    show Eqv (some _ :: ((if r.length = 0 then [] else marks _) ++ bld c K r) ++ q) (some _ :: ((if (idx K r).length = 0 then [] else [none]) ++ core c (idx K r)) ++ q)
    have hl : (idx K r).length = r.length := by simp [idx]
    rw [hl, List.cons_append, List.cons_append]
    apply Eqv.cons
    by_cases e : r.length = 0
    · rw [if_pos e, if_pos e]; exact ih
    · rw [if_neg e, if_neg e, List.append_assoc, List.append_assoc]
      exact (marks_one (one_two _) _).trans' (Eqv.cons none ih)
theorem pat_eqv {fr bk : Bool} {n1 n2 : Int} {c K : Nat} {Wd : List Int} (h1 : n1 = 1 ∨ n1 = 2) (h2 : n2 = 1 ∨ n2 = 2) :
    Eqv ((([] ++ endP fr n1) ++ wpat c K Wd Wd.length) ++ endP bk n2) (side fr ++ (core c (idx K Wd) ++ side bk)) := by
  rw [wpat_all, List.nil_append, List.append_assoc]
  refine (end_one h1 fr _).trans' (Eqv.pre ?_ _)
  refine (bld_core c K _ Wd).trans' (Eqv.pre ?_ _)
  have := end_one h2 bk []
  simpa using this
theorem core_free (c : Nat) : ∀ (a : Nat) (r : List Nat), none :: (core c (a :: r) ++ [none]) = freeP c (a :: r)
  | a, [] => by simp [core, freeP]
  | a, b :: r => by
    have ih := core_free c b r
    have e : core c (a :: b :: r) = some (c + a) :: none :: core c (b :: r) := by simp [core]
    rw [e]
    show none :: some (c + a) :: (none :: (core c (b :: r) ++ [none])) = _
    rw [ih]
    rfl
theorem core_end (c z : Nat) : ∀ mid : List Nat, none :: core c (mid ++ [z]) = freeP c mid ++ [some (c + z)]
  | [] => by simp [core, freeP]
  | b :: mid => by
    have ih := core_end c z mid
    have e : core c (b :: mid ++ [z]) = some (c + b) :: none :: core c (mid ++ [z]) := by simp [core]
    rw [e]
    show none :: some (c + b) :: (none :: core c (mid ++ [z])) = _
    rw [ih]
    rfl
theorem core_more (c a b : Nat) (r : List Nat) : core c (a :: b :: r) = some (c + a) :: none :: core c (b :: r) := by simp [core]
theorem cnt_nil (c K : Nat) : ∀ n, cnt c K [] n = if n = 0 then 1 else 0
  | 0 => by simp [cnt, sm, words, ind, pm]
  | n + 1 => by
    unfold cnt
    rw [sm_front, if_neg (by omega)]
    have : ∀ j ∈ List.range K, sm c K (fun t => ind [] ((c + j) :: t)) n = 0 := by
      intro j _
      rw [← sm_zero c K n]
      apply sm_congr
      intro t
      simp [ind, pm]
    rw [List.map_congr_left this, sum_const]
    simp
theorem snoc_of (b : Nat) (r : List Nat) : ∃ mid z, b :: r = mid ++ [z] := ⟨(b :: r).dropLast, (b :: r).getLast (by simp), (List.dropLast_concat_getLast (by simp)).symm⟩
end Mine
end
section
open PySem PySem.W PyProof.Rows
set_option Elab.async false
namespace Mine
def ch : Nat → Nat → Nat
  | _, 0 => 1
  | 0, _ + 1 => 0
  | n + 1, k + 1 => ch n k + ch n (k + 1)
/-- the sum under way: the places below i -/
def tot0 (K N H : Nat) : Nat → Nat
  | 0 => 0
  | i + 1 => tot0 K N H i + (if H ≤ i then ch N i * (K - 1) ^ (N - i) else 0)
@[irreducible] def totZ (K N H i : Nat) : Int := (tot0 K N H i : Nat)
@[irreducible] def chZ (N i : Nat) : Int := (ch N i : Nat)
theorem totZ_zero (K N H : Nat) : totZ K N H 0 = 0 := by unfold totZ; rfl
theorem chZ_zero (N : Nat) : chZ N 0 = 1 := by unfold chZ ch; cases N <;> rfl
@[irreducible] def holdZ (N H : Int) (K : Nat) : Int := if N < 0 then 0 else totZ K N.toNat H.toNat (N.toNat + 1)
@[irreducible] def toldOf (fr bk : Bool) (Wd : List Int) (K : Nat) (n : Nat) : Int :=
  if bareOf fr bk Wd = true then (if n = Wd.length then 1 else 0) else holdZ ((n : Int) - tiesOf fr bk Wd) ((Wd.length : Int) - tiesOf fr bk Wd) K
section
variable {fr bk : Bool} {n1 n2 : Int} {c K : Nat} {Wd : List Int}
theorem pat_clean (hc : 256 ≤ c) : clean ((([] ++ endP fr n1) ++ wpat c K Wd Wd.length) ++ endP bk n2) := by
  have hm : ∀ (d : Bool) (n : Int), some 46 ∉ endP d n := by
    intro d n h
    unfold endP at h
    cases d
    · have := List.eq_of_mem_replicate h
      cases this
    · simp at h
  have hw : ∀ j, some 46 ∉ wpat c K Wd j := by
    intro j
    induction j with
    | zero => rw [wpat_zero]; simp
    | succ j ih =>
      rw [wpat_succ]
      intro h
      rcases List.mem_append.mp h with h | h
      · exact ih h
      · rcases List.mem_cons.mp h with h | h
        · have := Option.some.inj h
          omega
        · split at h
          · have := List.eq_of_mem_replicate h
            cases this
          · simp at h
  unfold clean
  intro h
  rcases List.mem_append.mp h with h | h
  · rcases List.mem_append.mp h with h | h
    · exact hm _ _ (by simpa using h)
    · exact hw _ h
  · exact hm _ _ h
theorem pat_len (h1 : n1 = 1 ∨ n1 = 2) (h2 : n2 = 1 ∨ n2 = 2) (h4 : Wd.length ≤ 4) : (render ((([] ++ endP fr n1) ++ wpat c K Wd Wd.length) ++ endP bk n2)).length ≤ 1000 := by
  have a := form_len (d := fr) h1 c K Wd Wd.length
  have b := end_len (d := bk) h2
  rw [render_append, List.length_append]
  omega
end
theorem hold_tot : ∀ K, K < 4 → ∀ N, N < 6 → ∀ H, H < 6 → 1 ≤ K → tot0 K N H (N + 1) = hold K N H := by decide
theorem holdZ_nat {K N H : Nat} (hK1 : 1 ≤ K) (hK3 : K ≤ 3) (hN : N < 6) (hH : H < 6) {x y : Int} (hx : x = (N : Int)) (hy : y = (H : Int)) : holdZ x y K = ((hold K N H : Nat) : Int) := by
  subst hx hy
  unfold holdZ
  rw [if_neg (by omega)]
  unfold totZ
  rw [Int.toNat_natCast, Int.toNat_natCast, hold_tot K (by omega) N hN H hH hK1]
theorem holdZ_neg {K : Nat} {x y : Int} (h : x < 0) : holdZ x y K = 0 := by unfold holdZ; rw [if_pos h]
section
variable {c K : Nat}
theorem law_nil {n : Nat} (hK1 : 1 ≤ K) (hK3 : K ≤ 3) (hn : n < 6) : ((cnt c K [none] n : Nat) : Int) = holdZ ((n : Int) - 0) (((0 : Nat) : Int) - 0) K := by
  rw [holdZ_nat (N := n) (H := 0) hK1 hK3 hn (by omega) (by omega) (by omega)]
  have := cnt_free (c := c) (K := K) [] n (by simp)
  rw [show [none] = freeP c [] from rfl, this]
  rfl
theorem law_front {n a : Nat} {r : List Nat} (hK1 : 1 ≤ K) (hK3 : K ≤ 3) (hn : n < 6) (ha : a < K) (hr : ∀ b ∈ r, b < K) (hl : r.length ≤ 4) {x y : Int} (hx : x = (n : Int) - 1) (hy : y = (r.length : Int)) :
    ((cnt c K (some (c + a) :: freeP c r) n : Nat) : Int) = holdZ x y K := by
  cases n with
  | zero => rw [cnt_front0, holdZ_neg (by omega)]; rfl
  | succ m => rw [cnt_front ha, cnt_free r m hr, holdZ_nat (N := m) (H := r.length) hK1 hK3 (by omega) (by omega) (by omega) (by omega)]
theorem law_end {n z : Nat} {r : List Nat} (hK1 : 1 ≤ K) (hK3 : K ≤ 3) (hn : n < 6) (hz : z < K) (hr : ∀ b ∈ r, b < K) (hl : r.length ≤ 4) {x y : Int} (hx : x = (n : Int) - 1) (hy : y = (r.length : Int)) :
    ((cnt c K (freeP c r ++ [some (c + z)]) n : Nat) : Int) = holdZ x y K := by
  cases n with
  | zero => rw [cnt_end0, holdZ_neg (by omega)]; rfl
  | succ m => rw [cnt_end hz, cnt_free r m hr, holdZ_nat (N := m) (H := r.length) hK1 hK3 (by omega) (by omega) (by omega) (by omega)]
theorem law_both {n a z : Nat} {r : List Nat} (hK1 : 1 ≤ K) (hK3 : K ≤ 3) (hn : n < 6) (ha : a < K) (hz : z < K) (hr : ∀ b ∈ r, b < K) (hl : r.length ≤ 4) {x y : Int} (hx : x = (n : Int) - 2) (hy : y = (r.length : Int)) :
    ((cnt c K (some (c + a) :: (freeP c r ++ [some (c + z)])) n : Nat) : Int) = holdZ x y K := by
  cases n with
  | zero => rw [cnt_front0, holdZ_neg (by omega)]; rfl
  | succ m => rw [cnt_front ha, law_end hK1 hK3 (by omega) hz hr hl (x := x) (y := y) (by omega) hy]
theorem law_one {n a : Nat} (ha : a < K) : ((cnt c K [some (c + a)] n : Nat) : Int) = if n = 1 then 1 else 0 := by
  cases n with
  | zero => rw [cnt_front0]; rfl
  | succ m =>
    rw [cnt_front ha, cnt_nil]
    by_cases e : m = 0
    · subst e; rfl
    · rw [if_neg e, if_neg (by omega)]; rfl
end
section
variable {fr bk : Bool} {n1 n2 : Int} {c K : Nat} {Wd : List Int}
theorem law2 (h1 : n1 = 1 ∨ n1 = 2) (h2 : n2 = 1 ∨ n2 = 2) (hK1 : 1 ≤ K) (hK3 : K ≤ 3) (h4 : Wd.length ≤ 4) (n : Nat) (hn : n < 6) :
    ((cnt c K ((([] ++ endP fr n1) ++ wpat c K Wd Wd.length) ++ endP bk n2) n : Nat) : Int) = toldOf fr bk Wd K n := by
  rw [cnt_congr (pat_eqv h1 h2)]
  have hi : ∀ a ∈ idx K Wd, a < K := by
    intro a ha
    obtain ⟨w, _, rfl⟩ := List.mem_map.mp ha
    have e1 := Int.fmod_nonneg_of_pos w (b := (K : Int)) (by omega)
    have e2 := Int.fmod_lt_of_pos w (b := (K : Int)) (by omega)
    omega
  have hl : (idx K Wd).length = Wd.length := by simp [idx]
  unfold toldOf bareOf tiesOf
  rw [← hl] at h4 ⊢
  generalize idx K Wd = L at hi h4
  cases L with
  | nil =>
    cases fr <;> cases bk
    · rw [if_neg (by simp)]
      show _ = holdZ ((n : Int) - 0) (((0 : Nat) : Int) - 0) K
      have e : cnt c K (side false ++ (core c [] ++ side false)) n = cnt c K [none] n := cnt_congr (fun y => pm_two [] y) n
      rw [e]
      exact law_nil hK1 hK3 hn
    · rw [if_neg (by simp)]
      show _ = holdZ ((n : Int) - 0) (((0 : Nat) : Int) - 0) K
      exact law_nil hK1 hK3 hn
    · rw [if_neg (by simp)]
      show _ = holdZ ((n : Int) - 0) (((0 : Nat) : Int) - 0) K
      exact law_nil hK1 hK3 hn
    · rw [if_pos (by simp)]
      show ((cnt c K [] n : Nat) : Int) = if n = 0 then 1 else 0
      rw [cnt_nil]
      by_cases e : n = 0
      · rw [if_pos e, if_pos e]; rfl
      · rw [if_neg e, if_neg e]; rfl
  | cons a r =>
    have ha := hi a List.mem_cons_self
    have hr : ∀ b ∈ r, b < K := fun b hb => hi b (List.mem_cons_of_mem _ hb)
    have hlen : (a :: r).length = r.length + 1 := rfl
    cases fr <;> cases bk
    · rw [if_neg (by simp), if_neg (by simp)]
      show ((cnt c K (none :: (core c (a :: r) ++ [none])) n : Nat) : Int) = _
      rw [core_free, cnt_free _ _ hi]
      exact (holdZ_nat hK1 hK3 hn (by omega) (by simp) (by simp)).symm
    · rw [if_neg (by simp), if_neg (by simp)]
      obtain ⟨mid, z, e⟩ := snoc_of a r
      show ((cnt c K (none :: (core c (a :: r) ++ [])) n : Nat) : Int) = _
      have hlm : (a :: r).length = mid.length + 1 := by rw [e]; simp
      rw [List.append_nil, e, core_end]
      exact law_end hK1 hK3 hn (hi z (by rw [e]; simp)) (fun b hb => hi b (by rw [e]; simp [hb])) (by omega) (by simp) (by simp)
    · rw [if_neg (by simp), if_neg (by simp)]
      have e : side true ++ (core c (a :: r) ++ side false) = some (c + a) :: freeP c r := by
        cases r with
        | nil => simp [side, core, freeP]
        | cons b r =>
          rw [core_more]
          show some (c + a) :: (none :: (core c (b :: r) ++ [none])) = _
          rw [core_free]
      rw [e]
      exact law_front hK1 hK3 hn ha hr (by omega) (by simp) (by rw [hlen]; simp)
    · cases r with
      | nil =>
        rw [if_pos (by simp)]
        exact law_one ha
      | cons b r =>
        rw [if_neg (by simp), if_neg (by simp)]
        obtain ⟨mid, z, e⟩ := snoc_of b r
        have hlm : (b :: r).length = mid.length + 1 := by rw [e]; simp
        have e2 : side true ++ (core c (a :: b :: r) ++ side true) = some (c + a) :: (freeP c mid ++ [some (c + z)]) := by
          rw [core_more]
          show some (c + a) :: (none :: (core c (b :: r) ++ [])) = _
          rw [List.append_nil, e, core_end]
        rw [e2]
        exact law_both hK1 hK3 hn ha (hr z (by rw [e]; simp)) (fun q hq => hr q (by rw [e]; simp [hq])) (by omega) (by simp) (by rw [hlen, hlm]; simp; omega)
end
end Mine
end
section
open PySem PySem.W PyProof.Rows
set_option Elab.async false
namespace Mine
section
variable {prog : Program} {w : World} {A : Around} {E : Value → Shared → Prop} {s : Shared} {Q : Value → Shared → Prop}
theorem mul_small {a b : Int} {t u : Tok} (h1 : -(2 ^ 64) < a) (h2 : a < 2 ^ 64) (h : Q (.int (a * b) s.toks) { s with toks := s.toks + 1 }) : wpAny (model prog w) A (binaryOp .Mult (.int a t) (.int b u)) Q E s :=
  PyProof.Rows.mul_int h (IntMulOk.of_left (intBits_le_64 h1 h2))
end
theorem ch_bd : ∀ N, N < 6 → ∀ i, i < 7 → ch N i ≤ 10 := by decide
theorem ch_next : ∀ N, N < 6 → ∀ i, i < 6 → ch N i * (N - i) / (i + 1) = ch N (i + 1) := by decide
theorem chZ_bd {N i : Nat} (hN : N < 6) (hi : i < 7) : 0 ≤ chZ N i ∧ chZ N i ≤ 10 := by
  have := ch_bd N hN i hi
  unfold chZ
  omega
theorem chZ_next {N i : Nat} (hN : N < 6) (hi : i ≤ N) : (chZ N i * ((N : Int) - (i : Int))).fdiv ((i : Int) + 1) = chZ N (i + 1) := by
  have h := ch_next N hN i (by omega)
  unfold chZ
  have e1 : (ch N i : Int) * ((N : Int) - (i : Int)) = ((ch N i * (N - i) : Nat) : Int) := by
    rw [Int.natCast_mul]
    congr 1
    omega
  have e2 : (i : Int) + 1 = ((i + 1 : Nat) : Int) := by omega
  rw [e1, e2, ← h]
  exact (Int.ofNat_fdiv _ _).symm
theorem totZ_add {K N H i : Nat} (hK : 1 ≤ K) (hi : i ≤ N) (h : (i : Int) ≥ (H : Int)) : totZ K N H i + chZ N i * ((K : Int) - 1) ^ ((N : Int) - (i : Int)).toNat = totZ K N H (i + 1) := by
  unfold totZ chZ
  show _ = ((tot0 K N H i + (if H ≤ i then ch N i * (K - 1) ^ (N - i) else 0) : Nat) : Int)
  rw [if_pos (by omega), Int.natCast_add, Int.natCast_mul]
  have e1 : ((N : Int) - (i : Int)).toNat = N - i := by omega
  have e2 : (K : Int) - 1 = ((K - 1 : Nat) : Int) := by omega
  rw [e1, e2, Int.natCast_pow]
theorem totZ_skip {K N H i : Nat} (h : ¬ (i : Int) ≥ (H : Int)) : totZ K N H i = totZ K N H (i + 1) := by
  unfold totZ
  show _ = ((tot0 K N H i + (if H ≤ i then ch N i * (K - 1) ^ (N - i) else 0) : Nat) : Int)
  rw [if_neg (by omega)]
  rfl
def HoldJ (K N H : Nat) (nx₀ : List (Addr × Obj)) (m₀ : Str → Option Value) (i : Nat) (m : Str → Option Value) (nx : List (Addr × Obj)) : Prop :=
  ∃ t1 t2 u, m = (fun z => if z = Str.ofString "total" then some (.int (totZ K N H i) t1) else if z = Str.ofString "ways" then some (.int (chZ N i) t2) else if z = Str.ofString "places" then u else m₀ z) ∧ nx = nx₀
theorem HoldJ.intro {K N H : Nat} {nx₀ nx : List (Addr × Obj)} {m₀ m : Str → Option Value} {i : Nat} {x y : Int} {t1 t2 : Tok} (h1 : m (Str.ofString "total") = some (.int x t1)) (hx : x = totZ K N H i) (h2 : m (Str.ofString "ways") = some (.int y t2)) (hy : y = chZ N i)
    (h : ∀ z, z ≠ Str.ofString "total" → z ≠ Str.ofString "ways" → z ≠ Str.ofString "places" → m z = m₀ z) (hn : nx = nx₀) : HoldJ K N H nx₀ m₀ i m nx := by
  subst hx hy
  exact ⟨t1, t2, _, map_ext3 (a := Str.ofString "total") (b := Str.ofString "ways") (c := Str.ofString "places") h1 h2 rfl (fun z h1 h2 h3 => by simp only [if_neg h1, if_neg h2, if_neg h3]; exact h z h1 h2 h3), hn⟩
theorem holdZ_eq {N : Int} {H K : Nat} : totZ K N.toNat H (N + 1).toNat = holdZ N (H : Int) K := by
  unfold holdZ
  split
  · have e : (N + 1).toNat = 0 := by omega
    rw [e, totZ_zero]
  · have e : (N + 1).toNat = N.toNat + 1 := by omega
    rw [e, Int.toNat_natCast]
end Mine
end
section
open PySem PySem.W PyProof.Rows
set_option Elab.async false
set_option maxRecDepth 100000
set_option maxHeartbeats 8000000
namespace Mine
local macro_rules | `(tactic| walk_at "exec For Name Call cons nil") => `(tactic| (k_here; (rename Fr _ _ _ _ => lF'); (with_unfolding_all refine' For_invVF lF' ?k1 ?k2 ?_; (case k1 => exact rfl); (case k2 => exact rfl); k_whole)))
local macro_rules | `(tactic| walk_at "pyIter ref") => `(tactic| (k_here; refine Stop.out 2 ?_))
local macro_rules | `(tactic| walk_at "TurnPost") => `(tactic| (dsimp only [TurnPost]))
local macro_rules | `(tactic| walk_at "TurnEnd") => `(tactic| (k_here; refine Stop.out 4 ?_))
local macro_rules | `(tactic| walk_at "call type:range") => `(tactic| (k_here; (with_reducible show wpAny _ _ (call _ [_]) _ _ _); (rename Fr _ _ _ _ => F'); (rename News _ _ _ _ => N'); (with_unfolding_all refine range1_rows F' N' ?_); intro _ _ _ _ _ _ _ _ _))
local macro_rules | `(tactic| walk_at "binaryOp Pow int int") => `(tactic| (k_here; k_dflt (refine pow_int_small (by omega) (by omega) (by omega) ?_)))
local macro_rules | `(tactic| walk_at "binaryOp Mult int int") => `(tactic| (k_here; k_dflt (refine mul_small (by omega) (by omega) ?_)))
theorem hold_claim (w : World) (mean : ExcName → Option Value) (mg mb : Str → Option Value) (news : List (Addr × Obj)) (N : Int) (tN : Tok) (H : Int) (tH : Tok) (K : Nat) (tK : Tok) :
  CbClaim Challenge.rw_rl0001_02.row.prog w (Mine.hd.heap_39 w.params) Mine.hd.view_39 (looseW Mine.hd.view_39 []) mean mg mb 28 news []
    (-10 ≤ N ∧ N ≤ 5 ∧ 0 ≤ H ∧ 1 ≤ K ∧ K ≤ 3)
    [.int N tN, .int H tH, .int (K : Int) tK] (fun t => .int (holdZ N H K) t) := by
  w_top off
  w_strict (k_fill
            dsimp only [CbClaim, CbLists, CbRet]; intros; rename_i hret
            rename _ ∧ _ => hpre
            obtain ⟨hN0, hN5, hH, hK1, hK3⟩ := hpre
            obtain ⟨Hn, rfl⟩ : ∃ n : Nat, H = (n : Int) := ⟨H.toNat, by omega⟩
            refine wpAny_call ?_
            k_dflt cell_enter
            k_steps
            rename IsRange _ _ _ _ _ _ _ _ => hR
            rename Fr _ _ _ _ => F9
            rename News _ _ _ _ => N9
            unfold Stop
            (with_unfolding_all refine' iter_rngM (n := (N + 1).toNat) (HoldJ K N.toNat Hn news) ?hh1 ?hr1 ?hsm1 ?hn1 ?F1 ?N1 ?hj1 ?turn1 ?done1)
            case hh1 => exact rfl
            case hr1 => exact hR
            case hsm1 => exact small_one (by omega) (by omega) (by omega) (by omega)
            case hn1 => rw [rangeSize_nat]; omega
            case F1 => exact F9
            case N1 => exact N9
            case hj1 => exact HoldJ.intro rfl (totZ_zero _ _ _).symm rfl (chZ_zero _).symm (fun z h1 h2 h3 => rfl) rfl
            case turn1 =>
              clear hR F9 N9
              rintro i t m1 nx I oI h2 tk2 hi ⟨t1, t2, u, rfl, rfl⟩ hlow F1 N1
              rw [show (0 : Int) + (i : Int) * 1 = (i : Int) by omega] at F1
              obtain ⟨Nn, rfl⟩ : ∃ n : Nat, N = (n : Int) := ⟨N.toNat, by omega⟩
              rw [Int.toNat_natCast] at F1
              have hc := chZ_bd (N := Nn) (i := i) (by omega) (by omega)
              try k_fold
              k_steps
              all_goals (unfold Stop; rename Fr _ _ _ _ => Fe; rename News _ _ _ _ => Ne; rw [Int.toNat_natCast])
              all_goals first
                | exact TurnEnd.intro Fe Ne same_led (by k_all) (HoldJ.intro rfl (totZ_add hK1 (by omega) (by assumption)) rfl (chZ_next (by omega) (by omega)) (fun z h1 h2 h3 => by simp only [if_neg h1, if_neg h2, if_neg h3]) rfl)
                | exact TurnEnd.intro Fe Ne same_led (by k_all) (HoldJ.intro rfl (totZ_skip (by assumption)) rfl (chZ_next (by omega) (by omega)) (fun z h1 h2 h3 => by simp only [if_neg h1, if_neg h2, if_neg h3]) rfl)
            case done1 =>
              clear hR F9 N9
              rintro m1 nx h2 tk2 ⟨t1, t2, u, rfl, rfl⟩ F1 N1
              dsimp only
              try k_fold
              k_steps
              exact cb_retI hret holdZ_eq (by k_asm) (by k_asm))
end Mine
end
section
open PySem PySem.W PyProof.Rows
set_option Elab.async false
set_option maxRecDepth 100000
namespace Mine
theorem em_pat {w : World} {mean : ExcName → Option Value} {mg mb : Str → Option Value} {news : List (Addr × Obj)} {p : Pat} {t : Tok} {Y : List Nat} {u : Tok} {dp un : Nat} {gd : Option (List Code)} {cn : Str} {cs : Scope} {a : Addr} {ccd : Value} {cl : List (Str × Addr)} {outer : List Env}
    {A₀ : Around} {base h₀ : Heap} {L : Addr} {m : Str → Option Value} {s : Shared} {Q E : Value → Shared → Prop}
    (B : Below A₀ base outer h₀) (F : Fr h₀ L s.heap m) (X : (hd.heap_39 w.params).In h₀) (N : News h₀ L s.heap news) (T : Top hd.view_39 (looseW hd.view_39 []) mean mg mb h₀) (hk : cs.kind = .function)
    (hc : clean p) (hx : (render p).length ≤ 1000) (hy : Y.length ≤ 1000) (hd : dp + 1 < recursionLimit) (hu : un + 8 < cLine)
    (ret : ∀ h' tk', Fr h₀ L h' m → News h₀ L h' news → Q (.bool (pm p Y)) { s with heap := h', toks := tk' }) :
    wpAny (model Challenge.rw_rl0001_02.row.prog w) (ktrTop dp un gd cn cs L a ccd cl outer) (call (.ref 21) [.str (txt (render p)) t, .str (txt Y) u]) Q E s := by
  have h := em_claim w mean mg mb news (txt (render p)) t (txt Y) u
  dsimp only [CbClaim, CbLists, CbRet] at h
  refine h dp un gd cn cs a ccd cl outer A₀ base h₀ L m s Q E B F X N T hk ⟨by rw [txt_len]; exact hx, by rw [txt_len]; exact hy⟩ hd hu ?_
  intro _ h' tk' F' N'
  rw [em_render p hc]
  exact ret h' tk' F' N'
end Mine
end
section
open PySem PySem.W PyProof.Rows PySem.Spec PySem.Calls
set_option Elab.async false
set_option maxRecDepth 100000
namespace Mine
section
variable {fr bk : Bool} {Wd : List Int} {K n : Nat}
theorem hold_args (hb : bareOf fr bk Wd = false) : 0 ≤ tiesOf fr bk Wd ∧ tiesOf fr bk Wd ≤ 2 ∧ tiesOf fr bk Wd ≤ (Wd.length : Int) := by
  unfold bareOf at hb
  unfold tiesOf
  by_cases e : Wd.length = 0
  · rw [if_pos e]; omega
  · rw [if_neg e]
    cases fr <;> cases bk <;> simp at hb ⊢ <;> omega
theorem told_1 (hb : bareOf fr bk Wd = true) (h : (n : Int) = (Wd.length : Int)) : 1 = toldOf fr bk Wd K n := by
  unfold toldOf; rw [if_pos hb, if_pos (by omega)]
theorem told_0 (hb : bareOf fr bk Wd = true) (h : ¬ (n : Int) = (Wd.length : Int)) : 0 = toldOf fr bk Wd K n := by
  unfold toldOf; rw [if_pos hb, if_neg (by omega)]
theorem told_h (hb : bareOf fr bk Wd = false) : holdZ ((n : Int) - tiesOf fr bk Wd) ((Wd.length : Int) - tiesOf fr bk Wd) K = toldOf fr bk Wd K n := by
  unfold toldOf; rw [if_neg (by rw [hb]; simp)]
end
theorem pow_243 {K i : Nat} (hK3 : K ≤ 3) (hi : i < 6) : K ^ (i - 1) ≤ 243 :=
  Nat.le_trans (Nat.pow_le_pow_left hK3 _) (Nat.pow_le_pow_right (n := 3) (by decide) (by omega : i - 1 ≤ 5))
theorem comp_size {c K i : Nat} {tv ys : List Value} (hK3 : K ≤ 3) (hi : i < 6) (hS : StrsAre tv (wordsS c K (i - 1))) (hy : ys.length = K) : (tv.length + 1) * ys.length ≤ sizeLine := by
  have h1 : tv.length ≤ 243 := by rw [hS.length, wordsS_count]; exact pow_243 hK3 hi
  have h2 : (tv.length + 1) * ys.length ≤ 244 * 3 := Nat.mul_le_mul (by omega) (by omega)
  rw [sizeLine_eq]
  omega
theorem glue_len {c K n : Nat} {xv yv : Str} (hx : xv ∈ wordsS c K n) (hn : n ≤ 100) (hy : yv ∈ (List.range K).map fun j => txt [c + j]) : xv.length + yv.length ≤ sizeLine := by
  rw [wordsS_eq] at hx
  obtain ⟨t, ht, rfl⟩ := List.mem_map.mp hx
  obtain ⟨j, _, rfl⟩ := List.mem_map.mp hy
  rw [txt_len, txt_len, words_len c K n t ht, sizeLine_eq]
  simp
  omega
theorem words_step {c K i : Nat} {zs : List Value} (hi : i ≠ 0) (h : StrsAre zs ((wordsS c K (i - 1)).flatMap fun a => ((List.range K).map fun j => txt [c + j]).map (a ++ ·))) : StrsAre zs (wordsS c K i) := by
  rw [wordsS_succ] at h
  have : i - 1 + 1 = i := by omega
  rw [this] at h
  exact h
theorem hold_pat {w : World} {mean : ExcName → Option Value} {mg mb : Str → Option Value} {news : List (Addr × Obj)} {N H : Int} {K : Nat} {tN tH tK : Tok} {dp un : Nat} {gd : Option (List Code)} {cn : Str} {cs : Scope} {a : Addr} {ccd : Value} {cl : List (Str × Addr)} {outer : List Env}
    {A₀ : Around} {base h₀ : Heap} {L : Addr} {m : Str → Option Value} {s : Shared} {Q E : Value → Shared → Prop}
    (B : Below A₀ base outer h₀) (F : Fr h₀ L s.heap m) (Xi : (hd.heap_39 w.params).In h₀) (N' : News h₀ L s.heap news) (T : Top hd.view_39 (looseW hd.view_39 []) mean mg mb h₀) (hk : cs.kind = .function)
    (h : -10 ≤ N ∧ N ≤ 5 ∧ 0 ≤ H ∧ 1 ≤ K ∧ K ≤ 3) (hd : dp + 1 < recursionLimit) (hu : un + 8 < cLine)
    (ret : ∀ t h' tk', Fr h₀ L h' m → News h₀ L h' news → Q (.int (holdZ N H K) t) { s with heap := h', toks := tk' }) :
    wpAny (model Challenge.rw_rl0001_02.row.prog w) (ktrTop dp un gd cn cs L a ccd cl outer) (call (.ref 28) [.int N tN, .int H tH, .int (K : Int) tK]) Q E s := by
  have hc := hold_claim w mean mg mb news N tN H tH K tK
  dsimp only [CbClaim, CbLists, CbRet] at hc
  exact hc dp un gd cn cs a ccd cl outer A₀ base h₀ L m s Q E B F Xi N' T hk h hd hu ret
end Mine
end
section
open PySem PySem.W PyProof.Rows
set_option Elab.async false
set_option maxRecDepth 100000
set_option maxHeartbeats 8000000
namespace Mine
local macro_rules | `(tactic| walk_at "assign Tuple cons ref") => `(tactic| (k_here; (fail_if_success (rename Passed 1 => hP)); refine Stop.out 1 ?_))
local macro_rules | `(tactic| walk_at "exec Assign cons ListComp") => `(tactic| (k_here; (fail_if_success (rename Passed 2 => hP)); refine Stop.out 2 ?_))
local macro_rules | `(tactic| walk_at "CompSrc") => `(tactic| (k_here; refine Stop.out 5 ?_))
local macro_rules | `(tactic| walk_at "KCtEl") => `(tactic| (k_here; refine Stop.out 6 ?_))
local macro_rules | `(tactic| walk_at "KPfDone") => `(tactic| (k_here; refine Stop.out 7 ?_))
local macro_rules | `(tactic| walk_at "exec If UnaryOp cons nil") => `(tactic| (k_here; (fail_if_success (rename Passed 8 => hP)); refine Stop.out 8 ?_))
local macro_rules | `(tactic| walk_at "StoredAs") => `(tactic| (k_here; refine Stop.out 3 ?_))
local macro_rules | `(tactic| walk_at "binaryOp Mult str int") => `(tactic| (k_here; k_dflt (refine mul_dots (one_two _) ?_); intro t' k'))
local macro_rules | `(tactic| walk_at "inplaceOp Add str str") => `(tactic| (k_here; k_dflt (refine' iadd_txt ?a ?b ?c ?_; (case a => first | with_reducible exact empty_txt | with_reducible exact rfl); (case b => with_reducible exact rfl); (case c => first | omega | (simp only [List.length_append, List.length_cons, List.length_nil]; omega)); k_whole); intro t' k'))
local macro_rules | `(tactic| walk_at "exec For Name Call cons nil") => `(tactic| (k_here; (rename Fr _ _ _ _ => lF'); (with_unfolding_all refine' For_invVF lF' ?k1 ?k2 ?_; (case k1 => exact rfl); (case k2 => exact rfl); k_whole)))
local macro_rules | `(tactic| walk_at "exec For Name Name cons nil") => `(tactic| (k_here; (rename Fr _ _ _ _ => lF'); (with_unfolding_all refine' For_invVF lF' ?k1 ?k2 ?_; (case k1 => exact rfl); (case k2 => exact rfl); k_whole)))
local macro_rules | `(tactic| walk_at "call builtin:len") => `(tactic| (k_here; (with_reducible show wpAny _ _ (call (Value.builtin "len") [Value.ref _]) _ _ _); k_dflt (refine' len_made ?N ?m ?e ?f ?_; (case N => k_asm); (case m => k_mem); (case e => exact IntsAre.length (by assumption)); (case f => omega); k_whole)))
local macro_rules | `(tactic| walk_at "call type:range") => `(tactic| (k_here; (with_reducible show wpAny _ _ (call _ [_]) _ _ _); (rename Fr _ _ _ _ => F'); (rename News _ _ _ _ => N'); (with_unfolding_all refine range1_rows F' N' ?_); intro _ _ _ _ _ _ _ _ _))
local macro_rules | `(tactic| walk_at "subscriptTail Name Name ref int") => `(tactic| (k_here; k_dflt (refine' int_item ?N ?m ?i ?l ?b ?_ ?d ?e; (case N => k_asm); (case m => k_mem); (case i => with_reducible assumption); (case l => omega); (case b => omega); (case d => with_unfolding_all rfl); (case e => (intro _; with_unfolding_all rfl)); k_whole); intro t'))
local macro_rules | `(tactic| walk_at "subscriptTail Name BinOp ref int") => `(tactic| (k_here; k_dflt (refine' letter_item ?N ?m ?i ?l ?b ?c ?_ ?d ?e; (case N => k_asm); (case m => k_mem); (case i => with_reducible assumption); (case l => exact Int.fmod_nonneg_of_pos _ (by omega)); (case b => exact Int.fmod_lt_of_pos _ (by omega)); (case c => omega); (case d => with_unfolding_all rfl); (case e => (intro _; with_unfolding_all rfl)); k_whole); intro t'))
local macro_rules | `(tactic| walk_at "pyIter ref") => `(tactic| (k_here; refine Stop.out 9 ?_))
local macro_rules | `(tactic| walk_at "TurnPost") => `(tactic| (dsimp only [TurnPost]))
local macro_rules | `(tactic| walk_at "TurnEnd") => `(tactic| (k_here; refine Stop.out 4 ?_))
local macro_rules | `(tactic| walk_at "exec If Name cons nil") => `(tactic| (k_here; (fail_if_success (rename Passed 10 => hP)); refine Stop.out 10 ?_))
local macro_rules | `(tactic| walk_at "exec Assign cons BoolOp") => `(tactic| (k_here; (fail_if_success (rename Passed 14 => hP)); refine Stop.out 14 ?_))
local macro_rules | `(tactic| walk_at "eval IfExp Compare Constant Constant") => `(tactic| (k_here; (fail_if_success (rename Passed 11 => hP)); refine Stop.out 11 ?_))
local macro_rules | `(tactic| walk_at "EvalAs") => `(tactic| (k_here; refine Stop.out 15 ?_))
local macro_rules | `(tactic| walk_at "TextsAs") => `(tactic| (k_here; refine Stop.out 16 ?_))
local macro_rules | `(tactic| walk_at "Comp2Src") => `(tactic| (k_here; refine Stop.out 17 ?_))
local macro_rules | `(tactic| walk_at "exec If Name cons cons") => `(tactic| (k_here; (fail_if_success (rename Passed 12 => hP)); refine Stop.out 12 ?_))
local macro_rules | `(tactic| walk_at "call ref") => `(tactic| (k_here; refine Stop.out 5 ?_))
theorem law_holds : PySem.Challenge.rw_rl0001_02.Holds := by
  w_top off
  refine Mine.hd ?_
  w_strict (k_go0; (all_goals try k_fold)
            rename List Int => ns
            rename World => w
            k_steps
            unfold Stop
            rename IntsAre _ (List.take 3 _) => hI3
            obtain ⟨one, t1, two, t2, three, t3, rfl⟩ := ints_three hI3 (by simp)
            clear hI3
            have hP := passed 1
            k_steps
            unfold Stop
            rename Fr _ _ _ _ => F1
            rename News _ _ _ _ => N1
            have hk0 := Int.fmod_nonneg_of_pos one (b := 3) (by decide)
            have hk3 := Int.fmod_lt_of_pos one (b := 3) (by decide)
            have hc0 := Int.fmod_nonneg_of_pos three (b := 300) (by decide)
            have hc3 := Int.fmod_lt_of_pos three (b := 300) (by decide)
            obtain ⟨K, hK⟩ : ∃ K : Nat, 1 + one.fmod 3 = (K : Int) := ⟨(1 + one.fmod 3).toNat, by omega⟩
            rw [hK] at F1
            have hK1 : 1 ≤ K := by omega
            have hK3 : K ≤ 3 := by omega
            clear hK hk0 hk3
            k_dflt (refine wpAny_Assign_Name ?_ (hs := by with_unfolding_all rfl))
            k_dflt (refine LCg.ListComp_U (F₀ := by k_asm) (by with_unfolding_all rfl) (by decide) (by rfl) (by decide) (by rfl) ?_)
            k_steps
            unfold Stop
            rename IsRange _ _ _ _ _ _ _ _ => hR
            rename Fr _ _ _ _ => F2
            rename News _ _ _ _ => N2
            refine LCg.CompSrc.range (n := K) rfl F2 N2 hR (small_one (by omega) (by omega) (by omega) (by omega)) (by rw [rangeSize_nat]; omega) (by rw [sizeLine_eq]; omega) ?_
            clear hR F2 N2
            intro g'
            refine kct_range (n := K) (a := 0) (letOf three) (fun k t I oI C oC D m2 ys h tk E' hlo hhi hC hx F' N' off ne mk => ?_) ?_
            · simp only [LCg.Off3, and_true] at off
              k_steps
              unfold Stop
              exact kct_el rfl rfl rfl
            · unfold KPfDone
              intro ys hys _
              have hL := CarriedAll.strsOf hys
              clear hys
              obtain ⟨c, hc⟩ : ∃ c : Nat, 256 + three.fmod 300 = (c : Int) := ⟨(256 + three.fmod 300).toNat, by omega⟩
              have hc256 : 256 ≤ c := by omega
              rw [letters_eq hc] at hL
              clear hc hc0 hc3
              have hyl : ys.length = K := by rw [hL.length]; simp
              unfold LCg.FinE
              intro aA h1 tk1 F3 N3 o1
              simp only [LCg.Off1, and_true] at o1
              generalize ((one.fdiv 3).fmod 2 == 1) = fr at F3
              generalize ((one.fdiv 6).fmod 2 == 1) = bk at F3
              have hml1 := marks_len (one_two two)
              have hml2 := marks_len (one_two (two.fdiv 2))
              try dsimp only
              k_steps
              rename Fr _ _ _ _ => F4
              rename News _ _ _ _ => N4
              unfold Stop
              refine cut_store (Str.ofString "form") (fun t => .str (txt (render ([] ++ endP fr (1 + two.fmod 2)))) t) F4 N4 ?_ ?_
              · have hP := passed 8
                k_steps
                all_goals (unfold Stop; rename Fr _ _ _ _ => Fe; rename News _ _ _ _ => Ne)
                all_goals first
                  | exact StoredAs.intro Fe Ne same_led rfl (str_val1 (end_no (q := []) (by assumption)))
                  | exact StoredAs.intro Fe Ne same_led (map_ext1 (a := Str.ofString "form") rfl (fun z hz => by simp only [if_neg hz])) (str_val1 (empty_txt.trans (end_yes (q := []) (by assumption))))
              clear F4 N4
              rename_i _ oc doc aWd wv _ hWd hWl _ hltW _ _
              intro h5 tk5 t5 F5 N5
              have hl7 : (List.take 7 ns).length ≤ 7 := by rw [List.length_take]; omega
              generalize List.drop 3 (List.take 7 ns) = Wd at hWd hWl
              have hW4 : Wd.length ≤ 4 := by omega
              clear hWl
              obtain ⟨mm, F6⟩ := fr_six (Str.ofString "form") (Str.ofString "word") (Str.ofString "back") (Str.ofString "front") (Str.ofString "kinds") (Str.ofString "two") F5 rfl rfl rfl rfl rfl rfl
              rename Shared => s1
              have N6 := news_pick3 (p1 := (aWd, listOf wv.toArray 0)) (p2 := (aA, LCg.lst ys)) (p3 := (_, oc)) N5 (by k_mem) (by k_mem) (by k_mem)
              clear F5 N5
              try dsimp only at F6
              try dsimp only
              k_steps
              rename IsRange _ _ _ _ _ _ _ _ => hR7
              rename Fr _ _ _ _ => F7
              rename News _ _ _ _ => N7
              unfold Stop
              have hq1 := one_two two
              generalize hn1 : 1 + two.fmod 2 = n1 at F7 hq1
              (with_unfolding_all refine' iter_rngM (n := Wd.length) (StrJ (Str.ofString "form") (Str.ofString "place") (formAt ([] ++ endP fr n1) c K Wd) [(aWd, listOf wv.toArray 0), (aA, LCg.lst ys), (s1.heap.objs.size + 1 + 1, oc)]) ?ahh ?ahr ?ahsm ?ahn ?aF ?aN ?ahj ?aturn ?adone)
              case ahh => exact rfl
              case ahr => exact hR7
              case ahsm => exact small_one (by omega) (by omega) (by omega) (by omega)
              case ahn => rw [rangeSize_nat]; omega
              case aF => exact F7
              case aN => exact N7
              case ahj => exact StrJ.intro rfl rfl (form_zero _ _ _ _) (fun z h1 h2 => rfl) rfl
              case aturn =>
                clear hR7 F7 N7
                rintro j t m1 nx I oI h8 tk8 hj ⟨tf, uf, rfl, rfl⟩ hlow F8 N8
                rw [show (0 : Int) + (j : Int) * 1 = (j : Int) by omega] at F8
                rw [formAt_eq] at F8
                have hfl := form_len (d := fr) hq1 c K Wd j
                simp only [AllLt, and_true] at hlow
                have hml := marks_len (one_two ((Wd.getD j 0).fdiv 3))
                try k_fold
                k_steps
                all_goals (unfold Stop; rename Fr _ _ _ _ => Fe; rename News _ _ _ _ => Ne)
                · exact TurnEnd.intro Fe Ne same_led (by k_all) (StrJ.intro rfl rfl (form_gap (by assumption)) (fun z h1 h2 => by simp only [if_neg h1, if_neg h2]) rfl)
                · exact TurnEnd.intro Fe Ne same_led (by k_all) (StrJ.intro rfl rfl (form_last (by assumption)) (fun z h1 h2 => by simp only [if_neg h1, if_neg h2]) rfl)
              case adone =>
                clear hR7 F7 N7
                rintro m1 nx h8 tk8 ⟨tf, uf, rfl, rfl⟩ F8 N8
                rw [formAt_eq] at F8
                have hfl := form_len (d := fr) hq1 c K Wd Wd.length
                dsimp only
                try k_fold
                k_steps
                rename Fr _ _ _ _ => F9
                rename News _ _ _ _ => N9
                unfold Stop
                refine cut_store (Str.ofString "form") (fun t => .str (txt (render ((([] ++ endP fr n1) ++ wpat c K Wd Wd.length) ++ endP bk (1 + (two.fdiv 2).fmod 2)))) t) F9 N9 ?_ ?_
                · have hP := passed 8
                  k_steps
                  all_goals (unfold Stop; rename Fr _ _ _ _ => Fe; rename News _ _ _ _ => Ne)
                  all_goals first
                    | exact StoredAs.intro Fe Ne same_led rfl (str_val1 (end_no (by assumption)))
                    | exact StoredAs.intro Fe Ne same_led (map_ext1 (a := Str.ofString "form") rfl (fun z hz => by simp only [if_neg hz])) (str_val1 (end_yes (by assumption)))
                clear F9 N9
                intro h10 tk10 t10 F10 N10
                have hq2 := one_two (two.fdiv 2)
                generalize 1 + (two.fdiv 2).fmod 2 = n2 at F10 hq2
                try dsimp only
                k_steps
                rename Fr _ _ _ _ => F11
                rename News _ _ _ _ => N11
                unfold Stop
                refine cut_store (Str.ofString "ties") (fun t => .int (tiesOf fr bk Wd) t) F11 N11 ?_ ?_
                · have hP := passed 10
                  k_steps
                  all_goals (unfold Stop; rename Fr _ _ _ _ => Fe; rename News _ _ _ _ => Ne)
                  all_goals first
                    | exact StoredAs.intro Fe Ne same_led rfl (int_val1 (ties_tt (by assumption) (by assumption) (by assumption)))
                    | exact StoredAs.intro Fe Ne same_led rfl (int_val1 (ties_tf (by assumption) (by assumption) (by assumption)))
                    | exact StoredAs.intro Fe Ne same_led rfl (int_val1 (ties_ft (by assumption) (by assumption) (by assumption)))
                    | exact StoredAs.intro Fe Ne same_led rfl (int_val1 (ties_ff (by assumption) (by assumption) (by assumption)))
                    | exact StoredAs.intro Fe Ne same_led (map_ext1 (a := Str.ofString "ties") rfl (fun z hz => by simp only [if_neg hz])) (int_val1 (ties_0 (by assumption)))
                clear F11 N11
                intro h12 tk12 t12 F12 N12
                try dsimp only
                k_steps
                rename Fr _ _ _ _ => F13
                rename News _ _ _ _ => N13
                unfold Stop
                refine cut_store (Str.ofString "bare") (fun _ => .bool (bareOf fr bk Wd)) F13 N13 ?_ ?_
                · have hP := passed 14
                  k_steps
                  all_goals (unfold Stop; rename Fr _ _ _ _ => Fe; rename News _ _ _ _ => Ne)
                  all_goals first
                    | exact StoredAs.intro (t := 0) Fe Ne same_led rfl (bool_val1 (bare_tt (by assumption) (by assumption)))
                    | exact StoredAs.intro (t := 0) Fe Ne same_led rfl (bool_val1 (bare_b (by assumption)))
                    | exact StoredAs.intro (t := 0) Fe Ne same_led rfl (bool_val1 (bare_a (by assumption)))
                clear F13 N13
                intro h14 tk14 t14 F14 N14
                try dsimp only
                k_steps
                rename Fr _ _ _ _ => F15
                rename News _ _ _ _ => N15
                unfold Stop
                refine cut_eval (fun t => .int (lenOf K) t) F15 N15 ?_ ?_
                · have hP := passed 11
                  k_steps
                  all_goals (unfold Stop; rename Fr _ _ _ _ => Fe; rename News _ _ _ _ => Ne)
                  · exact EvalAs.intro Fe Ne same_led (int_val1 (len_lt (by assumption)))
                  · exact EvalAs.intro Fe Ne same_led (int_val1 (len_ge (by assumption)))
                clear F15 N15
                intro h16 tk16 t16 F16 N16
                have hlb := len_bd (K := K)
                try dsimp only
                k_steps
                rename IsRange _ _ _ _ _ _ _ _ => hR17
                rename Fr _ _ _ _ => F17
                rename News _ _ _ _ => N17
                unfold Stop
                have hPc := pat_clean (fr := fr) (bk := bk) (n1 := n1) (n2 := n2) (K := K) (Wd := Wd) hc256
                have hPl := pat_len (fr := fr) (bk := bk) (c := c) (K := K) (Wd := Wd) hq1 hq2 hW4
                have hlaw := law2 (fr := fr) (bk := bk) (c := c) (K := K) (Wd := Wd) hq1 hq2 hK1 hK3 hW4
                generalize (([] ++ endP fr n1) ++ wpat c K Wd Wd.length) ++ endP bk n2 = PT at F17 hPc hPl hlaw
                clear hfl hml1 hml2 hq1 hq2
                (with_unfolding_all refine' iter_rngO (n := (lenOf K).toNat) (TextJ c K [(aWd, listOf wv.toArray 0), (aA, LCg.lst ys), (s1.heap.objs.size + 1 + 1, oc)]) ?bhh ?bhr ?bhsm ?bhn ?bF ?bN ?bhj ?bturn ?bdone)
                case bhh => exact rfl
                case bhr => exact hR17
                case bhsm => exact small_one (by omega) (by omega) (by omega) (by omega)
                case bhn => rw [rangeSize_nat]; omega
                case bF => exact F17
                case bN => exact N17
                case bhj => exact TextJ.intro rfl (fun z h1 h2 h3 h4 h5 h6 => rfl) rfl (.cons _ _ .nil) (wordsS_zero c K)
                case bturn =>
                  clear hR17 F17 N17
                  rintro i t m1 nx I oI h20 tk20 hi ⟨aT, tv, nT, u1, u2, u3, u4, u5, rfl, rfl, hS⟩ hoff hlow F18 N18
                  rw [show (0 : Int) + (i : Int) * 1 = (i : Int) by omega] at F18
                  have hi6 : i < 6 := by omega
                  have hTI : aT ≠ I := hoff _ (.head _)
                  clear hoff
                  simp only [AllLt, and_true] at hlow
                  try k_fold
                  k_steps
                  rename Fr _ _ _ _ => F19
                  rename News _ _ _ _ => N19
                  unfold Stop
                  refine cut_texts (I := I) (S := wordsS c K i) (nx₀ := [(I, oI), (aWd, listOf wv.toArray 0), (aA, LCg.lst ys), (s1.heap.objs.size + 1 + 1, oc)]) F19 ?_ ?_
                  · have hP := passed 10
                    k_steps
                    all_goals (unfold Stop; rename Fr _ _ _ _ => F21; rename News _ _ _ _ => N21)
                    · have hi0 : i ≠ 0 := by omega
                      k_dflt (refine assign2 F21 rfl (by with_unfolding_all rfl) (by with_unfolding_all rfl) (by decide) (by rfl) (by decide) (by rfl) (by rfl) (by decide) (by rfl) (by rfl) ?_)
                      k_steps
                      unfold Stop
                      refine ⟨aT, aA, _, oc, tv, ys, wordsS c K (i - 1), _, nT, _, _, rfl, rfl, F21, N21, .tail _ (.head _), hS, .tail _ (.tail _ (.tail _ (.tail _ (.head _)))), .tail _ (.tail _ (.tail _ (.head _))), hL, comp_size hK3 hi6 hS hyl, ?_, ?_, ?_⟩
                      · intro C s' Q E' hg hQ
                        exact wpAny_Name (wpAny_loadName_cell (by rfl) (by rfl) (by rfl) ⟨oc, hg, doc⟩ hQ) (by decide)
                      · intro C xv tx yv ty s' m' Q E' hx hy hn hm1 hm2 hQ
                        exact glue hn hm1 hm2 (glue_len hx (by omega) hy) hQ (by rfl) (by rfl) (by rfl) (by decide) (by decide)
                      · intro D h tk zs n F' N' hlt hz
                        simp only [AllLt, and_true] at hlt
                        clear F21 N21
                        have hDI : D ≠ I := Nat.ne_of_gt hlt.1
                        try dsimp only
                        k_steps
                        unfold Stop
                        rename Fr _ _ _ _ => Fe
                        rename News _ _ _ _ => Ne
                        exact TextsAs.intro Fe Ne (by kcj_all) hDI rfl (words_step hi0 hz) rfl
                    · have hi0 : i = 0 := by omega
                      exact TextsAs.intro F21 N21 (by kcj_all) hTI (map_ext1 (a := Str.ofString "texts") rfl (fun z hz => by simp only [if_neg hz])) hS (by rw [hi0])
                  clear F19 N19
                  intro h22 tk22 aT2 tv2 nT2 F20 N20 hTI2 hS2
                  try dsimp only
                  k_steps
                  rename Fr _ _ _ _ => F23
                  rename News _ _ _ _ => N23
                  unfold Stop
                  (with_unfolding_all refine' iter_madeM (FitJ c K PT i [(aT2, listOf tv2.toArray nT2), (I, oI), (aWd, listOf wv.toArray 0), (aA, LCg.lst ys), (s1.heap.objs.size + 1 + 1, oc)]) ?chh ?cF ?cN ?chl ?chj ?cturn ?cdone)
                  case chh => exact rfl
                  case cF => exact F23
                  case cN => exact N23
                  case chl => rintro i2 m nx ⟨_, _, _, _, rfl⟩; exact .head _
                  case chj => exact FitJ.intro rfl (cntAt_zero _ _ _ _).symm (fun z h1 h2 h3 => rfl) rfl
                  case cturn =>
                    clear F23 N23
                    rintro i2 v m1 nx I2 oI2 h24 tk24 hv ⟨t5, u7, u8, rfl, rfl⟩ hlow2 F24 N24
                    obtain ⟨y, ty, rfl, hy⟩ := hS2.item i2 v hv
                    obtain ⟨yt, rfl, hyw, hyn⟩ := wordsS_at hy
                    simp only [AllLt, and_true] at hlow2
                    try k_fold
                    k_steps
                    unfold Stop
                    (refine' em_pat ?dB ?dF ?dX ?dN ?dT ?dk ?dc ?dx ?dy ?dd ?du ?dr)
                    (case dB => k_asm)
                    (case dF => k_asm)
                    (case dX => k_asm)
                    (case dN => k_asm)
                    (case dT => k_asm)
                    (case dk => exact rfl)
                    (case dc => exact hPc)
                    (case dx => exact hPl)
                    (case dy => omega)
                    (case dd => ktr_room)
                    (case du => ktr_units)
                    intro h26 tk26 F26 N26
                    clear F24 N24
                    generalize hb : pm PT yt = b
                    cases b
                    all_goals k_steps
                    all_goals (unfold Stop; rename Fr _ _ _ _ => Fe; rename News _ _ _ _ => Ne)
                    · exact TurnEnd.intro Fe Ne same_led (by k_all) (FitJ.intro rfl (cntAt_no hyw hb) (fun z h1 h2 h3 => by simp only [if_neg h1, if_neg h2, if_neg h3]) rfl)
                    · exact TurnEnd.intro Fe Ne same_led (by k_all) (FitJ.intro rfl (cntAt_yes hyw hb) (fun z h1 h2 h3 => by simp only [if_neg h1, if_neg h2, if_neg h3]) rfl)
                  case cdone =>
                    clear F23 N23
                    rintro m1 nx h24 tk24 ⟨t5, u7, u8, rfl, rfl⟩ F24 N24
                    have hlen2 : tv2.length = (wordsS c K i).length := hS2.length
                    rw [hlen2, cntAt_all, hlaw i hi6] at F24
                    dsimp only
                    try k_fold
                    k_steps
                    rename Fr _ _ _ _ => F25
                    rename News _ _ _ _ => N25
                    unfold Stop
                    refine cut_store (Str.ofString "told") (fun t => .int (toldOf fr bk Wd K i) t) F25 N25 ?_ ?_
                    · have hP := passed 12
                      have hP' := passed 11
                      k_steps
                      all_goals unfold Stop
                      all_goals first
                        | ((rename Fr _ _ _ _ => Fe); (rename News _ _ _ _ => Ne); exact StoredAs.intro Fe Ne same_led rfl (int_val1 (told_1 (by assumption) (by assumption))))
                        | ((rename Fr _ _ _ _ => Fe); (rename News _ _ _ _ => Ne); exact StoredAs.intro Fe Ne same_led rfl (int_val1 (told_0 (by assumption) (by assumption))))
                        | skip
                      rename bareOf fr bk Wd = false => hbf
                      have hta := hold_args hbf
                      (refine' hold_pat ?eB ?eF ?eX ?eN ?eT ?ek ?eh ?ed ?eu ?er)
                      (case eB => k_asm)
                      (case eF => k_asm)
                      (case eX => k_asm)
                      (case eN => k_asm)
                      (case eT => k_asm)
                      (case ek => exact rfl)
                      (case eh => omega)
                      (case ed => ktr_room)
                      (case eu => ktr_units)
                      intro t28 h28 tk28 F28 N28
                      try dsimp only
                      k_steps
                      unfold Stop
                      rename Fr _ _ _ _ => Fe
                      rename News _ _ _ _ => Ne
                      exact StoredAs.intro Fe Ne same_led rfl (int_val1 (told_h hbf))
                    clear F25 N25
                    intro h30 tk30 t30 F30 N30
                    try dsimp only
                    k_steps
                    all_goals (unfold Stop; rename Fr _ _ _ _ => Fe; rename News _ _ _ _ => Ne)
                    exact TurnEnd.intro (news' := (aT2, listOf tv2.toArray nT2) :: [(aWd, listOf wv.toArray 0), (aA, LCg.lst ys), (s1.heap.objs.size + 1 + 1, oc)]) Fe Ne (by kcj_all) (by k_all) (TextJ.intro rfl (fun z h1 h2 h3 h4 h5 h6 => by simp only [if_neg h1, if_neg h2, if_neg h3, if_neg h4, if_neg h5, if_neg h6]) rfl hS2 rfl)
                case bdone =>
                  clear hR17 F17 N17
                  rintro m1 nx h20 tk20 ⟨aT, tv, nT, u1, u2, u3, u4, u5, rfl, rfl, hS⟩ F18 N18
                  dsimp only
                  try k_fold
                  k_steps)
end Mine
end
open PySem PySem.W PyProof.Rows
theorem PySem.Challenge.cw_rl0001_02_holds : PySem.Challenge.rw_rl0001_02.Holds := by
  exact Mine.law_holds
