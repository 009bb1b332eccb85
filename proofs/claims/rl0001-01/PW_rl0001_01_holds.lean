import PyProof.Rows.All
import Wide.All
import OpenK.AllK
import Wide.FinOn
import PySem.Challenge.RW_rl0001_01
set_option Elab.async false
section
open PySem PySem.W PyProof.Rows
set_option Elab.async false
set_option maxRecDepth 100000
set_option maxHeartbeats 8000000
namespace Mine
open_top hd for PySem.Challenge.rw_rl0001_01
end Mine
end
section
open PySem PySem.W PyProof.Rows PySem.Spec PySem.Calls
set_option Elab.async false
set_option maxRecDepth 100000
set_option maxHeartbeats 4000000
namespace Mine
open PySem.Builtin PySem.Builtin.Str
/-- got.find(w, i, j) -/
def find4 (x y : Str) (i j : Int) : Int :=
  match occurrences x y (fromIndex x.length i) (min (fromIndex x.length j) x.length) 1 with | k :: _ => (k : Int) | [] => -1
theorem gives_find4 (x y : Str) (i j : Int) (t u v v' : Tok) : Gives («str.find» ⟨[.str x t, .str y u, .int i v, .int j v'], []⟩) (.int (find4 x y i j)) := by
  show Gives (match occurrences x y (fromIndex x.length i) (min (fromIndex x.length j) x.length) 1 with | k :: _ => retInt k | [] => (do rule "str.find.not-found"; retInt (-1))) _
  unfold find4
  cases occurrences x y (fromIndex x.length i) (min (fromIndex x.length j) x.length) 1 with
  | nil => exact .rule (.of_eq rfl)
  | cons k _ => exact .of_eq rfl
section
variable {prog : Program} {w : World} {A : Around} {E : Value → Shared → Prop} {s : Shared} {h₀ : Heap} {L : Addr} {m : Str → Option Value} {news news' : List (Addr × Obj)}
theorem call_find4 {x y : Str} {t u v v' : Tok} {i j : Int} {Q : Value → Shared → Prop} (hq : Q (.int (find4 x y i j) s.toks) { s with toks := s.toks + 1 }) :
    wpAny (model prog w) A (call (.builtin "str.find") [.str x t, .str y u, .int i v, .int j v']) Q E s :=
  call_gives F.slot_str_find (typeIs_str _ _ _) F.entry_str_find (F.args_str_find_4 _ _ _ _) (gives_find4 x y i j t u v v') hq
theorem strs_of {l : List (Str × Tok)} {ws : List Str} (e : l.map (·.1) = ws) : StrsAre (strValues l) ws := by
  subst e; exact strsAre_of_values l
theorem sub_le (x : Str) (i j : Nat) : (strSub x i j).length ≤ x.length := by
  have e : (strSub x i j).length = (strSub x i j).cps.toList.length := by simp [Str.length]
  rw [e, StrLaws.strSub_toList, List.length_take, List.length_drop]
  have : x.cps.toList.length = x.length := by simp [Str.length]
  omega
theorem split_le (x y : Str) : ∀ p ∈ Txt.split x y, p.length ≤ x.length := by
  intro p hp
  unfold Txt.split at hp
  split at hp
  · rw [List.mem_singleton.mp hp]; exact Nat.le_refl _
  · split at hp
    · rw [List.mem_singleton.mp hp]; exact Nat.le_refl _
    · unfold partsBetween at hp
      obtain ⟨⟨i, j⟩, _, rfl⟩ := List.mem_map.mp hp
      exact sub_le x i j
theorem split_count (x y : Str) : (Txt.split x y).length ≤ x.length + 2 := by
  unfold Txt.split
  split
  · simp
  · split
    · simp
    · have h := StrLaws.occ_length_le x y 0 x.length (x.length + 1)
      simp [partsBetween]
      omega
/-- the pieces: the first, the middle ones, the last -/
theorem split_made {x y : Str} {t u : Tok} {Q : Value → Shared → Prop} (F : Fr h₀ L s.heap m) (N : News h₀ L s.heap news) (hy : (y.length == 0) = false)
    (h2 : 2 ≤ (Txt.split x y).length)
    (h : ∀ D a ta mid vm z tz h' k, Txt.split x y = a :: (mid ++ [z]) → StrsAre vm mid → a.length ≤ x.length → z.length ≤ x.length → (∀ p ∈ mid, p.length ≤ x.length) → vm.length ≤ x.length + 1 → Fr h₀ L h' m → News h₀ L h' ((D, listOf (.str a ta :: (vm ++ [.str z tz])).toArray 0) :: news) → (∀ p ∈ news, p.1 < D) → Q (.ref D) { s with heap := h', toks := k })
    (hsz : x.length + 2 ≤ sizeLine) :
    wpAny (model prog w) A (call (.builtin "str.split") [.str x t, .str y u]) Q E s := by
  refine KSpl.split1 F N hy (fun D l h' k e _ F' N' hl => ?_) hsz
  have S := strs_of e
  cases hs : Txt.split x y with
  | nil => rw [hs] at h2; simp at h2
  | cons a r =>
    rw [hs] at S h2
    obtain ⟨ta, vs', ev, S'⟩ := StrsAre.cons_inv S
    rcases PyProof.Rows.strs_nil_or_snoc S' with ⟨_, er⟩ | ⟨vi, yi, z, tz, ev', er, S''⟩
    · subst er; simp at h2
    · subst er
      rw [ev, ev'] at N'
      have hle := split_le x y
      rw [hs] at hle
      have hcount : vi.length ≤ x.length + 1 := by
        have := split_count x y
        rw [hs] at this
        have e2 := StrsAre.length S''
        simp at this
        omega
      exact h D a ta yi vi z tz h' k hs S'' (hle a (by simp)) (hle z (by simp)) (fun p hp => hle p (by simp [hp])) hcount F' N' hl
theorem len_made {l : Addr} {its : List Value} {n k : Nat} {Q : Value → Shared → Prop} (N : News h₀ L s.heap news) (hm : (l, listOf its.toArray n) ∈ news) (e : its.length = k) (hfit : (k : Int) < 2 ^ 63)
    (h : Q (.int (k : Int) (s.toks + 1)) { s with toks := s.toks + 1 + 1 }) : wpAny (model prog w) A (call (.builtin "len") [.ref l]) Q E s := kst_len N hm e hfit h
/-- del ws[i] of a made list -/
theorem del_made {D : Addr} {its its' : List Value} {n : Nat} {i : Int} {u : Tok} {k : Nat} {Q : Unit → Shared → Prop} (F : Fr h₀ L s.heap m) (N : News h₀ L s.heap news)
    (hfit : Builtin.List.listFitsIndex i = true) (hk : seqIndex? i its.length = some k) (he : its.eraseIdx k = its')
    (U : Upd D (listOf its.toArray n) (listOf its'.toArray (n + 1)) news news')
    (h : ∀ h', Fr h₀ L h' m → News h₀ L h' news' → Q () { s with heap := h' }) (hsz : its.length ≤ sizeLine) :
    wpAny (model prog w) A (delItem (.ref D) (.int i u)) Q E s := by
  obtain ⟨pre, post, rfl, rfl, a, b⟩ := U.split
  have z := N (D, listOf its.toArray n) (List.mem_append.mpr (.inr (.head _)))
  subst he
  exact delItem_at (hsz := by simpa using hsz) z.1 hfit (by simpa using hk) fun h' hs ho' => h h' (F.change hs z.2.1 z.2.2) (news_set N a b hs (by simpa using ho'))
theorem del_first {D : Addr} {its r : List Value} {v : Value} {n : Nat} {i : Int} {u : Tok} {Q : Unit → Shared → Prop} (F : Fr h₀ L s.heap m) (N : News h₀ L s.heap news) (hi : i = 0) (hr : its = v :: r)
    (U : Upd D (listOf its.toArray n) (listOf r.toArray (n + 1)) news news')
    (h : ∀ h', Fr h₀ L h' m → News h₀ L h' news' → Q () { s with heap := h' }) (hsz : its.length ≤ sizeLine) :
    wpAny (model prog w) A (delItem (.ref D) (.int i u)) Q E s := by
  subst hi hr
  refine del_made (k := 0) F N (by decide) ?_ ?_ U h hsz
  · simp [seqIndex?]
  · rfl
theorem del_last {D : Addr} {its r : List Value} {v : Value} {n : Nat} {i : Int} {u : Tok} {Q : Unit → Shared → Prop} (F : Fr h₀ L s.heap m) (N : News h₀ L s.heap news) (hi : i = -1) (hr : its = r ++ [v])
    (U : Upd D (listOf its.toArray n) (listOf r.toArray (n + 1)) news news')
    (h : ∀ h', Fr h₀ L h' m → News h₀ L h' news' → Q () { s with heap := h' }) (hsz : its.length ≤ sizeLine) :
    wpAny (model prog w) A (delItem (.ref D) (.int i u)) Q E s := by
  subst hi hr
  refine del_made (k := r.length) F N (by decide) ?_ ?_ U h hsz
  · simp [seqIndex?]
    omega
  · simp [List.eraseIdx_append_of_length_le]
/-- an item of a made list, from the front or from behind -/
theorem item_made {value slice : PySem.Expr} {l : Addr} {its : List Value} {n : Nat} {k : Int} {u : Tok} {v : Value} {Q : Value → Shared → Prop} (N : News h₀ L s.heap news) (hm : (l, listOf its.toArray n) ∈ news)
    (h0 : 0 ≤ k) (hhi : k < 2 ^ 63) (hx : its[k.toNat]? = some v) (h : Q v s)
    (hs : subscripted slice false (.ref l) (.int k u) = operate [.ref l, .int k u] (getItem (.ref l) (.int k u)) := by with_unfolding_all rfl) (hg : ∀ r, letTemporaryGo value (.ref l) r = pure () := by intro _; with_unfolding_all rfl) :
    wpAny (model prog w) A (subscriptTail value slice (.ref l) (.int k u)) Q E s := by
  have hl : s.heap.IsList l its.toArray := ⟨_, (N _ hm).1, rfl, n, rfl⟩
  exact subscriptTail_builtin hl.typeIs slot_list_getitem.lookup (wpAny_getItem_list hl h0 hhi (by simpa using hx) h) hs hg
theorem last_snoc {r : List Value} {v : Value} : (r ++ [v]).getLast? = some v := by simp
theorem last_csnoc {r : List Value} {a v : Value} : (a :: (r ++ [v])).getLast? = some v := by rw [← List.cons_append]; exact last_snoc
theorem last_made {value slice : PySem.Expr} {l : Addr} {its : List Value} {n : Nat} {k : Int} {u : Tok} {v : Value} {Q : Value → Shared → Prop} (N : News h₀ L s.heap news) (hm : (l, listOf its.toArray n) ∈ news)
    (hk : k = -1) (hx : its.getLast? = some v) (h : Q v s)
    (hs : subscripted slice false (.ref l) (.int k u) = operate [.ref l, .int k u] (getItem (.ref l) (.int k u)) := by with_unfolding_all rfl) (hg : ∀ r, letTemporaryGo value (.ref l) r = pure () := by intro _; with_unfolding_all rfl) :
    wpAny (model prog w) A (subscriptTail value slice (.ref l) (.int k u)) Q E s := by
  have hl : s.heap.IsList l its.toArray := ⟨_, (N _ hm).1, rfl, n, rfl⟩
  have hpos : 0 < its.length := by
    cases its with
    | nil => simp at hx
    | cons a r => simp
  refine subscriptTail_builtin hl.typeIs slot_list_getitem.lookup (wpAny_getItem_list_neg hl (by omega) (by simp; omega) (by omega) ?_ h) hs hg
  have e : (k + (its.toArray.size : Int)).toNat = its.length - 1 := by simp; omega
  rw [e]
  rw [List.getLast?_eq_getElem?] at hx
  simpa using hx
end
end Mine
end
section
open PySem PySem.W PyProof.Rows PySem.Spec PySem.Calls
set_option Elab.async false
set_option maxRecDepth 100000
set_option maxHeartbeats 4000000
namespace Mine
/-- a turn's end: the loop's own object stands, what the invariant asks holds -/
def TurnEnd (h₀ : Heap) (L : Addr) (J : (Str → Option Value) → List (Addr × Obj) → Prop) (I : Addr) (oI : Obj) (s₁ s₂ : Shared) : Prop :=
  ∃ h' tk m' news', s₂ = { s₁ with heap := h', toks := tk } ∧ Fr h₀ L h' m' ∧ News h₀ L h' ((I, oI) :: news') ∧ (∀ p ∈ news', p.1 ≠ I) ∧ J m' news'
def TurnPost (h₀ : Heap) (L : Addr) (J : (Str → Option Value) → List (Addr × Obj) → Prop) (I : Addr) (oI : Obj) (s₁ : Shared) (Q : Flow → Shared → Prop) (f : Flow) (s₂ : Shared) : Prop :=
  match f with
  | .ret v => Q (.ret v) s₂
  | .brk => Q .next s₂
  | _ => TurnEnd h₀ L J I oI s₁ s₂
theorem TurnEnd.intro {h₀ : Heap} {L I : Addr} {J : (Str → Option Value) → List (Addr × Obj) → Prop} {oI : Obj} {s₁ : Shared} {h' : Heap} {tk : Nat} {m' : Str → Option Value} {news' all : List (Addr × Obj)}
    (F : Fr h₀ L h' m') (N : News h₀ L h' all) (hs : ∀ p ∈ (I, oI) :: news', p ∈ all) (off : ∀ p ∈ news', p.1 ≠ I) (hj : J m' news') : TurnEnd h₀ L J I oI s₁ { s₁ with heap := h', toks := tk } :=
  ⟨h', tk, m', news', rfl, F, fun p hp => N p (hs p hp), off, hj⟩
section
variable {prog : Program} {w : World} {A : Around} {E : Value → Shared → Prop} {s : Shared} {env : Env} {h₀ : Heap} {x : Str} {body : List Stmt} {Q : Flow → Shared → Prop}
theorem iter_made {l : Addr} {vs : List Value} {nn : Nat} {m₀ : Str → Option Value} {news : List (Addr × Obj)} (J : Nat → (Str → Option Value) → List (Addr × Obj) → Prop)
    (hh : A.handled = none) (F : Fr h₀ env.locals s.heap m₀) (N : News h₀ env.locals s.heap news) (hJl : ∀ i m nx, J i m nx → (l, listOf vs.toArray nn) ∈ nx) (hj : J 0 m₀ news)
    (turn : ∀ i v m₁ news₁ I oI h tk, vs[i]? = some v → J i m₁ news₁ → (∀ p ∈ news₁, p.1 ≠ I) → (∀ p ∈ news, p.1 < I) → Fr h₀ env.locals h (fun y => if y = x then some v else m₁ y) → News h₀ env.locals h ((I, oI) :: news₁) →
      wpAny (model prog w) A (execs body env) (TurnPost h₀ env.locals (J (i + 1)) I oI { s with heap := h, toks := tk } Q) E { s with heap := h, toks := tk })
    (done : ∀ m₁ news₁ h tk, J vs.length m₁ news₁ → Fr h₀ env.locals h m₁ → News h₀ env.locals h news₁ → Q .next { s with heap := h, toks := tk }) :
    wpAny (model prog w) A (pyIter (.ref l)) (fun it s₂ => LoopAtV prog w A h₀ env x body Q E it s₂) E s := by
  have hl := hJl _ _ _ hj
  have hol : s.heap.get? l = some (listOf vs.toArray nn) := (N _ hl).1
  have hls : s.heap.IsList l vs.toArray := ⟨_, hol, rfl, nn, rfl⟩
  have hne : l ≠ s.heap.objs.size := Nat.ne_of_lt (Heap.lt_size hol)
  have hlow : ∀ p ∈ news, p.1 < s.heap.objs.size := fun p hp => Heap.lt_size (N p hp).1
  have hI0 : h₀.get? s.heap.objs.size = none := next_is_new F
  refine wpAny_pyIter_list hls ?_
  have W := Walks.list (prog := prog) (w := w) hh s.heap.objs.size l hne vs.toArray
  have hlen : vs.toArray.size = vs.length := by simp
  rw [hlen] at W
  refine ⟨_, _, _, vs.length, _, _, m₀, news, J, rfl, W, ?_, ?_, ?_, ⟨⟨_, Heap.get?_push_size _ rfl, rfl, rfl⟩, hls.at fun o e => Heap.get?_push_of_some _ e⟩, F.push _, (fun p hp => ⟨Heap.get?_push_of_some _ (N p hp).1, (N p hp).2⟩), hj, ?_, ?_⟩
  · intro hm
    rcases List.mem_cons.mp hm with e | hm
    · exact absurd F.ns.lt (e ▸ Nat.lt_irrefl _)
    · exact (N _ hl).2.1 ((List.mem_singleton.mp hm).symm)
  · intro b hb
    rw [List.mem_singleton.mp hb]
    exact hI0
  · intro p hp hI
    exact absurd (hlow p hp) ((List.mem_singleton.mp hI) ▸ Nat.lt_irrefl _)
  · rintro i v m₁ news₁ s₁ own ⟨hh', tk', rfl⟩ hin hP hJ hoff hown hget hfp hst F₁ N₁
    obtain ⟨oI, heI, _⟩ := hst.1
    have hIown : (s.heap.objs.size, oI) ∈ own := hfp _ (by simp) hI0 oI heI
    have N₂ : News h₀ env.locals hh' ((s.heap.objs.size, oI) :: news₁) := fun p hp => by
      rcases List.mem_cons.mp hp with rfl | hp
      · exact N₁ _ (List.mem_append.mpr (.inl hIown))
      · exact N₁ _ (List.mem_append.mpr (.inr hp))
    have hlo : hh'.get? l = some (listOf vs.toArray nn) := (N₁ _ (List.mem_append.mpr (.inr (hJl _ _ _ hJ)))).1
    have hoff' : ∀ p ∈ news₁, p.1 ≠ s.heap.objs.size := fun p hp e => hoff p hp (by simp [e])
    refine wpAny_mono (turn i v m₁ news₁ _ oI hh' tk' (by simpa using hP) hJ hoff' hlow F₁ N₂) (fun f s₂ p => ?_) fun _ _ e => e
    have fin : TurnEnd h₀ env.locals (J (i + 1)) s.heap.objs.size oI { s with heap := hh', toks := tk' } s₂ →
        LoopStepU h₀ env.locals [s.heap.objs.size] own (J (i + 1)) { s with heap := hh', toks := tk' } .next s₂ := by
      rintro ⟨h', tk, m', news', e, F', N', hof, hm⟩
      refine ⟨rfl, h', tk, m', news', e, F', fun p hp => ?_, fun p hp hI => hof p hp (List.mem_singleton.mp hI), hm⟩
      rcases List.mem_append.mp hp with h | h
      · have hg : hh'.get? p.1 = some p.2 := hget p h
        rcases List.mem_cons.mp (hown p h) with h2 | h2
        · have heI' : hh'.get? s.heap.objs.size = some oI := heI
          rw [h2, heI'] at hg
          have h3 : p = (s.heap.objs.size, oI) := Prod.ext h2 (Option.some.inj hg).symm
          rw [h3]
          exact N' _ (.head _)
        · have h2 := List.mem_singleton.mp h2
          rw [h2, hlo] at hg
          have h3 : p = (l, listOf vs.toArray nn) := Prod.ext h2 (Option.some.inj hg).symm
          rw [h3]
          exact N' _ (.tail _ (hJl _ _ _ hm))
      · exact N' p (.tail _ h)
    cases f with
    | ret v => exact .ret p
    | brk => exact .brk p
    | next => exact .next (fin p)
    | cont => exact .cont (fin p)
  · rintro h' tk m' news' F' N' _ hJ
    exact done m' news' h' tk hJ F' N'
theorem iter_rng {r : Addr} {a₀ b₀ c₀ : Int} {t₀ u₀ v₀ : Tok} {n : Nat} {m₀ : Str → Option Value} {news : List (Addr × Obj)} (J : Nat → (Str → Option Value) → List (Addr × Obj) → Prop)
    (hh : A.handled = none) (hr : IsRange s.heap r a₀ b₀ c₀ t₀ u₀ v₀) (hsmall : Builtin.Range.small a₀ b₀ c₀ = true) (hn : Builtin.Range.rangeSize a₀ b₀ c₀ = (n : Int))
    (F : Fr h₀ env.locals s.heap m₀) (N : News h₀ env.locals s.heap news) (hj : J 0 m₀ news)
    (turn : ∀ i t m₁ news₁ I oI h tk, i < n → J i m₁ news₁ → (∀ p ∈ news₁, p.1 ≠ I) → (∀ p ∈ news, p.1 < I) → Fr h₀ env.locals h (fun y => if y = x then some (.int (a₀ + (i : Int) * c₀) t) else m₁ y) → News h₀ env.locals h ((I, oI) :: news₁) →
      wpAny (model prog w) A (execs body env) (TurnPost h₀ env.locals (J (i + 1)) I oI { s with heap := h, toks := tk } Q) E { s with heap := h, toks := tk })
    (done : ∀ m₁ news₁ h tk, J n m₁ news₁ → Fr h₀ env.locals h m₁ → News h₀ env.locals h news₁ → Q .next { s with heap := h, toks := tk }) :
    wpAny (model prog w) A (pyIter (.ref r)) (fun it s₂ => LoopAtV prog w A h₀ env x body Q E it s₂) E s := by
  have hlow : ∀ p ∈ news, p.1 < s.heap.objs.size := fun p hp => Heap.lt_size (N p hp).1
  have hI0 : h₀.get? s.heap.objs.size = none := next_is_new F
  refine wpAny_pyIter_range hr hsmall ?_
  have W : Walks prog w A s.heap.objs.size [s.heap.objs.size] [s.heap.objs.size] n (fun i v => i < n ∧ ∃ t, v = .int (a₀ + i * c₀) t)
      (fun i h => IsRangeIter h s.heap.objs.size (a₀ + (i : Nat) * c₀) ((n : Int) - (i : Nat)) c₀) := (Walks.range hh _ a₀ c₀ n).bound
  refine ⟨_, _, _, n, _, _, m₀, news, J, rfl, W, ?_, ?_, ?_, (by show IsRangeIter _ _ _ _ _; rw [hn]; simpa using Heap.get?_push_size _ rfl), F.push _, (fun p hp => ⟨Heap.get?_push_of_some _ (N p hp).1, (N p hp).2⟩), hj, ?_, ?_⟩
  · intro hm
    exact absurd F.ns.lt ((List.mem_singleton.mp hm) ▸ Nat.lt_irrefl _)
  · intro b hb
    rw [List.mem_singleton.mp hb]
    exact hI0
  · intro p hp hI
    exact absurd (hlow p hp) ((List.mem_singleton.mp hI) ▸ Nat.lt_irrefl _)
  · rintro i v m₁ news₁ s₁ own ⟨hh', tk', rfl⟩ hin ⟨_, t, rfl⟩ hJ hoff hown hget hfp hst F₁ N₁
    obtain ⟨oI, heI⟩ : ∃ oI, hh'.get? s.heap.objs.size = some oI := ⟨_, hst⟩
    have hIown : (s.heap.objs.size, oI) ∈ own := hfp _ (by simp) hI0 oI heI
    have N₂ : News h₀ env.locals hh' ((s.heap.objs.size, oI) :: news₁) := fun p hp => by
      rcases List.mem_cons.mp hp with rfl | hp
      · exact N₁ _ (List.mem_append.mpr (.inl hIown))
      · exact N₁ _ (List.mem_append.mpr (.inr hp))
    have hoff' : ∀ p ∈ news₁, p.1 ≠ s.heap.objs.size := fun p hp e => hoff p hp (by simp [e])
    refine wpAny_mono (turn i t m₁ news₁ _ oI hh' tk' hin hJ hoff' hlow F₁ N₂) (fun f s₂ p => ?_) fun _ _ e => e
    have fin : TurnEnd h₀ env.locals (J (i + 1)) s.heap.objs.size oI { s with heap := hh', toks := tk' } s₂ →
        LoopStepU h₀ env.locals [s.heap.objs.size] own (J (i + 1)) { s with heap := hh', toks := tk' } .next s₂ := by
      rintro ⟨h', tk, m', news', e, F', N', hof, hm⟩
      refine ⟨rfl, h', tk, m', news', e, F', fun p hp => ?_, fun p hp hI => hof p hp (List.mem_singleton.mp hI), hm⟩
      rcases List.mem_append.mp hp with h | h
      · have hg : hh'.get? p.1 = some p.2 := hget p h
        have h2 := List.mem_singleton.mp (hown p h)
        rw [h2, heI] at hg
        have h3 : p = (s.heap.objs.size, oI) := Prod.ext h2 (Option.some.inj hg).symm
        rw [h3]
        exact N' _ (.head _)
      · exact N' p (.tail _ h)
    cases f with
    | ret v => exact .ret p
    | brk => exact .brk p
    | next => exact .next (fin p)
    | cont => exact .cont (fin p)
  · rintro h' tk m' news' F' N' _ hJ
    exact done m' news' h' tk hJ F' N'
end
end Mine
end
section
open PySem PySem.W PyProof.Rows
namespace Mine
/-- the marker -/
abbrev dots : Str := Str.ofString "..."
/-- the search of the pieces, one behind the other -/
def emLoop (y : Str) (e : Int) : List Str → Int → Bool
  | [], _ => true
  | w :: r, sp => if find4 y w sp e < 0 then false else emLoop y e r (find4 y w sp e + w.length)
/-- the pieces: the first, those between, the last -/
def emParts (a : Str) (mid : List Str) (z : Str) (y : Str) : Bool :=
  if a.length ≠ 0 && !Txt.startswith y a then false
  else if z.length ≠ 0 && !Txt.endswith y z then false
  else
    let sp : Int := if a.length ≠ 0 then a.length else 0
    let ep : Int := if z.length ≠ 0 then (y.length : Int) - z.length else y.length
    if ep < sp then false
    else emLoop y ep ((if a.length ≠ 0 then [] else [a]) ++ mid ++ (if z.length ≠ 0 then [] else [z])) sp
def em (x y : Str) : Bool :=
  if Txt.contains x dots then
    match Txt.split x dots with
    | a :: r => emParts a r.dropLast (r.getLastD Str.empty) y
    | [] => false
  else x == y
open PySem.Builtin PySem.Builtin.Str in
theorem kind_pos (x : Str) : 1 ≤ Builtin.Str.strKind x := by
  unfold Builtin.Str.strKind
  split
  · exact Nat.le_refl _
  · split <;> omega
open PySem.Builtin PySem.Builtin.Str in
theorem split_two {x : Str} (h : (occurrences x dots 0 x.length 1).isEmpty = false) : 2 ≤ (Txt.split x dots).length := by
  have hf := (StrLaws.found_iff x dots).mp (by rw [h]; rfl)
  obtain ⟨i, h1, h2⟩ := hf
  have hl : dots.length = 3 := by decide
  have hk : Builtin.Str.strKind dots = 1 := by decide +kernel
  have hp := kind_pos x
  unfold Txt.split
  rw [if_neg (by simp only [Bool.or_eq_true, decide_eq_true_eq]; omega)]
  rcases StrLaws.occ_head x dots (x.length + 1) (by omega) with ⟨_, hn⟩ | ⟨j, r, e, _, _⟩
  · exact absurd ⟨h1, h2⟩ (hn i)
  · rw [e]
    simp [partsBetween]
theorem upd_low {d : Addr} {o o' : Obj} {r : List (Addr × Obj)} (h : ∀ p ∈ r, p.1 < d) : Upd d o o' ((d, o) :: r) ((d, o') :: r) := Upd.head fun p hp => Nat.ne_of_lt (h p hp)
theorem em_parts {x y a z : Str} {mid : List Str} (hc : Txt.contains x dots = true) (hs : Txt.split x dots = a :: (mid ++ [z])) : em x y = emParts a mid z y := by
  unfold em
  rw [if_pos hc, hs]
  simp
theorem em_bare {x y : Str} (h : (Builtin.Str.occurrences x dots 0 x.length 1).isEmpty = true) : (x == y) = em x y := by
  unfold em Txt.contains
  rw [h]
  simp
theorem has_dots {x : Str} (h : (Builtin.Str.occurrences x dots 0 x.length 1).isEmpty = false) : Txt.contains x dots = true := by
  unfold Txt.contains
  rw [h]
  rfl
end Mine
end
section
open PySem PySem.W PyProof.Rows PySem.Spec PySem.Calls
set_option Elab.async false
set_option maxRecDepth 100000
set_option maxHeartbeats 4000000
namespace Mine
/-- a mark: the walk stops here -/
def Stop (_n : Nat) (P : Prop) : Prop := P
theorem Stop.out (n : Nat) {P : Prop} (h : Stop n P) : P := h
def EmNext (h₀ : Heap) (L : Addr) (news : List (Addr × Obj)) (m₀ : Str → Option Value) (y : Str) (e : Int) (b : Bool) (rest : List Str) (I : Addr) (oI : Obj) (s₁ s₂ : Shared) : Prop :=
  ∃ h' tk m' sp t all, s₂ = { s₁ with heap := h', toks := tk } ∧ Fr h₀ L h' m' ∧ News h₀ L h' all ∧ (∀ p ∈ (I, oI) :: news, p ∈ all) ∧ m' (Str.ofString "startpos") = some (.int sp t) ∧
    (∀ z, z ≠ Str.ofString "w" → z ≠ Str.ofString "startpos" → m' z = m₀ z) ∧ emLoop y e rest sp = b
def EmPost (h₀ : Heap) (L : Addr) (news : List (Addr × Obj)) (m₀ : Str → Option Value) (y : Str) (e : Int) (b : Bool) (rest : List Str) (I : Addr) (oI : Obj) (s₁ : Shared) (Q : Flow → Shared → Prop) (f : Flow) (s₂ : Shared) : Prop :=
  match f with
  | .ret v => Q (.ret v) s₂
  | .brk => Q .next s₂
  | _ => EmNext h₀ L news m₀ y e b rest I oI s₁ s₂
section
variable {prog : Program} {w : World} {A : Around} {E : Value → Shared → Prop} {s : Shared} {env : Env} {h₀ : Heap} {body : List Stmt} {Q : Flow → Shared → Prop}
theorem em_iter {D : Addr} {vs : List Value} {ws : List Str} {nn : Nat} {m₀ : Str → Option Value} {news : List (Addr × Obj)} {y : Str} {ty t₀ te : Tok} {e sp₀ : Int} {B : Nat}
    (hh : A.handled = none) (F : Fr h₀ env.locals s.heap m₀) (N : News h₀ env.locals s.heap news) (hl : (D, listOf vs.toArray nn) ∈ news) (hS : StrsAre vs ws) (hle : ∀ p ∈ ws, p.length ≤ B)
    (_hgot : m₀ (Str.ofString "got") = some (.str y ty)) (_hend : m₀ (Str.ofString "endpos") = some (.int e te)) (hsp : m₀ (Str.ofString "startpos") = some (.int sp₀ t₀))
    (turn : ∀ wd tw rest sp tsp I oI h tk, wd.length ≤ B → emLoop y e (wd :: rest) sp = emLoop y e ws sp₀ → (∀ p ∈ news, p.1 < I) →
      Fr h₀ env.locals h (fun z => if z = Str.ofString "w" then some (.str wd tw) else if z = Str.ofString "startpos" then some (.int sp tsp) else m₀ z) → News h₀ env.locals h ((I, oI) :: news) →
      wpAny (model prog w) A (execs body env) (EmPost h₀ env.locals news m₀ y e (emLoop y e ws sp₀) rest I oI { s with heap := h, toks := tk } Q) E { s with heap := h, toks := tk })
    (done : ∀ m₁ h tk, emLoop y e ws sp₀ = true → Fr h₀ env.locals h m₁ → News h₀ env.locals h news → Q .next { s with heap := h, toks := tk }) :
    wpAny (model prog w) A (pyIter (.ref D)) (fun it s₂ => LoopAtV prog w A h₀ env (Str.ofString "w") body Q E it s₂) E s := by
  refine iter_made (fun i m nx => nx = news ∧ ∃ sp t, m (Str.ofString "startpos") = some (.int sp t) ∧ (∀ z, z ≠ Str.ofString "w" → z ≠ Str.ofString "startpos" → m z = m₀ z) ∧ emLoop y e (ws.drop i) sp = emLoop y e ws sp₀)
    hh F N (fun i m nx h => h.1 ▸ hl) ⟨rfl, sp₀, t₀, hsp, fun _ _ _ => rfl, rfl⟩ ?_ ?_
  · rintro i v m₁ news₁ I oI h tk hv ⟨rfl, sp, tsp, hm1, hm2, hb⟩ _ hlow F₁ N₁
    obtain ⟨wd, tw, rfl, hw⟩ := hS.item i v hv
    have hd : ws.drop i = wd :: ws.drop (i + 1) := by
      have hlt : i < ws.length := (List.getElem?_eq_some_iff.mp hw).1
      rw [List.drop_eq_getElem_cons hlt]
      rw [(List.getElem?_eq_some_iff.mp hw).2]
    rw [hd] at hb
    have em : (fun z => if z = Str.ofString "w" then some (Value.str wd tw) else m₁ z) = fun z => if z = Str.ofString "w" then some (.str wd tw) else if z = Str.ofString "startpos" then some (.int sp tsp) else m₀ z := map_one hm1 hm2
    rw [em] at F₁
    refine wpAny_mono (turn wd tw (ws.drop (i + 1)) sp tsp I oI h tk (hle _ (List.mem_of_getElem? hw)) hb hlow F₁ N₁) (fun f s₂ p => ?_) fun _ _ x => x
    have fin : EmNext h₀ env.locals news₁ m₀ y e (emLoop y e ws sp₀) (ws.drop (i + 1)) I oI { s with heap := h, toks := tk } s₂ →
        TurnEnd h₀ env.locals (fun m nx => nx = news₁ ∧ ∃ sp t, m (Str.ofString "startpos") = some (.int sp t) ∧ (∀ z, z ≠ Str.ofString "w" → z ≠ Str.ofString "startpos" → m z = m₀ z) ∧ emLoop y e (ws.drop (i + 1)) sp = emLoop y e ws sp₀) I oI { s with heap := h, toks := tk } s₂ := by
      rintro ⟨h', tk', m', sp', t', all, rfl, F', N', hin, h1, h2, h3⟩
      exact TurnEnd.intro F' N' hin (fun p hp => Nat.ne_of_lt (hlow p hp)) ⟨rfl, sp', t', h1, h2, h3⟩
    cases f with
    | ret v => exact p
    | brk => exact p
    | next => exact fin p
    | cont => exact fin p
  · rintro m₁ nx h tk ⟨rfl, sp, t, _, _, hb⟩ F₁ N₁
    have hlen := StrsAre.length hS
    rw [hlen, List.drop_length] at hb
    exact done m₁ h tk hb.symm F₁ N₁
theorem EmNext.intro {L I : Addr} {news all : List (Addr × Obj)} {m₀ m' : Str → Option Value} {y : Str} {e sp : Int} {b : Bool} {rest : List Str} {oI : Obj} {s₁ : Shared} {h' : Heap} {tk : Nat} {t : Tok}
    (F : Fr h₀ L h' m') (N : News h₀ L h' all) (hs : ∀ p ∈ (I, oI) :: news, p ∈ all) (h1 : m' (Str.ofString "startpos") = some (.int sp t)) (h2 : ∀ z, z ≠ Str.ofString "w" → z ≠ Str.ofString "startpos" → m' z = m₀ z) (h3 : emLoop y e rest sp = b) :
    EmNext h₀ L news m₀ y e b rest I oI s₁ { s₁ with heap := h', toks := tk } := ⟨h', tk, m', sp, t, all, rfl, F, N, hs, h1, h2, h3⟩
theorem le_cons {B : Nat} {a : Str} {l : List Str} (ha : a.length ≤ B) (hl : ∀ p ∈ l, p.length ≤ B) : ∀ p ∈ a :: l, p.length ≤ B := fun p hp => by
  rcases List.mem_cons.mp hp with rfl | hp
  · exact ha
  · exact hl p hp
theorem le_snoc {B : Nat} {a : Str} {l : List Str} (hl : ∀ p ∈ l, p.length ≤ B) (ha : a.length ≤ B) : ∀ p ∈ l ++ [a], p.length ≤ B := fun p hp => by
  rcases List.mem_append.mp hp with hp | hp
  · exact hl p hp
  · rw [List.mem_singleton.mp hp]; exact ha
theorem same_led {l : List (Addr × Obj)} : ∀ p ∈ l, p ∈ l := fun _ h => h
theorem news_t1 {h₀ h : Heap} {L : Addr} {a : Addr × Obj} {l : List (Addr × Obj)} (N : News h₀ L h (a :: l)) : News h₀ L h l := fun p hp => N p (.tail _ hp)
theorem news_t2 {h₀ h : Heap} {L : Addr} {a b : Addr × Obj} {l : List (Addr × Obj)} (N : News h₀ L h (a :: b :: l)) : News h₀ L h l := fun p hp => N p (.tail _ (.tail _ hp))
theorem news_t3 {h₀ h : Heap} {L : Addr} {a b c : Addr × Obj} {l : List (Addr × Obj)} (N : News h₀ L h (a :: b :: c :: l)) : News h₀ L h l := fun p hp => N p (.tail _ (.tail _ (.tail _ hp)))
theorem emLoop_go {y wd : Str} {e sp : Int} {rest : List Str} {b : Bool} (hb : emLoop y e (wd :: rest) sp = b) (hn : 0 ≤ find4 y wd sp e) : emLoop y e rest (find4 y wd sp e + wd.length) = b := by
  unfold emLoop at hb
  rw [if_neg (by omega)] at hb
  exact hb
theorem emLoop_no {y wd : Str} {e sp : Int} {rest : List Str} {b : Bool} (hb : emLoop y e (wd :: rest) sp = b) (hn : find4 y wd sp e < 0) : b = false := by
  unfold emLoop at hb
  rw [if_pos hn] at hb
  exact hb.symm
end
end Mine
end
section
open PySem PySem.W PyProof.Rows
set_option Elab.async false
set_option maxRecDepth 100000
set_option maxHeartbeats 8000000
set_option pp.deepTerms false
set_option pp.deepTerms.threshold 6
namespace Mine
local macro_rules | `(tactic| walk_at "call builtin:str.split") => `(tactic| (k_here; (refine split_made (by k_asm) (by k_asm) (by decide) (split_two (by assumption)) ?_ (by rw [PySem.sizeLine_eq]; omega)); intro D' a' ta' mid' vm' z' tz' h' k' hsp' hS' ha' hz' hm' hc' F' N' l1))
local macro_rules | `(tactic| walk_at "call builtin:len") => `(tactic| (k_here; (with_reducible show wpAny _ _ (call (Value.builtin "len") [Value.ref _]) _ _ _); (refine' len_made ?N ?m ?e ?f ?_; (case N => k_asm); (case m => k_mem); (case e => (simp only [List.length_cons, List.length_append, List.length_nil]; rfl)); (case f => omega); k_whole)))
local macro_rules | `(tactic| walk_at "subscriptTail Name Constant ref int") => `(tactic| (k_here; (refine' item_made ?N ?m ?a ?b ?c ?_ ?d ?e; (case N => k_asm); (case m => k_mem); (case a => decide); (case b => decide); (case c => exact rfl); (case d => with_unfolding_all rfl); (case e => (intro _; with_unfolding_all rfl)); k_whole)))
local macro_rules | `(tactic| walk_at "subscriptTail Name UnaryOp ref int") => `(tactic| (k_here; (refine' last_made ?N ?m ?k ?c ?_ ?d ?e; (case N => k_asm); (case m => k_mem); (case k => rfl); (case c => (first | with_reducible exact last_snoc | with_reducible exact last_csnoc)); (case d => with_unfolding_all rfl); (case e => (intro _; with_unfolding_all rfl)); k_whole)))
local macro_rules | `(tactic| walk_at "truthy str") => `(tactic| (k_here; (refine SBL.truthy (by omega) ?_)))
local macro_rules | `(tactic| walk_at "delItem ref int") => `(tactic| (k_here; k_dflt (first
  | (refine' del_first ?F ?N ?i ?r ?U ?_ ?z; (case i => exact rfl); (case F => k_asm); (case N => k_asm); (case U => (refine Upd.tail (by k_ne) (upd_low (by assumption)))); (case r => exact rfl); (case z => (simp only [List.length_cons, List.length_append, List.length_nil, PySem.sizeLine_eq]; omega)); k_whole)
  | (refine' del_last ?F ?N ?i ?r ?U ?_ ?z; (case i => exact rfl); (case F => k_asm); (case N => k_asm); (case U => (refine Upd.tail (by k_ne) (upd_low (by assumption)))); (case r => first | exact rfl | exact (List.cons_append ..).symm); (case z => (simp only [List.length_cons, List.length_append, List.length_nil, PySem.sizeLine_eq]; omega)); k_whole)); intro h' F' N'; (try k_sweep)))
local macro_rules | `(tactic| walk_at "exec For Name Name cons nil") => `(tactic| (k_here; (rename Fr _ _ _ _ => lF'); (with_unfolding_all refine' For_invVF lF' ?k1 ?k2 ?_; (case k1 => exact rfl); (case k2 => exact rfl); k_whole)))
local macro_rules | `(tactic| walk_at "pyIter ref") => `(tactic| (k_here; (rename Fr _ _ _ _ => lF'); (rename News _ _ _ _ => lN'); k_dflt ((with_unfolding_all refine' em_iter ?hh lF' lN' ?hl ?hS ?le ?g ?e ?sp ?_ ?_); (case hh => exact rfl); (case g => exact rfl); (case e => exact rfl); (case sp => exact rfl); (case hl => k_mem); (case hS => repeat (first | assumption | exact StrsAre.nil | apply StrsAre.cons | apply PySem.W.KStt.strs_snoc)); (case le => first | assumption | exact le_snoc (by assumption) (by assumption) | exact le_cons (by assumption) (by assumption) | exact le_cons (by assumption) (le_snoc (by assumption) (by assumption))); (all_goals (clear lF' lN'; first | (intro wd' tw' rest' sp' tsp' I' oI' h' tk' hmem' hb' hlow' F' N'; (try k_fold)) | (intro m' h' tk' hb' F' N'))))))
local macro_rules | `(tactic| walk_at "EmPost") => `(tactic| (dsimp only [EmPost]))
local macro_rules | `(tactic| walk_at "EmNext") => `(tactic| (k_here; k_dflt (refine EmNext.intro (by assumption) (by assumption) same_led (by exact rfl) (by intro z h1 h2; simp only [if_neg h1, if_neg h2]) (emLoop_go (by assumption) (by omega)))))
local macro_rules | `(tactic| walk_at "call builtin:str.find") => `(tactic| (k_here; (refine call_find4 ?_)))
theorem em_claim (w : World) (mean : ExcName → Option Value) (mg mb : Str → Option Value) (news : List (Addr × Obj)) (x : Str) (t : Tok) (y : Str) (u : Tok) :
  CbClaim Challenge.rw_rl0001_01.row.prog w (Mine.hd.heap_39 w.params) Mine.hd.view_39 (looseW Mine.hd.view_39 []) mean mg mb 21 news [] (x.length ≤ 1000 ∧ y.length ≤ 1000)
    [.str x t, .str y u] (fun _ => .bool (em x y)) := by
  w_top off
  w_strict (k_fill
            dsimp only [CbClaim, CbLists, CbRet]; intros; rename_i hret
            refine wpAny_call ?_
            k_dflt cell_enter
            k_steps
            all_goals (refine cb_retB hret ?_ (by k_asm) (by first | k_asm | exact news_t2 (by k_asm) | exact news_t3 (by k_asm)))
            all_goals first
              | exact em_bare (by assumption)
              | (rw [em_parts (has_dots (by assumption)) (by assumption)]; simp_all [emParts]; done)
              | (rw [em_parts (has_dots (by assumption)) (by assumption)]; rename emLoop _ _ (_ :: _) _ = _ => hb; have hb2 := emLoop_no hb (by assumption); clear hb; simp_all [emParts]; done)
              | skip
            )
end Mine
end
section
open PySem PySem.W PyProof.Rows
set_option Elab.async false
namespace Mine
open PySem.Builtin PySem.Builtin.Str PySem.StrLaws
/-! patterns: none is the mark of three dots, some c a sign -/
abbrev Pat := List (Option Nat)
def render : Pat → List Nat
  | [] => []
  | none :: p => 46 :: 46 :: 46 :: render p
  | some c :: p => c :: render p
def anyTail (f : List Nat → Bool) : List Nat → Bool
  | [] => f []
  | a :: y => f (a :: y) || anyTail f y
def pm : Pat → List Nat → Bool
  | [], y => y.isEmpty
  | none :: p, y => anyTail (pm p) y
  | some _ :: _, [] => false
  | some c :: p, a :: y => c == a && pm p y
def lits (w : List Nat) : Pat := w.map some
def clean (p : Pat) : Prop := some 46 ∉ p
def pieces : Pat → List (List Nat)
  | [] => [[]]
  | none :: p => [] :: pieces p
  | some c :: p => match pieces p with
    | w :: ws => (c :: w) :: ws
    | [] => [[c]]
def cuts : Nat → Pat → List Nat
  | _, [] => []
  | a, none :: p => a :: cuts (a + 3) p
  | a, some _ :: p => cuts (a + 1) p
/-- a text out of its signs -/
abbrev txt (l : List Nat) : Str := ⟨l.toArray⟩
theorem txt_len (l : List Nat) : (txt l).length = l.length := by simp [Str.length]
theorem txt_list (l : List Nat) : (txt l).cps.toList = l := by simp
theorem dots_list : dots.cps.toList = [46, 46, 46] := by decide +kernel
theorem dots_len : dots.length = 3 := by decide +kernel
theorem pieces_ne (p : Pat) : ∃ w ws, pieces p = w :: ws := by
  cases p with
  | nil => exact ⟨_, _, rfl⟩
  | cons a p =>
    cases a with
    | none => exact ⟨_, _, rfl⟩
    | some c =>
      cases h : pieces p with
      | nil => exact ⟨[c], [], by simp [pieces, h]⟩
      | cons w ws => exact ⟨c :: w, ws, by simp [pieces, h]⟩
theorem pieces_some {c : Nat} {p : Pat} {w : List Nat} {ws : List (List Nat)} (h : pieces p = w :: ws) : pieces (some c :: p) = (c :: w) :: ws := by simp [pieces, h]
theorem sub_dots (l : List Nat) (i : Nat) : subAt (txt l) dots i = ((l.drop i).take 3 == [46, 46, 46]) := by
  rw [subAt_eq, txt_list, dots_list, dots_len]
theorem occ_step_no {L : List Nat} {hi limit i : Nat} {l : List Nat} {st : Array Nat × Nat} (h : ¬ (st.snd ≤ i ∧ i + 3 ≤ hi ∧ (L.drop i).take 3 = [46, 46, 46])) :
    (forIn (i :: l) st (occBody (txt L) dots hi limit)).run = (forIn l st (occBody (txt L) dots hi limit)).run := by
  rw [List.forIn_cons]
  have hc : ¬ (((st.fst.size < limit ∧ st.snd ≤ i) ∧ i + dots.length ≤ hi) ∧ subAt (txt L) dots i = true) := by
    rintro ⟨⟨⟨_, h1⟩, h2⟩, h3⟩
    rw [sub_dots, beq_iff_eq] at h3
    rw [dots_len] at h2
    exact h ⟨h1, h2, h3⟩
  conv => lhs; unfold occBody
  rw [if_neg hc]
  rfl
theorem occ_step_yes {L : List Nat} {hi limit i : Nat} {l : List Nat} {st : Array Nat × Nat} (hs : st.fst.size < limit) (h1 : st.snd ≤ i) (h2 : i + 3 ≤ hi) (h3 : (L.drop i).take 3 = [46, 46, 46]) :
    (forIn (i :: l) st (occBody (txt L) dots hi limit)).run = (forIn l (st.fst.push i, i + 3) (occBody (txt L) dots hi limit)).run := by
  rw [List.forIn_cons]
  have hc : ((st.fst.size < limit ∧ st.snd ≤ i) ∧ i + dots.length ≤ hi) ∧ subAt (txt L) dots i = true := by
    refine ⟨⟨⟨hs, h1⟩, by rw [dots_len]; exact h2⟩, ?_⟩
    rw [sub_dots, beq_iff_eq]
    exact h3
  conv => lhs; unfold occBody
  rw [if_pos hc, dots_len]
  rfl
theorem occ_cuts (limit : Nat) : ∀ (p : Pat) (pre : List Nat) (st : Array Nat × Nat), clean p → st.fst.size ≤ pre.length → st.snd ≤ pre.length → (pre ++ render p).length < limit →
    (forIn (List.range' pre.length ((render p).length + 1)) st (occBody (txt (pre ++ render p)) dots (pre ++ render p).length limit)).run.fst.toList = st.fst.toList ++ cuts pre.length p
  | [], pre, st, _, hs, hf, hl => by
    simp only [render, List.length_nil, List.append_nil, cuts]
    have h1 : List.range' pre.length (0 + 1) = [pre.length] := rfl
    have h2 := occ_step_no (L := pre) (hi := pre.length) (limit := limit) (i := pre.length) (l := []) (st := st) (by omega)
    rw [h1, h2]
    simp
  | some c :: p, pre, st, hc, hs, hf, hl => by
    have ih := occ_cuts limit p (pre ++ [c]) st (fun h => hc (List.mem_cons_of_mem _ h)) (by simp; omega) (by simp; omega) (by simpa [render] using hl)
    have hne : c ≠ 46 := fun h => hc (by rw [h]; exact List.mem_cons_self)
    have e : pre ++ render (some c :: p) = (pre ++ [c]) ++ render p := by simp [render]
    have hr : List.range' pre.length ((render (some c :: p)).length + 1) = pre.length :: List.range' (pre ++ [c]).length ((render p).length + 1) := by
      simp [render, List.range'_succ]
    rw [hr, occ_step_no (by
      rintro ⟨_, _, h3⟩
      rw [List.drop_left] at h3
      simp [render] at h3
      exact hne h3.1)]
    rw [e, ih]
    simp [cuts]
  | none :: p, pre, st, hc, hs, hf, hl => by
    have ih := occ_cuts limit p (pre ++ [46, 46, 46]) (st.fst.push pre.length, pre.length + 3) (fun h => hc (List.mem_cons_of_mem _ h)) (by simp; omega) (by simp) (by simpa [render] using hl)
    have e : pre ++ render (none :: p) = (pre ++ [46, 46, 46]) ++ render p := by simp [render]
    have hr : List.range' pre.length ((render (none :: p)).length + 1) = pre.length :: (pre.length + 1) :: (pre.length + 2) :: List.range' (pre ++ [46, 46, 46]).length ((render p).length + 1) := by
      simp [render, List.range'_succ]
    rw [hr]
    rw [occ_step_yes (by simp at hl; omega) hf (by simp [render]) (by rw [List.drop_left]; simp [render])]
    rw [occ_step_no (by simp), occ_step_no (by simp)]
    rw [e, ih]
    simp [cuts]
theorem occ_render (p : Pat) (hc : clean p) : occurrences (txt (render p)) dots 0 (txt (render p)).length ((txt (render p)).length + 1) = cuts 0 p := by
  have h := occ_cuts ((render p).length + 1) p [] (#[], 0) hc (Nat.zero_le _) (Nat.zero_le _) (by simp)
  rw [occ_eq, txt_len]
  simpa using h
theorem parts_cuts : ∀ (p : Pat) (pre w : List Nat) (v : List Nat) (vs : List (List Nat)), pieces p = v :: vs →
    partsFrom (txt (pre ++ (w ++ render p))) 3 pre.length (cuts (pre ++ w).length p) = (txt (w ++ v)) :: vs.map txt
  | [], pre, w, v, vs, h => by
    simp only [pieces] at h
    obtain ⟨rfl, rfl⟩ := List.cons.inj h
    simp only [cuts, render, partsFrom, List.append_nil, List.map_nil]
    congr 1
    apply Str.ext'
    apply Array.toList_inj.mp
    rw [strSub_toList, txt_list, txt_len]
    simp
  | some c :: p, pre, w, v, vs, h => by
    obtain ⟨v', vs', h'⟩ := pieces_ne p
    rw [pieces_some h'] at h
    obtain ⟨rfl, rfl⟩ := List.cons.inj h
    have ih := parts_cuts p pre (w ++ [c]) v' vs' h'
    have e1 : pre ++ (w ++ render (some c :: p)) = pre ++ ((w ++ [c]) ++ render p) := by simp [render]
    have e2 : cuts (pre ++ w).length (some c :: p) = cuts (pre ++ (w ++ [c])).length p := by simp [cuts, Nat.add_assoc]
    rw [e1, e2, ih]
    simp
  | none :: p, pre, w, v, vs, h => by
    simp only [pieces] at h
    obtain ⟨rfl, rfl⟩ := List.cons.inj h
    obtain ⟨v', vs', h'⟩ := pieces_ne p
    have ih := parts_cuts p (pre ++ w ++ [46, 46, 46]) [] v' vs' h'
    have e1 : pre ++ (w ++ render (none :: p)) = (pre ++ w ++ [46, 46, 46]) ++ ([] ++ render p) := by simp [render]
    have e2 : cuts (pre ++ w).length (none :: p) = (pre ++ w).length :: cuts ((pre ++ w ++ [46, 46, 46]) ++ []).length p := by simp [cuts, Nat.add_assoc]
    rw [e2]
    simp only [partsFrom]
    have e3 : (pre ++ w).length + 3 = (pre ++ w ++ [46, 46, 46]).length := by simp [Nat.add_assoc]
    rw [e3, e1, ih, h']
    simp only [List.append_nil, List.nil_append, List.map_cons, List.cons.injEq, and_true]
    apply Str.ext'
    apply Array.toList_inj.mp
    rw [strSub_toList, txt_list]
    simp
theorem cuts_nil : ∀ (a : Nat) (p : Pat), cuts a p = [] ↔ none ∉ p
  | _, [] => by simp [cuts]
  | a, none :: p => by simp [cuts]
  | a, some c :: p => by simp [cuts, cuts_nil (a + 1) p]
theorem occ_one (p : Pat) (hc : clean p) : (occurrences (txt (render p)) dots 0 (txt (render p)).length 1).isEmpty = decide (none ∉ p) := by
  have h1 := occ_head (txt (render p)) dots 1 (Nat.le_refl _)
  have h2 := occ_head (txt (render p)) dots ((txt (render p)).length + 1) (by omega)
  rw [occ_render p hc] at h2
  by_cases hn : none ∈ p
  · have hne : cuts 0 p ≠ [] := fun h => (cuts_nil 0 p).mp h hn
    rcases h2 with ⟨h2, _⟩ | ⟨i, r, _, hat, _⟩
    · exact absurd h2 hne
    · rcases h1 with ⟨_, h1⟩ | ⟨j, r', h1, _⟩
      · exact absurd hat (h1 i)
      · rw [h1]; simp [hn]
  · rcases h2 with ⟨_, h2⟩ | ⟨i, r, e, _, _⟩
    · rcases h1 with ⟨h1, _⟩ | ⟨j, r', _, hat, _⟩
      · rw [h1]; simp [hn]
      · exact absurd hat (h2 j)
    · rw [(cuts_nil 0 p).mpr hn] at e; cases e
theorem split_render (p : Pat) (hc : clean p) (hn : none ∈ p) : Txt.split (txt (render p)) dots = (pieces p).map txt := by
  have h1 := occ_one p hc
  have hf : (occurrences (txt (render p)) dots 0 (txt (render p)).length 1).isEmpty = false := by rw [h1]; simp [hn]
  obtain ⟨i, hi, _⟩ := (found_iff (txt (render p)) dots).mp (by rw [hf]; rfl)
  have hk : Builtin.Str.strKind dots = 1 := by decide +kernel
  have hp := kind_pos (txt (render p))
  have hne : cuts 0 p ≠ [] := fun h => (cuts_nil 0 p).mp h hn
  unfold Txt.split
  rw [if_neg (by simp only [Bool.or_eq_true, decide_eq_true_eq]; omega), occ_render p hc, if_neg (by simpa using hne), partsBetween_eq, dots_len]
  obtain ⟨v, vs, h⟩ := pieces_ne p
  have := parts_cuts p [] [] v vs h
  rw [h]
  simpa using this
end Mine
end
section
open PySem PySem.W PyProof.Rows
set_option Elab.async false
namespace Mine
open PySem.Builtin PySem.Builtin.Str PySem.StrLaws
theorem anyTail_iff (f : List Nat → Bool) : ∀ y, anyTail f y = true ↔ ∃ a b, y = a ++ b ∧ f b = true
  | [] => by
    simp only [anyTail]
    constructor
    · exact fun h => ⟨[], [], rfl, h⟩
    · rintro ⟨a, b, h, hb⟩
      have hb' : b = [] := (List.append_eq_nil_iff.mp h.symm).2
      rw [hb'] at hb; exact hb
  | c :: y => by
    simp only [anyTail, Bool.or_eq_true, anyTail_iff f y]
    constructor
    · rintro (h | ⟨a, b, rfl, hb⟩)
      · exact ⟨[], c :: y, rfl, h⟩
      · exact ⟨c :: a, b, rfl, hb⟩
    · rintro ⟨a, b, h, hb⟩
      cases a with
      | nil => left; rw [List.nil_append] at h; rw [h]; exact hb
      | cons d a =>
        right
        obtain ⟨rfl, rfl⟩ := List.cons.inj h
        exact ⟨a, b, rfl, hb⟩
theorem pm_none (p : Pat) (y : List Nat) : pm (none :: p) y = true ↔ ∃ a b, y = a ++ b ∧ pm p b = true := anyTail_iff (pm p) y
theorem pm_nil (y : List Nat) : pm [] y = true ↔ y = [] := by simp [pm]
theorem pm_some (c : Nat) (p : Pat) (y : List Nat) : pm (some c :: p) y = true ↔ ∃ t, y = c :: t ∧ pm p t = true := by
  cases y with
  | nil => simp [pm]
  | cons a y =>
    simp only [pm, Bool.and_eq_true, beq_iff_eq]
    constructor
    · rintro ⟨rfl, h⟩; exact ⟨y, rfl, h⟩
    · rintro ⟨t, h, ht⟩
      obtain ⟨rfl, rfl⟩ := List.cons.inj h
      exact ⟨rfl, ht⟩
theorem pm_lits (p : Pat) : ∀ (w y : List Nat), pm (lits w ++ p) y = true ↔ ∃ t, y = w ++ t ∧ pm p t = true
  | [], y => by simp [lits]
  | c :: w, y => by
    have : lits (c :: w) ++ p = some c :: (lits w ++ p) := rfl
    rw [this, pm_some]
    constructor
    · rintro ⟨t, rfl, h⟩
      obtain ⟨t', rfl, h'⟩ := (pm_lits p w t).mp h
      exact ⟨t', rfl, h'⟩
    · rintro ⟨t, rfl, h⟩
      exact ⟨w ++ t, rfl, (pm_lits p w _).mpr ⟨t, rfl, h⟩⟩
theorem pm_snoc (z : List Nat) : ∀ (p : Pat) (y : List Nat), pm (p ++ lits z) y = true ↔ ∃ t, y = t ++ z ∧ pm p t = true
  | [], y => by
    have h := pm_lits [] z y
    rw [List.append_nil] at h
    rw [List.nil_append, h]
    constructor
    · rintro ⟨t, rfl, ht⟩
      rw [(pm_nil t).mp ht]
      exact ⟨[], by simp, by simp [pm]⟩
    · rintro ⟨t, rfl, ht⟩
      rw [(pm_nil t).mp ht]
      exact ⟨[], by simp, by simp [pm]⟩
  | none :: p, y => by
    rw [List.cons_append, pm_none]
    constructor
    · rintro ⟨a, b, rfl, h⟩
      obtain ⟨t, rfl, ht⟩ := (pm_snoc z p b).mp h
      exact ⟨a ++ t, by simp, (pm_none p _).mpr ⟨a, t, rfl, ht⟩⟩
    · rintro ⟨t, rfl, ht⟩
      obtain ⟨a, b, rfl, hb⟩ := (pm_none p t).mp ht
      exact ⟨a, b ++ z, by simp, (pm_snoc z p _).mpr ⟨b, rfl, hb⟩⟩
  | some c :: p, y => by
    rw [List.cons_append, pm_some]
    constructor
    · rintro ⟨t, rfl, h⟩
      obtain ⟨t', rfl, ht'⟩ := (pm_snoc z p t).mp h
      exact ⟨c :: t', rfl, (pm_some c p _).mpr ⟨t', rfl, ht'⟩⟩
    · rintro ⟨t, rfl, ht⟩
      obtain ⟨t', rfl, ht'⟩ := (pm_some c p t).mp ht
      exact ⟨t' ++ z, rfl, (pm_snoc z p _).mpr ⟨t', rfl, ht'⟩⟩
theorem pm_mono {p : Pat} {a b : List Nat} (h : pm (none :: p) b = true) : pm (none :: p) (a ++ b) = true := by
  obtain ⟨a', b', rfl, hb⟩ := (pm_none p b).mp h
  exact (pm_none p _).mpr ⟨a ++ a', b', by simp, hb⟩
/-- the pieces between, a mark ahead of each and one behind -/
def spat : List (List Nat) → Pat
  | [] => [none]
  | w :: ws => none :: (lits w ++ spat ws)
theorem spat_head (ws : List (List Nat)) : ∃ q, spat ws = none :: q := by
  cases ws with
  | nil => exact ⟨[], rfl⟩
  | cons w ws => exact ⟨_, rfl⟩
theorem spat_mono {ws : List (List Nat)} {a b : List Nat} (h : pm (spat ws) b = true) : pm (spat ws) (a ++ b) = true := by
  obtain ⟨q, e⟩ := spat_head ws
  rw [e] at h ⊢
  exact pm_mono h
theorem pm_two (p : Pat) (y : List Nat) : pm (none :: none :: p) y = pm (none :: p) y := by
  rw [Bool.eq_iff_iff, pm_none (none :: p), pm_none p]
  constructor
  · rintro ⟨a, b, rfl, h⟩
    obtain ⟨a', b', rfl, h'⟩ := (pm_none p b).mp h
    exact ⟨a ++ a', b', by simp, h'⟩
  · rintro ⟨a, b, rfl, h⟩
    exact ⟨[], a ++ b, rfl, (pm_none p _).mpr ⟨a, b, rfl, h⟩⟩
theorem spat_first (ws : List (List Nat)) (y : List Nat) : pm (spat ([] :: ws)) y = pm (spat ws) y := by
  obtain ⟨q, e⟩ := spat_head ws
  show pm (none :: (lits [] ++ spat ws)) y = _
  rw [e]
  exact pm_two q y
theorem pm_congr_none {p q : Pat} (h : ∀ y, pm p y = pm q y) (y : List Nat) : pm (none :: p) y = pm (none :: q) y := by
  rw [Bool.eq_iff_iff, pm_none, pm_none]
  simp only [h]
theorem pm_congr_lits {p q : Pat} (w : List Nat) (h : ∀ y, pm p y = pm q y) (y : List Nat) : pm (lits w ++ p) y = pm (lits w ++ q) y := by
  rw [Bool.eq_iff_iff, pm_lits, pm_lits]
  simp only [h]
theorem spat_last : ∀ (ws : List (List Nat)) (y : List Nat), pm (spat (ws ++ [[]])) y = pm (spat ws) y
  | [], y => by
    show pm (none :: (lits [] ++ [none])) y = pm [none] y
    exact pm_two [] y
  | w :: ws, y => by
    show pm (none :: (lits w ++ spat (ws ++ [[]]))) y = pm (none :: (lits w ++ spat ws)) y
    exact pm_congr_none (pm_congr_lits w (spat_last ws)) y
/-- the pieces, marks between -/
def ipat : List (List Nat) → Pat
  | [] => []
  | [w] => lits w
  | w :: ws => lits w ++ none :: ipat ws
theorem ipat_cons {w : List Nat} {ws : List (List Nat)} (h : ws ≠ []) : ipat (w :: ws) = lits w ++ none :: ipat ws := by
  cases ws with
  | nil => exact absurd rfl h
  | cons _ _ => rfl
theorem ipat_pieces : ∀ p : Pat, ipat (pieces p) = p
  | [] => rfl
  | none :: p => by
    obtain ⟨w, ws, e⟩ := pieces_ne p
    have ih := ipat_pieces p
    show ipat ([] :: pieces p) = _
    rw [ipat_cons (by rw [e]; simp), ih]
    rfl
  | some c :: p => by
    obtain ⟨w, ws, e⟩ := pieces_ne p
    have ih := ipat_pieces p
    rw [pieces_some e]
    rw [e] at ih
    cases ws with
    | nil =>
      show lits (c :: w) = _
      have : lits w = p := ih
      show some c :: lits w = _
      rw [this]
    | cons v vs =>
      rw [ipat_cons (by simp)] at ih ⊢
      show some c :: (lits w ++ none :: ipat (v :: vs)) = _
      rw [ih]
theorem ipat_ends : ∀ (mid : List (List Nat)) (z : List Nat), none :: ipat (mid ++ [z]) = spat mid ++ lits z
  | [], z => rfl
  | w :: mid, z => by
    have ih := ipat_ends mid z
    show none :: ipat (w :: (mid ++ [z])) = none :: (lits w ++ spat mid) ++ lits z
    rw [ipat_cons (by simp), ih]
    simp
theorem occ_head_rng (x y : Str) (lo hi : Nat) : (occurrences x y lo hi 1 = [] ∧ ∀ i, lo ≤ i → ¬ At x y hi i) ∨
    ∃ i r, occurrences x y lo hi 1 = i :: r ∧ lo ≤ i ∧ At x y hi i ∧ ∀ k, lo ≤ k → k < i → ¬ At x y hi k := by
  rw [occ_eq]
  rcases occ_first x y hi 1 (Nat.le_refl _) (List.range' lo (hi + 1 - lo)) lo (fun i hi' => by have := List.mem_range'_1.mp hi'; omega) with ⟨h0, hn⟩ | ⟨pre, a, post, e, h0, ha, hn⟩
  · refine .inl ⟨by rw [h0], fun i hlo hi' => ?_⟩
    exact hn i (by have := hi'.1; rw [List.mem_range'_1]; omega) hi'
  · have hs := range'_split_from e
    refine .inr ⟨a, ((forIn (List.range' lo (hi + 1 - lo)) ((#[] : Array Nat), lo) (occBody x y hi 1)).run.fst.toList).tail, ?_, hs.1, ha, fun k hk0 hk => hn k (hs.2 k hk0 hk)⟩
    generalize (forIn (List.range' lo (hi + 1 - lo)) ((#[] : Array Nat), lo) (occBody x y hi 1)).run.fst = arr at h0
    have h1 : arr.toList[0]? = some a := by simpa using h0
    cases hL : arr.toList with
    | nil => rw [hL] at h1; cases h1
    | cons b t => rw [hL] at h1; simp at h1; rw [h1]; rfl
theorem at_iff (Y w : List Nat) (e s j : Nat) (he : e ≤ Y.length) (hs : s ≤ e) : At (txt Y) (txt w) e (s + j) ↔ ∃ t, ((Y.take e).drop s).drop j = w ++ t ∧ s + j ≤ e := by
  unfold At
  rw [subAt_eq, txt_list, txt_list, txt_len, beq_iff_eq, List.drop_drop]
  have hd : (Y.take e).drop (s + j) = (Y.drop (s + j)).take (e - (s + j)) := by rw [List.drop_take]
  rw [hd]
  constructor
  · rintro ⟨h1, h2⟩
    refine ⟨((Y.drop (s + j)).take (e - (s + j))).drop w.length, ?_, by omega⟩
    have : w = ((Y.drop (s + j)).take (e - (s + j))).take w.length := by
      rw [List.take_take, Nat.min_eq_left (by omega)]; exact h2.symm
    conv => lhs; rw [← List.take_append_drop w.length ((Y.drop (s + j)).take (e - (s + j)))]
    rw [← this]
  · rintro ⟨t, ht, hle⟩
    have hlen := congrArg List.length ht
    rw [List.length_take, List.length_drop, List.length_append] at hlen
    have hle2 : s + j + w.length ≤ e := by omega
    refine ⟨hle2, ?_⟩
    have h3 := congrArg (List.take w.length) ht
    rw [List.take_take, Nat.min_eq_left (by omega), List.take_left] at h3
    exact h3
theorem find4_spec (Y w : List Nat) (s e : Nat) (he : e ≤ Y.length) (hs : s ≤ e) :
    (find4 (txt Y) (txt w) s e = -1 ∧ ∀ a t, (Y.take e).drop s ≠ a ++ (w ++ t)) ∨
    ∃ a t, find4 (txt Y) (txt w) s e = ((s + a.length : Nat) : Int) ∧ (Y.take e).drop s = a ++ (w ++ t) ∧ ∀ a' t', (Y.take e).drop s = a' ++ (w ++ t') → a.length ≤ a'.length := by
  have hlo : fromIndex (txt Y).length (s : Int) = s := by unfold fromIndex; omega
  have hhi : min (fromIndex (txt Y).length (e : Int)) (txt Y).length = e := by rw [txt_len]; unfold fromIndex; omega
  have hTlen : ((Y.take e).drop s).length = e - s := by rw [List.length_drop, List.length_take]; omega
  unfold find4
  rw [hlo, hhi]
  rcases occ_head_rng (txt Y) (txt w) s e with ⟨h0, hn⟩ | ⟨i, r, h0, hi, hat, hmin⟩
  · left
    rw [h0]
    refine ⟨rfl, fun a t h => ?_⟩
    have hl := congrArg List.length h
    rw [hTlen, List.length_append, List.length_append] at hl
    refine hn (s + a.length) (by omega) ((at_iff Y w e s a.length he hs).mpr ⟨t, ?_, by omega⟩)
    rw [h, List.drop_left]
  · right
    rw [h0]
    obtain ⟨j, rfl⟩ : ∃ j, i = s + j := ⟨i - s, by omega⟩
    obtain ⟨t, ht, hle⟩ := (at_iff Y w e s j he hs).mp hat
    have hj : (((Y.take e).drop s).take j).length = j := by rw [List.length_take, hTlen]; omega
    refine ⟨((Y.take e).drop s).take j, t, by rw [hj], ?_, fun a' t' h => ?_⟩
    · rw [← ht, List.take_append_drop]
    · rw [hj]
      refine Nat.le_of_not_lt fun hlt => ?_
      refine hmin (s + a'.length) (by omega) (by omega) ((at_iff Y w e s a'.length he hs).mpr ⟨t', ?_, by omega⟩)
      rw [h, List.drop_left]
theorem emLoop_pm (Y : List Nat) (e : Nat) (he : e ≤ Y.length) : ∀ (ws : List (List Nat)) (s : Nat), s ≤ e → emLoop (txt Y) (e : Int) (ws.map txt) (s : Int) = pm (spat ws) ((Y.take e).drop s)
  | [], s, hs => by
    show true = _
    symm
    exact (pm_none [] _).mpr ⟨_, [], (List.append_nil _).symm, by simp [pm]⟩
  | w :: ws, s, hs => by
    have hTlen : ((Y.take e).drop s).length = e - s := by rw [List.length_drop, List.length_take]; omega
    show (if find4 (txt Y) (txt w) (s : Int) (e : Int) < 0 then false else emLoop (txt Y) e (ws.map txt) (find4 (txt Y) (txt w) (s : Int) (e : Int) + (txt w).length)) = pm (none :: (lits w ++ spat ws)) _
    rcases find4_spec Y w s e he hs with ⟨h0, hn⟩ | ⟨a, t, h0, hT, hmin⟩
    · rw [h0, if_pos (by decide)]
      symm
      rw [Bool.eq_false_iff]
      intro h
      obtain ⟨a, b, hab, hb⟩ := (pm_none _ _).mp h
      obtain ⟨t, rfl, _⟩ := (pm_lits _ w b).mp hb
      exact hn a t hab
    · rw [h0, if_neg (by omega), txt_len]
      have hl := congrArg List.length hT
      rw [hTlen, List.length_append, List.length_append] at hl
      have e1 : ((s + a.length : Nat) : Int) + (w.length : Int) = ((s + (a.length + w.length) : Nat) : Int) := by omega
      rw [e1, emLoop_pm Y e he ws (s + (a.length + w.length)) (by omega)]
      have e2 : (Y.take e).drop (s + (a.length + w.length)) = t := by
        rw [← List.drop_drop, hT, ← List.append_assoc, ← List.length_append, List.drop_left]
      rw [e2, hT, Bool.eq_iff_iff]
      constructor
      · intro h
        exact (pm_none _ _).mpr ⟨a, w ++ t, rfl, (pm_lits _ w _).mpr ⟨t, rfl, h⟩⟩
      · intro h
        obtain ⟨a', b, hab, hb⟩ := (pm_none _ _).mp h
        obtain ⟨t', rfl, ht'⟩ := (pm_lits _ w b).mp hb
        have hle := hmin a' t' (by rw [hT, hab])
        -- t' is a tail of t
        have hl1 := congrArg List.length hab
        simp only [List.length_append] at hl1
        have ht : t = (t.take (t.length - t'.length)) ++ t' := by
          have h1 : (a ++ (w ++ t)).drop (a.length + w.length + (t.length - t'.length)) = (a' ++ (w ++ t')).drop (a'.length + w.length) := by
            rw [hab]; congr 1; omega
          have h2 : (a' ++ (w ++ t')).drop (a'.length + w.length) = t' := by
            rw [← List.append_assoc, ← List.length_append, List.drop_left]
          have h3 : (a ++ (w ++ t)).drop (a.length + w.length + (t.length - t'.length)) = t.drop (t.length - t'.length) := by
            rw [← List.drop_drop, ← List.append_assoc, ← List.length_append, List.drop_left]
          rw [h3, h2] at h1
          conv => lhs; rw [← List.take_append_drop (t.length - t'.length) t]
          rw [h1]
        rw [ht]
        exact spat_mono ht'
end Mine
end
section
open PySem PySem.W PyProof.Rows
set_option Elab.async false
namespace Mine
open PySem.Builtin PySem.Builtin.Str PySem.StrLaws
theorem starts_iff (Y A : List Nat) : Txt.startswith (txt Y) (txt A) = true ↔ ∃ t, Y = A ++ t := by
  unfold Txt.startswith
  rw [Bool.and_eq_true, decide_eq_true_eq, subAt_eq, txt_list, txt_list, txt_len, txt_len, beq_iff_eq, List.drop_zero]
  constructor
  · rintro ⟨_, h⟩
    refine ⟨Y.drop A.length, ?_⟩
    conv => lhs; rw [← List.take_append_drop A.length Y, h]
  · rintro ⟨t, rfl⟩
    exact ⟨by simp, by simp⟩
theorem ends_iff (Y Z : List Nat) : Txt.endswith (txt Y) (txt Z) = true ↔ ∃ t, Y = t ++ Z := by
  unfold Txt.endswith
  rw [Bool.and_eq_true, decide_eq_true_eq, subAt_eq, txt_list, txt_list, txt_len, txt_len, beq_iff_eq]
  constructor
  · rintro ⟨hl, h⟩
    refine ⟨Y.take (Y.length - Z.length), ?_⟩
    have h2 : (Y.drop (Y.length - Z.length)).take Z.length = Y.drop (Y.length - Z.length) := List.take_of_length_le (by rw [List.length_drop]; omega)
    rw [h2] at h
    conv => lhs; rw [← List.take_append_drop (Y.length - Z.length) Y, h]
  · rintro ⟨t, rfl⟩
    refine ⟨by simp, ?_⟩
    have : (t ++ Z).length - Z.length = t.length := by simp
    rw [this, List.drop_left]
    simp
theorem spat_ends (A Z : List Nat) (mid : List (List Nat)) (y : List Nat) :
    pm (spat ((if A.length ≠ 0 then [] else [A]) ++ mid ++ (if Z.length ≠ 0 then [] else [Z]))) y = pm (spat mid) y := by
  have hz : ∀ l : List (List Nat), pm (spat (l ++ (if Z.length ≠ 0 then [] else [Z]))) y = pm (spat l) y := by
    intro l
    split
    · rw [List.append_nil]
    · rename_i h
      have : Z = [] := List.length_eq_zero_iff.mp (by simpa using h)
      subst this
      exact spat_last l y
  rw [hz]
  split
  · rfl
  · rename_i h
    have : A = [] := List.length_eq_zero_iff.mp (by simpa using h)
    subst this
    exact spat_first mid y
theorem emParts_pm (A Z Y : List Nat) (mid : List (List Nat)) : emParts (txt A) (mid.map txt) (txt Z) (txt Y) = pm (lits A ++ (spat mid ++ lits Z)) Y := by
  have hR : pm (lits A ++ (spat mid ++ lits Z)) Y = true ↔ ∃ t, Y = A ++ (t ++ Z) ∧ pm (spat mid) t = true := by
    rw [pm_lits]
    constructor
    · rintro ⟨t, rfl, h⟩
      obtain ⟨t', rfl, h'⟩ := (pm_snoc Z _ t).mp h
      exact ⟨t', rfl, h'⟩
    · rintro ⟨t, rfl, h⟩
      exact ⟨t ++ Z, rfl, (pm_snoc Z _ _).mpr ⟨t, rfl, h⟩⟩
  unfold emParts
  have elist : (if (txt A).length ≠ 0 then [] else [txt A]) ++ mid.map txt ++ (if (txt Z).length ≠ 0 then [] else [txt Z]) = ((if A.length ≠ 0 then [] else [A]) ++ mid ++ (if Z.length ≠ 0 then [] else [Z])).map txt := by
    rw [txt_len, txt_len]
    split <;> split <;> simp
  have esp : (if (txt A).length ≠ 0 then ((txt A).length : Int) else 0) = (A.length : Int) := by
    rw [txt_len]; split <;> omega
  have eep : (if (txt Z).length ≠ 0 then ((txt Y).length : Int) - ((txt Z).length : Int) else (txt Y).length) = (Y.length : Int) - (Z.length : Int) := by
    rw [txt_len, txt_len]; split <;> omega
  simp only [elist, esp, eep]
  split
  · rename_i h
    symm
    rw [Bool.eq_false_iff]
    intro hh
    obtain ⟨t, ht, _⟩ := hR.mp hh
    simp only [Bool.and_eq_true, Bool.not_eq_true'] at h
    have := (starts_iff Y A).mpr ⟨t ++ Z, ht⟩
    rw [h.2] at this; cases this
  · rename_i hA
    have hA' : ∃ t, Y = A ++ t := by
      by_cases h0 : A = []
      · subst h0; exact ⟨Y, rfl⟩
      · refine (starts_iff Y A).mp ?_
        cases hs : Txt.startswith (txt Y) (txt A) with
        | true => rfl
        | false =>
          exfalso; apply hA
          rw [txt_len, hs]
          simp [List.length_eq_zero_iff, h0]
    split
    · rename_i h
      symm
      rw [Bool.eq_false_iff]
      intro hh
      obtain ⟨t, ht, _⟩ := hR.mp hh
      simp only [Bool.and_eq_true, Bool.not_eq_true'] at h
      have := (ends_iff Y Z).mpr ⟨A ++ t, by rw [ht, List.append_assoc]⟩
      rw [h.2] at this; cases this
    · rename_i hZ
      have hZ' : ∃ t, Y = t ++ Z := by
        by_cases h0 : Z = []
        · subst h0; exact ⟨Y, by simp⟩
        · refine (ends_iff Y Z).mp ?_
          cases hs : Txt.endswith (txt Y) (txt Z) with
          | true => rfl
          | false =>
            exfalso; apply hZ
            rw [txt_len, hs]
            simp [List.length_eq_zero_iff, h0]
      obtain ⟨ta, hta⟩ := hA'
      obtain ⟨tz, htz⟩ := hZ'
      have hzlen : Y.length = tz.length + Z.length := by rw [htz]; simp
      have ealt : (Y.length : Int) - (Z.length : Int) = (tz.length : Int) := by omega
      rw [ealt]
      split
      · rename_i hlt
        symm
        rw [Bool.eq_false_iff]
        intro hh
        obtain ⟨t, ht, _⟩ := hR.mp hh
        have := congrArg List.length ht
        simp only [List.length_append] at this
        omega
      · rename_i hlt
        have hle : A.length ≤ tz.length := by omega
        rw [emLoop_pm Y tz.length (by omega) _ A.length hle, spat_ends]
        have eT : Y.take tz.length = tz := by rw [htz, List.take_left]
        rw [eT]
        have eA : tz = A ++ tz.drop A.length := by
          have h1 : tz.take A.length = A := by
            have h2 : (Y.take tz.length).take A.length = Y.take A.length := by rw [List.take_take, Nat.min_eq_left hle]
            rw [eT] at h2
            rw [h2, hta, List.take_left]
          conv => lhs; rw [← List.take_append_drop A.length tz, h1]
        rw [Bool.eq_iff_iff, hR]
        constructor
        · intro h
          refine ⟨tz.drop A.length, ?_, h⟩
          rw [← List.append_assoc, ← eA, htz]
        · rintro ⟨t, ht, h⟩
          have : tz = A ++ t := by
            rw [htz, ← List.append_assoc] at ht
            exact List.append_cancel_right ht
          rw [this, List.drop_left]
          exact h
theorem pm_bare : ∀ (p : Pat), none ∉ p → ∀ y, pm p y = (render p == y)
  | [], _, y => by cases y <;> rfl
  | none :: p, h, _ => absurd List.mem_cons_self h
  | some c :: p, h, y => by
    have ih := pm_bare p (fun h' => h (List.mem_cons_of_mem _ h'))
    cases y with
    | nil => rfl
    | cons a y => simp only [pm, ih, render]; rfl
/-- THE DEF: of a text put together of signs and marks it tells whether the pattern fits -/
theorem em_render (p : Pat) (hc : clean p) (Y : List Nat) : em (txt (render p)) (txt Y) = pm p Y := by
  by_cases hn : none ∈ p
  · have h1 : Txt.contains (txt (render p)) dots = true := by
      unfold Txt.contains
      rw [occ_one p hc]
      simp [hn]
    have hs := split_render p hc hn
    obtain ⟨w, ws, e⟩ := pieces_ne p
    have hws : ws ≠ [] := by
      rintro rfl
      have := ipat_pieces p
      rw [e] at this
      have h2 : lits w = p := this
      rw [← h2] at hn
      simp [lits] at hn
    obtain ⟨mid, z, rfl⟩ : ∃ mid z, ws = mid ++ [z] := ⟨ws.dropLast, ws.getLast hws, (List.dropLast_concat_getLast hws).symm⟩
    have hs' : Txt.split (txt (render p)) dots = txt w :: (mid.map txt ++ [txt z]) := by rw [hs, e]; simp
    rw [em_parts h1 hs', emParts_pm]
    have hp := ipat_pieces p
    rw [e, ipat_cons (by simp), ipat_ends] at hp
    rw [hp]
  · have h1 : (occurrences (txt (render p)) dots 0 (txt (render p)).length 1).isEmpty = true := by
      rw [occ_one p hc]; simp [hn]
    rw [← em_bare h1, pm_bare p hn]
    rw [Bool.eq_iff_iff, beq_iff_eq, beq_iff_eq]
    constructor
    · intro h
      have := congrArg (fun x : Str => x.cps.toList) h
      simpa using this
    · intro h; rw [h]
end Mine
end
section
open PySem PySem.W PyProof.Rows PySem.Spec PySem.Calls
set_option Elab.async false
set_option maxRecDepth 100000
set_option maxHeartbeats 4000000
namespace Mine
/-- a mark: the stop of that number is passed -/
structure Passed (n : Nat) : Prop where
  mark :: (one : True)
theorem passed (n : Nat) : Passed n := ⟨trivial⟩
theorem Stop.in_ {n : Nat} {P : Prop} (h : P) : Stop n P := h
theorem map_ext1 {a : Str} {m m' : Str → Option Value} (h1 : m a = m' a) (h : ∀ z, z ≠ a → m z = m' z) : m = m' := by
  funext z
  by_cases e : z = a
  · rw [e]; exact h1
  · exact h z e
theorem map_ext2 {a b : Str} {m m' : Str → Option Value} (h1 : m a = m' a) (h2 : m b = m' b) (h : ∀ z, z ≠ a → z ≠ b → m z = m' z) : m = m' :=
  map_ext1 h1 fun z hz => congrFun (map_ext1 (a := b) (m := fun z => if z = a then none else m z) (m' := fun z => if z = a then none else m' z) (by by_cases e : b = a <;> simp [e, h2]) (fun z hb => by by_cases e : z = a <;> simp [e]; exact h z e hb)) z |> fun q => by simpa [hz] using q
theorem map_ext3 {a b c : Str} {m m' : Str → Option Value} (h1 : m a = m' a) (h2 : m b = m' b) (h3 : m c = m' c) (h : ∀ z, z ≠ a → z ≠ b → z ≠ c → m z = m' z) : m = m' := by
  funext z
  by_cases e1 : z = a
  · rw [e1]; exact h1
  · by_cases e2 : z = b
    · rw [e2]; exact h2
    · by_cases e3 : z = c
      · rw [e3]; exact h3
      · exact h z e1 e2 e3
theorem map_ext4 {a b c d : Str} {m m' : Str → Option Value} (h1 : m a = m' a) (h2 : m b = m' b) (h3 : m c = m' c) (h4 : m d = m' d) (h : ∀ z, z ≠ a → z ≠ b → z ≠ c → z ≠ d → m z = m' z) : m = m' := by
  refine map_ext3 h1 h2 h3 fun z e1 e2 e3 => ?_
  by_cases e4 : z = d
  · rw [e4]; exact h4
  · exact h z e1 e2 e3 e4
theorem map_ext7 {a b c d e f g : Str} {m m' : Str → Option Value} (h1 : m a = m' a) (h2 : m b = m' b) (h3 : m c = m' c) (h4 : m d = m' d) (h5 : m e = m' e) (h6 : m f = m' f) (h7 : m g = m' g)
    (h : ∀ z, z ≠ a → z ≠ b → z ≠ c → z ≠ d → z ≠ e → z ≠ f → z ≠ g → m z = m' z) : m = m' := by
  refine map_ext4 h1 h2 h3 h4 fun z e1 e2 e3 e4 => ?_
  by_cases e5 : z = e
  · rw [e5]; exact h5
  · by_cases e6 : z = f
    · rw [e6]; exact h6
    · by_cases e7 : z = g
      · rw [e7]; exact h7
      · exact h z e1 e2 e3 e4 e5 e6 e7
theorem getD_headD {l : List Int} {t : Tok} : Value.int (l.getD (Int.toNat 0) 0) t = Value.int (l.headD 0) t := by cases l <;> rfl
theorem none_headD {l : List Int} {t : Tok} (h : ¬ 0 < l.length) : Value.int 0 t = Value.int (l.headD 0) t := by
  cases l with
  | nil => rfl
  | cons a r => exact absurd (by simp) h
section
variable {prog : Program} {w : World} {A : Around} {E : Value → Shared → Prop} {s : Shared} {env : Env} {h₀ : Heap} {x : Str} {body : List Stmt} {Q : Flow → Shared → Prop}
/-- the invariant told over the map that stood ahead of the loop -/
theorem iter_madeM {l : Addr} {vs : List Value} {nn : Nat} {m₀ : Str → Option Value} {news : List (Addr × Obj)} (J : (Str → Option Value) → Nat → (Str → Option Value) → List (Addr × Obj) → Prop)
    (hh : A.handled = none) (F : Fr h₀ env.locals s.heap m₀) (N : News h₀ env.locals s.heap news) (hJl : ∀ i m nx, J m₀ i m nx → (l, listOf vs.toArray nn) ∈ nx) (hj : J m₀ 0 m₀ news)
    (turn : ∀ i v m₁ news₁ I oI h tk, vs[i]? = some v → J m₀ i m₁ news₁ → AllLt I news → Fr h₀ env.locals h (fun y => if y = x then some v else m₁ y) → News h₀ env.locals h ((I, oI) :: news₁) →
      wpAny (model prog w) A (execs body env) (TurnPost h₀ env.locals (J m₀ (i + 1)) I oI { s with heap := h, toks := tk } Q) E { s with heap := h, toks := tk })
    (done : ∀ m₁ news₁ h tk, J m₀ vs.length m₁ news₁ → Fr h₀ env.locals h m₁ → News h₀ env.locals h news₁ → Q .next { s with heap := h, toks := tk }) :
    wpAny (model prog w) A (pyIter (.ref l)) (fun it s₂ => LoopAtV prog w A h₀ env x body Q E it s₂) E s :=
  iter_made (J m₀) hh F N hJl hj (fun i v m₁ news₁ I oI h tk hv hj' _ hl F' N' => turn i v m₁ news₁ I oI h tk hv hj' (allLt_of hl) F' N') done
theorem iter_rngM {r : Addr} {a₀ b₀ c₀ : Int} {t₀ u₀ v₀ : Tok} {n : Nat} {m₀ : Str → Option Value} {news : List (Addr × Obj)} (J : (Str → Option Value) → Nat → (Str → Option Value) → List (Addr × Obj) → Prop)
    (hh : A.handled = none) (hr : IsRange s.heap r a₀ b₀ c₀ t₀ u₀ v₀) (hsmall : Builtin.Range.small a₀ b₀ c₀ = true) (hn : Builtin.Range.rangeSize a₀ b₀ c₀ = (n : Int))
    (F : Fr h₀ env.locals s.heap m₀) (N : News h₀ env.locals s.heap news) (hj : J m₀ 0 m₀ news)
    (turn : ∀ i t m₁ news₁ I oI h tk, i < n → J m₀ i m₁ news₁ → AllLt I news → Fr h₀ env.locals h (fun y => if y = x then some (.int (a₀ + (i : Int) * c₀) t) else m₁ y) → News h₀ env.locals h ((I, oI) :: news₁) →
      wpAny (model prog w) A (execs body env) (TurnPost h₀ env.locals (J m₀ (i + 1)) I oI { s with heap := h, toks := tk } Q) E { s with heap := h, toks := tk })
    (done : ∀ m₁ news₁ h tk, J m₀ n m₁ news₁ → Fr h₀ env.locals h m₁ → News h₀ env.locals h news₁ → Q .next { s with heap := h, toks := tk }) :
    wpAny (model prog w) A (pyIter (.ref r)) (fun it s₂ => LoopAtV prog w A h₀ env x body Q E it s₂) E s :=
  iter_rng (J m₀) hh hr hsmall hn F N hj (fun i t m₁ news₁ I oI h tk hi hj' _ hl F' N' => turn i t m₁ news₁ I oI h tk hi hj' (allLt_of hl) F' N') done
end
theorem ints_snoc {pv : List Value} {P P' : List Int} {k : Int} {t : Tok} (h : IntsAre pv P) (e : P' = P ++ [k]) : IntsAre (pv ++ [.int k t]) P' := by
  rw [e]
  exact IntsAre.append h (.cons _ _ .nil)
theorem str_val {x y : Str} {t : Tok} (h : x = y) : some (Value.str x t) = some (Value.str y t) := by rw [h]
theorem int_val {x y : Int} {t : Tok} (h : x = y) : some (Value.int x t) = some (Value.int y t) := by rw [h]
theorem bool_val {x y : Bool} (h : x = y) : some (Value.bool x) = some (Value.bool y) := by rw [h]
/-- forget all but four names -/
theorem fr_four {h₀ h : Heap} {L : Addr} {m : Str → Option Value} (a b c d : Str) {va vb vc vd : Value} (F : Fr h₀ L h m) (ha : m a = some va) (hb : m b = some vb) (hc : m c = some vc) (hd : m d = some vd) :
    ∃ m' : Str → Option Value, Fr h₀ L h (fun z => if z = a then some va else if z = b then some vb else if z = c then some vc else if z = d then some vd else m' z) := by
  refine ⟨m, ?_⟩
  have e : m = fun z => if z = a then some va else if z = b then some vb else if z = c then some vc else if z = d then some vd else m z := by
    funext z
    by_cases e1 : z = a
    · rw [if_pos e1, e1]; exact ha
    · rw [if_neg e1]
      by_cases e2 : z = b
      · rw [if_pos e2, e2]; exact hb
      · rw [if_neg e2]
        by_cases e3 : z = c
        · rw [if_pos e3, e3]; exact hc
        · rw [if_neg e3]
          by_cases e4 : z = d
          · rw [if_pos e4, e4]; exact hd
          · rw [if_neg e4]
  rw [← e]; exact F
/-- a statement that stores one name and makes nothing that counts -/
def StoredAs (h₀ : Heap) (L : Addr) (m : Str → Option Value) (news : List (Addr × Obj)) (x : Str) (val : Tok → Value) (s : Shared) (f : Flow) (s' : Shared) : Prop :=
  f = .next ∧ ∃ h' tk t all, s' = { s with heap := h', toks := tk } ∧ Fr h₀ L h' (fun y => if y = x then some (val t) else m y) ∧ News h₀ L h' all ∧ ∀ p ∈ news, p ∈ all
section
variable {M : Model} {A : Around} {E : Value → Shared → Prop} {s : Shared} {env : Env} {h₀ : Heap} {L : Addr} {m : Str → Option Value} {news : List (Addr × Obj)} {st : Stmt} {Q : Flow → Shared → Prop}
theorem cut_store (x : Str) (val : Tok → Value) (F : Fr h₀ L s.heap m) (_N : News h₀ L s.heap news) (h1 : wpAny M A (exec st env) (StoredAs h₀ L m news x val s) E s)
    (h2 : ∀ h' tk t, Fr h₀ L h' (fun y => if y = x then some (val t) else m y) → News h₀ L h' news → Q .next { s with heap := h', toks := tk }) : wpAny M A (exec st env) Q E s := by
  refine wpAny_mono h1 (fun f s' p => ?_) fun _ _ x => x
  obtain ⟨rfl, h', tk, t, all, rfl, F', N', hs⟩ := p
  exact h2 h' tk t F' fun p hp => N' p (hs p hp)
theorem StoredAs.intro {x : Str} {val : Tok → Value} {h' : Heap} {tk : Nat} {t : Tok} {v : Value} {all : List (Addr × Obj)} {m' : Str → Option Value} (F : Fr h₀ L h' m') (N : News h₀ L h' all) (hs : ∀ p ∈ news, p ∈ all)
    (hm : m' = fun y => if y = x then some v else m y) (hv : v = val t) : StoredAs h₀ L m news x val s .next { s with heap := h', toks := tk } := by
  subst hv hm
  exact ⟨rfl, h', tk, t, all, rfl, F, N, hs⟩
end
end Mine
end
section
open PySem PySem.W PyProof.Rows
set_option Elab.async false
namespace Mine
/-- 'ab\n'[k % 3] -/
def sg3 (k : Int) : Nat := if k.fmod 3 = 0 then 97 else if k.fmod 3 = 1 then 98 else 10
/-- 'ab\n.'[k % 4] -/
def sg4 (k : Int) : Nat := if k.fmod 4 = 0 then 97 else if k.fmod 4 = 1 then 98 else if k.fmod 4 = 2 then 10 else 46
/-- 1 + k // 3 % 4 -/
def pr1 (k : Int) : Int := 1 + (k.fdiv 3).fmod 4
theorem txt_append (a b : List Nat) : txt a ++ txt b = txt (a ++ b) := by
  apply Str.ext'
  rw [Str.cps_append]
  simp
theorem item3 (k : Int) : Txt.item (Str.ofString "ab\n") (k.fmod 3) = txt [sg3 k] := by
  have h : k.fmod 3 = 0 ∨ k.fmod 3 = 1 ∨ k.fmod 3 = 2 := by
    have h1 := Int.fmod_nonneg_of_pos k (b := 3) (by decide)
    have h2 := Int.fmod_lt_of_pos k (b := 3) (by decide)
    omega
  unfold sg3
  rcases h with h | h | h <;> rw [h] <;> decide +kernel
theorem item4 (k : Int) : Txt.item (Str.ofString "ab\n.") (k.fmod 4) = txt [sg4 k] := by
  have h : k.fmod 4 = 0 ∨ k.fmod 4 = 1 ∨ k.fmod 4 = 2 ∨ k.fmod 4 = 3 := by
    have h1 := Int.fmod_nonneg_of_pos k (b := 4) (by decide)
    have h2 := Int.fmod_lt_of_pos k (b := 4) (by decide)
    omega
  unfold sg4
  rcases h with h | h | h | h <;> rw [h] <;> decide +kernel
theorem empty_txt : Str.ofString "" = txt [] := by decide +kernel
theorem dots_txt : Str.ofString "..." = txt [46, 46, 46] := by decide +kernel
theorem item_txt {X : List Nat} {k : Int} (h0 : 0 ≤ k) (h : k < X.length) : Txt.item (txt X) k = txt [X.getD k.toNat 0] := by
  have hk : k.toNat < X.length := by omega
  have e : (txt X).cps[k.toNat]? = some (X.getD k.toNat 0) := by
    simp [List.getD, hk]
  rw [item_meets h0 e]
section
variable {prog : Program} {w : World} {A : Around} {E : Value → Shared → Prop} {s : Shared}
theorem iadd_txt {a b : List Nat} {x y : Str} {t u : Tok} {Q : Value → Shared → Prop} (hx : x = txt a) (hy : y = txt b) (hl : a.length + b.length ≤ 1000000) (h : ∀ t' k, Q (.str (txt (a ++ b)) t') { s with toks := k }) :
    wpAny (model prog w) A (inplaceOp .Add (.str x t) (.str y u)) Q E s := by
  subst hx hy
  refine iadd_str (fun t' k => ?_) (by rw [txt_len, txt_len, sizeLine_eq]; omega)
  rw [txt_append]
  exact h t' k
end
theorem take_map {α β : Type} (f : α → β) {l : List α} {i : Nat} {x : α} (h : l[i]? = some x) : (l.take (i + 1)).map f = (l.take i).map f ++ [f x] := by simp [List.take_add_one, h]
theorem sg3_ne (k : Int) : sg3 k ≠ 46 := by
  unfold sg3
  split
  · decide
  · split <;> decide
theorem pr1_bd (k : Int) : 1 ≤ pr1 k ∧ pr1 k ≤ 4 := by
  have h1 := Int.fmod_nonneg_of_pos (k.fdiv 3) (b := 4) (by decide)
  have h2 := Int.fmod_lt_of_pos (k.fdiv 3) (b := 4) (by decide)
  unfold pr1
  omega
theorem take_snoc {α : Type} {l : List α} {i : Nat} {x : α} (h : l[i]? = some x) : l.take (i + 1) = l.take i ++ [x] := by simp [List.take_add_one, h]
end Mine
end
section
open PySem PySem.W PyProof.Rows
set_option Elab.async false
namespace Mine
/-- sum(prices) + mark * len(prices) + 1 -/
@[irreducible] def topOf (P : List Int) (M : Int) : Int := P.sum + M * P.length + 1
theorem topOf_eq (P : List Int) (M : Int) : P.sum + M * P.length + 1 = topOf P M := by unfold topOf; rfl
/-- one place more: of the mask k -/
def stpGo (X : List Nat) (P : List Int) (M : Int) (k i : Nat) (q : Pat × Int × Bool) : Pat × Int × Bool :=
  if k / 2 ^ i % 2 = 1 then (if q.2.2 then (q.1, q.2.1 + P.getD i 0, true) else (q.1 ++ [none], q.2.1 + P.getD i 0 + M, true))
  else (q.1 ++ [some (X.getD i 0)], q.2.1, false)
def stp0 (X : List Nat) (P : List Int) (M : Int) (k : Nat) : Nat → Pat × Int × Bool
  | 0 => ([], 0, false)
  | i + 1 => stpGo X P M k i (stp0 X P M k i)
/-- the form so far, its cost, whether the last sign was left out: of the mask k, behind i places -/
@[irreducible] def stp (X : List Nat) (P : List Int) (M : Int) (k i : Nat) : Pat × Int × Bool := stp0 X P M k i
theorem stp_zero (X : List Nat) (P : List Int) (M : Int) (k : Nat) : stp X P M k 0 = ([], 0, false) := by unfold stp; rfl
theorem stp_succ (X : List Nat) (P : List Int) (M : Int) (k i : Nat) : stp X P M k (i + 1) = stpGo X P M k i (stp X P M k i) := by unfold stp; rfl
@[irreducible] def fitOf (X : List Nat) (P : List Int) (M : Int) (Y : List Nat) (k : Nat) : Bool := pm (stp X P M k X.length).1 Y
@[irreducible] def costOf (X : List Nat) (P : List Int) (M : Int) (k : Nat) : Int := (stp X P M k X.length).2.1
def lst0 (X : List Nat) (P : List Int) (M : Int) (Y : List Nat) : Nat → Int
  | 0 => topOf P M
  | i + 1 => if fitOf X P M Y i = true ∧ costOf X P M i < lst0 X P M Y i then costOf X P M i else lst0 X P M Y i
/-- the least cost among the masks below i -/
@[irreducible] def lst (X : List Nat) (P : List Int) (M : Int) (Y : List Nat) (i : Nat) : Int := lst0 X P M Y i
theorem lst_zero (X : List Nat) (P : List Int) (M : Int) (Y : List Nat) : lst X P M Y 0 = topOf P M := by unfold lst; rfl
theorem lst_succ (X : List Nat) (P : List Int) (M : Int) (Y : List Nat) (i : Nat) : lst X P M Y (i + 1) = if fitOf X P M Y i = true ∧ costOf X P M i < lst X P M Y i then costOf X P M i else lst X P M Y i := by unfold lst; rfl
def InnerJ (X : List Nat) (P : List Int) (M : Int) (k : Nat) (nx₀ : List (Addr × Obj)) (m₀ : Str → Option Value) (j : Nat) (m : Str → Option Value) (nx : List (Addr × Obj)) : Prop :=
  ∃ tf tc up, m = (fun z => if z = Str.ofString "form" then some (.str (txt (render (stp X P M k j).1)) tf) else if z = Str.ofString "cost" then some (.int (stp X P M k j).2.1 tc) else if z = Str.ofString "dotted" then some (.bool (stp X P M k j).2.2) else if z = Str.ofString "place" then up else m₀ z) ∧ nx = nx₀
theorem InnerJ.intro {X : List Nat} {P : List Int} {M : Int} {k j : Nat} {nx₀ nx : List (Addr × Obj)} {m₀ m : Str → Option Value} {x : Str} {y : Int} {b : Bool} {tf tc : Tok} {q : Pat × Int × Bool} (e : stp X P M k j = q)
    (hf : m (Str.ofString "form") = some (.str x tf)) (hx : x = txt (render q.1)) (hc : m (Str.ofString "cost") = some (.int y tc)) (hy : y = q.2.1) (hd : m (Str.ofString "dotted") = some (.bool b)) (hb : b = q.2.2)
    (h : ∀ z, z ≠ Str.ofString "form" → z ≠ Str.ofString "cost" → z ≠ Str.ofString "dotted" → z ≠ Str.ofString "place" → m z = m₀ z) (hn : nx = nx₀) : InnerJ X P M k nx₀ m₀ j m nx := by
  subst hx hy hb e
  exact ⟨tf, tc, m (Str.ofString "place"), map_ext4 (a := Str.ofString "form") (b := Str.ofString "cost") (c := Str.ofString "dotted") (d := Str.ofString "place") hf hc hd rfl (fun z h1 h2 h3 h4 => by simp only [if_neg h1, if_neg h2, if_neg h3, if_neg h4]; exact h z h1 h2 h3 h4), hn⟩
def MaskJ (X : List Nat) (P : List Int) (M : Int) (Y : List Nat) (aF aP : Addr) (oP : Obj) (m₀ : Str → Option Value) (i : Nat) (m : Str → Option Value) (nx : List (Addr × Obj)) : Prop :=
  ∃ tl uf uc ud up ut um cnt, m = (fun z => if z = Str.ofString "least" then some (.int (lst X P M Y i) tl) else if z = Str.ofString "form" then uf else if z = Str.ofString "cost" then uc else if z = Str.ofString "dotted" then ud else if z = Str.ofString "place" then up else if z = Str.ofString "fit" then ut else if z = Str.ofString "mask" then um else m₀ z) ∧
    nx = [(aF, listOf ((List.range i).map fun k => Value.bool (fitOf X P M Y k)).toArray cnt), (aP, oP)]
theorem MaskJ.intro {X : List Nat} {P : List Int} {M : Int} {Y : List Nat} {aF aP : Addr} {oP : Obj} {m₀ m : Str → Option Value} {i : Nat} {nx : List (Addr × Obj)} {v : Int} {tl : Tok} {its : List Value} {cnt : Nat} (hl : m (Str.ofString "least") = some (.int v tl)) (hv : v = lst X P M Y i)
    (h : ∀ z, z ≠ Str.ofString "least" → z ≠ Str.ofString "form" → z ≠ Str.ofString "cost" → z ≠ Str.ofString "dotted" → z ≠ Str.ofString "place" → z ≠ Str.ofString "fit" → z ≠ Str.ofString "mask" → m z = m₀ z)
    (hi : its = (List.range i).map fun k => Value.bool (fitOf X P M Y k)) (hn : nx = [(aF, listOf its.toArray cnt), (aP, oP)]) : MaskJ X P M Y aF aP oP m₀ i m nx := by
  subst hv hi
  exact ⟨tl, _, _, _, _, _, _, cnt, map_ext7 (a := Str.ofString "least") (b := Str.ofString "form") (c := Str.ofString "cost") (d := Str.ofString "dotted") (e := Str.ofString "place") (f := Str.ofString "fit") (g := Str.ofString "mask") hl rfl rfl rfl rfl rfl rfl
    (fun z h1 h2 h3 h4 h5 h6 h7 => by simp only [if_neg h1, if_neg h2, if_neg h3, if_neg h4, if_neg h5, if_neg h6, if_neg h7]; exact h z h1 h2 h3 h4 h5 h6 h7), hn⟩
section
variable {X : List Nat} {P : List Int} {M : Int} {Y : List Nat} {k i : Nat}
theorem stp_in (h : ((k / 2 ^ i % 2 : Nat) : Int) ≠ 0) (hd : (stp X P M k i).2.2 = true) : stp X P M k (i + 1) = ((stp X P M k i).1, (stp X P M k i).2.1 + P.getD i 0, true) := by
  have h' : k / 2 ^ i % 2 = 1 := by omega
  rw [stp_succ]
  unfold stpGo
  rw [if_pos h', if_pos hd]
theorem stp_new (h : ((k / 2 ^ i % 2 : Nat) : Int) ≠ 0) (hd : (stp X P M k i).2.2 = false) : stp X P M k (i + 1) = ((stp X P M k i).1 ++ [none], (stp X P M k i).2.1 + P.getD i 0 + M, true) := by
  have h' : k / 2 ^ i % 2 = 1 := by omega
  rw [stp_succ]
  unfold stpGo
  rw [if_pos h', if_neg (by rw [hd]; simp)]
theorem stp_keep (h : ((k / 2 ^ i % 2 : Nat) : Int) = 0) : stp X P M k (i + 1) = ((stp X P M k i).1 ++ [some (X.getD i 0)], (stp X P M k i).2.1, false) := by
  have h' : ¬ k / 2 ^ i % 2 = 1 := by omega
  rw [stp_succ]
  unfold stpGo
  rw [if_neg h']
theorem fitOf_eq : fitOf X P M Y k = pm (stp X P M k X.length).1 Y := by unfold fitOf; rfl
theorem costOf_eq : costOf X P M k = (stp X P M k X.length).2.1 := by unfold costOf; rfl
theorem lst_no (h : pm (stp X P M k X.length).1 Y = false) : lst X P M Y k = lst X P M Y (k + 1) := by
  rw [lst_succ, fitOf_eq, h, if_neg (by simp)]
theorem lst_lt (h : pm (stp X P M k X.length).1 Y = true) (hl : (stp X P M k X.length).2.1 < lst X P M Y k) : (stp X P M k X.length).2.1 = lst X P M Y (k + 1) := by
  rw [lst_succ, fitOf_eq, costOf_eq, if_pos ⟨h, hl⟩]
theorem lst_ge (hl : ¬ (stp X P M k X.length).2.1 < lst X P M Y k) : lst X P M Y k = lst X P M Y (k + 1) := by
  rw [lst_succ, costOf_eq, if_neg (fun h => hl h.2)]
theorem fits_snoc {b : Bool} (h : pm (stp X P M k X.length).1 Y = b) : ((List.range k).map fun j => Value.bool (fitOf X P M Y j)) ++ [Value.bool b] = (List.range (k + 1)).map fun j => Value.bool (fitOf X P M Y j) := by
  rw [List.range_succ, List.map_append, ← h, ← fitOf_eq]
  rfl
theorem render_append : ∀ (p q : Pat), render (p ++ q) = render p ++ render q
  | [], _ => rfl
  | none :: p, q => by simp [render, render_append p q]
  | some c :: p, q => by simp [render, render_append p q]
theorem stp_clean (hX : ∀ c ∈ X, c ≠ 46) : ∀ i, i ≤ X.length → clean (stp X P M k i).1
  | 0, _ => by rw [stp_zero]; simp [clean]
  | i + 1, h => by
    have ih := stp_clean hX i (by omega)
    unfold clean at ih ⊢
    rw [stp_succ]
    unfold stpGo
    split
    · split
      · exact ih
      · simpa using ih
    · have hne : X.getD i 0 ≠ 46 := by
        have hi : i < X.length := by omega
        have : X.getD i 0 = X[i] := by simp [List.getD, hi]
        rw [this]
        exact hX _ (List.getElem_mem hi)
      simp only [List.mem_append, List.mem_singleton, not_or]
      exact ⟨ih, fun h => hne (Option.some.inj h).symm⟩
theorem stp_len : ∀ i, (render (stp X P M k i).1).length ≤ 3 * i
  | 0 => by rw [stp_zero]; simp [render]
  | i + 1 => by
    have ih := stp_len i
    rw [stp_succ]
    unfold stpGo
    split
    · split
      · show (render (stp X P M k i).1).length ≤ _
        omega
      · show (render ((stp X P M k i).1 ++ [none])).length ≤ _
        rw [render_append, List.length_append]
        simp only [render, List.length_cons, List.length_nil]
        omega
    · show (render ((stp X P M k i).1 ++ [some (X.getD i 0)])).length ≤ _
      rw [render_append, List.length_append]
      simp only [render, List.length_cons, List.length_nil]
      omega
end
end Mine
end
section
open PySem PySem.W PyProof.Rows
set_option Elab.async false
namespace Mine
/-- the pattern of a choice of signs, from the front; d: the sign ahead is left out -/
def patB : Bool → List Nat → List Bool → Pat
  | d, x :: xs, true :: bs => if d then patB true xs bs else none :: patB true xs bs
  | _, x :: xs, false :: bs => some x :: patB false xs bs
  | _, _, _ => []
/-- its cost -/
def costB (M : Int) : Bool → List Int → List Bool → Int
  | d, p :: ps, true :: bs => (if d then p else p + M) + costB M true ps bs
  | _, p :: ps, false :: bs => costB M false ps bs
  | _, _, _ => 0
def bitsOf (k n : Nat) : List Bool := (List.range n).map fun j => decide (k / 2 ^ j % 2 = 1)
theorem pm_open {p : Pat} {y : List Nat} (h : pm p y = true) : pm (none :: p) y = true := (pm_none p y).mpr ⟨[], y, rfl, h⟩
theorem patB_open : ∀ (xs : List Nat) (bs : List Bool) (y : List Nat), pm (patB false xs bs) y = true → pm (none :: patB true xs bs) y = true
  | [], _, y, h => by
    have e : patB false [] (‹List Bool›) = [] := by simp [patB]
    have e2 : patB true [] (‹List Bool›) = [] := by simp [patB]
    rw [e2]; rw [e] at h; exact pm_open h
  | x :: xs, [], y, h => by
    simp only [patB] at h ⊢
    exact pm_open h
  | x :: xs, true :: bs, y, h => by
    simp only [patB] at h ⊢
    simpa using h
  | x :: xs, false :: bs, y, h => by
    simp only [patB] at h ⊢
    exact pm_open h
def ahead (d : Bool) (p : Pat) : Pat := if d then none :: p else p
theorem patB_mono : ∀ (xs : List Nat) (bs : List Bool) (d : Bool) (j : Nat) (y : List Nat), pm (ahead d (patB d xs bs)) y = true → pm (ahead d (patB d xs (bs.set j true))) y = true
  | [], bs, d, j, y, h => by
    have e : ∀ c : List Bool, patB d [] c = [] := fun c => by simp [patB]
    rw [e] at h ⊢; exact h
  | x :: xs, [], d, j, y, h => by simpa using h
  | x :: xs, true :: bs, d, 0, y, h => by simpa using h
  | x :: xs, false :: bs, d, 0, y, h => by
    simp only [List.set_cons_zero]
    cases d with
    | false =>
      simp only [ahead, patB] at h ⊢
      simp only [Bool.false_eq_true, if_false] at h ⊢
      obtain ⟨t, rfl, ht⟩ := (pm_some x _ y).mp h
      exact pm_mono (a := [x]) (patB_open xs bs t ht)
    | true =>
      simp only [ahead, patB, if_true] at h ⊢
      obtain ⟨a, b, rfl, hb⟩ := (pm_none _ y).mp h
      obtain ⟨t, rfl, ht⟩ := (pm_some x _ b).mp hb
      have := pm_mono (a := a ++ [x]) (patB_open xs bs t ht)
      simpa using this
  | x :: xs, true :: bs, d, j + 1, y, h => by
    simp only [List.set_cons_succ]
    have ih := patB_mono xs bs true j
    cases d with
    | false =>
      simp only [ahead, patB, Bool.false_eq_true, if_false, if_true] at h ih ⊢
      exact ih y h
    | true =>
      simp only [ahead, patB, if_true] at h ih ⊢
      exact ih y h
  | x :: xs, false :: bs, d, j + 1, y, h => by
    simp only [List.set_cons_succ]
    have ih := patB_mono xs bs false j
    cases d with
    | false =>
      simp only [ahead, patB, Bool.false_eq_true, if_false] at h ih ⊢
      obtain ⟨t, rfl, ht⟩ := (pm_some x _ y).mp h
      exact (pm_some x _ _).mpr ⟨t, rfl, ih t ht⟩
    | true =>
      simp only [ahead, patB, Bool.false_eq_true, if_false, if_true] at h ih ⊢
      obtain ⟨a, b, rfl, hb⟩ := (pm_none _ y).mp h
      obtain ⟨t, rfl, ht⟩ := (pm_some x _ b).mp hb
      exact (pm_none _ _).mpr ⟨a, x :: t, rfl, (pm_some x _ _).mpr ⟨t, rfl, ih t ht⟩⟩
theorem drop_getD {α : Type} {l : List α} {i : Nat} {d : α} (h : i < l.length) : l.drop i = l.getD i d :: l.drop (i + 1) := by
  rw [List.drop_eq_getElem_cons h]
  simp [List.getD, h]
theorem bits_drop {k n i : Nat} (h : i < n) : (bitsOf k n).drop i = decide (k / 2 ^ i % 2 = 1) :: (bitsOf k n).drop (i + 1) := by
  have hl : i < (bitsOf k n).length := by simp [bitsOf, h]
  rw [List.drop_eq_getElem_cons hl]
  simp [bitsOf]
theorem stp_rest {X : List Nat} {P : List Int} {M : Int} {k : Nat} (hXP : X.length = P.length) : ∀ (r i : Nat), i + r = X.length →
    (stp X P M k X.length).1 = (stp X P M k i).1 ++ patB (stp X P M k i).2.2 (X.drop i) ((bitsOf k X.length).drop i) ∧
    (stp X P M k X.length).2.1 = (stp X P M k i).2.1 + costB M (stp X P M k i).2.2 (P.drop i) ((bitsOf k X.length).drop i)
  | 0, i, h => by
    have hi : i = X.length := by omega
    subst hi
    have e1 : X.drop X.length = [] := List.drop_length
    have e2 : P.drop X.length = [] := by rw [hXP]; exact List.drop_length
    rw [e1, e2]
    simp [patB, costB]
  | r + 1, i, h => by
    have ih := stp_rest hXP r (i + 1) (by omega) (M := M) (k := k)
    have hX : i < X.length := by omega
    have hP : i < P.length := by omega
    rw [drop_getD (d := 0) hX, drop_getD (d := 0) hP, bits_drop hX]
    rw [ih.1, ih.2]
    by_cases hb : k / 2 ^ i % 2 = 1
    · rw [decide_eq_true hb]
      cases hd : (stp X P M k i).2.2 with
      | true =>
        rw [stp_in (by omega) hd]
        simp only [patB, costB, if_true]
        exact ⟨trivial, by omega⟩
      | false =>
        rw [stp_new (by omega) hd]
        simp only [patB, costB, Bool.false_eq_true, if_false]
        exact ⟨by simp, by omega⟩
    · rw [decide_eq_false hb]
      rw [stp_keep (by omega)]
      simp only [patB, costB]
      exact ⟨by simp, trivial⟩
theorem stp_all {X : List Nat} {P : List Int} {M : Int} (k : Nat) (hXP : X.length = P.length) :
    (stp X P M k X.length).1 = patB false X (bitsOf k X.length) ∧ (stp X P M k X.length).2.1 = costB M false P (bitsOf k X.length) := by
  have h := stp_rest hXP X.length 0 (by omega) (M := M) (k := k)
  rw [stp_zero] at h
  simpa using h
theorem bit_test (k i : Nat) : decide (k / 2 ^ i % 2 = 1) = k.testBit i := (Nat.testBit_eq_decide_div_mod_eq).symm
theorem bits_or {k n j : Nat} (_hj : j < n) : bitsOf (k ||| 2 ^ j) n = (bitsOf k n).set j true := by
  apply List.ext_getElem
  · simp [bitsOf]
  · intro i h1 h2
    have hi : i < n := by simpa [bitsOf] using h1
    rw [List.getElem_set]
    simp only [bitsOf, List.getElem_map, List.getElem_range, bit_test, Nat.testBit_or, Nat.testBit_two_pow]
    by_cases e : j = i
    · simp [e]
    · simp [e]
theorem fit_mono {X : List Nat} {P : List Int} {M : Int} {Y : List Nat} {k j : Nat} (hXP : X.length = P.length) (hj : j < X.length) (h : fitOf X P M Y k = true) : fitOf X P M Y (k ||| 2 ^ j) = true := by
  rw [fitOf_eq, (stp_all _ hXP).1] at h ⊢
  rw [bits_or hj]
  have := patB_mono X (bitsOf k X.length) false j Y (by simpa [ahead] using h)
  simpa [ahead] using this
end Mine
end
section
open PySem PySem.W PyProof.Rows
set_option Elab.async false
namespace Mine
/-- kept: the sign is kept, and fits the next one seen -/
def keptF (top : Int) (w : Nat) (S : List Nat → Int) : List Nat → Int
  | a :: y => if w = a then S y else top
  | [] => top
def wideF (K : List Nat → Int) (p : Int) (Wd : List Nat → Int) : List Nat → Int
  | [] => min (K []) (p + Wd [])
  | a :: y => min (min (K (a :: y)) (p + Wd (a :: y))) (wideF K p Wd y)
/-- what the walk from behind reckons: shut, wide -/
def dp (top M : Int) : List Nat → List Int → (List Nat → Int) × (List Nat → Int)
  | w :: ws, p :: ps => (fun y => min (keptF top w (dp top M ws ps).1 y) (p + M + (dp top M ws ps).2 y), wideF (keptF top w (dp top M ws ps).1) p (dp top M ws ps).2)
  | _, _ => (fun y => if y = [] then 0 else top, fun _ => 0)
/-- v is the least cost among the choices that fit; top where none does -/
def Best (top : Int) (n : Nat) (fit : List Bool → Prop) (cost : List Bool → Int) (v : Int) : Prop :=
  (∀ bs, bs.length = n → fit bs → v ≤ cost bs) ∧ (v = top ∨ ∃ bs, bs.length = n ∧ fit bs ∧ cost bs = v) ∧ v ≤ top
theorem Best.unique {top : Int} {n : Nat} {fit : List Bool → Prop} {cost : List Bool → Int} {v v' : Int} (h : Best top n fit cost v) (h' : Best top n fit cost v') : v = v' := by
  obtain ⟨a, b, c⟩ := h
  obtain ⟨a', b', c'⟩ := h'
  rcases b with b | ⟨bs, l, f, e⟩
  · rcases b' with b' | ⟨bs', l', f', e'⟩
    · omega
    · have := a bs' l' f'; omega
  · rcases b' with b' | ⟨bs', l', f', e'⟩
    · have := a' bs l f; omega
    · have h1 := a bs' l' f'
      have h2 := a' bs l f
      omega
theorem len_cons {bs : List Bool} {n : Nat} (h : bs.length = n + 1) : ∃ b r, bs = b :: r ∧ r.length = n := by
  cases bs with
  | nil => simp at h
  | cons b r => exact ⟨b, r, rfl, by simpa using h⟩
def Shut (top M : Int) (ws : List Nat) (ps : List Int) : Prop := ∀ y, Best top ws.length (fun bs => pm (patB false ws bs) y = true) (costB M false ps) ((dp top M ws ps).1 y)
def Wide (top M : Int) (ws : List Nat) (ps : List Int) : Prop := ∀ y, Best top ws.length (fun bs => pm (none :: patB true ws bs) y = true) (costB M true ps) ((dp top M ws ps).2 y)
theorem shut_step {top M p : Int} {w : Nat} {ws : List Nat} {ps : List Int} (hp : 0 ≤ p + M) (hS : Shut top M ws ps) (hW : Wide top M ws ps) : Shut top M (w :: ws) (p :: ps) := by
  intro y
  show Best top (ws.length + 1) _ _ (min (keptF top w (dp top M ws ps).1 y) (p + M + (dp top M ws ps).2 y))
  have hk : keptF top w (dp top M ws ps).1 y ≤ top := by
    cases y with
    | nil => exact Int.le_refl _
    | cons a y =>
      simp only [keptF]
      split
      · exact (hS y).2.2
      · exact Int.le_refl _
  refine ⟨fun bs hl hf => ?_, ?_, by omega⟩
  · obtain ⟨b, r, rfl, hr⟩ := len_cons hl
    cases b with
    | true =>
      simp only [patB, Bool.false_eq_true, if_false] at hf
      have := (hW y).1 r hr hf
      simp only [costB, Bool.false_eq_true, if_false]
      omega
    | false =>
      simp only [patB] at hf
      obtain ⟨t, rfl, ht⟩ := (pm_some w _ y).mp hf
      have := (hS t).1 r hr ht
      simp only [costB, keptF, if_true]
      omega
  · by_cases hle : keptF top w (dp top M ws ps).1 y ≤ p + M + (dp top M ws ps).2 y
    · rw [Int.min_eq_left hle]
      cases y with
      | nil => exact .inl rfl
      | cons a y =>
        simp only [keptF]
        split
        · rename_i e
          subst e
          rcases (hS y).2.1 with h | ⟨bs, hl, hf, hc⟩
          · exact .inl h
          · exact .inr ⟨false :: bs, by simp [hl], (pm_some w _ _).mpr ⟨y, rfl, hf⟩, hc⟩
        · exact .inl rfl
    · rw [Int.min_eq_right (by omega)]
      rcases (hW y).2.1 with h | ⟨bs, hl, hf, hc⟩
      · left; omega
      · right
        refine ⟨true :: bs, by simp [hl], by simpa [patB] using hf, ?_⟩
        simp only [costB, Bool.false_eq_true, if_false]
        omega
theorem wide_step {top M p : Int} {w : Nat} {ws : List Nat} {ps : List Int} (hp : 0 ≤ p) (hS : Shut top M ws ps) (hW : Wide top M ws ps) : Wide top M (w :: ws) (p :: ps) := by
  intro y
  show Best top (ws.length + 1) _ _ (wideF (keptF top w (dp top M ws ps).1) p (dp top M ws ps).2 y)
  have hk : ∀ y, keptF top w (dp top M ws ps).1 y ≤ top := by
    intro y
    cases y with
    | nil => exact Int.le_refl _
    | cons a y =>
      simp only [keptF]
      split
      · exact (hS y).2.2
      · exact Int.le_refl _
  have ht : ∀ (y : List Nat) (r : List Bool), r.length = ws.length → pm (none :: patB true (w :: ws) (true :: r)) y = true → p + (dp top M ws ps).2 y ≤ costB M true (p :: ps) (true :: r) := by
    intro y r hr hf
    simp only [patB, if_true] at hf
    have := (hW y).1 r hr hf
    simp only [costB, if_true]
    omega
  have hq : ∀ (y : List Nat), p + (dp top M ws ps).2 y = top ∨ top ≤ p + (dp top M ws ps).2 y ∨ ∃ bs, bs.length = ws.length + 1 ∧ pm (none :: patB true (w :: ws) bs) y = true ∧ costB M true (p :: ps) bs = p + (dp top M ws ps).2 y := by
    intro y
    rcases (hW y).2.1 with h | ⟨bs, hl, hf, hc⟩
    · right; left; omega
    · right; right
      refine ⟨true :: bs, by simp [hl], by simpa [patB] using hf, ?_⟩
      simp only [costB, if_true]
      omega
  induction y with
  | nil =>
    have hk0 := hk []
    simp only [wideF]
    refine ⟨fun bs hl hf => ?_, ?_, by omega⟩
    · obtain ⟨b, r, rfl, hr⟩ := len_cons hl
      cases b with
      | true => have := ht [] r hr hf; omega
      | false =>
        simp only [patB] at hf
        obtain ⟨a, b, e, hb⟩ := (pm_none _ _).mp hf
        obtain ⟨t, rfl, _⟩ := (pm_some w _ b).mp hb
        simp at e
    · by_cases hle : keptF top w (dp top M ws ps).1 [] ≤ p + (dp top M ws ps).2 []
      · rw [Int.min_eq_left hle]; exact .inl rfl
      · rw [Int.min_eq_right (by omega)]
        rcases hq [] with h | h | h
        · exact .inl h
        · left; omega
        · exact .inr h
  | cons c y ih =>
    have hk0 := hk (c :: y)
    have hle0 : wideF (keptF top w (dp top M ws ps).1) p (dp top M ws ps).2 y ≤ top := ih.2.2
    simp only [wideF]
    refine ⟨fun bs hl hf => ?_, ?_, by omega⟩
    · obtain ⟨b, r, rfl, hr⟩ := len_cons hl
      cases b with
      | true => have := ht (c :: y) r hr hf; omega
      | false =>
        have hf' := hf
        simp only [patB] at hf'
        obtain ⟨a, b, e, hb⟩ := (pm_none _ _).mp hf'
        obtain ⟨t, rfl, htt⟩ := (pm_some w _ b).mp hb
        cases a with
        | nil =>
          obtain ⟨rfl, rfl⟩ := List.cons.inj e
          have := (hS y).1 r hr htt
          simp only [costB, keptF, if_true]
          omega
        | cons a0 a1 =>
          obtain ⟨rfl, rfl⟩ := List.cons.inj e
          have := ih.1 (false :: r) hl (by simp only [patB]; exact (pm_none _ _).mpr ⟨a1, w :: t, rfl, hb⟩)
          omega
    · by_cases h1 : wideF (keptF top w (dp top M ws ps).1) p (dp top M ws ps).2 y ≤ min (keptF top w (dp top M ws ps).1 (c :: y)) (p + (dp top M ws ps).2 (c :: y))
      · rw [Int.min_eq_right h1]
        rcases ih.2.1 with h | ⟨bs, hl, hf, hc⟩
        · exact .inl h
        · exact .inr ⟨bs, hl, pm_mono (a := [c]) hf, hc⟩
      · rw [Int.min_eq_left (by omega)]
        by_cases hle : keptF top w (dp top M ws ps).1 (c :: y) ≤ p + (dp top M ws ps).2 (c :: y)
        · rw [Int.min_eq_left hle]
          simp only [keptF]
          split
          · rename_i e
            subst e
            rcases (hS y).2.1 with h | ⟨bs, hl, hf, hc⟩
            · exact .inl h
            · refine .inr ⟨false :: bs, by simp [hl], ?_, hc⟩
              simp only [patB]
              exact pm_open ((pm_some w _ _).mpr ⟨y, rfl, hf⟩)
          · exact .inl rfl
        · rw [Int.min_eq_right (by omega)]
          rcases hq (c :: y) with h | h | h
          · exact .inl h
          · left; omega
          · exact .inr h
theorem dp_best {top M : Int} (hM : 0 ≤ M) (ht : 0 ≤ top) : ∀ (ws : List Nat) (ps : List Int), ws.length = ps.length → (∀ p ∈ ps, 0 ≤ p) → Shut top M ws ps ∧ Wide top M ws ps
  | [], [], _, _ => by
    refine ⟨fun y => ?_, fun y => ?_⟩
    · show Best top 0 _ _ (if y = [] then 0 else top)
      by_cases e : y = []
      · rw [if_pos e]
        refine ⟨fun bs _ _ => by simp [costB], .inr ⟨[], rfl, by simp [patB, pm, e], by simp [costB]⟩, ht⟩
      · rw [if_neg e]
        refine ⟨fun bs hl hf => ?_, .inl rfl, Int.le_refl _⟩
        have : bs = [] := List.length_eq_zero_iff.mp hl
        subst this
        simp [patB, pm] at hf
        exact absurd hf e
    · show Best top 0 _ _ 0
      refine ⟨fun bs _ _ => by simp [costB], .inr ⟨[], rfl, ?_, by simp [costB]⟩, ht⟩
      exact (pm_none _ _).mpr ⟨y, [], by simp, by simp [patB, pm]⟩
  | w :: ws, p :: ps, hl, hp => by
    obtain ⟨hS, hW⟩ := dp_best hM ht ws ps (by simpa using hl) (fun q hq => hp q (List.mem_cons_of_mem _ hq))
    have h0 := hp p List.mem_cons_self
    exact ⟨shut_step (by omega) hS hW, wide_step h0 hS hW⟩
end Mine
end
section
open PySem PySem.W PyProof.Rows
set_option Elab.async false
namespace Mine
def ofBits : List Bool → Nat
  | [] => 0
  | b :: r => (if b then 1 else 0) + 2 * ofBits r
theorem ofBits_lt : ∀ bs : List Bool, ofBits bs < 2 ^ bs.length
  | [] => by simp [ofBits]
  | b :: r => by
    have := ofBits_lt r
    simp only [ofBits, List.length_cons, Nat.pow_succ]
    split <;> omega
theorem bitsOf_cons (b : Bool) (k n : Nat) : bitsOf ((if b then 1 else 0) + 2 * k) (n + 1) = b :: bitsOf k n := by
  unfold bitsOf
  rw [List.range_succ_eq_map, List.map_cons, List.map_map]
  congr 1
  · cases b <;> simp <;> omega
  · apply List.map_congr_left
    intro j _
    show decide (((if b then 1 else 0) + 2 * k) / 2 ^ (j + 1) % 2 = 1) = decide (k / 2 ^ j % 2 = 1)
    have e : ((if b then 1 else 0) + 2 * k) / 2 ^ (j + 1) = k / 2 ^ j := by
      have e2 : ((if b then 1 else 0) + 2 * k) / 2 = k := by split <;> omega
      rw [Nat.pow_succ, Nat.mul_comm (2 ^ j) 2, ← Nat.div_div_eq_div_mul, e2]
    rw [e]
theorem bitsOf_ofBits : ∀ bs : List Bool, bitsOf (ofBits bs) bs.length = bs
  | [] => rfl
  | b :: r => by
    show bitsOf ((if b then 1 else 0) + 2 * ofBits r) (r.length + 1) = _
    rw [bitsOf_cons, bitsOf_ofBits r]
section
variable {X : List Nat} {P : List Int} {M : Int} {Y : List Nat}
theorem lst_le : ∀ i, lst X P M Y i ≤ topOf P M
  | 0 => by rw [lst_zero]; exact Int.le_refl _
  | i + 1 => by
    have := lst_le i
    rw [lst_succ]
    split <;> omega
theorem lst_all : ∀ i k, k < i → fitOf X P M Y k = true → lst X P M Y i ≤ costOf X P M k
  | 0, _, h, _ => absurd h (Nat.not_lt_zero _)
  | i + 1, k, h, hf => by
    rw [lst_succ]
    by_cases e : k = i
    · subst e
      split
      · exact Int.le_refl _
      · rename_i hn
        have : ¬ costOf X P M k < lst X P M Y k := fun q => hn ⟨hf, q⟩
        omega
    · have := lst_all i k (by omega) hf
      split
      · rename_i hq; have := hq.2; omega
      · exact this
theorem lst_hit : ∀ i, lst X P M Y i = topOf P M ∨ ∃ k, k < i ∧ fitOf X P M Y k = true ∧ costOf X P M k = lst X P M Y i
  | 0 => .inl (lst_zero _ _ _ _)
  | i + 1 => by
    rw [lst_succ]
    split
    · rename_i h
      exact .inr ⟨i, by omega, h.1, rfl⟩
    · rcases lst_hit i with h | ⟨k, hk, hf, hc⟩
      · exact .inl h
      · exact .inr ⟨k, by omega, hf, hc⟩
theorem lst_best (hXP : X.length = P.length) : Best (topOf P M) X.length (fun bs => pm (patB false X bs) Y = true) (costB M false P) (lst X P M Y (2 ^ X.length)) := by
  refine ⟨fun bs hl hf => ?_, ?_, lst_le _⟩
  · have h1 := ofBits_lt bs
    have h2 := bitsOf_ofBits bs
    rw [hl] at h1 h2
    have := lst_all (X := X) (P := P) (M := M) (Y := Y) (2 ^ X.length) (ofBits bs) h1 (by rw [fitOf_eq, (stp_all _ hXP).1, h2]; exact hf)
    rw [costOf_eq, (stp_all _ hXP).2, h2] at this
    exact this
  · rcases lst_hit (X := X) (P := P) (M := M) (Y := Y) (2 ^ X.length) with h | ⟨k, _, hf, hc⟩
    · exact .inl h
    · refine .inr ⟨bitsOf k X.length, by simp [bitsOf], ?_, ?_⟩
      · rw [fitOf_eq, (stp_all _ hXP).1] at hf; exact hf
      · rw [costOf_eq, (stp_all _ hXP).2] at hc; exact hc
theorem lst_dp (hXP : X.length = P.length) (hM : 0 ≤ M) (hP : ∀ p ∈ P, 0 ≤ p) (ht : 0 ≤ topOf P M) : lst X P M Y (2 ^ X.length) = (dp (topOf P M) M X P).1 Y :=
  (lst_best hXP).unique ((dp_best hM ht X P hXP hP).1 Y)
end
end Mine
end
section
open PySem PySem.W PyProof.Rows
set_option Elab.async false
namespace Mine
/-- the two lists of the walk from behind, k signs of the wanted text left out at the front -/
@[irreducible] def rowS (top M : Int) (X : List Nat) (P : List Int) (Y : List Nat) (k : Nat) : List Int := (List.range (Y.length + 1)).map fun a => (dp top M (X.drop k) (P.drop k)).1 (Y.drop a)
@[irreducible] def rowW (top M : Int) (X : List Nat) (P : List Int) (Y : List Nat) (k : Nat) : List Int := (List.range (Y.length + 1)).map fun a => (dp top M (X.drop k) (P.drop k)).2 (Y.drop a)
section
variable {top M : Int} {X : List Nat} {P : List Int} {Y : List Nat} {k a : Nat}
theorem rowS_len : (rowS top M X P Y k).length = Y.length + 1 := by unfold rowS; simp
theorem rowW_len : (rowW top M X P Y k).length = Y.length + 1 := by unfold rowW; simp
theorem rowS_get (h : a ≤ Y.length) : (rowS top M X P Y k).getD a 0 = (dp top M (X.drop k) (P.drop k)).1 (Y.drop a) := by
  have : a < Y.length + 1 := by omega
  unfold rowS; simp [List.getD, this]
theorem rowW_get (h : a ≤ Y.length) : (rowW top M X P Y k).getD a 0 = (dp top M (X.drop k) (P.drop k)).2 (Y.drop a) := by
  have : a < Y.length + 1 := by omega
  unfold rowW; simp [List.getD, this]
theorem ext_getD {l l' : List Int} (h : l.length = l'.length) (e : ∀ i, i < l.length → l.getD i 0 = l'.getD i 0) : l = l' := by
  apply List.ext_getElem h
  intro i h1 h2
  have := e i h1
  simpa [List.getD, h1, h2] using this
theorem rowS_end (_hXP : X.length = P.length) : rowS top M X P Y X.length = List.replicate Y.length top ++ [0] := by
  apply ext_getD
  · rw [rowS_len]; simp
  · intro i hi
    rw [rowS_len] at hi
    rw [rowS_get (by omega)]
    have e1 : X.drop X.length = [] := List.drop_length
    rw [e1]
    show (if Y.drop i = [] then 0 else top) = _
    by_cases h : i < Y.length
    · have : ¬ Y.drop i = [] := by
        intro h2
        have := congrArg List.length h2
        simp at this
        omega
      rw [if_neg this]
      simp [List.getD, List.getElem?_append_left, h]
    · have hi2 : i = Y.length := by omega
      subst hi2
      simp [List.getD]
theorem rowW_end (_hXP : X.length = P.length) : rowW top M X P Y X.length = List.replicate (Y.length + 1) 0 := by
  apply ext_getD
  · rw [rowW_len]; simp
  · intro i hi
    rw [rowW_len] at hi
    rw [rowW_get (by omega)]
    have e1 : X.drop X.length = [] := List.drop_length
    rw [e1]
    show (0 : Int) = _
    simp [List.getD, List.getElem?_replicate, hi]
theorem drop_one {α : Type} {l : List α} {i : Nat} {d : α} (h : i < l.length) : l.drop i = l.getD i d :: l.drop (i + 1) := by
  rw [List.drop_eq_getElem_cons h]
  simp [List.getD, h]
/-- one sign more: shut, wide, at the place a -/
theorem rowS_eq (hX : k < X.length) (hP : k < P.length) (ha : a < Y.length) (e : X.getD k 0 = Y.getD a 0) :
    (rowS top M X P Y k).getD a 0 = min ((rowS top M X P Y (k + 1)).getD (a + 1) 0) (P.getD k 0 + M + (rowW top M X P Y (k + 1)).getD a 0) := by
  rw [rowS_get (by omega), rowS_get (by omega), rowW_get (by omega), drop_one (d := 0) hX, drop_one (d := 0) hP]
  show min (keptF _ _ _ _) _ = _
  rw [drop_one (l := Y) (d := 0) ha]
  simp only [keptF, if_pos e]
theorem rowS_ne (hX : k < X.length) (hP : k < P.length) (ha : a < Y.length) (e : X.getD k 0 ≠ Y.getD a 0) :
    (rowS top M X P Y k).getD a 0 = min top (P.getD k 0 + M + (rowW top M X P Y (k + 1)).getD a 0) := by
  rw [rowS_get (by omega), rowW_get (by omega), drop_one (d := 0) hX, drop_one (d := 0) hP]
  show min (keptF _ _ _ _) _ = _
  rw [drop_one (l := Y) (d := 0) ha]
  simp only [keptF, if_neg e]
theorem rowS_top (hX : k < X.length) (hP : k < P.length) (ha : a = Y.length) :
    (rowS top M X P Y k).getD a 0 = min top (P.getD k 0 + M + (rowW top M X P Y (k + 1)).getD a 0) := by
  subst ha
  rw [rowS_get (by omega), rowW_get (by omega), drop_one (d := 0) hX, drop_one (d := 0) hP]
  show min (keptF _ _ _ _) _ = _
  have e1 : Y.drop Y.length = [] := List.drop_length
  rw [e1]
  simp only [keptF]
theorem rowW_eq (hX : k < X.length) (hP : k < P.length) (ha : a < Y.length) (e : X.getD k 0 = Y.getD a 0) :
    (rowW top M X P Y k).getD a 0 = min (min ((rowS top M X P Y (k + 1)).getD (a + 1) 0) (P.getD k 0 + (rowW top M X P Y (k + 1)).getD a 0)) ((rowW top M X P Y k).getD (a + 1) 0) := by
  rw [rowW_get (by omega), rowS_get (by omega), rowW_get (by omega), rowW_get (by omega), drop_one (d := 0) hX, drop_one (d := 0) hP]
  show wideF _ _ _ _ = min _ (wideF _ _ _ _)
  rw [drop_one (l := Y) (d := 0) ha]
  simp only [keptF, wideF, if_pos e]
theorem rowW_ne (hX : k < X.length) (hP : k < P.length) (ha : a < Y.length) (e : X.getD k 0 ≠ Y.getD a 0) :
    (rowW top M X P Y k).getD a 0 = min (min top (P.getD k 0 + (rowW top M X P Y (k + 1)).getD a 0)) ((rowW top M X P Y k).getD (a + 1) 0) := by
  rw [rowW_get (by omega), rowW_get (by omega), rowW_get (by omega), drop_one (d := 0) hX, drop_one (d := 0) hP]
  show wideF _ _ _ _ = min _ (wideF _ _ _ _)
  rw [drop_one (l := Y) (d := 0) ha]
  simp only [keptF, wideF, if_neg e]
theorem rowW_top (hX : k < X.length) (hP : k < P.length) (ha : a = Y.length) :
    (rowW top M X P Y k).getD a 0 = min top (P.getD k 0 + (rowW top M X P Y (k + 1)).getD a 0) := by
  subst ha
  rw [rowW_get (by omega), rowW_get (by omega), drop_one (d := 0) hX, drop_one (d := 0) hP]
  show wideF _ _ _ _ = _
  have e1 : Y.drop Y.length = [] := List.drop_length
  rw [e1]
  simp only [keptF, wideF]
end
/-- a row under way: the last j places are told, top stands in the others -/
@[irreducible] def mix (top : Int) (R : List Int) (j : Nat) : List Int := List.replicate (R.length - j) top ++ R.drop (R.length - j)
section
variable {top v : Int} {R : List Int} {j a : Nat}
theorem mix_len : (mix top R j).length = R.length := by
  unfold mix
  rw [List.length_append, List.length_replicate, List.length_drop]
  omega
theorem mix_zero : mix top R 0 = List.replicate R.length top := by unfold mix; simp [List.drop_length]
theorem mix_all : mix top R R.length = R := by unfold mix; simp
theorem mix_get (h : R.length ≤ a + j) (ha : a < R.length) : (mix top R j).getD a 0 = R.getD a 0 := by
  unfold mix
  have h1 : a < (List.replicate (R.length - j) top ++ R.drop (R.length - j)).length := by simp; omega
  simp only [List.getD]
  rw [List.getElem?_append_right (by simp; omega)]
  simp only [List.length_replicate, List.getElem?_drop]
  congr 2
  omega
theorem mix_low (h : a + j < R.length) : (mix top R j).getD a 0 = top := by
  unfold mix
  simp only [List.getD]
  rw [List.getElem?_append_left (by simp; omega)]
  rw [List.getElem?_replicate, if_pos (by omega)]
  rfl
theorem mix_set (h : a + j + 1 = R.length) (hv : v = R.getD a 0) : (mix top R j).set a v = mix top R (j + 1) := by
  apply ext_getD
  · rw [List.length_set, mix_len, mix_len]
  · intro i hi
    rw [List.length_set, mix_len] at hi
    by_cases e : i = a
    · subst e
      rw [mix_get (by omega) (by omega), hv]
      simp [List.getD, List.getElem?_set, mix_len, hi]
    · have e1 : ((mix top R j).set a v).getD i 0 = (mix top R j).getD i 0 := by
        simp only [List.getD]
        rw [List.getElem?_set_ne (by omega)]
      rw [e1]
      by_cases h2 : a < i
      · rw [mix_get (by omega) (by omega), mix_get (by omega) (by omega)]
      · rw [mix_low (by omega), mix_low (by omega)]
theorem mix_set2 {u : Int} (h : a + j + 1 = R.length) (hv : v = R.getD a 0) : ((mix top R j).set a u).set a v = mix top R (j + 1) := by
  rw [List.set_set]
  exact mix_set h hv
end
/-- one sign more: the old rows, the new ones -/
structure RowStep (top M p : Int) (x : Nat) (Y : List Nat) (RS RW NS NW : List Int) : Prop where
  lS : RS.length = Y.length + 1
  lW : RW.length = Y.length + 1
  lNS : NS.length = Y.length + 1
  lNW : NW.length = Y.length + 1
  sEq : ∀ a, a < Y.length → x = Y.getD a 0 → NS.getD a 0 = min (RS.getD (a + 1) 0) (p + M + RW.getD a 0)
  sNe : ∀ a, a < Y.length → x ≠ Y.getD a 0 → NS.getD a 0 = min top (p + M + RW.getD a 0)
  sTop : ∀ a, a = Y.length → NS.getD a 0 = min top (p + M + RW.getD a 0)
  wEq : ∀ a, a < Y.length → x = Y.getD a 0 → NW.getD a 0 = min (min (RS.getD (a + 1) 0) (p + RW.getD a 0)) (NW.getD (a + 1) 0)
  wNe : ∀ a, a < Y.length → x ≠ Y.getD a 0 → NW.getD a 0 = min (min top (p + RW.getD a 0)) (NW.getD (a + 1) 0)
  wTop : ∀ a, a = Y.length → NW.getD a 0 = min top (p + RW.getD a 0)
theorem row_step {top M : Int} {X : List Nat} {P : List Int} {Y : List Nat} {k : Nat} (hX : k < X.length) (hP : k < P.length) :
    RowStep top M (P.getD k 0) (X.getD k 0) Y (rowS top M X P Y (k + 1)) (rowW top M X P Y (k + 1)) (rowS top M X P Y k) (rowW top M X P Y k) where
  lS := rowS_len
  lW := rowW_len
  lNS := rowS_len
  lNW := rowW_len
  sEq := fun _ h e => rowS_eq hX hP h e
  sNe := fun _ h e => rowS_ne hX hP h e
  sTop := fun _ h => rowS_top hX hP h
  wEq := fun _ h e => rowW_eq hX hP h e
  wNe := fun _ h e => rowW_ne hX hP h e
  wTop := fun _ h => rowW_top hX hP h
end Mine
end
section
open PySem PySem.W PyProof.Rows PySem.Spec PySem.Calls
set_option Elab.async false
set_option maxRecDepth 100000
set_option maxHeartbeats 4000000
namespace Mine
section
variable {prog : Program} {w : World} {A : Around} {E : Value → Shared → Prop} {s : Shared} {h₀ : Heap} {L : Addr} {m : Str → Option Value} {news news' : List (Addr × Obj)} {Q : Value → Shared → Prop}
theorem len_txt {X : List Nat} {t : Tok} (hl : X.length ≤ 1000000) (h : ∀ t' k', Q (.int (X.length : Int) t') { s with toks := k' }) : wpAny (model prog w) A (call (.builtin "len") [.str (txt X) t]) Q E s := by
  refine PyProof.Rows.len_str (by rw [txt_len]; omega) ?_
  rw [txt_len]
  exact h _ _
theorem shl_one {n : Nat} {t u : Tok} (hn : n ≤ 1000) (h : ∀ t' k', Q (.int ((2 ^ n : Nat) : Int) t') { s with toks := k' }) : wpAny (model prog w) A (binaryOp .LShift (.int 1 t) (.int (n : Int) u)) Q E s := by
  refine lshift_int_small (by omega) (by omega) (by decide) ?_
  have e : (1 : Int) * 2 ^ (n : Int).toNat = ((2 ^ n : Nat) : Int) := by
    rw [Int.one_mul, Int.toNat_natCast, kbt_cast]
  rw [e]
  exact h _ _
theorem shr_nat {k n : Nat} {t u : Tok} (h : ∀ t' k', Q (.int ((k / 2 ^ n : Nat) : Int) t') { s with toks := k' }) : wpAny (model prog w) A (binaryOp .RShift (.int (k : Int) t) (.int (n : Int) u)) Q E s := by
  refine rshift_int (by omega) ?_
  have e : (k : Int).fdiv (2 ^ (n : Int).toNat) = ((k / 2 ^ n : Nat) : Int) := by
    rw [Int.toNat_natCast, ← kbt_cast]
    exact (Int.ofNat_fdiv k (2 ^ n)).symm
  rw [e]
  exact h _ _
theorem and_one {k : Nat} {t u : Tok} (h : ∀ t' k', Q (.int ((k % 2 : Nat) : Int) t') { s with toks := k' }) : wpAny (model prog w) A (binaryOp .BitAnd (.int (k : Int) t) (.int 1 u)) Q E s := by
  refine and_int ?_
  rw [bitAnd_m1]
  have e : (k : Int) % 2 = ((k % 2 : Nat) : Int) := by omega
  rw [e]
  exact h _ _
theorem bitOr_nat (a b : Nat) : Builtin.bitOr (a : Int) (b : Int) = ((a ||| b : Nat) : Int) := by
  unfold Builtin.bitOr
  have h1 : Builtin.bitNot (a : Int) = -(a : Int) - 1 := by unfold Builtin.bitNot; omega
  have h2 : Builtin.bitNot (b : Int) = -(b : Int) - 1 := by unfold Builtin.bitNot; omega
  have ha : ¬ (0 ≤ -(a : Int) - 1) := by omega
  have hb : ¬ (0 ≤ -(b : Int) - 1) := by omega
  rw [h1, h2]
  unfold Builtin.bitAnd
  rw [decide_eq_false ha, decide_eq_false hb]
  dsimp only
  have h3 : (Builtin.bitNot (-(a : Int) - 1)).toNat = a := by unfold Builtin.bitNot; omega
  have h4 : (Builtin.bitNot (-(b : Int) - 1)).toNat = b := by unfold Builtin.bitNot; omega
  rw [h3, h4]
  unfold Builtin.bitNot
  omega
theorem or_nat {a b : Nat} {t u : Tok} (h : ∀ t' k', Q (.int ((a ||| b : Nat) : Int) t') { s with toks := k' }) : wpAny (model prog w) A (binaryOp .BitOr (.int (a : Int) t) (.int (b : Int) u)) Q E s := by
  refine or_int ?_
  rw [bitOr_nat]
  exact h _ _
/-- an int out of a made list of ints, at a place told as a natural number -/
theorem int_item {value slice : PySem.Expr} {l : Addr} {its : List Value} {P : List Int} {n i : Nat} {u : Tok} (N : News h₀ L s.heap news) (hm : (l, listOf its.toArray n) ∈ news) (hI : IntsAre its P)
    (hi : i < P.length) (hb : i ≤ 1000000) (h : ∀ t', Q (.int (P.getD i 0) t') s)
    (hs : subscripted slice false (.ref l) (.int (i : Int) u) = operate [.ref l, .int (i : Int) u] (getItem (.ref l) (.int (i : Int) u)) := by with_unfolding_all rfl) (hg : ∀ r, letTemporaryGo value (.ref l) r = pure () := by intro _; with_unfolding_all rfl) :
    wpAny (model prog w) A (subscriptTail value slice (.ref l) (.int (i : Int) u)) Q E s := by
  obtain ⟨t', ht⟩ := hI.get i (P.getD i 0) (by simp [List.getD, hi])
  exact item_made N hm (by omega) (by omega) (by simpa using ht) (h t') hs hg
/-- any item of a made list, at a place told as a natural number -/
theorem any_item {value slice : PySem.Expr} {l : Addr} {its : List Value} {v : Value} {n i : Nat} {u : Tok} (N : News h₀ L s.heap news) (hm : (l, listOf its.toArray n) ∈ news)
    (hv : its[i]? = some v) (hb : i ≤ 1000000) (h : Q v s)
    (hs : subscripted slice false (.ref l) (.int (i : Int) u) = operate [.ref l, .int (i : Int) u] (getItem (.ref l) (.int (i : Int) u)) := by with_unfolding_all rfl) (hg : ∀ r, letTemporaryGo value (.ref l) r = pure () := by intro _; with_unfolding_all rfl) :
    wpAny (model prog w) A (subscriptTail value slice (.ref l) (.int (i : Int) u)) Q E s :=
  item_made N hm (by omega) (by omega) (by simpa using hv) h hs hg
/-- a sign of a text, at a place told as a natural number -/
theorem sign_item {value slice : PySem.Expr} {X : List Nat} {i : Nat} {t u : Tok} (hi : i < X.length) (hb : X.length ≤ 1000000) (h : ∀ t' k', Q (.str (txt [X.getD i 0]) t') { s with toks := k' })
    (hs : subscripted slice false (.str (txt X) t) (.int (i : Int) u) = operate [.str (txt X) t, .int (i : Int) u] (getItem (.str (txt X) t) (.int (i : Int) u)) := by with_unfolding_all rfl)
    (ht : ∀ r, letTemporaryGo value (.str (txt X) t) r = pure () := by intro _; with_unfolding_all rfl) :
    wpAny (model prog w) A (subscriptTail value slice (.str (txt X) t) (.int (i : Int) u)) Q E s := by
  refine KXi.item (n := X.length) (txt_len X) (by omega) (by omega) (by omega) (fun _ => ?_) hs ht
  rw [item_txt (by omega) (by omega), Int.toNat_natCast]
  exact h _ _
end
end Mine
end
section
open PySem PySem.W PyProof.Rows
set_option Elab.async false
namespace Mine
def NameJ (x : Str) (nx₀ : List (Addr × Obj)) (m₀ : Str → Option Value) (_i : Nat) (m : Str → Option Value) (nx : List (Addr × Obj)) : Prop :=
  ∃ u, m = (fun z => if z = x then u else m₀ z) ∧ nx = nx₀
theorem NameJ.intro {x : Str} {nx₀ nx : List (Addr × Obj)} {m₀ m : Str → Option Value} {i : Nat} (h : ∀ z, z ≠ x → m z = m₀ z) (hn : nx = nx₀) : NameJ x nx₀ m₀ i m nx :=
  ⟨m x, map_ext1 (a := x) (by simp) (fun z hz => by simp only [if_neg hz]; exact h z hz), hn⟩
def TwoJ (x y : Str) (nx₀ : List (Addr × Obj)) (m₀ : Str → Option Value) (_i : Nat) (m : Str → Option Value) (nx : List (Addr × Obj)) : Prop :=
  ∃ u v, m = (fun z => if z = x then u else if z = y then v else m₀ z) ∧ nx = nx₀
theorem TwoJ.intro {x y : Str} {nx₀ nx : List (Addr × Obj)} {m₀ m : Str → Option Value} {i : Nat} (hxy : (y == x) = false) (h : ∀ z, z ≠ x → z ≠ y → m z = m₀ z) (hn : nx = nx₀) : TwoJ x y nx₀ m₀ i m nx := by
  have hne : y ≠ x := by intro e; rw [e] at hxy; simp at hxy
  exact ⟨m x, m y, map_ext2 (a := x) (b := y) (by simp) (by simp [hne]) (fun z h1 h2 => by simp only [if_neg h1, if_neg h2]; exact h z h1 h2), hn⟩
theorem bools_at {f : Nat → Bool} {n k : Nat} (hk : k < n) : ((List.range n).map fun k => Value.bool (f k))[k]? = some (.bool (f k)) := by
  simp [hk]
theorem bools_true {f : Nat → Bool} {n k : Nat} (hk : k < n) (h : f k = true) : ((List.range n).map fun k => Value.bool (f k))[k]? = some (.bool true) := by
  rw [bools_at hk, h]
theorem or_lt {k j n : Nat} (hk : k < 2 ^ n) (hj : j < n) : k ||| 2 ^ j < 2 ^ n := Nat.or_lt_two_pow hk (Nat.pow_lt_pow_right (by decide) hj)
theorem fits_true {X : List Nat} {P : List Int} {M : Int} {Y : List Nat} {k j : Nat} (hXP : X.length = P.length) (hk : k < 2 ^ X.length) (hj : j < X.length) (h : fitOf X P M Y k = true) :
    ((List.range (2 ^ X.length)).map fun k => Value.bool (fitOf X P M Y k))[k ||| 2 ^ j]? = some (.bool true) := bools_true (or_lt hk hj) (fit_mono hXP hj h)
theorem or_small {k j n : Nat} (hk : k < 2 ^ n) (hj : j < n) (hn : n ≤ 6) : k ||| 2 ^ j ≤ 1000000 := by
  have h1 := or_lt hk hj
  have h2 : 2 ^ n ≤ 2 ^ 6 := Nat.pow_le_pow_right (by decide) hn
  omega
theorem small_pow {n : Nat} (hn : n ≤ 6) : Builtin.Range.small 0 ((2 ^ n : Nat) : Int) 1 = true := by
  have hp0 : (0 : Int) ≤ ((2 ^ n : Nat) : Int) := Int.natCast_nonneg _
  have hp1 : ((2 ^ n : Nat) : Int) ≤ 64 := Int.ofNat_le.mpr (Nat.pow_le_pow_right (n := 2) (by decide) hn)
  generalize ((2 ^ n : Nat) : Int) = q at hp0 hp1
  exact small_one (by omega) (by omega) (by omega) (by omega)
theorem pow_le_64 {n i : Nat} (hn : n ≤ 6) (h : i < 2 ^ n) : i < 64 := by
  have hp1 : 2 ^ n ≤ 64 := Nat.pow_le_pow_right (n := 2) (by decide) hn
  omega
end Mine
end
section
open PySem PySem.W PyProof.Rows
set_option Elab.async false
namespace Mine
theorem flat_rep {x : Int} {k : Int} {n : Nat} (h : k = (n : Int)) : (List.replicate k.toNat [x]).flatten = List.replicate n x := by
  subst h
  rw [Int.toNat_natCast]
  induction n with
  | zero => rfl
  | succ n ih => rw [List.replicate_succ, List.flatten_cons, ih, List.replicate_succ]; rfl
/-- the walk from behind, the outer loop -/
def DpJ (top M : Int) (X : List Nat) (P : List Int) (Y : List Nat) (aP : Addr) (oP : Obj) (m₀ : Str → Option Value) (i : Nat) (m : Str → Option Value) (nx : List (Addr × Obj)) : Prop :=
  ∃ aS aW sv wv cs cw u1 u2 u3 u4 u5, m = (fun z => if z = Str.ofString "shut" then some (.ref aS) else if z = Str.ofString "wide" then some (.ref aW) else if z = Str.ofString "shut_now" then u1 else if z = Str.ofString "wide_now" then u2 else if z = Str.ofString "at" then u3 else if z = Str.ofString "kept" then u4 else if z = Str.ofString "place" then u5 else m₀ z) ∧
    nx = [(aS, listOf sv.toArray cs), (aW, listOf wv.toArray cw), (aP, oP)] ∧ IntsAre sv (rowS top M X P Y (X.length - i)) ∧ IntsAre wv (rowW top M X P Y (X.length - i))
theorem DpJ.intro {top M : Int} {X : List Nat} {P : List Int} {Y : List Nat} {aP aS aW : Addr} {oP : Obj} {m₀ m : Str → Option Value} {i : Nat} {nx : List (Addr × Obj)} {sv wv : List Value} {cs cw : Nat} {R1 R2 : List Int}
    (hs : m (Str.ofString "shut") = some (.ref aS)) (hw : m (Str.ofString "wide") = some (.ref aW))
    (h : ∀ z, z ≠ Str.ofString "shut" → z ≠ Str.ofString "wide" → z ≠ Str.ofString "shut_now" → z ≠ Str.ofString "wide_now" → z ≠ Str.ofString "at" → z ≠ Str.ofString "kept" → z ≠ Str.ofString "place" → m z = m₀ z)
    (hn : nx = [(aS, listOf sv.toArray cs), (aW, listOf wv.toArray cw), (aP, oP)]) (h1 : IntsAre sv R1) (h2 : IntsAre wv R2) (e1 : rowS top M X P Y (X.length - i) = R1) (e2 : rowW top M X P Y (X.length - i) = R2) : DpJ top M X P Y aP oP m₀ i m nx := by
  subst e1 e2
  exact ⟨aS, aW, sv, wv, cs, cw, _, _, _, _, _, map_ext7 (a := Str.ofString "shut") (b := Str.ofString "wide") (c := Str.ofString "shut_now") (d := Str.ofString "wide_now") (e := Str.ofString "at") (f := Str.ofString "kept") (g := Str.ofString "place") hs hw rfl rfl rfl rfl rfl
    (fun z h1 h2 h3 h4 h5 h6 h7 => by simp only [if_neg h1, if_neg h2, if_neg h3, if_neg h4, if_neg h5, if_neg h6, if_neg h7]; exact h z h1 h2 h3 h4 h5 h6 h7), hn, h1, h2⟩
/-- the inner one -/
def RowJ (top : Int) (NS NW : List Int) (aS aW : Addr) (rest : List (Addr × Obj)) (m₀ : Str → Option Value) (j : Nat) (m : Str → Option Value) (nx : List (Addr × Obj)) : Prop :=
  ∃ sv wv cs cw u1 u2, m = (fun z => if z = Str.ofString "kept" then u1 else if z = Str.ofString "at" then u2 else m₀ z) ∧
    nx = (aW, listOf wv.toArray cw) :: (aS, listOf sv.toArray cs) :: rest ∧ IntsAre sv (mix top NS j) ∧ IntsAre wv (mix top NW j)
theorem RowJ.intro {top : Int} {NS NW R1 R2 : List Int} {aS aW : Addr} {rest nx : List (Addr × Obj)} {m₀ m : Str → Option Value} {j : Nat} {sv wv : List Value} {cs cw : Nat}
    (h : ∀ z, z ≠ Str.ofString "kept" → z ≠ Str.ofString "at" → m z = m₀ z) (hn : nx = (aW, listOf wv.toArray cw) :: (aS, listOf sv.toArray cs) :: rest) (h1 : IntsAre sv R1) (h2 : IntsAre wv R2) (e1 : R1 = mix top NS j) (e2 : R2 = mix top NW j) :
    RowJ top NS NW aS aW rest m₀ j m nx := by
  subst e1 e2
  exact ⟨sv, wv, cs, cw, _, _, map_ext2 (a := Str.ofString "kept") (b := Str.ofString "at") rfl rfl (fun z h1 h2 => by simp only [if_neg h1, if_neg h2]; exact h z h1 h2), hn, h1, h2⟩
theorem pm_min (a b : Int) : (if b < a then b else a) = min a b := by split <;> omega
theorem sign_eq {c d : Nat} (h : (txt [c] == txt [d]) = true) : c = d := by
  have e : txt [c] = txt [d] := by simpa using h
  have := congrArg Str.cps e
  simpa using this
theorem sign_ne {c d : Nat} (h : (txt [c] == txt [d]) = false) : c ≠ d := by
  intro e
  subst e
  simp at h
section
variable {top M p : Int} {x : Nat} {Y : List Nat} {RS RW NS NW : List Int} {a j : Nat}
theorem nat_one : ((a : Int) + 1).toNat = a + 1 := by omega
theorem e_sEq (hst : RowStep top M p x Y RS RW NS NW) (ha : Y.length = a + j) (h1 : (a : Int) < (Y.length : Int)) (h2 : (txt [x] == txt [Y.getD a 0]) = true) :
    (mix top NS j).set (a : Int).toNat (if p + M + RW.getD a 0 < RS.getD ((a : Int) + 1).toNat 0 then p + M + RW.getD a 0 else RS.getD ((a : Int) + 1).toNat 0) = mix top NS (j + 1) := by
  have := hst.lNS
  rw [Int.toNat_natCast, nat_one, pm_min]
  exact mix_set (by omega) (hst.sEq a (by omega) (sign_eq h2)).symm
theorem e_sNe (hst : RowStep top M p x Y RS RW NS NW) (ha : Y.length = a + j) (h1 : (a : Int) < (Y.length : Int)) (h2 : (txt [x] == txt [Y.getD a 0]) = false) :
    (mix top NS j).set (a : Int).toNat (if p + M + RW.getD a 0 < top then p + M + RW.getD a 0 else top) = mix top NS (j + 1) := by
  have := hst.lNS
  rw [Int.toNat_natCast, pm_min]
  exact mix_set (by omega) (hst.sNe a (by omega) (sign_ne h2)).symm
theorem e_sTop (hst : RowStep top M p x Y RS RW NS NW) (ha : Y.length = a + j) (h1 : ¬ (a : Int) < (Y.length : Int)) :
    (mix top NS j).set (a : Int).toNat (if p + M + RW.getD a 0 < top then p + M + RW.getD a 0 else top) = mix top NS (j + 1) := by
  have := hst.lNS
  rw [Int.toNat_natCast, pm_min]
  exact mix_set (by omega) (hst.sTop a (by omega)).symm
theorem e_w {u : Int} (h : a + j + 1 = NW.length) (hl : a + 1 < NW.length) (hv : NW.getD a 0 = min u (NW.getD (a + 1) 0)) :
    ((mix top NW j).set (a : Int).toNat u).set (a : Int).toNat
      (if ((mix top NW j).set (a : Int).toNat u).getD ((a : Int) + 1).toNat 0 < ((mix top NW j).set (a : Int).toNat u).getD a 0 then ((mix top NW j).set (a : Int).toNat u).getD ((a : Int) + 1).toNat 0
        else ((mix top NW j).set (a : Int).toNat u).getD a 0) = mix top NW (j + 1) := by
  rw [Int.toNat_natCast, nat_one, pm_min]
  have hm : (mix top NW j).length = NW.length := mix_len
  have e1 : ((mix top NW j).set a u).getD (a + 1) 0 = NW.getD (a + 1) 0 := by
    have : ((mix top NW j).set a u).getD (a + 1) 0 = (mix top NW j).getD (a + 1) 0 := by
      simp only [List.getD]
      rw [List.getElem?_set_ne (by omega)]
    rw [this, mix_get (by omega) hl]
  have e2 : ((mix top NW j).set a u).getD a 0 = u := by
    have h3 : a < (mix top NW j).length := by omega
    simp [List.getD, h3]
  rw [e1, e2]
  exact mix_set2 h hv.symm
theorem e_wEq (hst : RowStep top M p x Y RS RW NS NW) (ha : Y.length = a + j) (h1 : (a : Int) < (Y.length : Int)) (h2 : (txt [x] == txt [Y.getD a 0]) = true) :
    NW.getD a 0 = min (if p + RW.getD a 0 < RS.getD ((a : Int) + 1).toNat 0 then p + RW.getD a 0 else RS.getD ((a : Int) + 1).toNat 0) (NW.getD (a + 1) 0) := by
  rw [nat_one, pm_min]
  exact hst.wEq a (by omega) (sign_eq h2)
theorem e_wNe (hst : RowStep top M p x Y RS RW NS NW) (ha : Y.length = a + j) (h1 : (a : Int) < (Y.length : Int)) (h2 : (txt [x] == txt [Y.getD a 0]) = false) :
    NW.getD a 0 = min (if p + RW.getD a 0 < top then p + RW.getD a 0 else top) (NW.getD (a + 1) 0) := by
  rw [pm_min]
  exact hst.wNe a (by omega) (sign_ne h2)
theorem e_wTop (hst : RowStep top M p x Y RS RW NS NW) (ha : Y.length = a + j) (h1 : ¬ (a : Int) < (Y.length : Int)) :
    (mix top NW j).set (a : Int).toNat (if p + RW.getD a 0 < top then p + RW.getD a 0 else top) = mix top NW (j + 1) := by
  have := hst.lNW
  rw [Int.toNat_natCast, pm_min]
  exact mix_set (by omega) (hst.wTop a (by omega)).symm
end
end Mine
end
section
open PySem PySem.W PyProof.Rows
set_option Elab.async false
set_option maxRecDepth 100000
set_option maxHeartbeats 8000000
set_option pp.deepTerms false
set_option pp.deepTerms.threshold 7
namespace Mine
local macro_rules | `(tactic| walk_at "exec For Name Call cons nil") => `(tactic| (k_here; (rename Fr _ _ _ _ => lF'); (with_unfolding_all refine' For_invVF lF' ?k1 ?k2 ?_; (case k1 => exact rfl); (case k2 => exact rfl); k_whole)))
local macro_rules | `(tactic| walk_at "pyIter ref") => `(tactic| (k_here; refine Stop.out 2 ?_))
local macro_rules | `(tactic| walk_at "TurnPost") => `(tactic| (dsimp only [TurnPost]))
local macro_rules | `(tactic| walk_at "TurnEnd") => `(tactic| (k_here; refine Stop.out 4 ?_))
local macro_rules | `(tactic| walk_at "call builtin:len") => `(tactic| (k_here; (with_reducible show wpAny _ _ (call (Value.builtin "len") [Value.str (txt _) _]) _ _ _); k_dflt (refine len_txt (by omega) ?_); intro t' k'))
local macro_rules | `(tactic| walk_at "subscriptTail Name Name str int") => `(tactic| (k_here; k_dflt (refine' sign_item ?i ?b ?_ ?d ?e; (case i => omega); (case b => omega); (case d => with_unfolding_all rfl); (case e => (intro _; with_unfolding_all rfl)); k_whole); intro t' k'))
local macro_rules | `(tactic| walk_at "subscriptTail Name Name ref int") => `(tactic| (k_here; k_dflt (refine' int_item ?N ?m ?i ?l ?b ?_ ?d ?e; (case N => k_asm); (case m => k_mem); (case i => with_reducible assumption); (case l => omega); (case b => omega); (case d => with_unfolding_all rfl); (case e => (intro _; with_unfolding_all rfl)); k_whole); intro t'))
theorem dp_claim (w : World) (mean : ExcName → Option Value) (mg mb : Str → Option Value) (aP : Addr) (pv : List Value) (P : List Int) (c : Nat) (X : List Nat) (tX : Tok) (M : Int) (tM : Tok) (Y : List Nat) (tY : Tok) :
  CbClaim Challenge.rw_rl0001_01.row.prog w (Mine.hd.heap_39 w.params) Mine.hd.view_39 (looseW Mine.hd.view_39 []) mean mg mb 28 [(aP, listOf pv.toArray c)] []
    (IntsAre pv P ∧ X.length = P.length ∧ X.length ≤ 6 ∧ Y.length ≤ 13 ∧ (∀ k ∈ P, 1 ≤ k ∧ k ≤ 4) ∧ 0 ≤ M ∧ M < 4)
    [.str (txt X) tX, .ref aP, .int M tM, .str (txt Y) tY] (fun t => .int ((dp (topOf P M) M X P).1 Y) t) := by
  w_top off
  w_strict (k_fill
            dsimp only [CbClaim, CbLists, CbRet]; intros; rename_i hret
            rename _ ∧ _ => hpre
            obtain ⟨hpv, hXP, hX6, hY, hP, hM0, hM4⟩ := hpre
            refine wpAny_call ?_
            k_dflt cell_enter
            k_steps
            rename_i aS sv _ hIS _ _ _ _ _ _ _ _ aW _ hIW _ _ _ _ _ hlt _ _ _ _ _ _ _ _ _ _ hR F9 N9 _
            unfold Stop
            generalize hT : P.sum + M * (X.length : Int) + 1 = top at hIS hIW F9 N9
            rw [flat_rep (n := Y.length) rfl] at hIS
            rw [flat_rep (k := (Y.length : Int) + 1) (n := Y.length + 1) (by omega)] at hIW
            rw [← rowS_end (M := M) (X := X) (P := P) hXP] at hIS
            rw [← rowW_end (top := top) (M := M) (X := X) (P := P) hXP] at hIW
            (with_unfolding_all refine' iter_rngM (n := X.length) ?J1 ?hh1 ?hr1 ?hsm1 ?hn1 ?F1 ?N1 ?hj1 ?turn1 ?done1)
            case J1 => exact DpJ top M X P Y aP (listOf pv.toArray c)
            case hh1 => exact rfl
            case hr1 => exact hR
            case hsm1 => exact small_down (by omega) (by omega) (by omega) (by omega)
            case hn1 => rw [rangeSize_downNat]; omega
            case F1 => exact F9
            case N1 => exact (cb_drop (news := [(aS, listOf sv.toArray 0), (aW, listOf _ 0), (aP, listOf pv.toArray c)]) N9 (by kcj_all))
            case hj1 => exact DpJ.intro rfl rfl (fun z h1 h2 h3 h4 h5 h6 h7 => rfl) rfl hIS hIW rfl rfl
            case turn1 =>
              clear hIS hIW hR F9 N9
              rintro i t m1 nx I oI h2 tk2 hi ⟨aS', aW', sv', wv', cs, cw, u1, u2, u3, u4, u5, rfl, rfl, hS, hW⟩ hlow F1 N1
              obtain ⟨k, hk⟩ : ∃ k, X.length = i + k + 1 := ⟨X.length - i - 1, by omega⟩
              rw [show X.length - i = k + 1 by omega] at hS hW
              rw [show ((X.length : Int) - 1) + (i : Int) * (-1) = (k : Int) by omega] at F1
              have hst := row_step (top := top) (M := M) (Y := Y) (show k < X.length by omega) (show k < P.length by omega)
              generalize hNS : rowS top M X P Y k = NS at hst
              generalize hNW : rowW top M X P Y k = NW at hst
              generalize rowS top M X P Y (k + 1) = RS at hS hst
              generalize rowW top M X P Y (k + 1) = RW at hW hst
              have hlS := hst.lS
              have hlW := hst.lW
              have hlNS := hst.lNS
              have hlNW := hst.lNW
              simp only [AllLt, and_true] at hlow
              try k_fold
              k_steps
              rename_i aSn _ _ _ hIS2 _ _ _ _ _ hlt2 _ _ _ _ _ _ _ aWn _ hIW2 _ _ _ _ _ hlt3 _ _ _ _ _ _ _ _ _ _ hR2 F11 N11 _
              unfold Stop
              rw [flat_rep (k := (Y.length : Int) + 1) (n := NS.length) (by omega), ← mix_zero] at hIS2
              rw [flat_rep (k := (Y.length : Int) + 1) (n := NW.length) (by omega), ← mix_zero] at hIW2
              (with_unfolding_all refine' iter_rngM (n := Y.length + 1) ?J2 ?hh2 ?hr2 ?hsm2 ?hn2 ?F2 ?N2 ?hj2 ?turn2 ?done2)
              case J2 => exact RowJ top NS NW aSn aWn [(I, oI), (aS', listOf sv'.toArray cs), (aW', listOf wv'.toArray cw), (aP, listOf pv.toArray c)]
              case hh2 => exact rfl
              case hr2 => exact hR2
              case hsm2 => exact small_down (by omega) (by omega) (by omega) (by omega)
              case hn2 => rw [rangeSize_downNat]; omega
              case F2 => exact F11
              case N2 => exact (cb_drop (news := [(aWn, listOf _ 0), (aSn, listOf _ 0), (I, oI), (aS', listOf sv'.toArray cs), (aW', listOf wv'.toArray cw), (aP, listOf pv.toArray c)]) N11 (by kcj_all))
              case hj2 => exact RowJ.intro (fun z h1 h2 => rfl) rfl hIS2 hIW2 rfl rfl
              case turn2 =>
                clear hIS2 hIW2 hR2 F11 N11
                rintro j t m1 nx I2 oI2 h3 tk3 hj ⟨sv2, wv2, cs2, cw2, v1, v2, rfl, rfl, hS2, hW2⟩ hlow2 F3 N3
                obtain ⟨a, ha⟩ : ∃ a, Y.length = a + j := ⟨Y.length - j, by omega⟩
                rw [show (Y.length : Int) + (j : Int) * (-1) = (a : Int) by omega] at F3
                have hmS : (mix top NS j).length = Y.length + 1 := by rw [mix_len, hlNS]
                have hmW : (mix top NW j).length = Y.length + 1 := by rw [mix_len, hlNW]
                simp only [AllLt, and_true] at hlow2
                try k_fold
                k_steps
                all_goals (unfold Stop; rename Fr _ _ _ _ => Fe; rename News _ _ _ _ => Ne)
                · exact TurnEnd.intro Fe Ne same_led (by k_all) (RowJ.intro (fun z h1 h2 => by simp only [if_neg h1, if_neg h2]) rfl (by with_reducible assumption) (by with_reducible assumption) (e_sEq hst ha (by assumption) (by assumption)) (e_w (by omega) (by omega) (e_wEq hst ha (by assumption) (by assumption))))
                · exact TurnEnd.intro Fe Ne same_led (by k_all) (RowJ.intro (fun z h1 h2 => by simp only [if_neg h1, if_neg h2]) rfl (by with_reducible assumption) (by with_reducible assumption) (e_sNe hst ha (by assumption) (by assumption)) (e_w (by omega) (by omega) (e_wNe hst ha (by assumption) (by assumption))))
                · exact TurnEnd.intro Fe Ne same_led (by k_all) (RowJ.intro (fun z h1 h2 => by simp only [if_neg h1, if_neg h2]) rfl (by with_reducible assumption) (by with_reducible assumption) (e_sTop hst ha (by assumption)) (e_wTop hst ha (by assumption)))
              case done2 =>
                clear hIS2 hIW2 hR2 F11 N11
                rintro m1 nx h3 tk3 ⟨sv2, wv2, cs2, cw2, v1, v2, rfl, rfl, hS2, hW2⟩ F3 N3
                rw [← hlNS, mix_all] at hS2
                rw [← hlNW, mix_all] at hW2
                dsimp only
                try k_fold
                k_steps
                unfold Stop; rename Fr _ _ _ _ => Fe; rename News _ _ _ _ => Ne
                exact TurnEnd.intro (news' := [(aSn, listOf sv2.toArray cs2), (aWn, listOf wv2.toArray cw2), (aP, listOf pv.toArray c)]) Fe Ne (by kcj_all) (by k_all) (DpJ.intro rfl rfl (fun z h1 h2 h3 h4 h5 h6 h7 => by simp only [if_neg h1, if_neg h2, if_neg h3, if_neg h4, if_neg h5, if_neg h6, if_neg h7]) rfl hS2 hW2 (by rw [← hNS]; congr 1; omega) (by rw [← hNW]; congr 1; omega))
            case done1 =>
              clear hIS hIW hR F9 N9
              rintro m1 nx h2 tk2 ⟨aS', aW', sv', wv', cs, cw, u1, u2, u3, u4, u5, rfl, rfl, hS, hW⟩ F1 N1
              have hlS := rowS_len (top := top) (M := M) (X := X) (P := P) (Y := Y) (k := X.length - X.length)
              dsimp only
              try k_fold
              k_steps
              refine cb_retI hret ?_ (by k_asm) (by first | k_asm | exact news_t2 (by k_asm))
              rw [Nat.sub_self, show Int.toNat 0 = 0 from rfl, rowS_get (Nat.zero_le _), ← hT, hXP, topOf_eq]
              rfl)
end Mine
end
section
open PySem PySem.W PyProof.Rows
set_option Elab.async false
set_option maxRecDepth 100000
namespace Mine
theorem prices_sum : ∀ {P : List Int}, (∀ k ∈ P, 1 ≤ k ∧ k ≤ 4) → 0 ≤ P.sum
  | [], _ => Int.le_refl _
  | p :: r, hP => by
    have := prices_sum (P := r) (fun k hk => hP k (List.mem_cons_of_mem _ hk))
    have h1 := (hP p List.mem_cons_self).1
    rw [List.sum_cons]
    omega
theorem dp_pat {w : World} {mean : ExcName → Option Value} {mg mb : Str → Option Value} {aP : Addr} {pv : List Value} {P : List Int} {c : Nat} {X : List Nat} {tX : Tok} {M : Int} {tM : Tok} {Y : List Nat} {tY : Tok} {dp un : Nat} {gd : Option (List Code)} {cn : Str} {cs : Scope} {a : Addr} {ccd : Value} {cl : List (Str × Addr)} {outer : List Env}
    {A₀ : Around} {base h₀ : Heap} {L : Addr} {m : Str → Option Value} {s : Shared} {Q E : Value → Shared → Prop}
    (B : Below A₀ base outer h₀) (F : Fr h₀ L s.heap m) (Xi : (hd.heap_39 w.params).In h₀) (N : News h₀ L s.heap [(aP, listOf pv.toArray c)]) (T : Top hd.view_39 (looseW hd.view_39 []) mean mg mb h₀) (hk : cs.kind = .function)
    (hpv : IntsAre pv P) (hXP : X.length = P.length) (hX6 : X.length ≤ 6) (hY : Y.length ≤ 13) (hP : ∀ k ∈ P, 1 ≤ k ∧ k ≤ 4) (hM0 : 0 ≤ M) (hM4 : M < 4) (hd : dp + 1 < recursionLimit) (hu : un + 8 < cLine)
    (ret : ∀ t h' tk', Fr h₀ L h' m → Q (.int (lst X P M Y (2 ^ X.length)) t) { s with heap := h', toks := tk' }) :
    wpAny (model Challenge.rw_rl0001_01.row.prog w) (ktrTop dp un gd cn cs L a ccd cl outer) (call (.ref 28) [.str (txt X) tX, .ref aP, .int M tM, .str (txt Y) tY]) Q E s := by
  have h := dp_claim w mean mg mb aP pv P c X tX M tM Y tY
  dsimp only [CbClaim, CbLists, CbRet] at h
  refine h dp un gd cn cs a ccd cl outer A₀ base h₀ L m s Q E B F Xi N T hk ⟨hpv, hXP, hX6, hY, hP, hM0, hM4⟩ hd hu ?_
  intro t h' tk' F' N'
  have hp0 : 0 ≤ P.sum := prices_sum hP
  have ht : 0 ≤ topOf P M := by
    rw [← topOf_eq]
    have := Int.mul_nonneg hM0 (Int.natCast_nonneg P.length)
    omega
  rw [← lst_dp hXP hM0 (fun p hp => by have := (hP p hp).1; omega) ht]
  exact ret t h' tk' F'
end Mine
end
section
open PySem PySem.W PyProof.Rows
set_option Elab.async false
set_option maxRecDepth 100000
namespace Mine
theorem em_pat {w : World} {mean : ExcName → Option Value} {mg mb : Str → Option Value} {news : List (Addr × Obj)} {p : Pat} {t : Tok} {Y : List Nat} {u : Tok} {dp un : Nat} {gd : Option (List Code)} {cn : Str} {cs : Scope} {a : Addr} {ccd : Value} {cl : List (Str × Addr)} {outer : List Env}
    {A₀ : Around} {base h₀ : Heap} {L : Addr} {m : Str → Option Value} {s : Shared} {Q E : Value → Shared → Prop}
    (B : Below A₀ base outer h₀) (F : Fr h₀ L s.heap m) (X : (hd.heap_39 w.params).In h₀) (N : News h₀ L s.heap news) (T : Top hd.view_39 (looseW hd.view_39 []) mean mg mb h₀) (hk : cs.kind = .function)
    (hc : clean p) (hx : (render p).length ≤ 1000) (hy : Y.length ≤ 1000) (hd : dp + 1 < recursionLimit) (hu : un + 8 < cLine)
    (ret : ∀ h' tk', Fr h₀ L h' m → News h₀ L h' news → Q (.bool (pm p Y)) { s with heap := h', toks := tk' }) :
    wpAny (model Challenge.rw_rl0001_01.row.prog w) (ktrTop dp un gd cn cs L a ccd cl outer) (call (.ref 21) [.str (txt (render p)) t, .str (txt Y) u]) Q E s := by
  have h := em_claim w mean mg mb news (txt (render p)) t (txt Y) u
  dsimp only [CbClaim, CbLists, CbRet] at h
  refine h dp un gd cn cs a ccd cl outer A₀ base h₀ L m s Q E B F X N T hk ⟨by rw [txt_len]; exact hx, by rw [txt_len]; exact hy⟩ hd hu ?_
  intro _ h' tk' F' N'
  rw [em_render p hc]
  exact ret h' tk' F' N'
end Mine
end
section
open PySem PySem.W PyProof.Rows
set_option Elab.async false
set_option maxRecDepth 100000
set_option maxHeartbeats 8000000
namespace Mine
local macro_rules | `(tactic| walk_at "exec For Name Name cons nil") => `(tactic| (k_here; (rename Fr _ _ _ _ => lF'); (with_unfolding_all refine' For_invVF lF' ?k1 ?k2 ?_; (case k1 => exact rfl); (case k2 => exact rfl); k_whole)))
local macro_rules | `(tactic| walk_at "exec For Name Call cons nil") => `(tactic| (k_here; (rename Fr _ _ _ _ => lF'); (with_unfolding_all refine' For_invVF lF' ?k1 ?k2 ?_; (case k1 => exact rfl); (case k2 => exact rfl); k_whole)))
local macro_rules | `(tactic| walk_at "exec For Name Subscript cons nil") => `(tactic| (k_here; (rename Fr _ _ _ _ => lF'); (with_unfolding_all refine' For_invVF lF' ?k1 ?k2 ?_; (case k1 => exact rfl); (case k2 => exact rfl); k_whole)))
local macro_rules | `(tactic| walk_at "pyIter ref") => `(tactic| (k_here; refine Stop.out 2 ?_))
local macro_rules | `(tactic| walk_at "exec Assign cons IfExp") => `(tactic| (k_here; (fail_if_success (rename Passed 1 => hP)); refine Stop.out 1 ?_))
local macro_rules | `(tactic| walk_at "TurnPost") => `(tactic| (dsimp only [TurnPost]))
local macro_rules | `(tactic| walk_at "TurnEnd") => `(tactic| (k_here; refine Stop.out 4 ?_))
local macro_rules | `(tactic| walk_at "StoredAs") => `(tactic| (k_here; refine Stop.out 3 ?_))
local macro_rules | `(tactic| walk_at "inplaceOp Add str str") => `(tactic| (k_here; k_dflt (refine' iadd_txt ?a ?b ?c ?_; (case a => first | with_reducible exact empty_txt | with_reducible exact rfl); (case b => first | with_reducible exact dots_txt | with_reducible exact item3 _ | with_reducible exact item4 _ | with_reducible exact rfl); (case c => (simp only [List.length_map, List.length_take, List.length_append, List.length_cons, List.length_nil]; omega)); k_whole); intro t' k'))
local macro_rules | `(tactic| walk_at "call builtin:list.append") => `(tactic| (k_here; (with_reducible show wpAny _ _ (call (Value.builtin _) [Value.ref _, _]) _ _ _); k_dflt (refine' append_K ?k1 ?k2 ?k3 ?_ ?z; (case k1 => k_asm); (case k2 => k_asm); (case k3 => k_upd); (case z => (simp only [List.size_toArray, List.length_map, List.length_range, PySem.sizeLine_eq]; omega)); k_whole); intro h' F' N'; (try simp only [List.push_toArray] at N'); (try k_sweep)))
local macro_rules | `(tactic| walk_at "subscriptTail Name Slice ref ref") => `(tactic| (k_here; (with_reducible show wpAny _ _ (subscriptTail _ (PySem.Expr.Slice _ _ none _) (Value.ref _) (Value.ref _)) _ _ _); k_dflt (refine' kmk_slice_ints ?F ?N ?l ?p ?q ?i ?m ?c ?_ ?s ?t ?z; (case F => k_asm); (case N => k_asm); (case l => exact News.isList (by k_asm) (by k_mem)); (case p => kmk_part); (case q => kmk_part); (case i => with_reducible assumption); (case m => first | exact kmk_from (by with_reducible assumption) (by omega) | exact kmk_run (by with_reducible assumption) (by omega) (by omega)); (case c => exact rfl); (case s => with_unfolding_all rfl); (case t => kmk_pure); (case z => exact kmk_sz (by with_reducible assumption) (by rw [PySem.sizeLine_eq]; omega))); intro D' ws' h' F' N' l1 hI' hC' hL'; (try simp only [Int.reduceToNat] at hI'); (try k_lt l1); (try k_sweep)))
local macro_rules | `(tactic| walk_at "call builtin:len") => `(tactic| (k_here; (with_reducible show wpAny _ _ (call (Value.builtin "len") [Value.str (txt _) _]) _ _ _); k_dflt (refine len_txt (by omega) ?_); intro t' k'))
local macro_rules | `(tactic| walk_at "binaryOp LShift int int") => `(tactic| (k_here; k_dflt (refine shl_one (by omega) ?_); intro t' k'))
local macro_rules | `(tactic| walk_at "binaryOp RShift int int") => `(tactic| (k_here; k_dflt (refine shr_nat ?_); intro t' k'))
local macro_rules | `(tactic| walk_at "binaryOp BitAnd int int") => `(tactic| (k_here; k_dflt (refine and_one ?_); intro t' k'))
local macro_rules | `(tactic| walk_at "binaryOp BitOr int int") => `(tactic| (k_here; k_dflt (refine or_nat ?_); intro t' k'))
local macro_rules | `(tactic| walk_at "subscriptTail Name Name str int") => `(tactic| (k_here; k_dflt (refine' sign_item ?i ?b ?_ ?d ?e; (case i => omega); (case b => omega); (case d => with_unfolding_all rfl); (case e => (intro _; with_unfolding_all rfl)); k_whole); intro t' k'))
local macro_rules | `(tactic| walk_at "subscriptTail Name Name ref int") => `(tactic| (k_here; k_dflt (refine' any_item ?N ?m ?v ?b ?_ ?d ?e; (case N => k_asm); (case m => k_mem); (case v => exact bools_at (by assumption)); (case b => omega); (case d => with_unfolding_all rfl); (case e => (intro _; with_unfolding_all rfl)); k_whole)))
local macro_rules | `(tactic| walk_at "subscriptTail Name Name ref int") => `(tactic| (k_here; k_dflt (refine' int_item ?N ?m ?i ?l ?b ?_ ?d ?e; (case N => k_asm); (case m => k_mem); (case i => with_reducible assumption); (case l => omega); (case b => omega); (case d => with_unfolding_all rfl); (case e => (intro _; with_unfolding_all rfl)); k_whole); intro t'))
local macro_rules | `(tactic| walk_at "subscriptTail Name BinOp ref int") => `(tactic| (k_here; k_dflt (refine' any_item ?N ?m ?v ?b ?_ ?d ?e; (case N => k_asm); (case m => k_mem); (case v => exact fits_true (by assumption) (by assumption) (by assumption) (by assumption)); (case b => exact or_small (n := _) (by assumption) (by assumption) (by assumption)); (case d => with_unfolding_all rfl); (case e => (intro _; with_unfolding_all rfl)); k_whole)))
local macro_rules | `(tactic| walk_at "call type:range") => `(tactic| (k_here; (with_reducible show wpAny _ _ (call _ [_]) _ _ _); (rename Fr _ _ _ _ => F'); (rename News _ _ _ _ => N'); (with_unfolding_all refine range1_rows F' N' ?_); intro _ _ _ _ _ _ _ _ _))
local macro_rules | `(tactic| walk_at "call ref") => `(tactic| (k_here; refine Stop.out 5 ?_))
local macro_rules | `(tactic| walk_at "call builtin:len") => `(tactic| (k_here; (with_reducible show wpAny _ _ (call (Value.builtin "len") [Value.ref _]) _ _ _); (refine' len_made ?N ?m ?e ?f ?_; (case N => k_asm); (case m => k_mem); (case e => (simp only [List.length_map, List.length_range]; rfl)); (case f => omega); k_whole)))
theorem law_holds : PySem.Challenge.rw_rl0001_01.Holds := by
  w_top off
  refine Mine.hd ?_
  w_strict (k_go0; (all_goals try k_fold)
            rename List Int => ns
            rename World => w
            k_steps
            rename_i aS wsS _ hS hSl _ _ _ F1 N1
            unfold Stop
            refine cut_store (Str.ofString "head") (fun t => .int ((ns.take 13).headD 0) t) F1 N1 ?_ ?_
            · have hP := passed 1
              try k_fold
              k_steps
              all_goals (unfold Stop; exact StoredAs.intro (by assumption) (by assumption) same_led rfl (by first | exact getD_headD | exact none_headD (by assumption)))
            intro h1 tk1 t1 F2 N2
            have hm0 := Int.fmod_nonneg_of_pos ((List.take 13 ns).headD 0) (b := 7) (by decide)
            have hm7 := Int.fmod_lt_of_pos ((List.take 13 ns).headD 0) (b := 7) (by decide)
            clear F1 N1
            try dsimp only
            k_steps
            rename_i aP _ hlt1 _ aW wsW _ F3 N3 hW hWl _ hlt3
            unfold Stop
            clear hWl
            have hW6 : (List.take (min (1 + ((List.take 13 ns).headD 0).fmod 7).toNat (List.take 13 ns).length - 1) (List.drop 1 (List.take 13 ns))).length ≤ 6 := by rw [List.length_take]; omega
            generalize List.take (min (1 + ((List.take 13 ns).headD 0).fmod 7).toNat (List.take 13 ns).length - 1) (List.drop 1 (List.take 13 ns)) = Wn at hW hW6
            (with_unfolding_all refine' iter_madeM ?J ?hh ?F ?N ?hl ?hj ?turn ?done)
            case J => exact fun m₀ i m nx => ∃ t u pv c, m = (fun z => if z = Str.ofString "wanted" then some (.str (txt ((Wn.take i).map sg3)) t) else if z = Str.ofString "number" then u else m₀ z) ∧ nx = [(aW, listOf wsW.toArray 0), (aP, listOf pv.toArray c), (aS, listOf wsS.toArray 0)] ∧ IntsAre pv ((Wn.take i).map pr1)
            case hh => exact rfl
            case F => exact F3
            case N => exact N3
            case hl => rintro i m nx ⟨t, u, pv, c, _, rfl, _⟩; exact .head _
            case hj => exact ⟨_, _, [], 0, map_ext2 (a := Str.ofString "wanted") (b := Str.ofString "number") rfl rfl (fun z h1 h2 => by simp only [if_neg h1, if_neg h2]), rfl, .nil⟩
            case turn =>
              clear F3 N3
              rintro i v m1 nx I oI h2 tk2 hv ⟨t, u, pv, c, rfl, rfl, hpv⟩ hlow F4 N4
              simp only [AllLt, and_true] at hlow
              obtain ⟨n, tn, rfl, hn⟩ := hW.at i v hv
              have hi : i < Wn.length := (List.getElem?_eq_some_iff.mp hn).1
              have hpl : pv.length ≤ 6 := by rw [hpv.length]; simp; omega
              have hwl : ((Wn.take i).map sg3).length ≤ 6 := by simp; omega
              try k_fold
              k_steps
              unfold Stop
              refine TurnEnd.intro (by assumption) (by assumption) same_led (by k_all) ⟨_, _, _, _, map_ext2 (a := Str.ofString "wanted") (b := Str.ofString "number") (str_val (congrArg txt (take_map sg3 hn).symm)) rfl (fun z h1 h2 => by simp only [if_neg h1, if_neg h2]), rfl, ints_snoc hpv (take_map pr1 hn)⟩
            case done =>
              clear F3 N3
              rintro m1 nx h2 tk2 ⟨t, u, pv, c, rfl, rfl, hpv⟩ F4 N4
              have hwl : wsW.length = Wn.length := hW.length
              rw [hwl, List.take_length] at F4 hpv
              clear hwl
              try dsimp only
              try k_fold
              k_steps
              rename_i aV wsV _ F5 N5 hV _ hVl hlt5
              unfold Stop
              generalize List.drop (1 + ((List.take 13 ns).headD 0).fmod 7).toNat (List.take 13 ns) = Vn at hV hVl
              have hV13 : Vn.length ≤ 13 := by omega
              clear hVl
              (with_unfolding_all refine' iter_madeM ?J ?hh ?F ?N ?hl ?hj ?turn ?done)
              case J => exact fun m₀ i m nx => ∃ t u, m = (fun z => if z = Str.ofString "seen" then some (.str (txt ((Vn.take i).map sg4)) t) else if z = Str.ofString "number" then u else m₀ z) ∧ nx = [(aV, listOf wsV.toArray 0), (aW, listOf wsW.toArray 0), (aP, listOf pv.toArray c), (aS, listOf wsS.toArray 0)]
              case hh => exact rfl
              case F => exact F5
              case N => exact N5
              case hl => rintro i m nx ⟨t, u, _, rfl⟩; exact .head _
              case hj => exact ⟨_, _, map_ext2 (a := Str.ofString "seen") (b := Str.ofString "number") rfl rfl (fun z h1 h2 => by simp only [if_neg h1, if_neg h2]), rfl⟩
              case turn =>
                clear F5 N5
                rintro i v m1 nx I oI h2 tk2 hv ⟨t, u, rfl, rfl⟩ hlow F4 N4
                simp only [AllLt, and_true] at hlow
                obtain ⟨n, tn, rfl, hn⟩ := hV.at i v hv
                have hi : i < Vn.length := (List.getElem?_eq_some_iff.mp hn).1
                try k_fold
                k_steps
                unfold Stop
                refine TurnEnd.intro (by assumption) (by assumption) same_led (by k_all) ⟨_, _, map_ext2 (a := Str.ofString "seen") (b := Str.ofString "number") (str_val (congrArg txt (take_map sg4 hn).symm)) rfl (fun z h1 h2 => by simp only [if_neg h1, if_neg h2]), rfl⟩
              case done =>
                clear F5 N5
                rintro m1 nx h2 tk2 ⟨t, u, rfl, rfl⟩ F6 N6
                have hwl : wsV.length = Vn.length := hV.length
                rw [hwl, List.take_length] at F6
                clear hwl
                have hM0 := Int.fmod_nonneg_of_pos (((List.take 13 ns).headD 0).fdiv 7) (b := 4) (by decide)
                have hM4 := Int.fmod_lt_of_pos (((List.take 13 ns).headD 0).fdiv 7) (b := 4) (by decide)
                obtain ⟨mm, F7⟩ := fr_four (Str.ofString "seen") (Str.ofString "wanted") (Str.ofString "prices") (Str.ofString "mark") F6 rfl rfl rfl rfl
                clear F6
                dsimp only at F7
                have N7 : News _ _ _ [(aP, listOf pv.toArray c)] := fun p hp => N6 p (by rw [List.mem_singleton.mp hp]; exact .tail _ (.tail _ (.head _)))
                have hXP : (Wn.map sg3).length = (Wn.map pr1).length := by simp
                have hX6 : (Wn.map sg3).length ≤ 6 := by simpa using hW6
                have hXc : ∀ k ∈ Wn.map sg3, k ≠ 46 := by
                  intro k hk
                  obtain ⟨n, _, rfl⟩ := List.mem_map.mp hk
                  exact sg3_ne n
                have hP : ∀ k ∈ Wn.map pr1, 1 ≤ k ∧ k ≤ 4 := by
                  intro k hk
                  obtain ⟨n, _, rfl⟩ := List.mem_map.mp hk
                  exact pr1_bd n
                have hY : (Vn.map sg4).length ≤ 13 := by simpa using hV13
                clear N6 hS hW hV hlt1 hlt3 hlt5 hW6 hV13
                generalize (((List.take 13 ns).headD 0).fdiv 7).fmod 4 = M at F7 hM0 hM4
                generalize Wn.map sg3 = X at F7 hXP hX6 hXc
                generalize Wn.map pr1 = P at hpv hXP hP
                generalize Vn.map sg4 = Y at F7 hY
                try dsimp only
                try k_fold
                k_steps
                rename_i aF _ hltF _ _ _ _ _ _ _ _ _ _ _ _ hR F8 N8 _
                unfold Stop
                (with_unfolding_all refine' iter_rngM ?J ?hh ?hr ?hsm ?hn ?F ?N ?hj ?turn ?done)
                case J => exact MaskJ X P M Y aF aP (listOf pv.toArray c)
                case hh => exact rfl
                case hr => exact hR
                case hsm =>
                  have hp0 : (0 : Int) ≤ ((2 ^ X.length : Nat) : Int) := Int.natCast_nonneg _
                  have hp1 : ((2 ^ X.length : Nat) : Int) ≤ 64 := Int.ofNat_le.mpr (Nat.pow_le_pow_right (n := 2) (by decide) hX6)
                  exact small_one (by omega) (by omega) (by omega) (by omega)
                case hn => exact rangeSize_nat _ _
                case F => exact F8
                case N => exact N8
                case hj => exact MaskJ.intro rfl ((topOf_eq _ _).trans (lst_zero _ _ _ _).symm) (fun z h1 h2 h3 h4 h5 h6 h7 => rfl) (its := []) rfl rfl
                case turn =>
                  clear hR F8 N8
                  rintro i t m1 nx I oI h2 tk2 hi ⟨tl, uf, uc, ud, up, ut, um, cnt, rfl, rfl⟩ hlow F9 N9
                  rw [show (0 : Int) + (i : Int) * 1 = (i : Int) by omega] at F9
                  have hi64 : i < 64 := by
                    have hp1 : 2 ^ X.length ≤ 64 := Nat.pow_le_pow_right (n := 2) (by decide) hX6
                    omega
                  simp only [AllLt, and_true] at hlow
                  try k_fold
                  k_steps
                  rename_i hR2 F10 N10 _
                  unfold Stop
                  (with_unfolding_all refine' iter_rngM ?J2 ?hh2 ?hr2 ?hsm2 ?hn2 ?F2 ?N2 ?hj2 ?turn2 ?done2)
                  case J2 => exact InnerJ X P M i [(I, oI), (aF, listOf ((List.range i).map fun k => Value.bool (fitOf X P M Y k)).toArray cnt), (aP, listOf pv.toArray c)]
                  case hh2 => exact rfl
                  case hr2 => exact hR2
                  case hsm2 => exact small_one (by omega) (by omega) (by omega) (by omega)
                  case hn2 => exact rangeSize_nat _ _
                  case F2 => exact F10
                  case N2 => exact N10
                  case hj2 => exact InnerJ.intro (stp_zero _ _ _ _) rfl empty_txt rfl rfl rfl rfl (fun z h1 h2 h3 h4 => by simp only [if_neg h1, if_neg h2, if_neg h3, if_neg h4]) rfl
                  case turn2 =>
                    clear hR2 F10 N10
                    rintro j t m1 nx I2 oI2 h3 tk3 hj ⟨tf, tc, up2, rfl, rfl⟩ hlow2 F11 N11
                    rw [show (0 : Int) + (j : Int) * 1 = (j : Int) by omega] at F11
                    simp only [AllLt, and_true] at hlow2
                    have hjX : j < X.length := by omega
                    have hjP : j < P.length := by omega
                    have hfl := stp_len (X := X) (P := P) (M := M) (k := i) j
                    try k_fold
                    k_steps
                    all_goals (unfold Stop; rename Fr _ _ _ _ => Fe; rename News _ _ _ _ => Ne)
                    · exact TurnEnd.intro Fe Ne same_led (by k_all) (InnerJ.intro (stp_in (by assumption) (by assumption)) rfl rfl rfl rfl rfl rfl (fun z h1 h2 h3 h4 => by simp only [if_neg h1, if_neg h2, if_neg h3, if_neg h4]) rfl)
                    · exact TurnEnd.intro Fe Ne same_led (by k_all) (InnerJ.intro (stp_new (by assumption) (by assumption)) rfl (by rw [render_append]; rfl) rfl rfl rfl rfl (fun z h1 h2 h3 h4 => by simp only [if_neg h1, if_neg h2, if_neg h3, if_neg h4]) rfl)
                    · exact TurnEnd.intro Fe Ne same_led (by k_all) (InnerJ.intro (stp_keep (by assumption)) rfl (by rw [render_append]; rfl) rfl rfl rfl rfl (fun z h1 h2 h3 h4 => by simp only [if_neg h1, if_neg h2, if_neg h3, if_neg h4]) rfl)
                  case done2 =>
                    clear hR2 F10 N10
                    rintro m1 nx h3 tk3 ⟨tf, tc, up2, rfl, rfl⟩ F11 N11
                    have hcl := stp_clean (X := X) (P := P) (M := M) (k := i) hXc X.length (Nat.le_refl _)
                    have hfl := stp_len (X := X) (P := P) (M := M) (k := i) X.length
                    simp only [Int.sub_zero, Int.toNat_natCast] at F11
                    dsimp only
                    try k_fold
                    k_steps
                    unfold Stop
                    (refine' em_pat ?qB ?qF ?qX ?qN ?qT ?qk ?qc ?qx ?qy ?qd ?qu ?qr)
                    (case qB => k_asm)
                    (case qF => k_asm)
                    (case qX => k_asm)
                    (case qN => k_asm)
                    (case qT => k_asm)
                    (case qk => exact rfl)
                    (case qc => exact hcl)
                    (case qx => omega)
                    (case qy => omega)
                    (case qd => ktr_room)
                    (case qu => ktr_units)
                    intro h4 tk4 F12 N12
                    clear F11 N11
                    generalize hb : pm (stp X P M i X.length).fst Y = b
                    cases b
                    all_goals k_steps
                    all_goals (unfold Stop; rename Fr _ _ _ _ => Fe; rename News _ _ _ _ => Ne)
                    · exact TurnEnd.intro Fe Ne same_led (by k_all) (MaskJ.intro rfl (lst_no hb) (fun z h1 h2 h3 h4 h5 h6 h7 => by simp only [if_neg h1, if_neg h2, if_neg h3, if_neg h4, if_neg h5, if_neg h6, if_neg h7]) (fits_snoc hb) rfl)
                    · exact TurnEnd.intro Fe Ne same_led (by k_all) (MaskJ.intro rfl (lst_lt hb (by assumption)) (fun z h1 h2 h3 h4 h5 h6 h7 => by simp only [if_neg h1, if_neg h2, if_neg h3, if_neg h4, if_neg h5, if_neg h6, if_neg h7]) (fits_snoc hb) rfl)
                    · exact TurnEnd.intro Fe Ne same_led (by k_all) (MaskJ.intro rfl (lst_ge (by omega)) (fun z h1 h2 h3 h4 h5 h6 h7 => by simp only [if_neg h1, if_neg h2, if_neg h3, if_neg h4, if_neg h5, if_neg h6, if_neg h7]) (fits_snoc hb) rfl)
                case done =>
                  clear hR F8 N8
                  rintro m1 nx h2 tk2 ⟨tl, uf, uc, ud, up, ut, um, cnt, rfl, rfl⟩ F9 N9
                  simp only [Int.sub_zero, Int.toNat_natCast] at F9 N9
                  have hp1 : 2 ^ X.length ≤ 64 := Nat.pow_le_pow_right (n := 2) (by decide) hX6
                  dsimp only
                  try k_fold
                  k_steps
                  rename_i hR3 F10 N10 _
                  unfold Stop
                  (with_unfolding_all refine' iter_rngM ?J3 ?hh3 ?hr3 ?hsm3 ?hn3 ?F3 ?N3 ?hj3 ?turn3 ?done3)
                  case J3 => exact TwoJ (Str.ofString "mask") (Str.ofString "place") [(aF, listOf ((List.range (2 ^ X.length)).map fun k => Value.bool (fitOf X P M Y k)).toArray cnt), (aP, listOf pv.toArray c)]
                  case hh3 => exact rfl
                  case hr3 => exact hR3
                  case hsm3 => exact small_pow hX6
                  case hn3 => exact rangeSize_nat _ _
                  case F3 => exact F10
                  case N3 => exact N10
                  case hj3 => exact TwoJ.intro rfl (fun z h1 h2 => rfl) rfl
                  case turn3 =>
                    clear hR3 F10 N10
                    rintro i t m1 nx I oI h3 tk3 hi ⟨um2, up2, rfl, rfl⟩ hlow F11 N11
                    rw [show (0 : Int) + (i : Int) * 1 = (i : Int) by omega] at F11
                    have hiX : i < 2 ^ X.length := by omega
                    have hi64 : i < 64 := pow_le_64 hX6 hiX
                    simp only [AllLt, and_true] at hlow
                    try k_fold
                    k_steps
                    · rename_i hfit _ _ _ _ _ _ _ hR4 F12 N12 _
                      unfold Stop
                      (with_unfolding_all refine' iter_rngM ?J4 ?hh4 ?hr4 ?hsm4 ?hn4 ?F4 ?N4 ?hj4 ?turn4 ?done4)
                      case J4 => exact NameJ (Str.ofString "place") [(I, oI), (aF, listOf ((List.range (2 ^ X.length)).map fun k => Value.bool (fitOf X P M Y k)).toArray cnt), (aP, listOf pv.toArray c)]
                      case hh4 => exact rfl
                      case hr4 => exact hR4
                      case hsm4 => exact small_one (by omega) (by omega) (by omega) (by omega)
                      case hn4 => exact rangeSize_nat _ _
                      case F4 => exact F12
                      case N4 => exact N12
                      case hj4 => exact NameJ.intro (fun z h1 => rfl) rfl
                      case turn4 =>
                        clear hR4 F12 N12
                        rintro j t m1 nx I2 oI2 h4 tk4 hj ⟨up3, rfl, rfl⟩ hlow2 F13 N13
                        rw [show (0 : Int) + (j : Int) * 1 = (j : Int) by omega] at F13
                        have hjX : j < X.length := by omega
                        simp only [AllLt, and_true] at hlow2
                        try k_fold
                        k_steps
                        all_goals (unfold Stop; rename Fr _ _ _ _ => Fe; rename News _ _ _ _ => Ne)
                        exact TurnEnd.intro Fe Ne same_led (by k_all) (NameJ.intro (fun z h1 => by simp only [if_neg h1]) rfl)
                      case done4 =>
                        clear hR4 F12 N12
                        rintro m1 nx h4 tk4 ⟨up3, rfl, rfl⟩ F13 N13
                        dsimp only
                        try k_fold
                        k_steps
                        unfold Stop; rename Fr _ _ _ _ => Fe; rename News _ _ _ _ => Ne
                        exact TurnEnd.intro Fe Ne same_led (by k_all) (TwoJ.intro rfl (fun z h1 h2 => by simp only [if_neg h1, if_neg h2]) rfl)
                    · unfold Stop; rename Fr _ _ _ _ => Fe; rename News _ _ _ _ => Ne
                      exact TurnEnd.intro Fe Ne same_led (by k_all) (TwoJ.intro rfl (fun z h1 h2 => by simp only [if_neg h1, if_neg h2]) rfl)
                  case done3 =>
                    clear hR3 F10 N10
                    rintro m1 nx h3 tk3 ⟨um2, up2, rfl, rfl⟩ F11 N11
                    dsimp only
                    try k_fold
                    k_steps
                    unfold Stop
                    (refine' dp_pat ?pB ?pF ?pX ?pN ?pT ?pk ?pv ?pl ?px ?py ?pp ?pm ?pn ?pd ?pu ?pr)
                    (case pB => k_asm)
                    (case pF => k_asm)
                    (case pX => k_asm)
                    (case pN => exact news_t1 N11)
                    (case pT => k_asm)
                    (case pk => exact rfl)
                    (case pv => exact hpv)
                    (case pl => exact hXP)
                    (case px => exact hX6)
                    (case py => exact hY)
                    (case pp => exact hP)
                    (case pm => exact hM0)
                    (case pn => exact hM4)
                    (case pd => ktr_room)
                    (case pu => ktr_units)
                    intro t9 h9 tk9 F9
                    clear F11 N11
                    try dsimp only
                    try k_fold
                    k_steps)
end Mine
end
open PySem PySem.W PyProof.Rows
theorem PySem.Challenge.cw_rl0001_01_holds : PySem.Challenge.rw_rl0001_01.Holds := by
  exact Mine.law_holds
