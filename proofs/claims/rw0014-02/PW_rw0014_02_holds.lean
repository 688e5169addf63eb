import PyProof.Rows.All
import Wide.All
import OpenK.AllK
import Wide.FinOn
import PySem.Challenge.RW_rw0014_02

set_option Elab.async false
set_option compiler.extract_closed false
section
open PySem PySem.W PyProof.Rows
set_option maxRecDepth 100000
set_option maxHeartbeats 8000000
open_top Mine.hd for PySem.Challenge.rw_rw0014_02
end
section
open PySem PySem.W PyProof.Rows PySem.Builtin PySem.Builtin.Str
set_option maxRecDepth 100000
set_option maxHeartbeats 4000000
namespace Mine
section
variable {prog : Program} {w : World} {A : Around} {E : Value → Shared → Prop} {s : Shared} {h₀ : Heap} {L : Addr} {m : Str → Option Value} {news news' : List (Addr × Obj)} {x y : Str} {t u : Tok}

/-- str.find with both bounds -/
def find4 (x y : Str) (i j : Int) : Int := match occurrences x y (fromIndex x.length i) (min (fromIndex x.length j) x.length) 1 with | k :: _ => (k : Int) | [] => -1
theorem gives_find4 (x y : Str) (i j : Int) (t u v v' : Tok) : Gives («str.find» ⟨[.str x t, .str y u, .int i v, .int j v'], []⟩) (.int (find4 x y i j)) := by
  show Gives (match occurrences x y (fromIndex x.length i) (min (fromIndex x.length j) x.length) 1 with | k :: _ => retInt k | [] => (do rule "str.find.not-found"; retInt (-1))) _
  unfold find4
  cases occurrences x y (fromIndex x.length i) (min (fromIndex x.length j) x.length) 1 with
  | nil => exact .rule (.of_eq rfl)
  | cons k _ => exact .of_eq rfl
theorem find4_rule {i j : Int} {v v' : Tok} {Q : Value → Shared → Prop} (hq : Q (.int (find4 x y i j) s.toks) { s with toks := s.toks + 1 }) : wpAny (model prog w) A (call (.builtin "str.find") [.str x t, .str y u, .int i v, .int j v']) Q E s :=
  call_gives F.slot_str_find (typeIs_str _ _ _) F.entry_str_find (F.args_str_find_4 _ _ _ _) (gives_find4 x y i j t u v v') hq

/-- split, its list with plain facts -/
theorem split_rule {Q : Value → Shared → Prop} (hF : Fr h₀ L s.heap m) (hN : News h₀ L s.heap news) (hy : (y.length == 0) = false)
    (h : ∀ D vs h' k, StrsAre vs (Txt.split x y) → Fr h₀ L h' m → News h₀ L h' ((D, listOf vs.toArray 0) :: news) → (∀ p ∈ news, p.1 < D) → Q (.ref D) { s with heap := h', toks := k }) (hsz : x.length + 2 ≤ sizeLine) :
    wpAny (model prog w) A (call (.builtin "str.split") [.str x t, .str y u]) Q E s :=
  KSpl.split1 hF hN hy (fun D l h' k e a F N lt => h D _ h' k (by rw [← e]; exact a) F N lt) hsz

/-- del of an item of a made list -/
theorem del_K {D : Addr} {its its' : Array Value} {n k : Nat} {i : Int} {v : Tok} {Q : Unit → Shared → Prop} (F : Fr h₀ L s.heap m) (N : News h₀ L s.heap news) (U : Upd D (listOf its n) (listOf its' (if its'.size == its.size then n else n + 1)) news news') (hfit : Builtin.List.listFitsIndex i = true) (hk : seqIndex? i its.size = some k) (he : its.eraseIdxIfInBounds k = its')
    (h : ∀ h', Fr h₀ L h' m → News h₀ L h' news' → Q () { s with heap := h' }) (hsz : its.size ≤ sizeLine := by size_fits) :
    wpAny (model prog w) A (delItem (.ref D) (.int i v)) Q E s := by
  obtain ⟨pre, post, rfl, rfl, a, b⟩ := U.split
  have z := N (D, listOf its n) (List.mem_append.mpr (.inr (.head _)))
  subst he
  refine P.delItem_list (n := n) z.1 hfit hk ?_ hsz
  obtain ⟨F', N'⟩ := news_upd (f := Obj.mapSeq fun xs => xs.eraseIdxIfInBounds k) F N a b rfl rfl
  exact h _ F' N'
theorem erase_first {vs : List Value} (_h : 1 ≤ vs.length) : vs.toArray.eraseIdxIfInBounds 0 = (vs.drop 1).toArray := by
  cases vs with
  | nil => simp
  | cons a r => simp [Array.eraseIdxIfInBounds]
theorem erase_last {vs : List Value} (h : 1 ≤ vs.length) : vs.toArray.eraseIdxIfInBounds (vs.length - 1) = vs.dropLast.toArray := by
  have : vs.length - 1 < vs.length := by omega
  simp [Array.eraseIdxIfInBounds, this, List.eraseIdx_length_sub_one]
theorem del_first {D : Addr} {vs : List Value} {n : Nat} {v : Tok} {Q : Unit → Shared → Prop} (F : Fr h₀ L s.heap m) (N : News h₀ L s.heap news) (U : Upd D (listOf vs.toArray n) (listOf (vs.drop 1).toArray (n + 1)) news news') (h1 : 1 ≤ vs.length) (h2 : vs.length ≤ 16777216)
    (h : ∀ h', Fr h₀ L h' m → News h₀ L h' news' → Q () { s with heap := h' }) : wpAny (model prog w) A (delItem (.ref D) (.int 0 v)) Q E s :=
  del_K F N (by rw [if_neg (by simp; omega)]; exact U) (by decide) (by rw [StrLaws.seqIndex_nonneg (by omega) (by simp; omega)]; rfl) (erase_first h1) h (by rw [sizeLine_eq]; simpa using h2)
theorem del_last {D : Addr} {vs : List Value} {n : Nat} {v : Tok} {Q : Unit → Shared → Prop} (F : Fr h₀ L s.heap m) (N : News h₀ L s.heap news) (U : Upd D (listOf vs.toArray n) (listOf vs.dropLast.toArray (n + 1)) news news') (h1 : 1 ≤ vs.length) (h2 : vs.length ≤ 16777216)
    (h : ∀ h', Fr h₀ L h' m → News h₀ L h' news' → Q () { s with heap := h' }) : wpAny (model prog w) A (delItem (.ref D) (.int (-1) v)) Q E s :=
  del_K (its' := vs.dropLast.toArray) (k := vs.length - 1) F N (by rw [if_neg (by simp; omega)]; exact U) (by decide) (by rw [StrLaws.seqIndex_neg (by omega) (by simp; omega)]; congr 1; simp; exact (congrArg Int.toNat (Int.add_comm _ _)).trans (Int.toNat_sub vs.length 1)) (erase_last h1) h (by rw [sizeLine_eq]; simpa using h2)
end
section
variable {prog : Program} {w : World} {A : Around} {E : Value → Shared → Prop} {s : Shared} {env : Env} {h₀ : Heap} {x : Str} {body : List Stmt} {Q : Flow → Shared → Prop}
/-- a loop over a made list of texts that turns one int -/
theorem iter_strs1 {l : Addr} {vs : List Value} {xs : List Str} {nn : Nat} {m₀ : Str → Option Value} {news : List (Addr × Obj)} {y : Str} {a₀ : Int} {t₀ : Tok} (P : List Str → Int → Prop)
    (hh : A.handled = none) (hl : (l, listOf vs.toArray nn) ∈ news) (hs : StrsAre vs xs) (F : Fr h₀ env.locals s.heap m₀) (N : News h₀ env.locals s.heap news) (hy : m₀ y = some (.int a₀ t₀)) (hP : P xs a₀)
    (turn : ∀ wd rest t a ta h tk own, P (wd :: rest) a → wd ∈ xs → OwnOff own (news.map (·.1)) → Fr h₀ env.locals h (fun z => if z = x then some (.str wd t) else if z = y then some (.int a ta) else m₀ z) → News h₀ env.locals h (news ++ own) →
      wpAny (model prog w) A (execs body env) (InvPostG h₀ env.locals (fun m' nx => nx = news ∧ (∃ a' t', m' y = some (.int a' t') ∧ P rest a') ∧ ∀ z, z ≠ x → z ≠ y → m' z = m₀ z) own { s with heap := h, toks := tk } Q) E { s with heap := h, toks := tk })
    (done : ∀ (u : Str → Option Value) t a h tk, P [] a → Fr h₀ env.locals h (fun z => if z = x then u z else if z = y then some (.int a t) else m₀ z) → News h₀ env.locals h news → Q .next { s with heap := h, toks := tk }) :
    wpAny (model prog w) A (pyIter (.ref l)) (fun it s₂ => LoopAtV prog w A h₀ env x body Q E it s₂) E s := by
  refine kdl_iter (fun i m nx => nx = news ∧ (∃ a t, m y = some (.int a t) ∧ P (xs.drop i) a) ∧ ∀ z, z ≠ x → z ≠ y → m z = m₀ z) hh hl F N ⟨rfl, ⟨a₀, t₀, hy, by simpa using hP⟩, fun _ _ _ => rfl⟩ ?_ ?_
  · rintro i v m₁ news₁ h tk own hv hoff _ ⟨rfl, ⟨a, ta, ha, hp⟩, hm⟩ F₁ N₁
    obtain ⟨wd, t, rfl, hx⟩ := hs.item i v hv
    have hi : i < xs.length := (List.getElem?_eq_some_iff.mp hx).1
    have hd : xs.drop i = wd :: xs.drop (i + 1) := by
      rw [List.drop_eq_getElem_cons hi]
      congr 1
      exact (List.getElem?_eq_some_iff.mp hx).2
    rw [hd] at hp
    rw [map_one ha hm] at F₁
    refine wpAny_mono (turn wd _ t a ta h tk own hp (List.mem_of_getElem? hx) hoff F₁ N₁) (fun f s₂ p => ?_) fun _ _ e => e
    have up : ∀ {s₁ s₂}, InvEndG h₀ env.locals (fun m' nx => nx = news₁ ∧ (∃ a' t', m' y = some (.int a' t') ∧ P (xs.drop (i + 1)) a') ∧ ∀ z, z ≠ x → z ≠ y → m' z = m₀ z) own s₁ s₂ →
        InvEndG h₀ env.locals (fun m' nx => (l, listOf vs.toArray nn) ∈ nx ∧ nx = news₁ ∧ (∃ a t, m' y = some (.int a t) ∧ P (xs.drop (i + 1)) a) ∧ ∀ z, z ≠ x → z ≠ y → m' z = m₀ z) own s₁ s₂ := by
      rintro s₁ s₂ ⟨h', tk, m', news', nx, e, F', N', hn, ho, ha, hj⟩
      exact ⟨h', tk, m', news', nx, e, F', N', hn, ho, ha, by rw [hj.1]; exact hl, hj⟩
    cases f with
    | ret v => exact p
    | brk => exact p
    | next => exact up p
    | cont => exact up p
  · rintro m₁ news₁ h tk ⟨rfl, ⟨a, ta, ha, hp⟩, hm⟩ F₁ N₁
    have e : xs.drop vs.length = [] := by rw [hs.len_eq]; simp
    rw [e] at hp
    refine done m₁ ta a h tk hp ?_ N₁
    rw [done_one ha hm]; exact F₁
end
section
variable {prog : Program} {w : World} {A : Around} {E : Value → Shared → Prop} {s : Shared} {h₀ : Heap} {L : Addr} {m : Str → Option Value} {news news' : List (Addr × Obj)}
/-- an item of a made list, from the front and from the end -/
theorem item_at {value slice : PySem.Expr} {D : Addr} {vs : List Value} {n : Nat} {k : Int} {u : Tok} {v : Value} {Q : Value → Shared → Prop} (N : News h₀ L s.heap news) (hm : (D, listOf vs.toArray n) ∈ news) (h0 : 0 ≤ k) (hfit : k < 2 ^ 63) (hv : vs[k.toNat]? = some v) (h : Q v s)
    (hs : subscripted slice false (.ref D) (.int k u) = operate [.ref D, .int k u] (getItem (.ref D) (.int k u)) := by with_unfolding_all rfl) :
    wpAny (model prog w) A (subscriptTail value slice (.ref D) (.int k u)) Q E s := by
  have hl : s.heap.IsList D vs.toArray := ⟨_, (N _ hm).1, rfl, n, rfl⟩
  exact tail_any hl.typeIs slot_list_getitem.lookup (wpAny_getItem_list hl h0 hfit (by simpa using hv) h) hs
theorem item_neg {value slice : PySem.Expr} {D : Addr} {vs : List Value} {n : Nat} {k : Int} {u : Tok} {v : Value} {Q : Value → Shared → Prop} (N : News h₀ L s.heap news) (hm : (D, listOf vs.toArray n) ∈ news) (h0 : k < 0) (h1 : -(vs.length : Int) ≤ k) (hfit : -(2 ^ 63) ≤ k) (hv : vs[(k + vs.length).toNat]? = some v) (h : Q v s)
    (hs : subscripted slice false (.ref D) (.int k u) = operate [.ref D, .int k u] (getItem (.ref D) (.int k u)) := by with_unfolding_all rfl) :
    wpAny (model prog w) A (subscriptTail value slice (.ref D) (.int k u)) Q E s := by
  have hl : s.heap.IsList D vs.toArray := ⟨_, (N _ hm).1, rfl, n, rfl⟩
  exact tail_any hl.typeIs slot_list_getitem.lookup (wpAny_getItem_list_neg hl h0 (by simpa using h1) hfit (by simpa using hv) h) hs
theorem item_lastOf {value slice : PySem.Expr} {D : Addr} {vs r : List Value} {n : Nat} {u : Tok} {v : Value} {Q : Value → Shared → Prop} (N : News h₀ L s.heap news) (hm : (D, listOf vs.toArray n) ∈ news) (hv : vs = r ++ [v]) (h : Q v s)
    (hs : subscripted slice false (.ref D) (.int (-1) u) = operate [.ref D, .int (-1) u] (getItem (.ref D) (.int (-1) u)) := by with_unfolding_all rfl) :
    wpAny (model prog w) A (subscriptTail value slice (.ref D) (.int (-1) u)) Q E s := by
  subst hv
  refine item_neg N hm (by omega) (by simp; omega) (by decide) ?_ h hs
  have e : (-1 + ((r ++ [v]).length : Int)).toNat = r.length := by simp; omega
  rw [e]; simp
end
/-- a text cut by three dots that stand in it has a first and a last part -/
theorem split_ends {x y : Str} (hk : Str.strKind y = 1) (h : (occurrences x y 0 x.length 1).isEmpty = false) : ∃ a mid b, Txt.split x y = a :: (mid ++ [b]) := by
  have h2 : 2 ≤ (Txt.split x y).length := by
    have h1 : ∃ i, i + y.length ≤ x.length ∧ subAt x y i = true := (StrLaws.found_iff x y).mp (by rw [h]; rfl)
    obtain ⟨i, hi, hs⟩ := h1
    unfold Txt.split
    rw [if_neg, if_neg]
    · rw [len_partsBetween]
      rcases StrLaws.occ_head x y (x.length + 1) (by omega) with ⟨_, hn⟩ | ⟨j, r, e, _⟩
      · exact absurd ⟨hi, hs⟩ (hn i)
      · rw [e]; simp
    · rcases StrLaws.occ_head x y (x.length + 1) (by omega) with ⟨_, hn⟩ | ⟨j, r, e, _⟩
      · exact absurd ⟨hi, hs⟩ (hn i)
      · rw [e]; simp
    · have : 1 ≤ Str.strKind x := by unfold Str.strKind; split <;> (try split) <;> omega
      simp only [Bool.or_eq_true, decide_eq_true_eq]; omega
  generalize Txt.split x y = l at h2
  cases l with
  | nil => simp at h2
  | cons a r =>
    have hne : r ≠ [] := by rintro rfl; simp at h2
    exact ⟨a, r.dropLast, r.getLast hne, by rw [List.dropLast_concat_getLast]⟩
section
variable {prog : Program} {w : World} {A : Around} {E : Value → Shared → Prop} {s : Shared} {h₀ : Heap} {L : Addr} {m : Str → Option Value} {news news' : List (Addr × Obj)} {x y : Str} {t u : Tok}
theorem split_em {Q : Value → Shared → Prop} (hF : Fr h₀ L s.heap m) (hN : News h₀ L s.heap news) (hk : Str.strKind y = 1) (hy : (y.length == 0) = false) (hf : (occurrences x y 0 x.length 1).isEmpty = false)
    (h : ∀ D t0 tl w0 mid wl vm h' k, Txt.split x y = w0 :: (mid ++ [wl]) → StrsAre vm mid → w0.length ≤ x.length → wl.length ≤ x.length → mid.length ≤ x.length → Fr h₀ L h' m →
      News h₀ L h' ((D, listOf (Value.str w0 t0 :: (vm ++ [Value.str wl tl])).toArray 0) :: news) → (∀ p ∈ news, p.1 < D) → Q (.ref D) { s with heap := h', toks := k }) (hsz : x.length + 2 ≤ sizeLine) :
    wpAny (model prog w) A (call (.builtin "str.split") [.str x t, .str y u]) Q E s := by
  refine split_rule hF hN hy (fun D vs h' k hs F N lt => ?_) hsz
  obtain ⟨w0, mid, wl, e⟩ := split_ends hk hf
  have hlen := split_le x y
  have b0 : w0.length ≤ x.length := part_short (y := y) (by rw [e]; exact List.mem_cons_self)
  have bl : wl.length ≤ x.length := part_short (y := y) (by rw [e]; simp)
  rw [e] at hs
  obtain ⟨t0, vr, rfl, hr⟩ := hs.cons_inv
  have hsp : ∃ vm tl, vr = vm ++ [Value.str wl tl] ∧ StrsAre vm mid := by
    have h1 := hr.take' mid.length
    have h2 := hr.drop' mid.length
    rw [List.take_left'] at h1
    · rw [List.drop_left'] at h2
      · obtain ⟨tl, v2, e2, h3⟩ := h2.cons_inv
        cases h3
        exact ⟨_, tl, by rw [← e2]; exact (List.take_append_drop _ _).symm, h1⟩
      · rfl
    · rfl
  obtain ⟨vm, tl, rfl, hm⟩ := hsp
  exact h D t0 tl w0 mid wl vm h' k e hm b0 bl (by rw [e] at hlen; simp at hlen; omega) F N lt
theorem del_first' {D : Addr} {v0 : Value} {r : List Value} {n : Nat} {v : Tok} {Q : Unit → Shared → Prop} (F : Fr h₀ L s.heap m) (N : News h₀ L s.heap news) (U : Upd D (listOf (v0 :: r).toArray n) (listOf r.toArray (n + 1)) news news') (h2 : r.length ≤ 16777215)
    (h : ∀ h', Fr h₀ L h' m → News h₀ L h' news' → Q () { s with heap := h' }) : wpAny (model prog w) A (delItem (.ref D) (.int 0 v)) Q E s :=
  del_first F N U (by simp) (by simp; omega) h
theorem del_last' {D : Addr} {v0 : Value} {r : List Value} {n : Nat} {v : Tok} {Q : Unit → Shared → Prop} (F : Fr h₀ L s.heap m) (N : News h₀ L s.heap news) (U : Upd D (listOf (r ++ [v0]).toArray n) (listOf r.toArray (n + 1)) news news') (h2 : r.length ≤ 16777215)
    (h : ∀ h', Fr h₀ L h' m → News h₀ L h' news' → Q () { s with heap := h' }) : wpAny (model prog w) A (delItem (.ref D) (.int (-1) v)) Q E s :=
  del_last F N (by rw [List.dropLast_concat]; exact U) (by simp) (by simp; omega) h
theorem del_last2 {D : Addr} {v0 v1 : Value} {r : List Value} {n : Nat} {v : Tok} {Q : Unit → Shared → Prop} (F : Fr h₀ L s.heap m) (N : News h₀ L s.heap news) (U : Upd D (listOf (v1 :: (r ++ [v0])).toArray n) (listOf (v1 :: r).toArray (n + 1)) news news') (h2 : r.length ≤ 16777214)
    (h : ∀ h', Fr h₀ L h' m → News h₀ L h' news' → Q () { s with heap := h' }) : wpAny (model prog w) A (delItem (.ref D) (.int (-1) v)) Q E s :=
  del_last' (r := v1 :: r) F N U (by simp; omega) h
end
end Mine
end
section
open PySem PySem.W PyProof.Rows PySem.Builtin
set_option maxRecDepth 100000
set_option maxHeartbeats 4000000
namespace Mine
open PySem.Sre PySem.Builtin.Re

theorem runFor_done {m : Sre.M} (h : m.outcome.isSome = true) : ∀ n, m.runFor n = m
  | 0 => rfl
  | n + 1 => by unfold M.runFor; rw [if_pos h]
theorem runFor_succ (m : Sre.M) (n : Nat) : m.runFor (n + 1) = if m.outcome.isSome then m else m.step.runFor n := rfl
theorem runFor_add : ∀ (a b : Nat) (m : Sre.M), m.runFor (a + b) = (m.runFor a).runFor b
  | 0, b, m => by rw [Nat.zero_add]; rfl
  | a + 1, b, m => by
    rw [Nat.add_right_comm, runFor_succ, runFor_succ]
    by_cases h : m.outcome.isSome = true
    · rw [if_pos h, if_pos h, runFor_done h]
    · rw [if_neg h, if_neg h]
      exact runFor_add a b m.step
structure Runs (m m' : Sre.M) (n : Nat) : Prop where
  eq : m.runFor n = m'
theorem Runs.trans {m m' m'' : Sre.M} {a b : Nat} (h : Runs m m' a) (k : Runs m' m'' b) : Runs m m'' (a + b) := ⟨by rw [runFor_add, h.eq, k.eq]⟩
theorem Runs.refl (m : Sre.M) : Runs m m 0 := ⟨rfl⟩
theorem Runs.one {m m' : Sre.M} (h : m.outcome = none) (e : m.step = m') : Runs m m' 1 := ⟨by
  unfold M.runFor; rw [h, if_neg (by simp)]; rw [e]; rfl⟩

section
variable {M : Model} {A : Around} {E : Value → Shared → Prop} {s : Shared}
theorem drive_ok {m' : Sre.M} {Q : Sre.M → Shared → Prop} (ho : m'.outcome.isSome = true) (hq : Q m' s) : ∀ (turns n : Nat) (m : Sre.M), n < 4 * turns → Runs m m' n → wpAny M A (reDrive turns m) Q E s
  | 0, n, m, hn, _ => absurd hn (by omega)
  | t + 1, n, m, hn, hr => by
    unfold reDrive
    by_cases h4 : (m.runFor reTurnSteps).outcome.isSome = true
    · have e : m.runFor 4 = m' := by
        rcases Nat.le_total n 4 with h | h
        · have := hr.eq
          obtain ⟨k, hk⟩ := Nat.exists_eq_add_of_le h
          rw [hk, runFor_add, this, runFor_done ho]
        · obtain ⟨k, rfl⟩ := Nat.exists_eq_add_of_le h
          have := hr.eq
          rw [runFor_add, runFor_done (m := m.runFor 4) h4] at this
          exact this
      show wpAny M A (if (m.runFor reTurnSteps).outcome.isSome then pure (m.runFor reTurnSteps) else _) Q E s
      rw [if_pos h4]
      refine wpAny_pure ?_
      show Q (m.runFor 4) s
      rw [e]; exact hq
    · show wpAny M A (if (m.runFor reTurnSteps).outcome.isSome then pure (m.runFor reTurnSteps) else _) Q E s
      rw [if_neg h4]
      refine wpAny_bind (wpAny_rule ?_)
      rcases Nat.lt_or_ge n 4 with h | h
      · exfalso
        obtain ⟨k, hk⟩ := Nat.exists_eq_add_of_le (Nat.le_of_lt h)
        apply h4
        show (m.runFor 4).outcome.isSome = true
        rw [hk, runFor_add, hr.eq, runFor_done ho]; exact ho
      · obtain ⟨k, rfl⟩ := Nat.exists_eq_add_of_le h
        refine drive_ok ho hq t k _ (by omega) ⟨?_⟩
        have := hr.eq
        rw [runFor_add] at this
        exact this
theorem rules_ok {Q : PUnit → Shared → Prop} (f : Nat → Bool) (g : Nat → String) (hq : Q ⟨⟩ s) : ∀ l : List Nat,
    wpAny M A (forIn l PUnit.unit fun i _ => do
      if f i then rule (g i)
      pure (ForInStep.yield PUnit.unit)) Q E s
  | [] => wpAny_pure hq
  | i :: r => by
    rw [List.forIn_cons]
    refine wpAny_bind ?_
    by_cases h : f i = true
    · simp only [h, if_true]
      refine wpAny_bind (wpAny_rule (wpAny_pure ?_))
      exact rules_ok f g hq r
    · simp only [h]
      refine wpAny_bind (wpAny_pure (wpAny_pure ?_))
      exact rules_ok f g hq r
theorem toEnd_ok {m m' : Sre.M} {n : Nat} {Q : Option Sre.M → Shared → Prop} (hr : Runs m m' n) (hn : n < 2 ^ 60) (ho : m'.outcome = some .matched ∨ m'.outcome = some .failed)
    (h1 : m'.outcome = some .matched → Q (some m') s) (h2 : m'.outcome = some .failed → Q none s) : wpAny M A (reRunToEnd m) Q E s := by
  unfold reRunToEnd
  refine wpAny_bind (drive_ok (m' := m') (by rcases ho with h | h <;> rw [h] <;> rfl) ?_ _ n m (by omega) hr)
  refine wpAny_bind (rules_ok _ _ ?_ _)
  rcases ho with h | h
  · rw [h]; exact wpAny_pure (h1 h)
  · rw [h]; exact wpAny_pure (h2 h)
end
end Mine
end
section
open PySem PySem.W PySem.Builtin
set_option maxRecDepth 100000
set_option maxHeartbeats 4000000
namespace Mine
open PySem.Builtin.Re
def C1 : Array Nat := #[14,4,0,1,1,6,1,16,46,1]
def C2 : Array Nat := #[14,9,4,1,2,16,10,16,13,0,7,7,16,13,16,10,15,18,5,16,10,15,13,11,16,13,5,5,0,16,10,1,15,2,0,1]
def bs (c T : Array Nat) (start : Nat) (must om : Bool) (pc pos handed : Nat) (fs : List Sre.Frame) (weight : Nat) (ans : Option Bool) (seen : Sre.Seen) : Sre.M :=
  { code := c, text := T, lim := T.size, start, lastStart := T.size, wholeText := false, mustAdvance := must, pc, pos, handed, outermost := om, marks := #[], lastmark := -1, lastindex := -1, loops := #[], inner := none, frames := fs, weight, answer := ans, seen, outcome := none }
def fin (m : Sre.M) (o : Sre.Outcome) : Sre.M := { m with outcome := some o }
def ns (pc s : Nat) (om : Bool) : Sre.Frame := { wait := .nextStart, pc, pos := s, outermost := om }
section
variable {T : Array Nat} {s h w p st : Nat} {must om om' : Bool} {seen : Sre.Seen} {fs : List Sre.Frame}
theorem a_at : (bs C1 T s must om 5 s h fs w none seen).step = if (s == 0 || T.getD (s - 1) 0 == 10) = true then bs C1 T s must om 7 s h fs w none ((seen.add 6).add 44) else bs C1 T s must om 5 s h fs w (some false) ((seen.add 6).add 44) := rfl
theorem a_lit : (bs C1 T s must om 7 s h fs w none seen).step = if s ≥ T.size then bs C1 T s must om 7 s h fs w (some false) (seen.add 16) else if (T.getD s 0 == 46) = true then bs C1 T s must om 9 (s + 1) h fs w none (seen.add 16) else bs C1 T s must om 7 s h fs w (some false) (seen.add 16) := by
  show (if s ≥ T.size then _ else match (Except.ok (T.getD s 0 == 46, seen.add 16) : Except String (Bool × Sre.Seen)) with
    | .error why => _
    | .ok (false, sn) => _
    | .ok (true, sn) => _) = _
  by_cases h0 : s ≥ T.size
  · rw [if_pos h0, if_pos h0]; rfl
  · rw [if_neg h0, if_neg h0]
    cases T.getD s 0 == 46 <;> rfl
theorem a_suc : (bs C1 T s must om 9 (s + 1) h fs w none seen).step = bs C1 T s must om 9 (s + 1) (s + 1) fs w (some true) (seen.add 1) := by
  show (if (om && ((false && _) || (must && (s + 1 == s)))) = true then _ else _) = _
  have e : (s + 1 == s) = false := by simp
  rw [e]; simp only [Bool.false_and, Bool.and_false, Bool.or_false]; rfl
theorem a_yes : (bs C1 T s must om p st h [ns 5 s om'] 1 (some true) seen).step = bs C1 T s must om' 5 s h [] 0 (some true) seen := rfl
theorem a_no (hs : s < T.size) : (bs C1 T s must om p st h [ns 5 s om'] 1 (some false) seen).step = bs C1 T (s + 1) false false 5 (s + 1) (s + 1) [ns 5 (s + 1) false] 1 none seen := by
  show (if s < T.size then _ else _) = _
  rw [if_pos hs]; rfl
theorem a_no_end (hs : ¬ s < T.size) : (bs C1 T s must om p st h [ns 5 s om'] 1 (some false) seen).step = bs C1 T s must om' 5 s h [] 0 (some false) seen := by
  show (if s < T.size then _ else _) = _
  rw [if_neg hs]; rfl
theorem g_end {c : Array Nat} {b : Bool} : (bs c T s must om p st h [] w (some b) seen).step = fin (bs c T s must om p st h [] w (some b) seen) (if b then .matched else .failed) := rfl
def bol (T : Array Nat) (s : Nat) : Bool := s == 0 || T.getD (s - 1) 0 == 10
def hitA (T : Array Nat) (s : Nat) : Bool := bol T s && decide (s < T.size) && T.getD s 0 == 46
def nfA (T : Array Nat) : Nat → Nat → Option Nat
  | 0, _ => none
  | k + 1, s => if hitA T s then some s else nfA T k (s + 1)
structure Ends (m : Sre.M) (r : Option (Nat × Nat)) (n : Nat) : Prop where
  ends : ∃ m', Runs m m' n ∧ match r with
    | some (b, e) => m'.outcome = some .matched ∧ m'.start = b ∧ m'.handed = e
    | none => m'.outcome = some .failed
theorem Ends.step {m m' : Sre.M} {r : Option (Nat × Nat)} {n : Nat} (h : m.outcome = none) (e : m.step = m') (k : Ends m' r n) : Ends m r (1 + n) := by
  obtain ⟨m'', h1, h2⟩ := k.ends
  exact ⟨m'', (Runs.one h e).trans h1, h2⟩
theorem Ends.of {m : Sre.M} {r : Option (Nat × Nat)} (h : match r with
    | some (b, e) => m.outcome = some .matched ∧ m.start = b ∧ m.handed = e
    | none => m.outcome = some .failed) : Ends m r 0 := ⟨m, .refl m, h⟩
theorem Ends.hit {m : Sre.M} {b e : Nat} (h1 : m.outcome = some .matched) (h2 : m.start = b) (h3 : m.handed = e) : Ends m (some (b, e)) 0 := ⟨m, .refl m, h1, h2, h3⟩
theorem Ends.le {m : Sre.M} {r : Option (Nat × Nat)} {n k : Nat} (h : Ends m r n) (e : n ≤ k) : Ends m r k := by
  obtain ⟨m', h1, h2⟩ := h.ends
  refine ⟨m', ?_, h2⟩
  obtain ⟨d, rfl⟩ := Nat.exists_eq_add_of_le e
  refine h1.trans ⟨runFor_done ?_ d⟩
  cases r with
  | none => rw [h2]; rfl
  | some p => rw [h2.1]; rfl
theorem endsA : ∀ (k s : Nat) (must om : Bool) (seen : Sre.Seen), s + k = T.size → Ends (bs C1 T s must om 5 s s [ns 5 s om] 1 none seen) ((nfA T (k + 1) s).map fun b => (b, b + 1)) (10 * (k + 1)) := by
  intro k
  induction k with
  | zero =>
    intro s must om seen hk
    have hit : hitA T s = false := by unfold hitA; simp; intro _ h; omega
    have e : (nfA T 1 s) = none := by unfold nfA; rw [hit]; rfl
    rw [e]
    have key : ∀ p sn, Ends (bs C1 T s must om p s s [ns 5 s om] 1 (some false) sn) none 2 := fun p sn => .step rfl (a_no_end (by omega)) (.step rfl g_end (.of rfl))
    by_cases hb : (s == 0 || T.getD (s - 1) 0 == 10) = true
    · exact (Ends.step rfl (by rw [a_at, if_pos hb]) (Ends.step rfl (by rw [a_lit, if_pos (by omega)]) (key _ _))).le (by omega)
    · exact (Ends.step rfl (by rw [a_at, if_neg hb]) (key _ _)).le (by omega)
  | succ k ih =>
    intro s must om seen hk
    have hlt : s < T.size := by omega
    have key : ∀ p sn, hitA T s = false → Ends (bs C1 T s must om p s s [ns 5 s om] 1 (some false) sn) ((nfA T (k + 1 + 1) s).map fun b => (b, b + 1)) (1 + 10 * (k + 1)) := fun p sn hh => by
      have e : nfA T (k + 1 + 1) s = nfA T (k + 1) (s + 1) := by rw [nfA, hh]; rfl
      rw [e]
      exact .step rfl (a_no hlt) (ih (s + 1) false false sn (by omega))
    by_cases hb : (s == 0 || T.getD (s - 1) 0 == 10) = true
    · by_cases hc : (T.getD s 0 == 46) = true
      · have hit : hitA T s = true := by unfold hitA bol; rw [hb, hc]; simp [hlt]
        have e : nfA T (k + 1 + 1) s = some s := by rw [nfA, hit]; rfl
        rw [e]
        exact (Ends.step rfl (by rw [a_at, if_pos hb]) (Ends.step rfl (by rw [a_lit, if_neg (by omega), if_pos hc]) (Ends.step rfl a_suc (Ends.step rfl a_yes (Ends.step rfl g_end (.hit rfl rfl rfl)))))).le (by omega)
      · have hit : hitA T s = false := by unfold hitA; rw [(Bool.not_eq_true _).mp hc, Bool.and_false]
        exact (Ends.step rfl (by rw [a_at, if_pos hb]) (Ends.step rfl (by rw [a_lit, if_neg (by omega), if_neg hc]) (key _ _ hit))).le (by omega)
    · have hit : hitA T s = false := by unfold hitA bol; rw [(Bool.not_eq_true _).mp hb, Bool.false_and, Bool.false_and]
      exact (Ends.step rfl (by rw [a_at, if_neg hb]) (key _ _ hit)).le (by omega)
def findA (T : Array Nat) (s : Nat) : Option (Nat × Nat) := if s < T.size then (nfA T (T.size - s + 1) s).map fun b => (b, b + 1) else none
theorem searchA (s : Nat) (hs : s ≤ T.size) (must : Bool) : Ends (Sre.forSearch C1 T 0 s T.size must) (findA T s) (10 * (T.size + 2)) := by
  by_cases h : s < T.size
  · have c : (decide (s > T.size) || decide (T.size - s < 1)) = false := by simp; omega
    have e : Sre.forSearch C1 T 0 s T.size must = bs C1 T s must true 5 s s [ns 5 s true] 1 none ((({} : Sre.Seen)).add 14) := by
      show (if (decide (s > T.size) || decide (T.size - s < 1)) = true then _ else _) = _
      rw [c]; rfl
    rw [e]
    unfold findA
    rw [if_pos h]
    exact (endsA (T.size - s) s must true _ (by omega)).le (by omega)
  · have c : (decide (s > T.size) || decide (T.size - s < 1)) = true := by simp; omega
    unfold findA
    rw [if_neg h]
    show Ends (if (decide (s > T.size) || decide (T.size - s < 1)) = true then _ else _) none _
    rw [c]
    exact (Ends.step rfl rfl (.of (by exact rfl))).le (by omega)

def kp : Sre.Kept := { lastmark := -1, lastindex := -1, whole := false, marks := #[] }
def nb (pc s : Nat) (om : Bool) : Sre.Frame := { wait := .nextBranch, pc, pos := s, outermost := om, kept := kp }
def lk (s : Nat) (om : Bool) : Sre.Frame := { wait := .lookNot, pc := 26, pos := s, outermost := om, kept := kp }
theorem b_br : (bs C2 T s must om 10 s h [ns 10 s om'] 1 none seen).step = bs C2 T s must om 12 s s [nb 11 s om, ns 10 s om'] 2 none (seen.add 7) := rfl
theorem lit_yes {pc c : Nat} (hp : (pc, c) ∈ [(12, 13), (14, 10), (19, 10), (24, 13), (29, 10)]) (hs : p < T.size) (hc : T.getD p 0 = c) : (bs C2 T s must om pc p h fs w none seen).step = bs C2 T s must om (pc + 2) (p + 1) h fs w none (seen.add 16) := by
  have key : ∀ (a : Bool), a = true → (if p ≥ T.size then (bs C2 T s must om pc p h fs w none (seen.add 16)).say false else match (Except.ok (a, seen.add 16) : Except String (Bool × Sre.Seen)) with
    | .error why => (bs C2 T s must om pc p h fs w none (seen.add 16)).stick why
    | .ok (false, sn) => ({ bs C2 T s must om pc p h fs w none (seen.add 16) with seen := sn }).say false
    | .ok (true, sn) => { bs C2 T s must om pc p h fs w none (seen.add 16) with seen := sn, pc := pc + 2, pos := p + 1 }) = bs C2 T s must om (pc + 2) (p + 1) h fs w none (seen.add 16) := by
    rintro a rfl
    rw [if_neg (by omega)]; rfl
  have k2 := key (T.getD p 0 == c) (by simpa using hc)
  simp only [List.mem_cons, Prod.mk.injEq, List.not_mem_nil, or_false] at hp
  rcases hp with ⟨rfl, rfl⟩ | ⟨rfl, rfl⟩ | ⟨rfl, rfl⟩ | ⟨rfl, rfl⟩ | ⟨rfl, rfl⟩ <;> exact k2
theorem lit_no {pc c : Nat} (hp : (pc, c) ∈ [(12, 13), (14, 10), (19, 10), (24, 13), (29, 10)]) (hs : ¬ (p < T.size ∧ T.getD p 0 = c)) : (bs C2 T s must om pc p h fs w none seen).step = bs C2 T s must om pc p h fs w (some false) (seen.add 16) := by
  have key : ∀ (a : Bool), ¬ (p < T.size ∧ a = true) → (if p ≥ T.size then (bs C2 T s must om pc p h fs w none (seen.add 16)).say false else match (Except.ok (a, seen.add 16) : Except String (Bool × Sre.Seen)) with
    | .error why => (bs C2 T s must om pc p h fs w none (seen.add 16)).stick why
    | .ok (false, sn) => ({ bs C2 T s must om pc p h fs w none (seen.add 16) with seen := sn }).say false
    | .ok (true, sn) => { bs C2 T s must om pc p h fs w none (seen.add 16) with seen := sn, pc := pc + 2, pos := p + 1 }) = bs C2 T s must om pc p h fs w (some false) (seen.add 16) := by
    intro a ha
    by_cases h : p ≥ T.size
    · rw [if_pos h]; rfl
    · rw [if_neg h]
      cases a with
      | true => exact absurd ⟨by omega, rfl⟩ ha
      | false => rfl
  have k2 := key (T.getD p 0 == c) (by rintro ⟨h1, h2⟩; exact hs ⟨h1, by simpa using h2⟩)
  simp only [List.mem_cons, Prod.mk.injEq, List.not_mem_nil, or_false] at hp
  rcases hp with ⟨rfl, rfl⟩ | ⟨rfl, rfl⟩ | ⟨rfl, rfl⟩ | ⟨rfl, rfl⟩ | ⟨rfl, rfl⟩ <;> exact k2
theorem b_jump {pc : Nat} (hp : pc ∈ [16, 21, 32]) : (bs C2 T s must om pc p h fs w none seen).step = bs C2 T s must om 35 p h fs w none (seen.add 15) := by
  simp only [List.mem_cons, List.not_mem_nil, or_false] at hp
  rcases hp with rfl | rfl | rfl <;> rfl
theorem b_suc : (bs C2 T s false om 35 p h fs w none seen).step = bs C2 T s false om 35 p p fs w (some true) (seen.add 1) := by
  cases om <;> rfl
theorem b_nb_yes {q x : Nat} : (bs C2 T s must om p st h [nb q x om', ns 10 s om'] 2 (some true) seen).step = bs C2 T s must om' q x h [ns 10 s om'] 1 (some true) seen := rfl
theorem b_ns_yes : (bs C2 T s must om p st h [ns 10 s om'] 1 (some true) seen).step = bs C2 T s must om' 10 s h [] 0 (some true) seen := rfl
theorem b_nb_no {q r x : Nat} (hq : (q, r) ∈ [(11, 18), (18, 23)]) : (bs C2 T s must om p st h [nb q x om', ns 10 s om'] 2 (some false) seen).step = bs C2 T s must om' (r + 1) x x [nb r x om', ns 10 s om'] 2 none seen := by
  simp only [List.mem_cons, Prod.mk.injEq, List.not_mem_nil, or_false] at hq
  rcases hq with ⟨rfl, rfl⟩ | ⟨rfl, rfl⟩ <;> rfl
theorem b_look {x : Nat} : (bs C2 T s must om 26 p h [nb 23 x om', ns 10 s om'] 2 none seen).step = bs C2 T s must false 29 p p [lk p om, nb 23 x om', ns 10 s om'] 3 none (seen.add 5) := rfl
theorem b_lk_no {x : Nat} : (bs C2 T s must false 29 p h [lk p om, nb 23 x om', ns 10 s om'] 3 (some false) seen).step = bs C2 T s must om 32 p h [nb 23 x om', ns 10 s om'] 2 none seen := rfl
def wid (T : Array Nat) (s : Nat) : Nat := if T.getD s 0 = 13 ∧ s + 1 < T.size ∧ T.getD (s + 1) 0 = 10 then 2 else 1
theorem endsB (hs : s < T.size) (hc : T.getD s 0 = 10 ∨ T.getD s 0 = 13) : Ends (bs C2 T s false om 10 s s [ns 10 s om] 1 none seen) (some (s, s + wid T s)) 20 := by
  by_cases h13 : T.getD s 0 = 13
  · by_cases h2 : s + 1 < T.size ∧ T.getD (s + 1) 0 = 10
    · have e : wid T s = 2 := if_pos ⟨h13, h2⟩
      rw [e]
      exact (Ends.step rfl b_br <| .step rfl (lit_yes (c := 13) (by decide) hs h13) <| .step rfl (lit_yes (c := 10) (by decide) h2.1 h2.2) <| .step rfl (b_jump (by decide)) <| .step rfl b_suc <|
        .step rfl b_nb_yes <| .step rfl b_ns_yes <| .step rfl g_end <| .hit rfl rfl rfl).le (by omega)
    · have e : wid T s = 1 := if_neg fun h => h2 h.2
      rw [e]
      exact (Ends.step rfl b_br <| .step rfl (lit_yes (c := 13) (by decide) hs h13) <| .step rfl (lit_no (c := 10) (by decide) h2) <| .step rfl (b_nb_no (r := 18) (by decide)) <|
        .step rfl (lit_no (c := 10) (by decide) (fun h => by omega)) <| .step rfl (b_nb_no (r := 23) (by decide)) <| .step rfl (lit_yes (c := 13) (by decide) hs h13) <| .step rfl b_look <|
        .step rfl (lit_no (c := 10) (by decide) h2) <| .step rfl b_lk_no <| .step rfl (b_jump (by decide)) <| .step rfl b_suc <|
        .step rfl b_nb_yes <| .step rfl b_ns_yes <| .step rfl g_end <| .hit rfl rfl rfl).le (by omega)
  · have h10 : T.getD s 0 = 10 := by omega
    have e : wid T s = 1 := if_neg fun h => h13 h.1
    rw [e]
    exact (Ends.step rfl b_br <| .step rfl (lit_no (c := 13) (by decide) (fun h => h13 h.2)) <| .step rfl (b_nb_no (r := 18) (by decide)) <|
        .step rfl (lit_yes (c := 10) (by decide) hs h10) <| .step rfl (b_jump (by decide)) <| .step rfl b_suc <|
        .step rfl b_nb_yes <| .step rfl b_ns_yes <| .step rfl g_end <| .hit rfl rfl rfl).le (by omega)
def hitB (T : Array Nat) (s : Nat) : Bool := T.getD s 0 == 10 || T.getD s 0 == 13
def nfB (T : Array Nat) : Nat → Nat → Option Nat
  | 0, _ => none
  | k + 1, s => if s < T.size then (if hitB T s then some s else nfB T k (s + 1)) else none
theorem nfB_spec : ∀ (k s b : Nat), nfB T k s = some b → b < T.size ∧ hitB T b = true
  | 0, _, _, h => nomatch h
  | k + 1, s, b, h => by
    rw [nfB] at h
    split at h
    · rename_i hs
      split at h
      · rename_i hh; cases h; exact ⟨hs, hh⟩
      · exact nfB_spec k _ _ h
    · cases h
theorem inSetB (c : Nat) (sn : Sre.Seen) : ∃ sn', Sre.inSet C2 c C2.size 5 true sn = .ok (c == 10 || c == 13, sn') := by
  have e : Sre.inSet C2 c C2.size 5 true sn = if (c == 10) = true then .ok (true, sn.add 16) else if (c == 13) = true then .ok (true, (sn.add 16).add 16) else .ok (false, ((sn.add 16).add 16).add 0) := rfl
  rw [e]
  by_cases h1 : (c == 10) = true
  · rw [if_pos h1]; exact ⟨_, by rw [h1]; rfl⟩
  · rw [if_neg h1]
    by_cases h2 : (c == 13) = true
    · rw [if_pos h2]; exact ⟨_, by rw [h2, Bool.or_true]⟩
    · rw [if_neg h2]; exact ⟨_, by rw [(Bool.not_eq_true _).mp h1, (Bool.not_eq_true _).mp h2]; rfl⟩
theorem admB (m : Sre.M) (hc : m.code = C2) (ht : m.text = T) (hl : m.lim = T.size) : ∀ (k s : Nat) (sn : Sre.Seen), ∃ sn', Sre.M.admitted m k s sn = .ok (nfB T k s, sn')
  | 0, s, sn => ⟨sn, rfl⟩
  | k + 1, s, sn => by
    rw [Sre.M.admitted, nfB, hl, hc, ht]
    by_cases h : s ≥ T.size
    · rw [if_pos h, if_neg (by omega)]; exact ⟨_, rfl⟩
    · rw [if_neg h, if_pos (by omega)]
      obtain ⟨sn', e⟩ := inSetB (T.getD s 0) sn
      rw [e]
      unfold hitB
      cases T.getD s 0 == 10 || T.getD s 0 == 13 with
      | true => exact ⟨_, rfl⟩
      | false => exact admB m hc ht hl k (s + 1) sn'
def findB (T : Array Nat) (s : Nat) : Option (Nat × Nat) := if s < T.size then (nfB T (T.size + 1 - s) s).map fun b => (b, b + wid T b) else none
theorem searchB (s : Nat) (hs : s ≤ T.size) (must : Bool) : Ends (Sre.forSearch C2 T 0 s T.size must) (findB T s) 20 := by
  by_cases h : s < T.size
  · have c : (decide (s > T.size) || decide (T.size - s < 1)) = false := by simp; omega
    have e : Sre.forSearch C2 T 0 s T.size must = (match Sre.M.admitted (bs C2 T s must true 10 s s [] 0 none ((({} : Sre.Seen)).add 14)) (T.size + 1 - s) s ((({} : Sre.Seen)).add 14) with
      | .ok (some b, sn) => bs C2 T b false true 10 b b [ns 10 b true] 1 none sn
      | .ok (none, sn) => bs C2 T s must true 10 s s [] 0 (some false) sn
      | .error why => (bs C2 T s must true 10 s s [] 0 none ((({} : Sre.Seen)).add 14)).stick why) := by
      show (if (decide (s > T.size) || decide (T.size - s < 1)) = true then _ else _) = _
      rw [c]; rfl
    obtain ⟨sn, e2⟩ := admB (T := T) (bs C2 T s must true 10 s s [] 0 none ((({} : Sre.Seen)).add 14)) rfl rfl rfl (T.size + 1 - s) s ((({} : Sre.Seen)).add 14)
    rw [e, e2]
    unfold findB
    rw [if_pos h]
    cases hb : nfB T (T.size + 1 - s) s with
    | none => exact (Ends.step rfl g_end (.of (by exact rfl))).le (by omega)
    | some b =>
      obtain ⟨q1, q2⟩ := nfB_spec _ _ _ hb
      exact endsB q1 (by unfold hitB at q2; simpa using q2)
  · have c : (decide (s > T.size) || decide (T.size - s < 1)) = true := by simp; omega
    unfold findB
    rw [if_neg h]
    show Ends (if (decide (s > T.size) || decide (T.size - s < 1)) = true then _ else _) none _
    rw [c]
    exact (Ends.step rfl rfl (.of (by exact rfl))).le (by omega)
end
end Mine
end
section
open PySem PySem.W PyProof.Rows PySem.Builtin
set_option maxRecDepth 100000
set_option maxHeartbeats 4000000
namespace Mine
open PySem.Builtin.Re
structure PatAt (h : Heap) (P : Addr) (code : Array Nat) : Prop where
  ex : ∃ (fs : Array Value) (T : Addr) (ws : Array Value) (n : Nat), h.get? P = some { cls := .type "re.Pattern", data := .fields fs } ∧ fs.getD 5 .none = .ref T ∧ reRawNat (fs.getD 2 .none) = 0 ∧ reRawNat (fs.getD 6 .none) = 0 ∧
    h.get? T = some { cls := .type "tuple", data := .seq ws n } ∧ (ws.map reRawOf).map (·.toNat) = code
theorem PatAt.keeps {h h' : Heap} {P : Addr} {code : Array Nat} (x : PatAt h P code) (hk : ∀ b o, h.get? b = some o → h'.get? b = some o) : PatAt h' P code := by
  obtain ⟨fs, T, ws, n, h1, h2, h3, h4, h5, h6⟩ := x.ex
  exact ⟨fs, T, ws, n, hk _ _ h1, h2, h3, h4, hk _ _ h5, h6⟩
theorem PatAt.keeps' {h h' : Heap} {P l : Addr} {code : Array Nat} {items : Array Value} {c : Nat} (x : PatAt h P code) (hl : h.get? l = some { cls := .type "list", data := .seq items c }) (hk : ∀ b o, b ≠ l → h.get? b = some o → h'.get? b = some o) : PatAt h' P code := by
  obtain ⟨fs, T, ws, n, h1, h2, h3, h4, h5, h6⟩ := x.ex
  refine ⟨fs, T, ws, n, hk _ _ ?_ h1, h2, h3, h4, hk _ _ ?_ h5, h6⟩
  · rintro rfl; rw [hl] at h1; simp at h1
  · rintro rfl; rw [hl] at h5; simp at h5
section
variable {M : Model} {A : Around} {E : Value → Shared → Prop} {s : Shared} {P l : Addr} {code : Array Nat} {x : PySem.Str} {t : Tok}
def tgt (P : Addr) (code : Array Nat) (x : PySem.Str) (t : Tok) : ReTarget := { pattern := .ref P, string := .str x t, code, text := x.cps, kind := 0, groups := 0, pos := 0, lim := x.cps.size }
theorem whole_ok {Q : ReTarget → Shared → Prop} (hp : PatAt s.heap P code) (h : Q (tgt P code x t) s) : wpAny M A (reWholeTarget (.ref P) (.str x t)) Q E s := by
  obtain ⟨fs, T, ws, n, h1, h2, h3, h4, h5, h6⟩ := hp.ex
  obtain ⟨hp, g, d, tk, os⟩ := s
  unfold reWholeTarget
  wp_walk
  rw [h4]
  wp_walk
  rw [h2]
  wp_walk
  rw [h3]
  show Q { pattern := .ref P, string := .str x t, code := (ws.map reRawOf).map (·.toNat), text := x.cps, kind := 0, groups := 0, pos := 0, lim := x.cps.size } _
  rw [h6]
  exact h
theorem lit_ok {r : PySem.Str} {Q : Unit → Shared → Prop} (h : Q () s) : wpAny M A (reLiteralCannotBeTurned (.str r t)) Q E s := by
  unfold reLiteralCannotBeTurned
  wp_walk
  exact h
theorem found_ok {Q : Option Sre.M → Shared → Prop} {d : Nat} {must : Bool} {r : Option (Nat × Nat)} {n : Nat} (hn : n < 2 ^ 60) (he : Ends (Sre.forSearch code x.cps 0 d x.cps.size must) r n)
    (h1 : ∀ b e m, r = some (b, e) → m.start = b → m.handed = e → Q (some m) s) (h2 : r = none → Q none s) : wpAny M A (reNextFound (tgt P code x t) d must) Q E s := by
  obtain ⟨m', hr, hm⟩ := he.ends
  cases r with
  | none => exact toEnd_ok hr hn (.inr hm) (fun e => by rw [hm] at e; cases e) (fun _ => h2 rfl)
  | some p =>
    obtain ⟨b, e⟩ := p
    exact toEnd_ok hr hn (.inl hm.1) (fun _ => h1 b e m' rfl hm.2.1 hm.2.2) (fun e => by rw [hm.1] at e; cases e)
end
section
variable {M : Model} {A : Around} {E : Value → Shared → Prop} {s : Shared} {l : Addr} {items : Array Value} {c : Nat}
theorem push_ok {v : Value} {Q : Unit → Shared → Prop} (hl : s.heap.get? l = some { cls := .type "list", data := .seq items c }) (hz : items.size ≤ 1048576)
    (h : ∀ h', h'.get? l = some { cls := .type "list", data := .seq (items.push v) (c + 1) } → (∀ b, b ≠ l → h'.get? b = s.heap.get? b) → Q () { s with heap := h' }) : wpAny M A (updateSeq l fun x => x.push v) Q E s := by
  refine wpAny_updateSeq hl rfl (h _ ?_ fun b hb => Heap.get?_update_other _ _ (Ne.symm hb)) (by rw [sizeLine_eq]; omega) (by rw [sizeLine_eq, Array.size_push]; omega)
  rw [Heap.get?_update_self _ hl rfl]
  simp [Obj.mapSeq]
theorem slice_ok {x : PySem.Str} {d b : Nat} {Q : Value → Shared → Prop} (hb : b ≤ x.cps.size) (hz : x.cps.size ≤ 1048576) (h : ∀ t' k, Q (.str ⟨x.cps.extract d b⟩ t') { s with toks := k }) : wpAny M A (reSlice x.cps 0 d b) Q E s := by
  unfold reSlice
  rw [if_pos (by rfl)]
  exact wpAny_mkStr (h _ _) (by rw [sizeLine_eq]; show (x.cps.extract d b).size ≤ _; rw [Array.size_extract]; exact Nat.le_trans (Nat.sub_le _ _) (Nat.le_trans (Nat.min_le_right _ _) (Nat.le_trans hz (by decide))))
end
theorem strs_push {vs : Array Value} {ys : List PySem.Str} {y : PySem.Str} {t : Tok} (h : StrsAre vs.toList ys) : StrsAre (vs.push (.str y t)).toList (ys ++ [y]) := by
  rw [Array.toList_push]; exact kct_snoc h
section
variable {x r : PySem.Str} {P l : Addr} {code : Array Nat} {t tr : Tok}
theorem plain_loop : plainId "re.Pattern.sub.loop" = true := by decide +kernel
theorem entry_loop : entryFor table "re.Pattern.sub.loop" = some Builtin.«re.Pattern.sub.loop» := entryFor_of_fast (by kernel_rfl)
def subL (find : Nat → Option (Nat × Nat)) (x r : PySem.Str) : Nat → Nat → List PySem.Str
  | 0, _ => []
  | k + 1, d => match find d with
    | some (b, e) => (if d < b then [⟨x.cps.extract d b⟩] else []) ++ (r :: subL find x r k e)
    | none => if d < x.cps.size then [⟨x.cps.extract d x.cps.size⟩] else []
theorem sub_one_more {s b : Nat} (h : s + 1 ≤ b) : b - s = (b - (s + 1)) + 1 := by
  rw [← Nat.sub_sub, Nat.sub_add_cancel (Nat.le_sub_of_add_le (by rw [Nat.add_comm]; exact h))]
theorem ar1 {a b c : Nat} (h : a + b + 5 + c + 10 ≤ 1048576) : b ≤ 1048576 := by omega
theorem ar2 {a b c : Nat} (h : a + b + c + 10 ≤ 1048576) : b ≤ 1048576 := by omega
theorem ar3 {a b c r : Nat} (hr : r ≤ 2) (h : a + b + 5 + c + 10 ≤ 1048576) : a + (r + 0) + (b + (0 + 1)) + c + 10 ≤ 1048576 := by omega
theorem ar4 {S Y p q u W : Nat} (hw : S + Y + 6 * (u + (q + p)) + 10 ≤ 1048576) (hW : W ≤ p) (hq : 1 ≤ q) : S + (W + 0) + (Y + (0 + 1)) + 5 + 6 * u + 10 ≤ 1048576 := by omega
theorem ar5 {S Y p q u : Nat} (hw : S + Y + 6 * (u + (q + p)) + 10 ≤ 1048576) (hq : 1 ≤ q) : S + Y + 5 + 6 * u + 10 ≤ 1048576 := by omega
theorem ar6 {S Y v W : Nat} (hw : S + Y + 6 * v + 10 ≤ 1048576) (hW : W ≤ v) : S + (W + 0) + (Y + (0 + 1)) ≤ 1048576 := by omega
theorem ar7 {X d b e : Nat} (h1 : d ≤ b) (h2 : b < e) (h3 : e ≤ X) : X - d = (X - e) + ((e - b) + (b - d)) := by
  rw [Nat.sub_add_sub_cancel (Nat.le_of_lt h2) h1, Nat.sub_add_sub_cancel h3 (Nat.le_trans h1 (Nat.le_of_lt h2))]
theorem ar8 {a b c : Nat} (h : a + b + c + 10 ≤ 1048576) : a + b ≤ 1048576 := by omega
theorem loop_ok {prog : Program} {w : World} {A : Around} {R : Result → Shared → Prop} (find : Nat → Option (Nat × Nat)) (nf : Nat) (hnf : nf < 2 ^ 60) (hfind : ∀ d must, d ≤ x.cps.size → Ends (Sre.forSearch code x.cps 0 d x.cps.size must) (find d) nf)
    (hgo : ∀ d b e, find d = some (b, e) → d ≤ b ∧ b < e ∧ e ≤ x.cps.size) (hr : r.length ≤ 2) (hx : x.cps.size ≤ 100000) : ∀ (k d n : Nat) (must : Bool) (items : Array Value) (c : Nat) (ys : List PySem.Str) (s : Shared), x.cps.size - d < k → d ≤ x.cps.size → PatAt s.heap P code →
      s.heap.get? l = some { cls := .type "list", data := .seq items c } → StrsAre items.toList ys → (ys.map (·.length)).sum + ys.length + 6 * (x.cps.size - d) + 10 ≤ 1048576 →
      (∀ h' tk t', (∀ b, b ≠ l → h'.get? b = s.heap.get? b) → R (.ok (.ret (.str (Txt.join PySem.Str.empty (ys ++ subL find x r k d)) t'))) { s with heap := h', toks := tk }) →
      wpAny (model prog w) A.in1 (Builtin.«re.Pattern.sub.loop» ⟨[.ref P, .str x t, .str r tr, rawInt 0, rawInt 0, rawInt n, rawInt d, rawInt d, .bool must, .ref l, .bool false], []⟩) (fun fin s' => match fin with | .done f => R (.ok f) s' | .again c' => c'.quiet = true ∧ codeAny (model prog w) A c' R s') (fun e s' => R (.error e) s') s := by
  intro k
  induction k with
  | zero => intro d _ _ _ _ _ _ h; omega
  | succ k ih =>
    intro d n must items c ys s hk hd hp hl hi hw hR
    refine wpAny_bind (whole_ok hp ?_)
    wp_step
    refine wpAny_bind (lit_ok ?_)
    dsimp only
    refine wpAny_bind ?_
    rw [if_neg (by simp)]
    rw [Int.toNat_natCast]
    refine found_ok (r := find d) hnf (hfind d must hd) ?_ ?_
    · intro b e m hf hb he
      obtain ⟨g1, g2, g3⟩ := hgo d b e hf
      dsimp only
      rw [hb, he]
      have hu : subL find x r (k + 1) d = (if d < b then [⟨x.cps.extract d b⟩] else []) ++ (r :: subL find x r k e) := by rw [subL, hf]
      rw [hu] at hR
      have hlen : items.size = ys.length := by rw [← hi.length]; simp
      have tail : ∀ (items' : Array Value) (c' : Nat) (ys' : List PySem.Str) (h₁ : Heap) (tk₁ : Nat), h₁.get? l = some { cls := .type "list", data := .seq items' c' } → (∀ b, b ≠ l → h₁.get? b = s.heap.get? b) → StrsAre items'.toList ys' →
          (ys'.map (·.length)).sum + ys'.length + 5 + 6 * (x.cps.size - e) + 10 ≤ 1048576 → (∀ q, ys' ++ (r :: q) = ys ++ ((if d < b then [⟨x.cps.extract d b⟩] else []) ++ r :: q)) →
          wpAny (model prog w) A.in1 (do
            updateSeq l fun x => x.push (Value.str r tr)
            again (Code.builtin "re.Pattern.sub.loop" { pos := [Value.ref P, Value.str x t, Value.str r tr, rawInt 0, rawInt 0, rawInt (↑n + 1), rawInt ↑e, rawInt ↑e, Value.bool (e == b), Value.ref l, Value.bool false] }))
            (fun fin s' => match fin with | .done f => R (.ok f) s' | .again c' => c'.quiet = true ∧ codeAny (model prog w) A c' R s') (fun e s' => R (.error e) s') { s with heap := h₁, toks := tk₁ } := by
        intro items' c' ys' h₁ tk₁ hl' hk' hi' hw' hys
        have hlen' : items'.size = ys'.length := by rw [← hi'.length]; simp
        refine wpAny_bind (push_ok hl' (hlen' ▸ ar1 hw') fun h₂ hl₂ hk₂ => ?_)
        refine wpAny_pure ⟨plainId_quiet plain_loop _, codeAny_builtin entry_loop ?_⟩
        rw [Around.under_plainId plain_loop _]
        have hn : ((n : Int) + 1) = ((n + 1 : Nat) : Int) := by push_cast; rfl
        rw [hn]
        refine ih e (n + 1) (e == b) _ _ (ys' ++ [r]) _ (Nat.lt_of_lt_of_le (Nat.sub_lt_sub_left (Nat.lt_of_le_of_lt g1 (Nat.lt_of_lt_of_le g2 g3)) (Nat.lt_of_le_of_lt g1 g2)) (Nat.le_of_lt_succ hk)) g3 ?_ hl₂ (strs_push hi') ?_ ?_
        · refine PatAt.keeps' hp hl fun b o hb hbo => ?_
          rw [hk₂ b hb, hk' b hb]; exact hbo
        · simp only [List.map_append, List.sum_append, List.map_cons, List.map_nil, List.sum_cons, List.sum_nil, List.length_append, List.length_cons, List.length_nil]
          exact ar3 hr hw'
        · intro h₃ tk₃ t' hk₃
          have := hR h₃ tk₃ t' fun b hb => by rw [hk₃ b hb, hk₂ b hb, hk' b hb]
          rw [List.append_assoc, List.singleton_append, hys]
          exact this
      by_cases hdb : d < b
      · rw [if_pos hdb]
        refine wpAny_bind (slice_ok (x := x) (Nat.le_trans (Nat.le_of_lt g2) g3) (Nat.le_trans hx (by decide)) fun t' k' => ?_)
        refine wpAny_bind (push_ok hl (hlen ▸ ar2 hw) fun h₁ hl₁ hk₁ => ?_)
        refine tail _ _ (ys ++ [⟨x.cps.extract d b⟩]) _ _ hl₁ hk₁ (strs_push hi) ?_ ?_
        · simp only [List.map_append, List.sum_append, List.map_cons, List.map_nil, List.sum_cons, List.sum_nil, List.length_append, List.length_cons, List.length_nil]
          have : (PySem.Str.mk (x.cps.extract d b)).length ≤ b - d := by show (x.cps.extract d b).size ≤ _; rw [Array.size_extract]; exact Nat.sub_le_sub_right (Nat.min_le_left _ _) _
          rw [ar7 g1 g2 g3] at hw
          exact ar4 hw this (Nat.sub_pos_of_lt g2)
        · intro q; rw [if_pos hdb]; simp
      · rw [if_neg hdb]
        refine tail _ _ ys _ _ hl (fun _ _ => rfl) hi (by rw [ar7 g1 g2 g3] at hw; exact ar5 hw (Nat.sub_pos_of_lt g2)) ?_
        intro q; rw [if_neg hdb]; simp
    · intro hf
      dsimp only
      have hu : subL find x r (k + 1) d = if d < x.cps.size then [⟨x.cps.extract d x.cps.size⟩] else [] := by rw [subL, hf]
      rw [hu] at hR
      have hlen : items.size = ys.length := by rw [← hi.length]; simp
      have tail : ∀ (items' : Array Value) (c' : Nat) (ys' : List PySem.Str) (h₁ : Heap) (tk₁ : Nat), h₁.get? l = some { cls := .type "list", data := .seq items' c' } → (∀ b, b ≠ l → h₁.get? b = s.heap.get? b) → StrsAre items'.toList ys' →
          (ys'.map (·.length)).sum + ys'.length ≤ 1048576 → ys' = ys ++ (if d < x.cps.size then [⟨x.cps.extract d x.cps.size⟩] else []) →
          wpAny (model prog w) A.in1 (do
            let joiner ← reSlice (tgt P code x t).text (tgt P code x t).kind 0 0
            let text ← if ((← seqItems? (.ref l)).getD #[]).isEmpty then pure joiner
              else call (.builtin (if (tgt P code x t).kind == 0 then "str.join" else "bytes.join")) [joiner, .ref l]
            if false then ret (← holding [text] do newTuple [text, ← mkInt n]) else ret text)
            (fun fin s' => match fin with | .done f => R (.ok f) s' | .again c' => c'.quiet = true ∧ codeAny (model prog w) A c' R s') (fun e s' => R (.error e) s') { s with heap := h₁, toks := tk₁ } := by
        intro items' c' ys' h₁ tk₁ hl' hk' hi' hw' hys
        refine wpAny_bind (slice_ok (x := x) (Nat.zero_le _) (Nat.le_trans hx (by decide)) fun t' k' => ?_)
        rw [show (tgt P code x t).kind = 0 from rfl]
        have hfin : ∀ t₂ k₂, wpAny (model prog w) A.in1 (ret (.str (Txt.join PySem.Str.empty ys') t₂)) (fun fin s' => match fin with | .done f => R (.ok f) s' | .again c' => c'.quiet = true ∧ codeAny (model prog w) A c' R s') (fun e s' => R (.error e) s') { s with heap := h₁, toks := k₂ } := by
          intro t₂ k₂
          refine wpAny_pure ?_
          have := hR h₁ k₂ t₂ hk'
          rw [← hys] at this
          exact this
        have hsq : ∀ {Q : Option (Array Value) → Shared → Prop} {E : Value → Shared → Prop} {B : Around} {tk₂ : Nat}, Q (some items') { s with heap := h₁, toks := tk₂ } → wpAny (model prog w) B (seqItems? (.ref l)) Q E { s with heap := h₁, toks := tk₂ } := by
          intro Q E B tk₂ hq
          unfold seqItems?
          refine wpAny_bind (wpAny_load hl' ?_)
          exact wpAny_pure hq
        refine wpAny_bind (hsq ?_)
        simp only [Option.getD_some, Bool.false_eq_true, if_false]
        by_cases hemp : items'.isEmpty = true
        · rw [if_pos hemp]
          refine wpAny_bind (wpAny_pure ?_)
          have h0 : ys' = [] := by
            have := hi'.length
            rw [Array.isEmpty_iff.mp hemp] at this
            simpa using this.symm
          have := hfin t' k'
          rw [h0] at this
          have e0 : (PySem.Str.mk (x.cps.extract 0 0)) = Txt.join PySem.Str.empty [] := by
            show PySem.Str.mk _ = PySem.Str.mk #[]
            simp
          rw [e0]; exact this
        · rw [if_neg hemp]
          have e0 : (PySem.Str.mk (x.cps.extract 0 0)) = PySem.Str.empty := by
            show PySem.Str.mk _ = PySem.Str.mk #[]
            simp
          rw [e0, if_pos (by rfl)]
          refine wpAny_bind (join_listW ⟨_, hl', rfl, _, rfl⟩ hi' (by decide) hw' fun t₂ k₂ => ?_)
          exact hfin t₂ k₂
      by_cases hdb : d < x.cps.size
      · rw [show (tgt P code x t).lim = x.cps.size from rfl, if_pos hdb]
        refine wpAny_bind (slice_ok (x := x) (Nat.le_refl _) (Nat.le_trans hx (by decide)) fun t' k' => ?_)
        refine wpAny_bind (push_ok hl (hlen ▸ ar2 hw) fun h₁ hl₁ hk₁ => ?_)
        refine tail _ _ (ys ++ [⟨x.cps.extract d x.cps.size⟩]) _ _ hl₁ hk₁ (strs_push hi) ?_ ?_
        · simp only [List.map_append, List.sum_append, List.map_cons, List.map_nil, List.sum_cons, List.sum_nil, List.length_append, List.length_cons, List.length_nil]
          have : (PySem.Str.mk (x.cps.extract d x.cps.size)).length ≤ x.cps.size - d := by show (x.cps.extract d x.cps.size).size ≤ _; rw [Array.size_extract]; exact Nat.sub_le_sub_right (Nat.min_le_left _ _) _
          exact ar6 hw this
        · rw [if_pos hdb]
      · rw [show (tgt P code x t).lim = x.cps.size from rfl, if_neg hdb]
        refine tail _ _ ys _ _ hl (fun _ _ => rfl) hi (ar8 hw) ?_
        rw [if_neg hdb]; simp
end
end Mine
end
section
open PySem PySem.W PyProof.Rows PySem.Builtin
set_option maxRecDepth 100000
set_option maxHeartbeats 4000000
namespace Mine
open PySem.Builtin.Re
theorem plainAttrs_pat : PlainAttrs "re.Pattern" :=
  ⟨⟨"object.__getattribute__", by rw [typeLookup_type, builtinLookup_eq_fast]; kernel_rfl, by decide +kernel⟩, by rw [typeLookup_type, builtinLookup_eq_fast]; kernel_rfl⟩
theorem slot_sub : Slot "re.Pattern" "sub" "re.Pattern.sub" :=
  .of (owner := "re.Pattern") (n := "sub") (by rw [typeLookup_type, builtinLookup_eq_fast]; kernel_rfl) (by decide +kernel) (by decide +kernel) (by decide +kernel)
    (by first | exact .inl (by decide +kernel) | exact .inr (by decide +kernel)) (by rw [isSubtype_type]; kernel_rfl)
theorem type_sub : typeOf (.builtin "re.Pattern.sub") = pure (.type "method_descriptor") := by show builtinType _ = _; rw [builtinType_eq_fast]; kernel_rfl
theorem entry_sub : entryFor table "re.Pattern.sub" = some Builtin.«re.Pattern.sub» := entryFor_of_tree (by kernel_rfl)
theorem args_sub (a b c : Value) : argsOk "re.Pattern.sub" ⟨[a, b, c], []⟩ := by unfold argsOk; kernel_rfl
theorem noCall : typeLookup (.type "str") "__call__" = pure none := by rw [typeLookup_type, builtinLookup_eq_fast]; kernel_rfl
theorem named_eq (a b : Value) : reNamed "re.Pattern.sub" "sub" ["repl", "string", "count"] 2 [a, b] [] = pure [some a, some b, none] := by rfl

section
variable {prog : Program} {w : World} {A : Around} {E : Value → Shared → Prop} {s : Shared} {P : Addr} {code : Array Nat} {x r : PySem.Str} {t tr : Tok} {Q : Value → Shared → Prop}
theorem sub_call (find : Nat → Option (Nat × Nat)) (nf : Nat) (hnf : nf < 2 ^ 60) (hp : PatAt s.heap P code) (hfind : ∀ d must, d ≤ x.cps.size → Ends (Sre.forSearch code x.cps 0 d x.cps.size must) (find d) nf)
    (hgo : ∀ d b e, find d = some (b, e) → d ≤ b ∧ b < e ∧ e ≤ x.cps.size) (hr : r.length ≤ 2) (hb : r.cps.contains 92 = false) (hx : x.cps.size ≤ 100000)
    (h : ∀ h' tk t', (∀ b o, s.heap.get? b = some o → h'.get? b = some o) → Q (.str (Txt.join PySem.Str.empty (subL find x r (x.cps.size + 1) 0)) t') { s with heap := h', toks := tk }) :
    wpAny (model prog w) A (call (.builtin "re.Pattern.sub") [.ref P, .str r tr, .str x t]) Q E s := by
  have hT : s.TypeIs (.ref P) "re.Pattern" := by
    obtain ⟨fs, T, ws, n, h1, _⟩ := hp.ex
    exact ⟨_, h1, rfl⟩
  refine wpAny_call (codeAny_call_builtin slot_sub.plain entry_sub (slot_sub.check _ _ _ _ _ _ _ _ hT (args_sub _ _ _) ?_))
  have hS : s.TypeIs (.str r tr) "str" := typeIs_str _ _ _
  obtain ⟨hp0, g, dr, tk, os⟩ := s
  have hnc := noCall
  show wpAny (model prog w) A.in1 (reSubstitute "re.Pattern.sub" "sub" false ⟨[.ref P, .str r tr, .str x t], []⟩) _ _ _
  unfold reSubstitute
  dsimp only
  rw [named_eq]
  refine wpAny_bind (wpAny_pure ?_)
  dsimp only
  refine wpAny_bind (wpAny_pure ?_)
  refine wpAny_bind (wpAny_specialOf hS hnc ?_)
  simp only [Option.isSome_none, Bool.false_eq_true, if_false, asStr?, hb, Bool.not_false, if_true]
  refine wpAny_bind (wpAny_pure ?_)
  dsimp only
  refine wpAny_bind (wpAny_pure ?_)
  rw [if_pos (by rw [hb]; rfl)]
  refine wpAny_bind (wpAny_pure ?_)
  dsimp only
  refine wpAny_bind (wpAny_holding (whole_ok hp ?_))
  rw [if_neg (by decide)]
  refine wpAny_bind ?_
  wp_walk
  refine ⟨plainId_quiet plain_loop _, codeAny_builtin entry_loop ?_⟩
  rw [Around.under_plainId plain_loop _]
  exact loop_ok (R := fun r s' => match r with | .ok (.ret v) => Q v s' | .ok _ => False | .error e => E e s') find nf hnf hfind hgo hr hx (x.cps.size + 1) 0 0 false #[] 0 [] _ (by omega) (by omega) (hp.keeps fun b o e => Heap.get?_push_of_some _ e) (Heap.get?_push_size _ rfl) .nil (by simp; omega)
    (fun h' tk t' hk => h h' tk t' fun b o e => by rw [hk b (Nat.ne_of_lt (Heap.lt_size e))]; exact Heap.get?_push_of_some _ e)
end

def flat (ys : List PySem.Str) : List Nat := ys.flatMap fun y => y.cps.toList
theorem join_flat (ys : List PySem.Str) : Txt.join PySem.Str.empty ys = ⟨(flat ys).toArray⟩ := by
  show PySem.Builtin.Str.glued PySem.Str.empty ys = _
  rw [StrLaws.glued_eq_join]
  have key : ∀ ys : List PySem.Str, (PySem.Str.join PySem.Str.empty ys).cps = (flat ys).toArray := by
    intro ys
    induction ys with
    | nil => rfl
    | cons y r ih =>
      cases r with
      | nil => simp [PySem.Str.join, flat]
      | cons z r =>
        show (y ++ PySem.Str.empty ++ PySem.Str.join PySem.Str.empty (z :: r)).cps = _
        rw [PySem.Str.cps_append, PySem.Str.cps_append, ih]
        show y.cps ++ #[] ++ _ = _
        simp [flat]
  have := key ys
  cases h : PySem.Str.join PySem.Str.empty ys
  rw [h] at this
  exact congrArg _ this

def crlf : List Nat → List Nat
  | [] => []
  | [c] => if c == 10 || c == 13 then [13, 10] else [c]
  | c :: d :: r => if c == 13 && d == 10 then 13 :: 10 :: crlf r else if c == 10 || c == 13 then 13 :: 10 :: crlf (d :: r) else c :: crlf (d :: r)
def dt : Bool → List Nat → List Nat
  | _, [] => []
  | b, c :: r => if b && c == 46 then 46 :: 46 :: dt false r else c :: dt (c == 10) r
def sl (l : List Nat) (a b : Nat) : List Nat := (l.drop a).take (b - a)
theorem crlf_plain {c : Nat} {r : List Nat} (h : (c == 10 || c == 13) = false) : crlf (c :: r) = c :: crlf r := by
  have h13 : (c == 13) = false := by simp at h ⊢; exact h.2
  cases r with
  | nil => simp only [crlf, h]; rfl
  | cons d r => simp only [crlf, h13, h, Bool.false_and, Bool.false_eq_true, if_false]; rw [show (c == 10 || false) = false by rw [h13] at h; exact h]; rfl
theorem getD_list {T : Array Nat} {s : Nat} (h : s < T.size) : T.toList.drop s = T.getD s 0 :: T.toList.drop (s + 1) := by
  rw [List.drop_eq_getElem_cons (by simpa using h)]
  congr 1
  simp [Array.getD, h]
theorem nfB_some {T : Array Nat} : ∀ (k s b : Nat), nfB T k s = some b → s ≤ b ∧ crlf (T.toList.drop s) = sl T.toList s b ++ (13 :: 10 :: crlf (T.toList.drop (b + wid T b))) := by
  intro k
  induction k with
  | zero => intro s b h; exact nomatch h
  | succ k ih =>
    intro s b h
    rw [nfB] at h
    by_cases hs : s < T.size
    · rw [if_pos hs] at h
      by_cases hh : hitB T s = true
      · rw [if_pos hh] at h
        cases h
        refine ⟨Nat.le_refl _, ?_⟩
        have e0 : sl T.toList s s = [] := by simp [sl]
        rw [e0, List.nil_append, getD_list hs]
        unfold hitB at hh
        unfold wid
        by_cases h2 : s + 1 < T.size
        · rw [getD_list h2, crlf]
          by_cases h3 : T.getD s 0 = 13 ∧ T.getD (s + 1) 0 = 10
          · rw [if_pos (by simpa using h3), if_pos ⟨h3.1, h2, h3.2⟩]
          · rw [if_neg (by simpa using h3), if_pos hh, if_neg (fun q => h3 ⟨q.1, q.2.2⟩), ← getD_list h2]
        · have e1 : T.toList.drop (s + 1) = [] := by simp; omega
          rw [e1, crlf, if_pos hh, if_neg (fun q => h2 q.2.1), e1]
          rfl
      · rw [if_neg hh] at h
        obtain ⟨h1, h2⟩ := ih _ _ h
        refine ⟨by omega, ?_⟩
        have e0 : sl T.toList s b = T.getD s 0 :: sl T.toList (s + 1) b := by
          unfold sl
          rw [getD_list hs, (sub_one_more h1 : b - s = (b - (s + 1)) + 1), List.take_succ_cons]
        rw [e0, List.cons_append, ← h2, getD_list hs]
        exact crlf_plain (by unfold hitB at hh; simpa using hh)
    · rw [if_neg hs] at h; cases h
theorem nfB_none {T : Array Nat} : ∀ (k s : Nat), T.size < s + k → nfB T k s = none → crlf (T.toList.drop s) = T.toList.drop s := by
  intro k
  induction k with
  | zero => intro s hk _; have e1 : T.toList.drop s = [] := by simp; omega
            rw [e1]; rfl
  | succ k ih =>
    intro s hk h
    rw [nfB] at h
    by_cases hs : s < T.size
    · rw [if_pos hs] at h
      by_cases hh : hitB T s = true
      · rw [if_pos hh] at h; cases h
      · rw [if_neg hh] at h
        rw [getD_list hs, crlf_plain (by unfold hitB at hh; simpa using hh), ih _ (by omega) h]
    · have e1 : T.toList.drop s = [] := by simp; omega
      rw [e1]; rfl
theorem bol_next {T : Array Nat} {s : Nat} : bol T (s + 1) = (T.getD s 0 == 10) := by simp [bol]
theorem nfA_some {T : Array Nat} : ∀ (k s b : Nat), nfA T k s = some b → s ≤ b ∧ b < T.size ∧ dt (bol T s) (T.toList.drop s) = sl T.toList s b ++ (46 :: 46 :: dt (bol T (b + 1)) (T.toList.drop (b + 1))) := by
  intro k
  induction k with
  | zero => intro s b h; exact nomatch h
  | succ k ih =>
    intro s b h
    rw [nfA] at h
    by_cases hh : hitA T s = true
    · rw [if_pos hh] at h
      cases h
      unfold hitA at hh
      simp only [Bool.and_eq_true, decide_eq_true_eq] at hh
      obtain ⟨⟨h1, h2⟩, h3⟩ := hh
      refine ⟨Nat.le_refl _, h2, ?_⟩
      have e0 : sl T.toList s s = [] := by simp [sl]
      rw [e0, List.nil_append, getD_list h2, dt, h1, h3, if_pos (by rfl), bol_next]
      have : T.getD s 0 = 46 := by simpa using h3
      rw [this]; rfl
    · rw [if_neg hh] at h
      obtain ⟨h1, hb, h2⟩ := ih _ _ h
      have hs : s < T.size := by omega
      refine ⟨by omega, hb, ?_⟩
      have e0 : sl T.toList s b = T.getD s 0 :: sl T.toList (s + 1) b := by
        unfold sl
        rw [getD_list hs, (sub_one_more h1 : b - s = (b - (s + 1)) + 1), List.take_succ_cons]
      rw [e0, List.cons_append, ← h2, getD_list hs, dt, if_neg, bol_next]
      intro q
      simp only [Bool.and_eq_true] at q
      exact hh (by unfold hitA; simp only [Bool.and_eq_true, decide_eq_true_eq]; exact ⟨⟨q.1, hs⟩, q.2⟩)
theorem nfA_none {T : Array Nat} : ∀ (k s : Nat), T.size < s + k → nfA T k s = none → dt (bol T s) (T.toList.drop s) = T.toList.drop s := by
  intro k
  induction k with
  | zero => intro s hk _; have e1 : T.toList.drop s = [] := by simp; omega
            rw [e1]; rfl
  | succ k ih =>
    intro s hk h
    rw [nfA] at h
    by_cases hs : s < T.size
    · by_cases hh : hitA T s = true
      · rw [if_pos hh] at h; cases h
      · rw [if_neg hh] at h
        have := ih _ (by omega) h
        rw [getD_list hs, dt, if_neg, ← bol_next, this]
        intro q
        simp only [Bool.and_eq_true] at q
        exact hh (by unfold hitA; simp only [Bool.and_eq_true, decide_eq_true_eq]; exact ⟨⟨q.1, hs⟩, q.2⟩)
    · have e1 : T.toList.drop s = [] := by simp; omega
      rw [e1]; rfl
theorem extract_sl (T : Array Nat) (a b : Nat) : (T.extract a b).toList = sl T.toList a b := by
  simp [sl]
theorem flat_cons (y : PySem.Str) (r : List PySem.Str) : flat (y :: r) = y.cps.toList ++ flat r := by simp [flat]
theorem flat_opt {c : Prop} [Decidable c] (T : Array Nat) (a b : Nat) (h : c ↔ a < b) (r : List PySem.Str) : flat ((if c then [⟨T.extract a b⟩] else []) ++ r) = sl T.toList a b ++ flat r := by
  by_cases hc : c
  · rw [if_pos hc, List.singleton_append, flat_cons, extract_sl]
  · rw [if_neg hc, List.nil_append]
    have : b - a = 0 := by have := mt h.mpr hc; omega
    simp [sl, this]
theorem sl_all (T : Array Nat) (a : Nat) : sl T.toList a T.size = T.toList.drop a := by
  simp [sl, List.take_of_length_le]
theorem wid_pos (T : Array Nat) (b : Nat) : 1 ≤ wid T b ∧ wid T b ≤ 2 := by unfold wid; split <;> omega
theorem wid_le {T : Array Nat} {b : Nat} (h : b < T.size) : b + wid T b ≤ T.size := by
  by_cases q : T.getD b 0 = 13 ∧ b + 1 < T.size ∧ T.getD (b + 1) 0 = 10
  · have : wid T b = 2 := if_pos q
    have := q.2.1
    omega
  · have : wid T b = 1 := if_neg q
    omega
def crlfS : PySem.Str := ⟨#[13, 10]⟩
def dotS : PySem.Str := ⟨#[46, 46]⟩
theorem subB_flat (x : PySem.Str) : ∀ (k d : Nat), x.cps.size < d + k → flat (subL (findB x.cps) x crlfS k d) = crlf (x.cps.toList.drop d) := by
  intro k
  induction k with
  | zero => intro d h; have e1 : x.cps.toList.drop d = [] := by simp; omega
            rw [e1]; rfl
  | succ k ih =>
    intro d h
    rw [subL]
    cases hf : findB x.cps d with
    | none =>
      dsimp only
      have e : crlf (x.cps.toList.drop d) = x.cps.toList.drop d := by
        unfold findB at hf
        split at hf
        · refine nfB_none (x.cps.size + 1 - d) d (by omega) ?_
          cases hn : nfB x.cps (x.cps.size + 1 - d) d with
          | none => rfl
          | some b => rw [hn] at hf; cases hf
        · have e1 : x.cps.toList.drop d = [] := by simp; omega
          rw [e1]; rfl
      rw [e]
      have := flat_opt (c := d < x.cps.size) x.cps d x.cps.size Iff.rfl []
      rw [List.append_nil] at this
      rw [this, sl_all]; simp [flat]
    | some p =>
      obtain ⟨b, e⟩ := p
      dsimp only
      unfold findB at hf
      split at hf
      · rename_i hd
        cases hn : nfB x.cps (x.cps.size + 1 - d) d with
        | none => rw [hn] at hf; cases hf
        | some b' =>
          rw [hn] at hf
          cases hf
          obtain ⟨h1, h2⟩ := nfB_some _ _ _ hn
          have hw := wid_pos x.cps b
          rw [flat_opt x.cps d b Iff.rfl, flat_cons, ih _ (by omega), h2]
          rfl
      · cases hf
theorem subA_flat (x : PySem.Str) : ∀ (k d : Nat), x.cps.size < d + k → flat (subL (findA x.cps) x dotS k d) = dt (bol x.cps d) (x.cps.toList.drop d) := by
  intro k
  induction k with
  | zero => intro d h; have e1 : x.cps.toList.drop d = [] := by simp; omega
            rw [e1]; rfl
  | succ k ih =>
    intro d h
    rw [subL]
    cases hf : findA x.cps d with
    | none =>
      dsimp only
      have e : dt (bol x.cps d) (x.cps.toList.drop d) = x.cps.toList.drop d := by
        unfold findA at hf
        split at hf
        · refine nfA_none (x.cps.size - d + 1) d (by omega) ?_
          cases hn : nfA x.cps (x.cps.size - d + 1) d with
          | none => rfl
          | some b => rw [hn] at hf; cases hf
        · have e1 : x.cps.toList.drop d = [] := by simp; omega
          rw [e1]; rfl
      rw [e]
      have := flat_opt (c := d < x.cps.size) x.cps d x.cps.size Iff.rfl []
      rw [List.append_nil] at this
      rw [this, sl_all]; simp [flat]
    | some p =>
      obtain ⟨b, e⟩ := p
      dsimp only
      unfold findA at hf
      split at hf
      · rename_i hd
        cases hn : nfA x.cps (x.cps.size - d + 1) d with
        | none => rw [hn] at hf; cases hf
        | some b' =>
          rw [hn] at hf
          cases hf
          obtain ⟨h1, hb, h2⟩ := nfA_some _ _ _ hn
          rw [flat_opt x.cps d b Iff.rfl, flat_cons, ih _ (by omega), h2]
          rfl
      · cases hf
def crlfT (x : PySem.Str) : PySem.Str := ⟨(crlf x.cps.toList).toArray⟩
def stuffT (x : PySem.Str) : PySem.Str := ⟨(dt true x.cps.toList).toArray⟩
section
variable {prog : Program} {w : World} {A : Around} {E : Value → Shared → Prop} {s : Shared} {P : Addr} {x : PySem.Str} {t tr : Tok} {Q : Value → Shared → Prop}
theorem sub_crlf (hp : PatAt s.heap P C2) (hx : x.cps.size ≤ 100000) (h : ∀ h' tk t', (∀ b o, s.heap.get? b = some o → h'.get? b = some o) → Q (.str (crlfT x) t') { s with heap := h', toks := tk }) :
    wpAny (model prog w) A (call (.builtin "re.Pattern.sub") [.ref P, .str crlfS tr, .str x t]) Q E s := by
  refine sub_call (findB x.cps) 20 (by decide) hp (fun d must hd => searchB d hd must) ?_ (by decide) (by decide +kernel) hx ?_
  · intro d b e hf
    unfold findB at hf
    split at hf
    · cases hn : nfB x.cps (x.cps.size + 1 - d) d with
      | none => rw [hn] at hf; cases hf
      | some b' =>
        rw [hn] at hf
        cases hf
        obtain ⟨h1, _⟩ := nfB_some _ _ _ hn
        have hs := (nfB_spec _ _ _ hn).1
        have hw := wid_pos x.cps b
        exact ⟨h1, by omega, wid_le hs⟩
    · cases hf
  · intro h' tk t' hk
    have e : Txt.join PySem.Str.empty (subL (findB x.cps) x crlfS (x.cps.size + 1) 0) = crlfT x := by
      rw [join_flat, subB_flat x _ _ (by omega)]; rfl
    rw [e]; exact h h' tk t' hk
theorem sub_stuff (hp : PatAt s.heap P C1) (hx : x.cps.size ≤ 100000) (h : ∀ h' tk t', (∀ b o, s.heap.get? b = some o → h'.get? b = some o) → Q (.str (stuffT x) t') { s with heap := h', toks := tk }) :
    wpAny (model prog w) A (call (.builtin "re.Pattern.sub") [.ref P, .str dotS tr, .str x t]) Q E s := by
  refine sub_call (findA x.cps) (10 * (x.cps.size + 2)) (by omega) hp (fun d must hd => searchA d hd must) ?_ (by decide) (by decide +kernel) hx ?_
  · intro d b e hf
    unfold findA at hf
    split at hf
    · cases hn : nfA x.cps (x.cps.size - d + 1) d with
      | none => rw [hn] at hf; cases hf
      | some b' =>
        rw [hn] at hf
        cases hf
        obtain ⟨h1, hb, _⟩ := nfA_some _ _ _ hn
        exact ⟨h1, by omega, by omega⟩
    · cases hf
  · intro h' tk t' hk
    have e : Txt.join PySem.Str.empty (subL (findA x.cps) x dotS (x.cps.size + 1) 0) = stuffT x := by
      rw [join_flat, subA_flat x _ _ (by omega)]; rfl
    rw [e]; exact h h' tk t' hk
end
end Mine
end
section
open PySem PySem.W PyProof.Rows PySem.Builtin PySem.Builtin.Str
set_option maxRecDepth 100000
set_option maxHeartbeats 8000000
namespace Mine
theorem fillQ : PySem.Challenge.rw_rw0014_02 = PySem.Challenge.rw_rw0014_02 ∧ hd.heap_39 = hd.heap_39 := by k_fill; exact ⟨rfl, rfl⟩
theorem pat1 {P : Params} {h : Heap} (X : (hd.heap_39 P).In h) : PatAt h 43 C1 :=
  ⟨_, _, _, _, X 43 _ rfl, rfl, rfl, rfl, X 42 _ rfl, by decide +kernel⟩
theorem pat2 {P : Params} {h : Heap} (X : (hd.heap_39 P).In h) : PatAt h 48 C2 :=
  ⟨_, _, _, _, X 48 _ rfl, rfl, rfl, rfl, X 47 _ rfl, by decide +kernel⟩
section
variable {prog : Program} {w : World} {A : Around} {E : Value → Shared → Prop} {s : Shared} {h₀ : Heap} {L P : Addr} {m : Str → Option Value} {news : List (Addr × Obj)} {x : PySem.Str} {t tr : Tok} {code : Array Nat}
theorem sub_get {pl : Sem Bool} {Q : Value × List Value → Shared → Prop} (hp : PatAt h₀ P code) (F : Fr h₀ L s.heap m) (h : Q (.builtin "re.Pattern.sub", [.ref P]) s) : wpAny (model prog w) A (getMethod (.ref P) (Str.ofString "sub") pl) Q E s := by
  obtain ⟨fs, T, ws, n, h1, _⟩ := (hp.keeps F.keep).ex
  exact getMethod_builtin ⟨_, h1, rfl⟩ plainAttrs_pat slot_sub type_sub (fun a e => by cases e; exact ⟨_, h1, rfl⟩) h
theorem sub_crlfN {Q : Value → Shared → Prop} (hp : PatAt h₀ P C2) (F : Fr h₀ L s.heap m) (N : News h₀ L s.heap news) (hx : x.length ≤ 100000) (h : ∀ h' tk t', Fr h₀ L h' m → News h₀ L h' news → Q (.str (crlfT x) t') { s with heap := h', toks := tk }) :
    wpAny (model prog w) A (call (.builtin "re.Pattern.sub") [.ref P, .str (Str.ofString "\r\n") tr, .str x t]) Q E s := by
  rw [show Str.ofString "\r\n" = crlfS from by decide +kernel]
  exact sub_crlf (hp.keeps F.keep) hx fun h' tk t' hk => h h' tk t' (F.keeps hk) (N.grown hk)
theorem sub_stuffN {Q : Value → Shared → Prop} (hp : PatAt h₀ P C1) (F : Fr h₀ L s.heap m) (N : News h₀ L s.heap news) (hx : x.length ≤ 100000) (h : ∀ h' tk t', Fr h₀ L h' m → News h₀ L h' news → Q (.str (stuffT x) t') { s with heap := h', toks := tk }) :
    wpAny (model prog w) A (call (.builtin "re.Pattern.sub") [.ref P, .str (Str.ofString "..") tr, .str x t]) Q E s := by
  rw [show Str.ofString ".." = dotS from by decide +kernel]
  exact sub_stuff (hp.keeps F.keep) hx fun h' tk t' hk => h h' tk t' (F.keeps hk) (N.grown hk)
end
def qdT (x : Str) : Str := stuffT (crlfT x)
theorem crlf_len : ∀ l : List Nat, (crlf l).length ≤ 2 * l.length
  | [] => by simp [crlf]
  | [c] => by simp only [crlf]; split <;> simp
  | c :: d :: r => by
    have h1 := crlf_len r
    have h2 := crlf_len (d :: r)
    rw [crlf]
    simp only [List.length_cons] at *
    split
    · simp only [List.length_cons]; omega
    · split <;> simp only [List.length_cons] <;> omega
theorem crlfT_len (x : Str) : (crlfT x).length ≤ 2 * x.length := by
  have := crlf_len x.cps.toList
  simpa [crlfT, Str.length] using this
local macro_rules | `(tactic| walk_at "getMethod ref") => `(tactic| ((with_reducible show wpAny _ _ (getMethod (Value.ref _) _ _) _ _ _); refine sub_get (by first | exact pat1 (by assumption) | exact pat2 (by assumption)) (by k_asm) ?_))
local macro_rules | `(tactic| walk_at "call builtin:re.Pattern.sub") => `(tactic| ((show wpAny _ _ (call (Value.builtin "re.Pattern.sub") [Value.ref _, Value.str _ _, Value.str _ _]) _ _ _); first | (refine sub_crlfN (pat2 (by assumption)) (by k_asm) (by k_asm) (by omega) ?_) | (refine sub_stuffN (pat1 (by assumption)) (by k_asm) (by k_asm) (by (refine Nat.le_trans (crlfT_len _) ?_); omega) ?_)); intro h' tk' t' F' N')
theorem qd (w : World) (mean : ExcName → Option Value) (mg mb : Str → Option Value) (news : List (Addr × Obj)) (x : Str) (t1 : Tok) :
  CbClaim PySem.Challenge.rw_rw0014_02.row.prog w (hd.heap_39 w.params) hd.view_39 (looseW hd.view_39 [Str.ofString "_twin_re_1", Str.ofString "_twin_re_2"]) mean mg mb 55 news [] (x.length ≤ 20000) [.str x t1] (fun t => .str (qdT x) t) := by
  w_on
  dsimp only [CbClaim, CbLists, CbRet]; intros; rename_i hret
  refine wpAny_call ?_
  k_dflt cell_enter
  k_steps
  all_goals (try (cb_end hret))


end Mine
end
section
open PySem PySem.W PyProof.Rows PySem.Builtin PySem.Spec PySem.Calls
set_option maxRecDepth 100000
set_option maxHeartbeats 4000000
namespace Mine
open LCg
def one (c : Nat) : PySem.Str := ⟨#[c]⟩
section
variable {prog : Program} {w : World} {A : Around} {E : Value → Shared → Prop} {s : Shared} {h₀ : Heap} {L : Addr} {m : Str → Option Value} {env : Env}
theorem strs_snoc {y : PySem.Str} {t : Tok} {vs : List Value} {ys : List PySem.Str} (h : StrsAre vs ys) : StrsAre (vs ++ [.str y t]) (ys ++ [y]) := kct_snoc h
/-- a comprehension whose element gives a text: over any items -/
theorem crest_S {α : Type} {elt : Expr} {x : Str} {scope : Scope} {cl : List (Str × Addr)} {S : List (Addr × Obj) → Prop} {P : Nat → Value → Prop} {Fin : List Value → List (Addr × Obj) → Prop} {news : List (Addr × Obj)} {n : Nat} (xs : List α) (g : α → PySem.Str) (V : α → Value → Prop) (hn : xs.length = n)
    (hP : ∀ i v, i < n → P i v → ∃ a, xs[i]? = some a ∧ V a v)
    (turn : ∀ a v I oI C oC D m₂ ys h tk (E' : Value → Shared → Prop), a ∈ xs → V a v → NsObj oC m₂ → m₂ x = some v → Fr h₀ L h m → News h₀ L h ((I, oI) :: (C, oC) :: (D, lst ys) :: news) → Off3 I C D news → ((@Ne Nat I C) ∧ (@Ne Nat I D) ∧ (@Ne Nat C D)) →
      wpAny (model prog w) A (eval elt (compEnvC scope cl C env)) (CompEnd h₀ L m { s with heap := h, toks := tk } I oI C oC D (lst ys) S (fun y news' => KCtEl news (g a) y news')) E' { s with heap := h, toks := tk })
    (fin : ∀ ys, StrsAre ys (xs.map g) → Fin ys news) : CompRest prog w A h₀ L m env elt x scope cl s S P Fin n 0 [] news := by
  have key : ∀ (j i : Nat) (ys : List Value), i + j = n → StrsAre ys ((xs.take i).map g) → CompRest prog w A h₀ L m env elt x scope cl s S P Fin j i ys news := by
    intro j
    induction j with
    | zero =>
      intro i ys hi hy
      have e : i = xs.length := by omega
      subst e
      rw [List.take_length] at hy
      exact CompRest.zero (fin ys hy)
    | succ j ih =>
      intro i ys hi hy
      refine CompRest.succ ?_
      intro v I oI C oC D m₂ h tk E' hv hC hx F N off ne
      obtain ⟨a, ha, hv'⟩ := hP i v (by omega) hv
      refine wpAny_mono (turn a v I oI C oC D m₂ ys h tk E' (List.mem_of_getElem? ha) hv' hC hx F N off ne) (fun y s₂ hq => ?_) fun _ _ e => e
      obtain ⟨h', tk', nw, e, F', N', off', hS, hn', t', rfl⟩ := hq
      rw [hn'] at N' off' hS
      refine ⟨h', tk', news, e, F', N', off', hS, ih (i + 1) _ (by omega) ?_⟩
      rw [List.take_add_one, ha]
      simpa using strs_snoc hy
  exact key n 0 [] (by omega) (by simp only [List.take_zero, List.map_nil]; exact .nil)
end
section
variable {prog : Program} {w : World} {A : Around} {E : Value → Shared → Prop} {s : Shared} {x : PySem.Str} {t : Tok} {Q : Value → Shared → Prop}
theorem join_B {D : Addr} {items : Array Value} {ys : List PySem.Str} (B : Nat) (hl : s.heap.IsList D items) (hi : StrsAre items.toList ys) (hw : (ys.map (·.length)).sum + ys.length ≤ B) (hB : B ≤ 100000) (hsep : x.length ≤ 3)
    (h : ∀ t' k, (Txt.join x ys).length ≤ 3 * B → Q (.str (Txt.join x ys) t') { s with toks := k }) : wpAny (model prog w) A (call (.builtin "str.join") [.str x t, .ref D]) Q E s := by
  refine join_listW hl hi (by omega) (by omega) fun t' k => h t' k ?_
  have h1 := StrLaws.join_length_le x ys
  have h2 : ys.length * x.length ≤ ys.length * 3 := Nat.mul_le_mul_left _ hsep
  have e : Txt.join x ys = PySem.Str.join x ys := StrLaws.glued_eq_join x ys
  rw [e]
  omega
end
end Mine
end
section
open PySem PySem.W PyProof.Rows PySem.Builtin PySem.Spec PySem.Calls
set_option maxRecDepth 100000
set_option maxHeartbeats 4000000
namespace Mine
open LCg
def Hold (P : Prop) : Prop := P
theorem Hold.out {P : Prop} (h : Hold P) : P := h
section
variable {prog : Program} {w : World} {A : Around} {E : Value → Shared → Prop} {s : Shared} {env : Env} {h₀ : Heap} {x : Str} {body : List Stmt} {Q : Flow → Shared → Prop}
/-- a loop over a range, its state by an invariant over names and ledger -/
theorem for_range {r : Addr} {a b c : Int} {t u v : Tok} {n : Nat} {m₀ : Str → Option Value} {news : List (Addr × Obj)} (J : Nat → (Str → Option Value) → List (Addr × Obj) → Prop)
    (hh : A.handled = none) (hr : IsRange s.heap r a b c t u v) (hsmall : Builtin.Range.small a b c = true) (hsz : Builtin.Range.rangeSize a b c = (n : Int)) (F : Fr h₀ env.locals s.heap m₀) (N : News h₀ env.locals s.heap news) (hj : J 0 m₀ news)
    (turn : ∀ i k t m₁ nx h tk own, i < n → k = a + (i : Int) * c → OwnOff own (nx.map (·.1)) → J i m₁ nx → Fr h₀ env.locals h (fun y => if y = x then some (.int k t) else m₁ y) → News h₀ env.locals h (nx ++ own) →
      wpAny (model prog w) A (execs body env) (InvPostG h₀ env.locals (J (i + 1)) own { s with heap := h, toks := tk } Q) E { s with heap := h, toks := tk })
    (done : ∀ m₁ nx h tk, J n m₁ nx → Fr h₀ env.locals h m₁ → News h₀ env.locals h nx → Q .next { s with heap := h, toks := tk }) :
    wpAny (model prog w) A (pyIter (.ref r)) (fun it s₂ => LoopAtV prog w A h₀ env x body Q E it s₂) E s := by
  refine wpAny_pyIter_range hr hsmall ?_
  have W : Walks prog w A s.heap.objs.size [s.heap.objs.size] [s.heap.objs.size] n (fun i v => i < n ∧ ∃ t, v = .int (a + i * c) t)
      (fun i h => IsRangeIter h s.heap.objs.size (a + (i : Nat) * c) ((n : Int) - (i : Nat)) c) := (Walks.range hh _ a c n).bound
  refine kdr_loop J W (fun _ h => h) (fun _ h => h) ?_ ?_ ?_ ?_ (by show IsRangeIter _ _ _ _ _; rw [hsz]; simpa using Heap.get?_push_size _ rfl) (F.push _) (fun p hp => ⟨Heap.get?_push_of_some _ (N p hp).1, (N p hp).2⟩) hj ?_ ?_
  · intro i h hi b hb
    rw [List.mem_singleton.mp hb]
    exact ⟨_, hi⟩
  · intro hm
    exact absurd F.ns.lt ((List.mem_singleton.mp hm) ▸ Nat.lt_irrefl _)
  · intro b hb
    rw [List.mem_singleton.mp hb]
    exact next_is_new F
  · intro p hp hI
    exact absurd (Heap.lt_size (N p hp).1) ((List.mem_singleton.mp hI) ▸ Nat.lt_irrefl _)
  · rintro i v m₁ nx h tk own hi ⟨_, t, rfl⟩ hoff hJ F₁ N₁
    exact turn i _ t m₁ nx h tk own hi rfl hoff hJ F₁ N₁
  · exact done
end
section
variable {prog : Program} {w : World} {A : Around} {E : Value → Shared → Prop} {s : Shared} {h₀ : Heap} {L : Addr} {m : Str → Option Value} {env : Env}
/-- whatever can be gone through: its iterator is one new object -/
def IterOk (prog : Program) (w : World) (A : Around) (s : Shared) (xv : Value) (n : Nat) (P : Nat → Value → Prop) : Prop :=
  ∀ (E : Value → Shared → Prop) (Q : Value → Shared → Prop), (∀ (o : Obj) (St : Nat → Heap → Prop), Walks prog w A s.heap.objs.size [s.heap.objs.size] [s.heap.objs.size] n P St → (∀ i h, St i h → ∃ o, h.get? s.heap.objs.size = some o) →
    St 0 (s.heap.push o) → Q (.ref s.heap.objs.size) { s with heap := s.heap.push o }) → wpAny (model prog w) A (pyIter xv) Q E s
theorem IterOk.range {r : Addr} {a b c : Int} {t u v : Tok} {n : Nat} (hh : A.handled = none) (hr : IsRange s.heap r a b c t u v) (hsmall : Builtin.Range.small a b c = true) (hsz : Builtin.Range.rangeSize a b c = (n : Int)) :
    IterOk prog w A s (.ref r) n (fun i v => i < n ∧ ∃ t, v = .int (a + i * c) t) := fun E Q h => by
  refine wpAny_pyIter_range hr hsmall ?_
  have W : Walks prog w A s.heap.objs.size [s.heap.objs.size] [s.heap.objs.size] n (fun i v => i < n ∧ ∃ t, v = .int (a + i * c) t)
      (fun i h => IsRangeIter h s.heap.objs.size (a + (i : Nat) * c) ((n : Int) - (i : Nat)) c) := (Walks.range hh _ a c n).bound
  exact h _ _ W (fun i h st => ⟨_, st⟩) (by show IsRangeIter _ _ _ _ _; rw [hsz]; simpa using Heap.get?_push_size _ rfl)
def SrcG (prog : Program) (w : World) (A : Around) (h₀ : Heap) (L : Addr) (m : Str → Option Value) (env : Env) (elt : Expr) (x : Str) (scope : Scope) (cl : List (Str × Addr)) (Fin : Shared → List Value → List (Addr × Obj) → Prop) (xv : Value) (s₁ : Shared) : Prop :=
  ∃ n P news, IterOk prog w A s₁ xv n P ∧ Fr h₀ L s₁.heap m ∧ News h₀ L s₁.heap news ∧ n ≤ sizeLine ∧
    ∀ s₂ : Shared, (∃ h, s₂ = { s₁ with heap := h }) → CompRest prog w A h₀ L m env elt x scope cl s₂ (fun _ => True) P (Fin s₂) n 0 [] news
/-- where the block's frame C and its list D stand: apart from all else -/
structure Away (h₀ : Heap) (L C D : Addr) (nw : List (Addr × Obj)) : Prop where
  oldC : h₀.get? C = none
  oldD : h₀.get? D = none
  cl : C ≠ L
  dl : D ≠ L
  cd : C ≠ D
  off : ∀ p ∈ nw, p.1 ≠ C
/-- a source whose iterator is one new object, and the block behind it -/
theorem comp_go {elt iter : Expr} {x : Str} {px : Pos} {scope : Scope} {cl : List (Str × Addr)} {pos : Pos} {Fin : Shared → List Value → List (Addr × Obj) → Prop} {RR : Value → Addr → Result → Shared → Prop} {xv : Value} {s₁ : Shared}
    (src : SrcG prog w A h₀ L m env elt x scope cl Fin xv s₁) (hcell : ∀ y ∈ scope.names, y.2 ≠ .cell) (hkind : scope.kind = .function) (hx : scope.names.lookup x = some .local)
    (back : ∀ s₂ : Shared, (∃ g, s₂ = { s₁ with heap := g }) → ∀ D C h tk m' ys nw, Fr h₀ L h m → News h₀ L h ((D, lst ys) :: nw) → Off1 D nw → h.Ns C m' → Away h₀ L C D nw → Fin s₂ ys nw → RR (.ref D) C (.ok .next) { s₂ with heap := h, toks := tk }) :
    wpAny (model prog w) A (pyIter xv) (fun it s₂ => wpAny (model prog w) A (newList []) (fun acc s₃ => wpAny (model prog w) A (newFunctionEnv scope env.globals cl [] env.qual none .none (some env)) (fun cenv s₄ =>
      codeAny (model prog w) A (.compStart (.ListComp elt [⟨.Name x px, iter, [], 0⟩] scope pos) 0 it acc { cenv with scope := relabel scope env }) (RR acc cenv.locals) s₄) E s₃) E s₂) E s₁ := by
  obtain ⟨n, P, news, hit, F, N, hsz, R⟩ := src
  apply hit
  intro o St W hIo st0
  have grown : ∀ b ob, s₁.heap.get? b = some ob → (s₁.heap.push o).get? b = some ob := by
    intro b ob e
    exact Heap.get?_push_of_some o e
  have small : ∀ p ∈ news, p.1 < s₁.heap.objs.size := by
    intro p hp
    exact Heap.lt_size (N p hp).1
  have stays : ∀ i (h h' : Heap) (ob : Obj) (nw : List (Addr × Obj)), St i h → h.get? s₁.heap.objs.size = some ob → h'.get? s₁.heap.objs.size = some ob → (∀ b ob', h₀.get? b = some ob' → h'.get? b = some ob') → News h₀ L h' nw → True → St i h' := by
    intro i h h' ob nw st e1 e2 _ _ _
    apply W.frame i h h' st
    intro b hb ob' e3
    have hb' : b = s₁.heap.objs.size := by simpa using hb
    subst hb'
    have : ob = ob' := by rw [e1] at e3; simpa using e3
    rw [← this]; exact e2
  apply block_U W hsz hIo stays hcell hkind hx st0 (S := fun _ => True) (news := news)
  · intro b hb
    have hb' : b = s₁.heap.objs.size := by simpa using hb
    subst hb'
    simp [Heap.size_push]
  · exact F.keeps grown
  · exact N.grown grown
  · exact Nat.ne_of_lt F.ns.lt
  · exact next_is_new F
  · intro p hp
    exact Nat.ne_of_lt (small p hp)
  · trivial
  · exact R _ ⟨_, rfl⟩
  · intro D C h tk m' ys nw F' N' o1 hn q1 q2 q3 q4 q5 q6 fin
    exact back _ ⟨_, rfl⟩ D C h tk m' ys nw F' N' o1 hn ⟨q1, q2, q3, q4, q5, q6⟩ fin
theorem Away.led {C D : Addr} {o : Obj} {nw : List (Addr × Obj)} {h g : Heap} (a : Away h₀ L C D nw) (N : News h₀ L h ((D, o) :: nw)) (hs : ∀ b ob, b ≠ C → h.get? b = some ob → g.get? b = some ob) : News h₀ L g ((D, o) :: nw) := by
  intro p hp
  refine ⟨hs p.1 p.2 ?_ (N p hp).1, (N p hp).2⟩
  cases hp with
  | head => exact a.cd.symm
  | tail _ hp => exact a.off p hp
theorem ListComp_G {elt iter : Expr} {x : Str} {px : Pos} {scope : Scope} {cl : List (Str × Addr)} {pos : Pos} {Q : Value → Shared → Prop} (_F₀ : Fr h₀ L s.heap m)
    (hclos : closureFor scope env = pure cl) (hcell : ∀ y ∈ scope.names, y.2 ≠ .cell) (hkind : scope.kind = .function)
    (hnames : ∀ y ∈ scope.names, y.2 = .local → scope.names.lookup y.1 = some .local) (hx : scope.names.lookup x = some .local)
    (h : wpAny (model prog w) A (eval iter env) (SrcG prog w A h₀ L m env elt x scope cl (fun s₂ => FinE h₀ L m s₂ Q)) E s)
    (hs : ∀ x, foldedSetIterable iter env x = pure x := by intro _; rfl) :
    wpAny (model prog w) A (eval (.ListComp elt [⟨.Name x px, iter, [], 0⟩] scope pos) env) Q E s := by
  rw [eval_ListComp]
  apply wpAny_comprehension_free (use := none) rfl hs hclos hkind hnames
  refine wpAny_mono h (fun xv s₁ src => comp_go src hcell hkind hx ?_) (fun _ _ e => e)
  intro s₂ _ D C h tk m' ys nw F' N' o1 hn a fin
  exact ⟨m', hn, fun g hg => fin D g tk (F'.change hg a.cl a.oldC) (a.led N' fun b ob hb e => hg.extBut b ob hb e) o1⟩
def AllEl (news : List (Addr × Obj)) (Y : Value → Prop) (y : Value) (news' : List (Addr × Obj)) : Prop := news' = news ∧ Y y
/-- a comprehension of whose elements one thing is asked -/
theorem crest_P {α : Type} {elt : Expr} {x : Str} {scope : Scope} {cl : List (Str × Addr)} {S : List (Addr × Obj) → Prop} {P : Nat → Value → Prop} {Fin : List Value → List (Addr × Obj) → Prop} {news : List (Addr × Obj)} {n : Nat} (V : Nat → α → Value → Prop) (Y : Value → Prop)
    (hP : ∀ i v, i < n → P i v → ∃ a, V i a v)
    (turn : ∀ i a v I oI C oC D m₂ ys h tk (E' : Value → Shared → Prop), i < n → V i a v → NsObj oC m₂ → m₂ x = some v → Fr h₀ L h m → News h₀ L h ((I, oI) :: (C, oC) :: (D, lst ys) :: news) → Off3 I C D news → ((@Ne Nat I C) ∧ (@Ne Nat I D) ∧ (@Ne Nat C D)) →
      wpAny (model prog w) A (eval elt (compEnvC scope cl C env)) (CompEnd h₀ L m { s with heap := h, toks := tk } I oI C oC D (lst ys) S (fun y news' => AllEl news Y y news')) E' { s with heap := h, toks := tk })
    (fin : ∀ ys, ys.length = n → (∀ y ∈ ys, Y y) → Fin ys news) : CompRest prog w A h₀ L m env elt x scope cl s S P Fin n 0 [] news := by
  have key : ∀ (j i : Nat) (ys : List Value), i + j = n → ys.length = i → (∀ y ∈ ys, Y y) → CompRest prog w A h₀ L m env elt x scope cl s S P Fin j i ys news := by
    intro j
    induction j with
    | zero =>
      intro i ys hi hl hy
      exact CompRest.zero (fin ys (by omega) hy)
    | succ j ih =>
      intro i ys hi hl hy
      refine CompRest.succ ?_
      intro v I oI C oC D m₂ h tk E' hv hC hx F N off ne
      obtain ⟨a, hv'⟩ := hP i v (by omega) hv
      refine wpAny_mono (turn i a v I oI C oC D m₂ ys h tk E' (by omega) hv' hC hx F N off ne) (fun y s₂ hq => ?_) fun _ _ e => e
      obtain ⟨h', tk', nw, e, F', N', off', hS, hn', hY⟩ := hq
      rw [hn'] at N' off' hS
      refine ⟨h', tk', news, e, F', N', off', hS, ih (i + 1) _ (by omega) (by simp [hl]) ?_⟩
      intro z hz
      rcases List.mem_append.mp hz with hz | hz
      · exact hy z hz
      · rw [List.mem_singleton.mp hz]; exact hY
  exact key n 0 [] (by omega) rfl (fun _ h => nomatch h)
theorem ints_of {P : Int → Prop} : ∀ {ys : List Value}, (∀ y ∈ ys, ∃ r t, y = .int r t ∧ P r) → ∃ ns, IntsAre ys ns ∧ ∀ r ∈ ns, P r
  | [], _ => ⟨[], .nil, fun _ h => nomatch h⟩
  | y :: r, h => by
    obtain ⟨ns, h1, h2⟩ := ints_of (ys := r) fun z hz => h z (.tail _ hz)
    obtain ⟨k, t, rfl, hk⟩ := h y (.head _)
    refine ⟨k :: ns, .cons k t h1, fun z hz => ?_⟩
    rcases List.mem_cons.mp hz with rfl | hz
    · exact hk
    · exact h2 z hz
end
theorem step_in {a b c : Int} {i : Nat} (hc : 0 < c) (ha : 0 ≤ a) (h : i < (Builtin.Range.rangeSize a b c).toNat) : 0 ≤ a + (i : Int) * c ∧ a + (i : Int) * c < b := by
  unfold Builtin.Range.rangeSize at h
  rw [if_pos hc] at h
  split at h
  · have h1 : (i : Int) ≤ (b - a - 1) / c := by omega
    have h2 : (i : Int) * c ≤ (b - a - 1) / c * c := Int.mul_le_mul_of_nonneg_right h1 (by omega)
    have h3 : (b - a - 1) / c * c ≤ b - a - 1 := Int.ediv_mul_le _ (by omega)
    have h4 : 0 ≤ (i : Int) * c := Int.mul_nonneg (by omega) (by omega)
    omega
  · omega
theorem small_step {a b c : Int} (hc : 1 ≤ c) (hc' : c ≤ 100) (ha : 0 ≤ a) (ha' : a ≤ 1000) (hb : 0 ≤ b) (hb' : b ≤ 1000) : Builtin.Range.small a b c = true := by
  have h1 := rangeSize_toNat_le a b c
  have h2 := rangeSize_toNat a b c
  unfold Builtin.Range.small
  generalize Builtin.Range.rangeSize a b c = n at h1 h2 ⊢
  simp only [Builtin.Range.rangeFitsLong, Bool.and_eq_true, Bool.or_eq_true, decide_eq_true_eq, beq_iff_eq]
  have n0 : -2 ^ 63 ≤ n := by rw [h2]; exact Int.le_trans (by decide) (Int.natCast_nonneg _)
  have n1 : n < 2 ^ 63 := by omega
  have hall : (((-2 ^ 63 ≤ a ∧ a < 2 ^ 63) ∧ -2 ^ 63 ≤ b ∧ b < 2 ^ 63) ∧ -2 ^ 63 ≤ c ∧ c < 2 ^ 63) ∧ -2 ^ 63 ≤ n ∧ n < 2 ^ 63 :=
    ⟨⟨⟨⟨Int.le_trans (by decide) ha, Int.lt_of_le_of_lt ha' (by decide)⟩, Int.le_trans (by decide) hb, Int.lt_of_le_of_lt hb' (by decide)⟩, Int.le_trans (by decide) hc, Int.lt_of_le_of_lt hc' (by decide)⟩, n0, n1⟩
  refine ⟨hall, .inr ?_⟩
  rw [if_pos (by omega)]
  simp only [Bool.and_eq_true, decide_eq_true_eq]
  omega
end Mine
end
section
open PySem PySem.W PyProof.Rows PySem.Builtin PySem.Spec PySem.Calls
set_option maxRecDepth 100000
set_option maxHeartbeats 4000000
namespace Mine
section
variable {M : Model} {A : Around} {E : Value → Shared → Prop} {s : Shared} {h₀ : Heap} {L : Addr} {m : Str → Option Value} {news : List (Addr × Obj)}
end
theorem Hold.wp {M : Model} {α : Type} {A : Around} {t : Sem α} {Q : α → Shared → Prop} {E : Value → Shared → Prop} {s : Shared} (h : Hold (wpAny M A t Q E s)) : wpAny M A t Q E s := h
/-- a brake: the numbers of statements at which the walk holds -/
def Brake (_l : List Nat) : Prop := True
theorem Hold.brk {l : List Nat} {M : Model} {A : Around} {b : List Stmt} {env : Env} {Q : Flow → Shared → Prop} {E : Value → Shared → Prop} {s : Shared} (_ : Brake l) (_ : l.contains b.length = true) (h : Hold (wpAny M A (execs b env) Q E s)) : wpAny M A (execs b env) Q E s := h
end Mine
end
section
open PySem PySem.W PyProof.Rows PySem.Builtin PySem.Spec PySem.Calls
set_option maxRecDepth 100000
set_option maxHeartbeats 4000000
namespace Mine
open LCg
section
variable {prog : Program} {w : World} {A : Around} {E : Value → Shared → Prop} {s : Shared} {h₀ : Heap} {L : Addr} {m : Str → Option Value} {env : Env}
/-- a comprehension whose element gives an int: over any items -/
theorem crest_I {α : Type} {elt : Expr} {x : Str} {scope : Scope} {cl : List (Str × Addr)} {S : List (Addr × Obj) → Prop} {P : Nat → Value → Prop} {Fin : List Value → List (Addr × Obj) → Prop} {news : List (Addr × Obj)} {n : Nat} (xs : List α) (g : α → Int) (V : α → Value → Prop) (hn : xs.length = n)
    (hP : ∀ i v, i < n → P i v → ∃ a, xs[i]? = some a ∧ V a v)
    (turn : ∀ a v I oI C oC D m₂ ys h tk (E' : Value → Shared → Prop), a ∈ xs → V a v → NsObj oC m₂ → m₂ x = some v → Fr h₀ L h m → News h₀ L h ((I, oI) :: (C, oC) :: (D, lst ys) :: news) → Off3 I C D news → ((@Ne Nat I C) ∧ (@Ne Nat I D) ∧ (@Ne Nat C D)) →
      wpAny (model prog w) A (eval elt (compEnvC scope cl C env)) (CompEnd h₀ L m { s with heap := h, toks := tk } I oI C oC D (lst ys) S (fun y news' => KCfEl news (g a) y news')) E' { s with heap := h, toks := tk })
    (fin : ∀ ys, IntsAre ys (xs.map g) → Fin ys news) : CompRest prog w A h₀ L m env elt x scope cl s S P Fin n 0 [] news := by
  have key : ∀ (j i : Nat) (ys : List Value), i + j = n → IntsAre ys ((xs.take i).map g) → CompRest prog w A h₀ L m env elt x scope cl s S P Fin j i ys news := by
    intro j
    induction j with
    | zero =>
      intro i ys hi hy
      have e : i = xs.length := by omega
      subst e
      rw [List.take_length] at hy
      exact CompRest.zero (fin ys hy)
    | succ j ih =>
      intro i ys hi hy
      refine CompRest.succ ?_
      intro v I oI C oC D m₂ h tk E' hv hC hx F N off ne
      obtain ⟨a, ha, hv'⟩ := hP i v (by omega) hv
      refine wpAny_mono (turn a v I oI C oC D m₂ ys h tk E' (List.mem_of_getElem? ha) hv' hC hx F N off ne) (fun y s₂ hq => ?_) fun _ _ e => e
      obtain ⟨h', tk', nw, e, F', N', off', hS, hn', t', rfl⟩ := hq
      rw [hn'] at N' off' hS
      refine ⟨h', tk', news, e, F', N', off', hS, ih (i + 1) _ (by omega) ?_⟩
      rw [List.take_add_one, ha]
      simpa using IntsAre.append hy (.cons (g a) t' .nil)
  exact key n 0 [] (by omega) (by simp only [List.take_zero, List.map_nil]; exact .nil)
theorem str_item {vs : List Value} {xs : List PySem.Str} (h : StrsAre vs xs) {i : Nat} {v : Value} (hv : vs.toArray[i]? = some v) : ∃ a, xs[i]? = some a ∧ ∃ t, v = .str a t := by
  obtain ⟨wd, t, rfl, hx⟩ := h.item i v (by simpa using hv)
  exact ⟨wd, hx, t, rfl⟩
theorem int_item {vs : List Value} {xs : List Int} (h : IntsAre vs xs) {i : Nat} {v : Value} (hv : vs.toArray[i]? = some v) : ∃ a, xs[i]? = some a ∧ ∃ t, v = .int a t := by
  obtain ⟨k, t, e, hk⟩ := IntsAre.at h i v (by simpa using hv)
  exact ⟨k, hk, t, e⟩
end
section
variable {prog : Program} {w : World} {A : Around} {E : Value → Shared → Prop} {s : Shared} {env : Env} {h₀ : Heap} {x : Str} {body : List Stmt} {Q : Flow → Shared → Prop}
theorem keepS_fr {m₁ m₀ : Str → Option Value} {stored : List Str} {v : Value} {h : Heap} {L : Addr} (hm : ∀ z, z ≠ x → stored.contains z = false → m₁ z = m₀ z) (F : Fr h₀ L h (fun y => if y = x then some v else m₁ y)) : Fr h₀ L h (fun y => if y = x then some v else if stored.contains y then m₁ y else m₀ y) := by
  have e : (fun y => if y = x then some v else m₁ y) = fun y => if y = x then some v else if stored.contains y then m₁ y else m₀ y := by
    funext z
    by_cases h1 : z = x
    · simp [h1]
    · simp only [if_neg h1]
      cases h2 : stored.contains z with
      | true => rfl
      | false => simpa using hm z h1 h2
  rw [e] at F; exact F
theorem keepS_frU {m₁ m₀ : Str → Option Value} {stored : List Str} {h : Heap} {L : Addr} (hm : ∀ z, z ≠ x → stored.contains z = false → m₁ z = m₀ z) (F : Fr h₀ L h m₁) : Fr h₀ L h (fun y => if y = x then m₁ y else if stored.contains y then m₁ y else m₀ y) := by
  have e : m₁ = fun y => if y = x then m₁ y else if stored.contains y then m₁ y else m₀ y := by
    funext z
    by_cases h1 : z = x
    · simp [h1]
    · simp only [if_neg h1]
      cases h2 : stored.contains z with
      | true => rfl
      | false => simpa using hm z h1 h2
  rw [e] at F; exact F
/-- a loop over a range that stores names that nothing behind asks -/
theorem for_rangeS {r : Addr} {a b c : Int} {t u v : Tok} {n : Nat} {m₀ : Str → Option Value} {news : List (Addr × Obj)} (stored : List Str) (P : Nat → Prop)
    (hh : A.handled = none) (hr : IsRange s.heap r a b c t u v) (hsmall : Builtin.Range.small a b c = true) (hsz : Builtin.Range.rangeSize a b c = (n : Int)) (F : Fr h₀ env.locals s.heap m₀) (N : News h₀ env.locals s.heap news) (hj : P 0)
    (turn : ∀ i k t h tk own (u : Str → Option Value), i < n → k = a + (i : Int) * c → OwnOff own (news.map (·.1)) → P i → Fr h₀ env.locals h (fun y => if y = x then some (.int k t) else if stored.contains y then u y else m₀ y) → News h₀ env.locals h (news ++ own) →
      wpAny (model prog w) A (execs body env) (InvPostG h₀ env.locals (fun m' nx => nx = news ∧ (∀ z, z ≠ x → stored.contains z = false → m' z = m₀ z) ∧ P (i + 1)) own { s with heap := h, toks := tk } Q) E { s with heap := h, toks := tk })
    (done : ∀ (u : Str → Option Value) h tk, P n → Fr h₀ env.locals h (fun y => if y = x then u y else if stored.contains y then u y else m₀ y) → News h₀ env.locals h news → Q .next { s with heap := h, toks := tk }) :
    wpAny (model prog w) A (pyIter (.ref r)) (fun it s₂ => LoopAtV prog w A h₀ env x body Q E it s₂) E s := by
  refine for_range (fun i m' nx => nx = news ∧ (∀ z, z ≠ x → stored.contains z = false → m' z = m₀ z) ∧ P i) hh hr hsmall hsz F N ⟨rfl, fun _ _ _ => rfl, hj⟩ ?_ ?_
  · rintro i k t m₁ nx h tk own hi hk hoff ⟨rfl, hm, hp⟩ F₁ N₁
    exact turn i k t h tk own m₁ hi hk hoff hp (keepS_fr hm F₁) N₁
  · rintro m₁ nx h tk ⟨rfl, hm, hp⟩ F₁ N₁
    exact done m₁ h tk hp (keepS_frU hm F₁) N₁
end
end Mine
end
section
open PySem PySem.W PyProof.Rows PySem.Builtin PySem.Spec PySem.Calls
set_option maxRecDepth 100000
set_option maxHeartbeats 4000000
namespace Mine
section
variable {prog : Program} {w : World} {A : Around} {E : Value → Shared → Prop} {s : Shared} {h₀ : Heap} {L : Addr} {m : Str → Option Value} {news : List (Addr × Obj)}
end
end Mine
end
section
open PySem PySem.W PyProof.Rows PySem.Builtin PySem.Spec PySem.Calls
set_option maxRecDepth 100000
set_option maxHeartbeats 4000000
namespace Mine
open LCg LCt
section
variable {prog : Program} {w : World} {A : Around} {E : Value → Shared → Prop} {s : Shared} {h₀ : Heap} {L : Addr} {m : Str → Option Value} {env : Env}
def TestEnd (b : Bool) (P N : Prop) (ok : Bool) : Prop := ok = b ∧ if ok = true then P else N
/-- a comprehension over ints with one test, its items kept as they are -/
theorem crest_T {ct elt : Expr} {x : Str} {scope : Scope} {cl : List (Str × Addr)} {S : List (Addr × Obj) → Prop} {P : Nat → Value → Prop} {Fin : List Value → List (Addr × Obj) → Prop} {news : List (Addr × Obj)} {n : Nat} (xs : List Int) (c : Int → Bool) (hn : xs.length = n)
    (hP : ∀ i v, i < n → P i v → ∃ a, xs[i]? = some a ∧ ∃ t, v = .int a t)
    (turn : ∀ a t I oI C oC D m₂ ys h tk (E' : Value → Shared → Prop), a ∈ xs → NsObj oC m₂ → m₂ x = some (.int a t) → Fr h₀ L h m → News h₀ L h ((I, oI) :: (C, oC) :: (D, lst ys) :: news) → Off3 I C D news → ((@Ne Nat I C) ∧ (@Ne Nat I D) ∧ (@Ne Nat C D)) →
      wpAny (model prog w) A (isTrue ct (compEnvC scope cl C env) (eval ct (compEnvC scope cl C env))) (fun ok s' => TestEnd (c a)
        (wpAny (model prog w) A (eval elt (compEnvC scope cl C env)) (CompEnd h₀ L m { s with heap := h, toks := tk } I oI C oC D (lst ys) S (fun y news' => KCfEl news a y news')) E' s')
        (CompEnd h₀ L m { s with heap := h, toks := tk } I oI C oC D (lst ys) S (fun _ news' => news' = news) Value.none s') ok) E' { s with heap := h, toks := tk })
    (fin : ∀ ys, IntsAre ys (xs.filter c) → Fin ys news) : CompRestT prog w A h₀ L m env ct elt x scope cl s S P Fin n 0 [] news := by
  have key : ∀ (j i : Nat) (ys : List Value), i + j = n → IntsAre ys ((xs.take i).filter c) → CompRestT prog w A h₀ L m env ct elt x scope cl s S P Fin j i ys news := by
    intro j
    induction j with
    | zero =>
      intro i ys hi hy
      have e : i = xs.length := by omega
      subst e
      rw [List.take_length] at hy
      exact CompRestT.zero (fin ys hy)
    | succ j ih =>
      intro i ys hi hy
      refine CompRestT.succ ?_
      intro v I oI C oC D m₂ h tk E' hv hC hx F N off ne
      obtain ⟨a, ha, t, rfl⟩ := hP i v (by omega) hv
      have hs : (xs.take (i + 1)).filter c = (xs.take i).filter c ++ if c a then [a] else [] := by
        rw [List.take_add_one, ha, List.filter_append]
        cases hc : c a <;> simp [hc]
      refine wpAny_mono (turn a t I oI C oC D m₂ ys h tk E' (List.mem_of_getElem? ha) hC hx F N off ne) (fun ok s₂ hq => ?_) fun _ _ e => e
      obtain ⟨rfl, hq⟩ := hq
      cases hc : c a with
      | true =>
        rw [hc] at hq hs
        simp only [if_true] at hq hs ⊢
        refine wpAny_mono hq (fun y s₃ hq => ?_) fun _ _ e => e
        obtain ⟨h', tk', nw, e, F', N', off', hS, hn', t', rfl⟩ := hq
        rw [hn'] at N' off' hS
        refine ⟨h', tk', news, e, F', N', off', hS, ih (i + 1) _ (by omega) ?_⟩
        rw [hs]
        exact IntsAre.append hy (.cons a t' .nil)
      | false =>
        rw [hc] at hq hs
        simp only [Bool.false_eq_true, if_false] at hq hs ⊢
        obtain ⟨h', tk', nw, e, F', N', off', hS, hn'⟩ := hq
        rw [hn'] at N' off' hS
        refine ⟨h', tk', news, e, F', N', off', hS, ih (i + 1) _ (by omega) ?_⟩
        rw [hs, List.append_nil]
        exact hy
  exact key n 0 [] (by omega) (by simp only [List.take_zero, List.filter_nil]; exact .nil)
theorem TestEnd.tt {b : Bool} {P N : Prop} (e : b = true) (h : P) : TestEnd b P N true := ⟨e.symm, by simpa using h⟩
theorem TestEnd.ff {b : Bool} {P N : Prop} (e : b = false) (h : N) : TestEnd b P N false := ⟨e.symm, by simpa using h⟩
theorem TestEnd.of {b : Bool} {P N : Prop} (h1 : b = true → P) (h2 : b = false → N) : TestEnd b P N b := ⟨rfl, by cases b with | true => simpa using h1 rfl | false => simpa using h2 rfl⟩
end
end Mine
end
section
open PySem PySem.W PyProof.Rows PySem.Builtin PySem.Spec PySem.Calls
set_option maxRecDepth 100000
set_option maxHeartbeats 4000000
namespace Mine
section
variable {prog : Program} {w : World} {A : Around} {E : Value → Shared → Prop} {s : Shared} {env : Env} {h₀ : Heap} {X : Str} {body : List Stmt} {Q : Flow → Shared → Prop}
end
theorem allLt_ne {d : Addr} : ∀ {l : List (Addr × Obj)}, AllLt d l → ∀ p ∈ l, p.1 ≠ d
  | [], _, _, h => nomatch h
  | _ :: _, x, p, h => by
    rcases List.mem_cons.mp h with rfl | h
    · exact Nat.ne_of_lt x.1
    · exact allLt_ne x.2 p h
section
variable {prog : Program} {w : World} {A : Around} {E : Value → Shared → Prop} {s : Shared} {h₀ : Heap} {L : Addr} {m : Str → Option Value} {rest : List (Addr × Obj)}
theorem app_head {D : Addr} {vs : List Value} {k : Nat} {v : Value} {Q : Value → Shared → Prop} (F : Fr h₀ L s.heap m) (N : News h₀ L s.heap ((D, listOf vs.toArray k) :: rest)) (hne : ∀ p ∈ rest, p.1 ≠ D) (hsz : vs.length ≤ 100000)
    (h : ∀ h', Fr h₀ L h' m → News h₀ L h' ((D, listOf (vs ++ [v]).toArray (k + 1)) :: rest) → Q .none { s with heap := h' }) : wpAny (model prog w) A (call (.builtin "list.append") [.ref D, v]) Q E s := by
  refine append_K F N (.head hne) (fun h' F' N' => h h' F' ?_) (by rw [sizeLine_eq, List.size_toArray]; omega)
  have e : vs.toArray.push v = (vs ++ [v]).toArray := by simp
  rw [← e]; exact N'
end
end Mine
end
section
open PySem PySem.W PyProof.Rows PySem.Builtin PySem.Spec PySem.Calls
set_option maxRecDepth 100000
set_option maxHeartbeats 4000000
namespace Mine
section
variable {prog : Program} {w : World} {A : Around} {E : Value → Shared → Prop} {s : Shared} {h₀ : Heap} {L : Addr} {m : Str → Option Value} {news : List (Addr × Obj)}
end
def Keep (l : List Str) (m m' : Str → Option Value) : Prop := ∀ z, l.contains z = false → m' z = m z
theorem fr_put {h₀ h : Heap} {L : Addr} {m m' : Str → Option Value} (F : Fr h₀ L h m) (e : m = m') : Fr h₀ L h m' := e ▸ F
theorem put_at {m : Str → Option Value} {x : Str} {v : Value} {f : Str → Option Value} (e : m x = some v) (hf : m = f) : m = fun z => if z = x then some v else f z := by
  funext z
  by_cases h1 : z = x
  · simp [h1, e]
  · simp [h1, hf]
end Mine
end
section
open PySem PySem.W PyProof.Rows PySem.Builtin PySem.Builtin.Str
set_option maxRecDepth 100000
set_option maxHeartbeats 8000000
namespace Mine
local macro_rules | `(tactic| walk_at "pad0") => `(tactic| skip)
local macro_rules | `(tactic| walk_at "pad1") => `(tactic| skip)
local macro_rules | `(tactic| walk_at "pad2") => `(tactic| skip)
theorem fill : PySem.Challenge.rw_rw0014_02 = PySem.Challenge.rw_rw0014_02 ∧ hd.heap_39 = hd.heap_39 := by k_fill; exact ⟨rfl, rfl⟩


def dots : Str := Str.ofString "..."
def emLoop (got : Str) (hi : Int) : List Str → Int → Bool
  | [], _ => true
  | w :: r, a => if find4 got w a hi < 0 then false else emLoop got hi r (find4 got w a hi + w.length)
def emB (w0 : Str) (mid : List Str) (wl got : Str) : Bool :=
  if w0.length != 0 && !(Txt.startswith got w0) then false
  else if wl.length != 0 && !(Txt.endswith got wl) then false
  else if (got.length : Int) - wl.length < w0.length then false
  else emLoop got ((got.length : Int) - wl.length) ((if w0.length = 0 then [w0] else []) ++ (mid ++ if wl.length = 0 then [wl] else [])) w0.length
def emS (want got : Str) : Bool :=
  if (occurrences want (Str.ofString "...") 0 want.length 1).isEmpty then want == got else
  emB ((Txt.split want (Str.ofString "...")).headD Str.empty) (Txt.split want (Str.ofString "...")).tail.dropLast ((Txt.split want (Str.ofString "...")).getLastD Str.empty) got
theorem emS_of {want got w0 wl : Str} {mid : List Str} (h : (occurrences want (Str.ofString "...") 0 want.length 1).isEmpty = false) (e : Txt.split want (Str.ofString "...") = w0 :: (mid ++ [wl])) : emS want got = emB w0 mid wl got := by
  unfold emS
  rw [h, e]
  have h1 : (w0 :: (mid ++ [wl])).getLastD Str.empty = wl := by
    rw [← List.cons_append, List.getLastD_concat]
  rw [h1]; simp
theorem emS_no {want got : Str} (h : ¬ (occurrences want (Str.ofString "...") 0 want.length 1).isEmpty = false) : (want == got) = emS want got := by
  unfold emS
  simp only [Bool.not_eq_false] at h
  rw [h]; rfl
theorem emS_no' {want got : Str} (h : (occurrences want (Str.ofString "...") 0 want.length 1).isEmpty = true) : (want == got) = emS want got := by
  unfold emS
  rw [h]; rfl
theorem emLoop_start {want got w0 wl : Str} {mid xs : List Str} {a : Int} (h : (occurrences want (Str.ofString "...") 0 want.length 1).isEmpty = false) (e : Txt.split want (Str.ofString "...") = w0 :: (mid ++ [wl]))
    (h1 : w0.length ≠ 0 → Txt.startswith got w0 = true) (h2 : wl.length ≠ 0 → Txt.endswith got wl = true) (h3 : ¬ ((got.length : Int) - wl.length < w0.length))
    (hx : xs = (if w0.length = 0 then [w0] else []) ++ (mid ++ if wl.length = 0 then [wl] else [])) (ha : a = w0.length) {hi : Int} (hh : hi = (got.length : Int) - wl.length) : emLoop got hi xs a = emS want got := by
  subst hx ha hh
  rw [emS_of h e]
  unfold emB
  have q1 : (w0.length != 0 && !(Txt.startswith got w0)) = false := by
    by_cases k : w0.length = 0
    · simp [k]
    · simp [h1 k]
  have q2 : (wl.length != 0 && !(Txt.endswith got wl)) = false := by
    by_cases k : wl.length = 0
    · simp [k]
    · simp [h2 k]
  rw [q1, q2, if_neg Bool.false_ne_true, if_neg Bool.false_ne_true, if_neg h3]
structure emP (want got : Str) (hi : Int) (rest : List Str) (a : Int) : Prop where
  short : ∀ r ∈ rest, r.length ≤ want.length
  val : emLoop got hi rest a = emS want got
theorem emP.start {want got w0 wl : Str} {mid xs : List Str} {a : Int} (h : (occurrences want (Str.ofString "...") 0 want.length 1).isEmpty = false) (e : Txt.split want (Str.ofString "...") = w0 :: (mid ++ [wl]))
    (h1 : w0.length ≠ 0 → Txt.startswith got w0 = true) (h2 : wl.length ≠ 0 → Txt.endswith got wl = true) (h3 : ¬ ((got.length : Int) - wl.length < w0.length))
    (hx : xs = (if w0.length = 0 then [w0] else []) ++ (mid ++ if wl.length = 0 then [wl] else [])) (ha : a = w0.length) {hi : Int} (hh : hi = (got.length : Int) - wl.length) : emP want got hi xs a := by
  refine ⟨?_, emLoop_start h e h1 h2 h3 hx ha hh⟩
  intro r hr
  refine part_short (y := Str.ofString "...") ?_
  rw [e]
  subst hx
  simp only [List.mem_append, List.mem_cons, List.not_mem_nil, or_false] at hr ⊢
  rcases hr with hr | hr | hr
  · split at hr
    · exact .inl (by simpa using hr)
    · simp at hr
  · exact .inr (.inl hr)
  · split at hr
    · exact .inr (.inr (by simpa using hr))
    · simp at hr
theorem emP.go {want got wd : Str} {hi a : Int} {rest : List Str} (h : emP want got hi (wd :: rest) a) (k : ¬ find4 got wd a hi < 0) : emP want got hi rest (find4 got wd a hi + wd.length) := by
  refine ⟨fun r hr => h.short r (.tail _ hr), ?_⟩
  rw [← h.val]; simp [emLoop, k]
theorem emP.out {want got wd : Str} {hi a : Int} {rest : List Str} (h : emP want got hi (wd :: rest) a) (k : find4 got wd a hi < 0) : false = emS want got := by
  rw [← h.val]; simp [emLoop, k]
theorem emP.fin {want got : Str} {hi a : Int} (h : emP want got hi [] a) : true = emS want got := h.val
local macro_rules | `(tactic| walk_at "em_eq") => `(tactic| first
  | exact emP.out (by assumption) (by assumption)
  | exact emP.fin (by assumption)
  | exact emS_no (by assumption) | exact emS_no' (by assumption)
  | (rw [emS_of (by assumption) (by assumption)]; simp_all [emB]; done)
  | (rw [emS_of (by assumption) (by assumption)]; simp_all [emB]; omega))
section
variable {prog : Program} {w : World} {A : Around} {E : Value → Shared → Prop} {s : Shared} {env : Env} {h₀ : Heap} {x : Str} {body : List Stmt} {Q : Flow → Shared → Prop}
theorem em_iter {want got : Str} {l : Addr} {vs : List Value} {xs : List Str} {nn : Nat} {m₀ : Str → Option Value} {news : List (Addr × Obj)} {a₀ hi : Int} {t₀ tz : Tok}
    (hh : A.handled = none) (hl : (l, listOf vs.toArray nn) ∈ news) (hs : StrsAre vs xs) (F : Fr h₀ env.locals s.heap m₀) (N : News h₀ env.locals s.heap news) (hy : m₀ (Str.ofString "startpos") = some (.int a₀ t₀)) (_hz : m₀ (Str.ofString "endpos") = some (.int hi tz)) (hP : emP want got hi xs a₀)
    (turn : ∀ wd rest t a ta h tk own, emP want got hi (wd :: rest) a → wd.length ≤ want.length → OwnOff own (news.map (·.1)) → Fr h₀ env.locals h (fun z => if z = x then some (.str wd t) else if z = Str.ofString "startpos" then some (.int a ta) else m₀ z) → News h₀ env.locals h (news ++ own) →
      wpAny (model prog w) A (execs body env) (InvPostG h₀ env.locals (fun m' nx => nx = news ∧ (∃ a' t', m' (Str.ofString "startpos") = some (.int a' t') ∧ emP want got hi rest a') ∧ ∀ z, z ≠ x → z ≠ Str.ofString "startpos" → m' z = m₀ z) own { s with heap := h, toks := tk } Q) E { s with heap := h, toks := tk })
    (done : ∀ (u : Str → Option Value) t a h tk, emP want got hi [] a → Fr h₀ env.locals h (fun z => if z = x then u z else if z = Str.ofString "startpos" then some (.int a t) else m₀ z) → News h₀ env.locals h news → Q .next { s with heap := h, toks := tk }) :
    wpAny (model prog w) A (pyIter (.ref l)) (fun it s₂ => LoopAtV prog w A h₀ env x body Q E it s₂) E s :=
  iter_strs1 (y := Str.ofString "startpos") (emP want got hi) hh hl hs F N hy hP (fun wd rest t a ta h tk own hp _ => turn wd rest t a ta h tk own hp (hp.short _ (.head _))) done
end
section
variable {prog : Program} {w : World} {A : Around} {E : Value → Shared → Prop} {s : Shared} {h₀ : Heap} {L : Addr} {m : Str → Option Value} {news news' : List (Addr × Obj)}
theorem item_lastOf2 {value slice : PySem.Expr} {D : Addr} {v0 : Value} {r : List Value} {n : Nat} {u : Tok} {v : Value} {Q : Value → Shared → Prop} (N : News h₀ L s.heap news) (hm : (D, listOf (v0 :: (r ++ [v])).toArray n) ∈ news) (h : Q v s)
    (hs : subscripted slice false (.ref D) (.int (-1) u) = operate [.ref D, .int (-1) u] (getItem (.ref D) (.int (-1) u)) := by with_unfolding_all rfl) :
    wpAny (model prog w) A (subscriptTail value slice (.ref D) (.int (-1) u)) Q E s := item_lastOf (r := v0 :: r) N hm rfl h hs
end
local macro_rules | `(tactic| walk_at "call builtin:str.split") => `(tactic| ((with_reducible show wpAny _ _ (call (Value.builtin "str.split") _) _ _ _); (refine split_em (by k_asm) (by k_asm) (by decide +kernel) (by decide +kernel) (by assumption) ?_ (by rw [sizeLine_eq]; omega)); intro D' t0' tl' w0' mid' wl' vm' h' k' e1' e2' b1' b2' b3' F' N' l1; (try k_lt l1); (have e3' := StrsAre.len_eq e2')))
local macro_rules | `(tactic| walk_at "subscriptTail Name Constant ref int") => `(tactic| ((with_reducible show wpAny _ _ (subscriptTail _ _ (Value.ref _) (Value.int 0 _)) _ _ _); (with_unfolding_all refine item_at (by k_asm) (by k_mem) (by decide) (by decide) rfl ?_)))
local macro_rules | `(tactic| walk_at "subscriptTail") => `(tactic| ((with_reducible show wpAny _ _ (subscriptTail _ _ (Value.ref _) (Value.int (-1) _)) _ _ _); first | (with_unfolding_all refine item_lastOf (by k_asm) (by k_mem) (rfl : _ :: (_ ++ [_]) = (_ :: _) ++ [_]) ?_) | (with_unfolding_all refine item_lastOf (by k_asm) (by k_mem) rfl ?_)))
local macro_rules | `(tactic| walk_at "subscriptTail") => `(tactic| ((with_reducible show wpAny _ _ (subscriptTail _ _ (Value.ref _) (Value.int (-1) _)) _ _ _); (with_unfolding_all refine item_lastOf2 (by k_asm) (by k_mem) ?_)))
local macro_rules | `(tactic| walk_at "call builtin:len") => `(tactic| ((with_reducible show wpAny _ _ (call (Value.builtin "len") [Value.ref _]) _ _ _); (with_unfolding_all refine kst_len (by k_asm) (by k_mem) (by simp; rfl) (by omega) ?_)))
local macro_rules | `(tactic| walk_at "delete Subscript") => `(tactic| refine wpAny_delete_Subscript ?_)
local macro_rules | `(tactic| walk_at "delItem ref int") => `(tactic| ((with_reducible show wpAny _ _ (delItem (Value.ref _) (Value.int 0 _)) _ _ _); (with_reducible refine' del_first' (by k_asm) (by k_asm) ?k3 ?k4 ?_); (case k3 => k_upd); (case k4 => (simp; omega)); intro h' F' N'))
local macro_rules | `(tactic| walk_at "delItem ref int") => `(tactic| ((with_reducible show wpAny _ _ (delItem (Value.ref _) (Value.int (-1) _)) _ _ _); (with_reducible refine' del_last2 (by k_asm) (by k_asm) ?k3 ?k4 ?_); (case k3 => with_reducible k_upd); (case k4 => omega); intro h' F' N'))
local macro_rules | `(tactic| walk_at "delItem ref int") => `(tactic| ((with_reducible show wpAny _ _ (delItem (Value.ref _) (Value.int (-1) _)) _ _ _); (with_reducible refine' del_last' (by k_asm) (by k_asm) ?k3 ?k4 ?_); (case k3 => with_reducible k_upd); (case k4 => omega); intro h' F' N'))
local macro_rules | `(tactic| walk_at "InvEndG") => `(tactic| (refine InvEndG.intro (by assumption) (by assumption) ⟨rfl, ⟨_, _, by with_unfolding_all rfl, emP.go (by assumption) (by assumption)⟩, by k_same2⟩ (by assumption) (by kcf_all) (by kcf_all)))
local macro_rules | `(tactic| walk_at "call builtin:str.find") => `(tactic| ((show wpAny _ _ (call (Value.builtin "str.find") [Value.str _ _, Value.str _ _, Value.int _ _, Value.int _ _]) _ _ _); refine find4_rule ?_))

theorem cut_at {M : Model} {A : Around} {E : Value → Shared → Prop} {Q : Flow → Shared → Prop} {s : Shared} {b : List Stmt} {env : Env} (n : Nat) (P : Shared → Prop) (tail : ∀ s', P s' → wpAny M A (execs (b.drop n) env) Q E s') (go : (∀ s', P s' → wpAny M A (execs (b.drop n) env) Q E s') → wpAny M A (execs b env) Q E s) : wpAny M A (execs b env) Q E s := go tail
local macro_rules | `(tactic| walk_at "execs cons") => `(tactic| ((with_reducible show wpAny _ _ (execs [Stmt.For _ _ _ _ _, _] _) _ _ _); apply Hold.wp))
theorem em (w : World) (mean : ExcName → Option Value) (mg mb : Str → Option Value) (news : List (Addr × Obj)) (want got : Str) (t1 t2 : Tok) :
  CbClaim PySem.Challenge.rw_rw0014_02.row.prog w (hd.heap_39 w.params) hd.view_39 (looseW hd.view_39 [Str.ofString "_twin_re_1", Str.ofString "_twin_re_2"]) mean mg mb 38 news [] (want.length ≤ 1000000 ∧ got.length ≤ 1000000) [.str want t1, .str got t2] (fun _ => .bool (emS want got)) := by
  w_on
  k_with "tree" => walk_at "em_eq"
  dsimp only [CbClaim, CbLists, CbRet]; intros; rename_i hret
  refine wpAny_call ?_
  k_dflt cell_enter
  rename_i sA _ _ _ _ _ _ _ _ _ _ _ g9 L9 h9 FG9 F9 N9 B9 X9 T9
  refine cut_at 9 (fun s' => ∃ (h' : Heap) (tk' : Nat) (m' : Str → Option Value) (D : Addr) (vs : List Value) (xs : List Str) (nn : Nat) (a₀ hi : Int) (ta tz tg : Tok), s' = { sA with heap := h', toks := tk' } ∧ Fr g9 L9 h' m' ∧ m' (Str.ofString "startpos") = some (.int a₀ ta) ∧ m' (Str.ofString "endpos") = some (.int hi tz) ∧ m' (Str.ofString "ws") = some (.ref D) ∧ m' (Str.ofString "got") = some (.str got tg) ∧ News g9 L9 h' ((D, listOf vs.toArray nn) :: news) ∧ StrsAre vs xs ∧ emP want got hi xs a₀) ?_ ?_
  · rintro s' ⟨h', tk', m', D, vs, xs, nn, a₀, hi, ta, tz, tg, rfl, F', e1, e2, e3, e4, N', hS, hP⟩
    clear F9 N9
    have F := fr_put F' (put_at e1 (put_at e2 (put_at e3 (put_at e4 rfl))))
    clear F'
    show wpAny _ _ (execs (_ :: _ :: _) _) _ _ _
    refine wpAny_execs_cons ?_
    (rename Fr g9 _ _ _ => lF'); (with_unfolding_all refine' For_invVF lF' ?k1 ?k2 ?_); (case k1 => exact rfl); (case k2 => exact rfl); k_whole; walk1
    all_goals ((rename Fr g9 _ _ _ => lF'); (rename News g9 _ _ _ => lN'); (with_unfolding_all refine' em_iter (want := want) (got := got) (by rfl) (by k_mem) hS lF' lN' (by rfl) (by rfl) hP (fun wd' rest' t' a' ta' h' tk' own' hP' hmem' hoff' F' N' => ?_) (fun u' t' a' h' tk' hP' F' N' => ?_)); clear lF' lN'; kcf_last)
    all_goals first
      | ((with_reducible show wpAny _ _ _ _ _ _); (try simp only [List.cons_append] at N'); k_steps)
      | k_steps
    all_goals (try (cb_end hret))
  · intro tail
    k_steps
    all_goals (try (cb_end hret))
    all_goals unfold Hold
    all_goals
      (rename Fr _ _ _ _ => lF')
      (rename News _ _ _ _ => lN')
      exact tail _ ⟨_, _, _, _, _, _, _, _, _, _, _, _, rfl, lF', by with_unfolding_all rfl, by with_unfolding_all rfl, by with_unfolding_all rfl, by with_unfolding_all rfl, cb_drop lN' (by kcf_all),
        by (first | assumption | exact kct_snoc (by assumption) | exact .cons _ _ (kct_snoc (by assumption)) | exact .cons _ _ (by assumption)),
        by exact emP.start (by assumption) (by assumption) (by intro hz; first | assumption | (exfalso; omega)) (by intro hz; first | assumption | (exfalso; omega)) (by first | assumption | omega) (by first | (rw [if_pos (by omega), if_pos (by omega)]; simp; done) | (rw [if_pos (by omega), if_neg (by omega)]; simp; done) | (rw [if_neg (by omega), if_pos (by omega)]; simp; done) | (rw [if_neg (by omega), if_neg (by omega)]; simp; done)) (by omega) (by omega)⟩
end Mine
end
section
open PySem PySem.W PyProof.Rows PySem.Builtin PySem.Builtin.Str PySem.StrLaws
set_option maxRecDepth 100000
namespace Mine
def S (l : List Nat) : Str := ⟨l.toArray⟩
theorem S_list (l : List Nat) : (S l).cps.toList = l := rfl
theorem S_len (l : List Nat) : (S l).length = l.length := by show l.toArray.size = _; simp
theorem S_inj {a b : List Nat} (h : S a = S b) : a = b := by
  have := congrArg (fun x : Str => x.cps.toList) h
  exact this
theorem S_beq (a b : List Nat) : (S a == S b) = (a == b) := by
  cases h : a == b with
  | true => rw [eq_of_beq h]; exact beq_self_eq_true _
  | false =>
    apply Bool.eq_false_iff.mpr
    intro h2
    have e : S a = S b := eq_of_beq h2
    rw [S_inj e] at h
    simp at h
theorem str_app (a b : Str) : a ++ b = ⟨a.cps ++ b.cps⟩ := rfl
theorem S_app (a b : List Nat) : S a ++ S b = S (a ++ b) := by
  rw [str_app]
  simp [S]
theorem subAt_S (l m : List Nat) (i : Nat) : subAt (S l) (S m) i = ((l.drop i).take m.length == m) := by
  rw [subAt_eq, S_list, S_list, S_len]
theorem str_ext {a b : Str} (h : a.cps.toList = b.cps.toList) : a = b := by
  cases a; cases b
  simp only [Str.mk.injEq]
  exact Array.toList_inj.mp h
theorem strSub_S (l : List Nat) (a b : Nat) : strSub (S l) a b = S ((l.drop a).take (b - a)) := by
  apply str_ext
  rw [strSub_toList]
  rfl
def jnL (d : List Nat) : List (List Nat) → List Nat
  | [] => []
  | [p] => p
  | p :: q :: r => p ++ d ++ jnL d (q :: r)
theorem join_S' (d : List Nat) : ∀ ps : List (List Nat), Str.join (S d) (ps.map S) = S (jnL d ps)
  | [] => rfl
  | [p] => rfl
  | p :: q :: r => by
    have h := join_S' d (q :: r)
    show S p ++ S d ++ Str.join (S d) ((q :: r).map S) = _
    rw [h, S_app, S_app]
    rfl
theorem join_S (d : List Nat) (ps : List (List Nat)) : Txt.join (S d) (ps.map S) = S (jnL d ps) := by
  have e : Txt.join (S d) (ps.map S) = Str.join (S d) (ps.map S) := glued_eq_join _ _
  rw [e, join_S']
def cutsL (n : Nat) : List (List Nat) → Nat → List Nat
  | [], _ => []
  | [_], _ => []
  | p :: q :: r, a => (a + p.length) :: cutsL n (q :: r) (a + p.length + n)
def endL (n : Nat) : List (List Nat) → Nat → Nat
  | [], a => a
  | [_], a => a
  | p :: q :: r, a => endL n (q :: r) (a + p.length + n)
theorem at_get {x d : List Nat} {c hi k : Nat} (h : At (S x) (S (c :: d)) hi k) : x[k]? = some c := by
  have h2 := h.2
  rw [subAt_S] at h2
  have h3 := eq_of_beq h2
  have h4 := congrArg (fun l => l[0]?) h3
  simp only [List.length_cons, List.getElem?_cons_zero] at h4
  rw [List.getElem?_take_of_lt (by omega), List.getElem?_drop] at h4
  simpa using h4
theorem not_at {pre p post d : List Nat} {c hi k : Nat} (hf : c ∉ p) (h1 : pre.length ≤ k) (h2 : k < pre.length + p.length) : ¬ At (S (pre ++ (p ++ post))) (S (c :: d)) hi k := by
  intro h
  have h3 := at_get h
  rw [List.getElem?_append_right h1, List.getElem?_append_left (by omega)] at h3
  exact hf (List.mem_of_getElem? h3)
theorem chain_L (c : Nat) (d : List Nat) : ∀ (ps : List (List Nat)) (pre x : List Nat), ps ≠ [] → x = pre ++ jnL (c :: d) ps → (∀ p ∈ ps, c ∉ p) →
    ChainG (S x) (S (c :: d)) (S x).length pre.length (cutsL (d.length + 1) ps pre.length) (endL (d.length + 1) ps pre.length) ∧ (∀ k, endL (d.length + 1) ps pre.length ≤ k → ¬ At (S x) (S (c :: d)) (S x).length k) ∧ partsFrom (S x) (d.length + 1) pre.length (cutsL (d.length + 1) ps pre.length) = ps.map S
  | [], _, _, h, _, _ => absurd rfl h
  | [p], pre, x, _, hx, hf => by
    subst hx
    refine ⟨rfl, fun k hk hA => ?_, ?_⟩
    · have h1 := hA.1
      simp only [jnL, S_len, List.length_append, List.length_cons] at h1
      have h2 : pre ++ jnL (c :: d) [p] = pre ++ (p ++ []) := by simp [jnL]
      rw [h2] at hA
      exact not_at (hf p (.head _)) hk (by omega) hA
    · show [strSub _ pre.length _] = [S p]
      rw [strSub_S, S_len]
      simp [jnL]
  | p :: q :: r, pre, x, _, hx, hf => by
    have ex : x = (pre ++ p ++ (c :: d)) ++ jnL (c :: d) (q :: r) := by rw [hx]; simp [jnL]
    obtain ⟨h1, h2, h3⟩ := chain_L c d (q :: r) (pre ++ p ++ (c :: d)) x (by simp) ex (fun z hz => hf z (.tail _ hz))
    have el : (pre ++ p ++ (c :: d)).length = pre.length + p.length + (d.length + 1) := by simp [Nat.add_assoc]
    rw [el] at h1 h2 h3
    have ex2 : x = pre ++ (p ++ ((c :: d) ++ jnL (c :: d) (q :: r))) := by rw [hx]; simp [jnL]
    refine ⟨⟨by omega, ⟨?_, ?_⟩, fun k hk1 hk2 => ?_, ?_⟩, h2, ?_⟩
    · rw [S_len, S_len, ex2]
      simp only [List.length_append, List.length_cons]
      omega
    · rw [subAt_S, ex2, List.drop_append, List.drop_of_length_le (by omega)]
      simp
    · rw [ex2]
      exact not_at (hf p (.head _)) hk1 hk2
    · rw [S_len]
      exact h1
    · show strSub (S x) pre.length (pre.length + p.length) :: partsFrom _ _ _ _ = S p :: _
      rw [h3, strSub_S, ex2]
      simp
theorem chain_uniq {s sub : Str} {hi : Nat} : ∀ {c1 c2 : List Nat} {a f1 f2 : Nat}, ChainG s sub hi a c1 f1 → (∀ k, f1 ≤ k → ¬ At s sub hi k) → ChainG s sub hi a c2 f2 → (∀ k, f2 ≤ k → ¬ At s sub hi k) → c1 = c2
  | [], [], _, _, _, _, _, _, _ => rfl
  | [], d :: r, a, f1, f2, h1, n1, h2, _ => by
    have e : f1 = a := h1
    subst e
    exact absurd h2.2.1 (n1 d h2.1)
  | d :: r, [], a, f1, f2, h1, _, h2, n2 => by
    have e : f2 = a := h2
    subst e
    exact absurd h1.2.1 (n2 d h1.1)
  | c :: r, d :: q, a, f1, f2, h1, n1, h2, n2 => by
    have e : c = d := by
      rcases Nat.lt_trichotomy c d with h | h | h
      · exact absurd h1.2.1 (h2.2.2.1 c h1.1 h)
      · exact h
      · exact absurd h2.2.1 (h1.2.2.1 d h2.1 h)
    subst e
    rw [chain_uniq h1.2.2.2 n1 h2.2.2.2 n2]
/-- cutting a join whose parts are free of the mark's first sign -/
theorem split_join (c : Nat) (d : List Nat) (ps : List (List Nat)) (h2 : 2 ≤ ps.length) (hf : ∀ p ∈ ps, c ∉ p) (hk : Str.strKind (S (c :: d)) = 1) :
    Txt.split (S (jnL (c :: d) ps)) (S (c :: d)) = ps.map S ∧ (occurrences (S (jnL (c :: d) ps)) (S (c :: d)) 0 (S (jnL (c :: d) ps)).length 1).isEmpty = false := by
  have hne : ps ≠ [] := by rintro rfl; simp at h2
  obtain ⟨g1, g2, g3⟩ := chain_L c d ps [] (jnL (c :: d) ps) hne rfl hf
  obtain ⟨f, t1, t2⟩ := occ_tight (S (jnL (c :: d) ps)) (S (c :: d)) (by rw [S_len]; simp)
  have hc := chain_uniq t1 t2 g1 g2
  obtain ⟨p, q, r, rfl⟩ : ∃ p q r, ps = p :: q :: r := by
    cases ps with
    | nil => simp at h2
    | cons p r => cases r with
      | nil => simp at h2
      | cons q r => exact ⟨p, q, r, rfl⟩
  have hA : At (S (jnL (c :: d) (p :: q :: r))) (S (c :: d)) (S (jnL (c :: d) (p :: q :: r))).length (0 + p.length) := g1.2.1
  constructor
  · unfold Txt.split
    rw [if_neg, if_neg, hc, partsBetween_eq, S_len (c :: d)]
    · exact g3
    · rw [hc]
      simp [cutsL]
    · have h1 := hA.1
      have : 1 ≤ Str.strKind (S (jnL (c :: d) (p :: q :: r))) := by unfold Str.strKind; split <;> (try split) <;> omega
      simp only [Bool.or_eq_true, decide_eq_true_eq]
      omega
  · have h1 := (found_iff (S (jnL (c :: d) (p :: q :: r))) (S (c :: d))).mpr ⟨_, hA⟩
    simpa using h1
end Mine
end
section
open PySem PySem.W PyProof.Rows PySem.Builtin PySem.Builtin.Str PySem.StrLaws
set_option maxRecDepth 100000
namespace Mine
def enc (f : Bool → Nat) (l : List Bool) : Str := S (l.map f)
theorem enc_len (f : Bool → Nat) (l : List Bool) : (enc f l).length = l.length := by rw [enc, S_len, List.length_map]
theorem map_inj {f : Bool → Nat} (hf : f false ≠ f true) {a b : List Bool} (h : a.map f = b.map f) : a = b := by
  refine List.map_inj_right (f := f) ?_ |>.mp h
  intro x y e
  cases x <;> cases y <;> first | rfl | exact absurd e hf | exact absurd e.symm hf
theorem map_beq {f : Bool → Nat} (hf : f false ≠ f true) (a b : List Bool) : (a.map f == b.map f) = (a == b) := by
  cases h : a == b with
  | true => rw [eq_of_beq h]; exact beq_self_eq_true _
  | false =>
    apply Bool.eq_false_iff.mpr
    intro h2
    rw [map_inj hf (eq_of_beq h2)] at h
    simp at h
theorem pre_take (p w : List Bool) : (w.take p.length == p) = p.isPrefixOf w := by
  cases h : p.isPrefixOf w with
  | true =>
    have h1 := List.isPrefixOf_iff_prefix.mp h
    rw [← List.prefix_iff_eq_take.mp h1]
    exact beq_self_eq_true _
  | false =>
    apply Bool.eq_false_iff.mpr
    intro h2
    have h3 : p <+: w := List.prefix_iff_eq_take.mpr (eq_of_beq h2).symm
    rw [List.isPrefixOf_iff_prefix.mpr h3] at h
    simp at h
theorem subAt_B {f : Bool → Nat} (hf : f false ≠ f true) (w p : List Bool) (k : Nat) : subAt (enc f w) (enc f p) k = p.isPrefixOf (w.drop k) := by
  unfold enc
  rw [subAt_S, List.length_map, ← List.map_drop, ← List.map_take, map_beq hf, pre_take]
theorem pre_len {p w : List Bool} (h : p.isPrefixOf w = true) : p.length ≤ w.length := (List.isPrefixOf_iff_prefix.mp h).length_le
theorem starts_B {f : Bool → Nat} (hf : f false ≠ f true) (w p : List Bool) : Txt.startswith (enc f w) (enc f p) = p.isPrefixOf w := by
  unfold Txt.startswith
  rw [subAt_B hf, enc_len, enc_len, List.drop_zero]
  cases h : p.isPrefixOf w with
  | true => simp [pre_len h]
  | false => simp
theorem ends_B {f : Bool → Nat} (hf : f false ≠ f true) (w p : List Bool) : Txt.endswith (enc f w) (enc f p) = p.isSuffixOf w := by
  unfold Txt.endswith
  rw [subAt_B hf, enc_len, enc_len]
  cases h : p.isSuffixOf w with
  | true =>
    have h1 := List.isSuffixOf_iff_suffix.mp h
    have h2 := List.suffix_iff_eq_drop.mp h1
    rw [← h2]
    have h3 := h1.length_le
    simp [h3]
  | false =>
    apply Bool.eq_false_iff.mpr
    intro h2
    simp only [Bool.and_eq_true, decide_eq_true_eq] at h2
    obtain ⟨h3, h4⟩ := h2
    have h5 := List.isPrefixOf_iff_prefix.mp h4
    have h6 : p = w.drop (w.length - p.length) := h5.eq_of_length (by rw [List.length_drop]; omega)
    have h7 : p <:+ w := List.suffix_iff_eq_drop.mpr h6
    rw [List.isSuffixOf_iff_suffix.mpr h7] at h
    simp at h
def findL (w p : List Bool) (a hi : Nat) : Option Nat := (List.range' a (hi + 1 - a)).find? (fun k => decide (k + p.length ≤ hi) && p.isPrefixOf (w.drop k))
theorem find4_B {f : Bool → Nat} (hf : f false ≠ f true) (w p : List Bool) {a hi : Nat} (hh : hi ≤ w.length) : find4 (enc f w) (enc f p) a hi = match findL w p a hi with | some k => (k : Int) | none => -1 := by
  unfold find4
  have e1 : fromIndex (enc f w).length (a : Int) = a := by unfold fromIndex; rw [if_neg (Int.not_lt.mpr (Int.natCast_nonneg _)), Int.max_eq_right (Int.natCast_nonneg _), Int.toNat_natCast]
  have e2 : min (fromIndex (enc f w).length (hi : Int)) (enc f w).length = hi := by
    rw [enc_len]; unfold fromIndex; rw [if_neg (Int.not_lt.mpr (Int.natCast_nonneg _)), Int.max_eq_right (Int.natCast_nonneg _), Int.toNat_natCast, Nat.min_eq_left hh]
  rw [e1, e2, occ_eq]
  have hAt : ∀ i, (decide (i + p.length ≤ hi) && p.isPrefixOf (w.drop i)) = true ↔ At (enc f w) (enc f p) hi i := by
    intro i
    unfold At
    rw [enc_len, subAt_B hf, Bool.and_eq_true, decide_eq_true_eq]
  rcases occ_first (enc f w) (enc f p) hi 1 (Nat.le_refl _) (List.range' a (hi + 1 - a)) a (fun i hi' => by have := List.mem_range'_1.mp hi'; omega) with ⟨h0, hn⟩ | ⟨pre, b, post, e, h0, hb, hn⟩
  · have h1 : findL w p a hi = none := by
      unfold findL
      rw [List.find?_eq_none]
      intro i hi' h2
      exact hn i hi' ((hAt i).mp h2)
    rw [h0, h1]
  · have h1 : findL w p a hi = some b := by
      unfold findL
      rw [e, List.find?_eq_some_iff_append]
      refine ⟨(hAt b).mpr hb, pre, post, rfl, fun i hi' => ?_⟩
      have := hn i hi'
      cases h3 : (decide (i + p.length ≤ hi) && p.isPrefixOf (w.drop i)) with
      | true => exact absurd ((hAt i).mp h3) this
      | false => rfl
    rw [h1]
    generalize (forIn (List.range' a (hi + 1 - a)) ((#[] : Array Nat), a) (occBody (enc f w) (enc f p) hi 1)).run.fst = arr at h0
    have h2 : arr.toList[0]? = some b := by simpa using h0
    cases hL : arr.toList with
    | nil => rw [hL] at h2; cases h2
    | cons c t => rw [hL] at h2; simp at h2; rw [h2]
def emLoopL (w : List Bool) (hi : Nat) : List (List Bool) → Nat → Bool
  | [], _ => true
  | p :: r, a => match findL w p a hi with | none => false | some k => emLoopL w hi r (k + p.length)
def emBL (p0 : List Bool) (mid : List (List Bool)) (pl w : List Bool) : Bool :=
  if p0.length != 0 && !(p0.isPrefixOf w) then false
  else if pl.length != 0 && !(pl.isSuffixOf w) then false
  else if w.length < p0.length + pl.length then false
  else emLoopL w (w.length - pl.length) ((if p0.length = 0 then [p0] else []) ++ (mid ++ if pl.length = 0 then [pl] else [])) p0.length
theorem emLoop_B {f : Bool → Nat} (hf : f false ≠ f true) (w : List Bool) {hi : Nat} (hh : hi ≤ w.length) : ∀ (ps : List (List Bool)) (a : Nat), emLoop (enc f w) hi (ps.map (enc f)) a = emLoopL w hi ps a
  | [], _ => rfl
  | p :: r, a => by
    show (if find4 (enc f w) (enc f p) a hi < 0 then false else emLoop (enc f w) hi (r.map (enc f)) (find4 (enc f w) (enc f p) a hi + (enc f p).length)) = _
    rw [find4_B hf w p hh]
    unfold emLoopL
    cases h : findL w p a hi with
    | none => rfl
    | some k =>
      have h2 := emLoop_B hf w hh r (k + p.length)
      simp only [enc_len]
      rw [if_neg (by omega), ← h2]
      push_cast
      rfl
theorem emB_B {f : Bool → Nat} (hf : f false ≠ f true) (p0 : List Bool) (mid : List (List Bool)) (pl w : List Bool) : emB (enc f p0) (mid.map (enc f)) (enc f pl) (enc f w) = emBL p0 mid pl w := by
  unfold emB emBL
  simp only [enc_len, starts_B hf, ends_B hf]
  by_cases h : w.length < p0.length + pl.length
  · rw [if_pos h, if_pos (show ((w.length : Int) - pl.length < p0.length) by omega)]
  · rw [if_neg h, if_neg (show ¬ ((w.length : Int) - pl.length < p0.length) by omega)]
    have e : ((w.length : Int) - pl.length) = ((w.length - pl.length : Nat) : Int) := by omega
    rw [e, ← emLoop_B hf w (by omega)]
    congr 3
    by_cases h1 : p0.length = 0 <;> by_cases h2 : pl.length = 0 <;> simp [h1, h2]
theorem dots_S : Str.ofString "..." = S [46, 46, 46] := by decide +kernel
theorem emS_J {f : Bool → Nat} (hf : f false ≠ f true) (h46 : ∀ b, f b ≠ 46) (p0 : List Bool) (mid : List (List Bool)) (pl w : List Bool) :
    emS (Txt.join (Str.ofString "...") ((p0 :: (mid ++ [pl])).map (enc f))) (enc f w) = emBL p0 mid pl w := by
  have e1 : (p0 :: (mid ++ [pl])).map (enc f) = ((p0 :: (mid ++ [pl])).map (fun l => l.map f)).map S := by rw [List.map_map]; rfl
  have hfree : ∀ p ∈ (p0 :: (mid ++ [pl])).map (fun l => l.map f), 46 ∉ p := by
    intro p hp hm
    obtain ⟨l, _, rfl⟩ := List.mem_map.mp hp
    obtain ⟨b, _, e⟩ := List.mem_map.mp hm
    exact h46 b e
  obtain ⟨h1, h2⟩ := split_join 46 [46, 46] ((p0 :: (mid ++ [pl])).map (fun l => l.map f)) (by simp) hfree (by decide +kernel)
  rw [e1, dots_S, join_S]
  rw [emS_of (w0 := enc f p0) (mid := mid.map (enc f)) (wl := enc f pl) (by rw [dots_S]; exact h2) (by rw [dots_S, h1]; simp [enc]), emB_B hf]
end Mine
end
section
open PySem PySem.W PyProof.Rows PySem.Builtin PySem.Builtin.Str PySem.StrLaws
set_option maxRecDepth 100000
namespace Mine
theorem slice_take (l : List Nat) {k : Int} (h0 : 0 ≤ k) (h1 : k ≤ l.length) : Txt.slice (S l) none (some k) = S (l.take k.toNat) := by
  have h := eq_of_beq (slice_closes_to (x := S l) (j := k) ⟨h0, h1⟩)
  rw [h]
  simp [S]
theorem slice_drop (l : List Nat) {k : Int} (h0 : 0 ≤ k) (h1 : k ≤ l.length) : Txt.slice (S l) (some k) none = S (l.drop k.toNat) := by
  have h := eq_of_beq (slice_closes_from (x := S l) (i := k) ⟨h0, h1⟩)
  rw [h, S_list]
  unfold S
  rw [List.take_of_length_le]
  rw [List.length_drop]
  obtain ⟨k', rfl⟩ := Int.eq_ofNat_of_zero_le h0
  exact Nat.le_of_eq (Int.toNat_sub _ _).symm
theorem take_B (f : Bool → Nat) (l : List Bool) {k : Int} (h0 : 0 ≤ k) (h1 : k ≤ l.length) : Txt.slice (enc f l) none (some k) = enc f (l.take k.toNat) := by
  unfold enc
  rw [slice_take _ h0 (by simpa using h1), List.map_take]
theorem drop_B (f : Bool → Nat) (l : List Bool) {k : Int} (h0 : 0 ≤ k) (h1 : k ≤ l.length) : Txt.slice (enc f l) (some k) none = enc f (l.drop k.toNat) := by
  unfold enc
  rw [slice_drop _ h0 (by simpa using h1), List.map_drop]
theorem app_B (f : Bool → Nat) (a b : List Bool) : enc f a ++ enc f b = enc f (a ++ b) := by
  unfold enc
  rw [S_app, List.map_append]
theorem beq_B {f : Bool → Nat} (hf : f false ≠ f true) (a b : List Bool) : (enc f a == enc f b) = (a == b) := by
  unfold enc
  rw [S_beq, map_beq hf]
theorem jn_nil : ∀ ps : List (List Nat), jnL [] ps = ps.flatten
  | [] => rfl
  | [p] => by simp [jnL]
  | p :: q :: r => by
    have h := jn_nil (q :: r)
    simp only [jnL, List.append_nil, h, List.flatten_cons]
theorem flat_one {α : Type} (l : List α) : (l.map fun c => [c]).flatten = l := by
  induction l with
  | nil => rfl
  | cons a r ih => simp [ih]
theorem empty_S : Str.ofString "" = S [] := by decide +kernel
theorem em_two {f : Bool → Nat} (hf : f false ≠ f true) (h46 : ∀ b, f b ≠ 46) (a b w : List Bool) : emS (enc f a ++ Str.ofString "..." ++ enc f b) (enc f w) = emBL a [] b w := by
  have h := emS_J hf h46 a [] b w
  have e : Txt.join (Str.ofString "...") ((a :: ([] ++ [b])).map (enc f)) = enc f a ++ Str.ofString "..." ++ enc f b := by
    have e1 : (a :: ([] ++ [b])).map (enc f) = [a.map f, b.map f].map S := rfl
    rw [e1, dots_S, join_S]
    unfold enc
    rw [S_app, S_app]
    rfl
  rw [e] at h
  exact h
theorem em_one {f : Bool → Nat} (hf : f false ≠ f true) (h46 : ∀ b, f b ≠ 46) (a w : List Bool) : emS (enc f a) (enc f w) = (a == w) := by
  have h1 : (occurrences (enc f a) (Str.ofString "...") 0 (enc f a).length 1).isEmpty = true := by
    cases h : (occurrences (enc f a) (Str.ofString "...") 0 (enc f a).length 1).isEmpty with
    | true => rfl
    | false =>
      obtain ⟨i, hi, hs⟩ := (found_iff (enc f a) (Str.ofString "...")).mp (by rw [h]; rfl)
      rw [dots_S] at hi hs
      have h3 := at_get (x := a.map f) (c := 46) (d := [46, 46]) (hi := (enc f a).length) (k := i) ⟨hi, hs⟩
      obtain ⟨b, _, e⟩ := List.mem_map.mp (List.mem_of_getElem? h3)
      exact absurd e (h46 b)
  rw [← emS_no' h1, beq_B hf]
end Mine
end
section
open PySem PySem.W PyProof.Rows PySem.Builtin PySem.Builtin.Str
set_option maxRecDepth 100000
set_option maxHeartbeats 8000000
namespace Mine
theorem fillC : PySem.Challenge.rw_rw0014_02 = PySem.Challenge.rw_rw0014_02 ∧ hd.heap_39 = hd.heap_39 := by k_fill; exact ⟨rfl, rfl⟩
noncomputable abbrev Pr1 : Program := PySem.Challenge.rw_rw0014_02.row.prog
noncomputable abbrev Lo1 : List Str := looseW hd.view_39 [Str.ofString "_twin_re_1", Str.ofString "_twin_re_2"]
section
variable {w : World} {mean : ExcName → Option Value} {mg mb : Str → Option Value} {news : List (Addr × Obj)} {dp un : Nat} {gd : Option (List Code)} {cn : Str} {cs : Scope} {a : Addr} {ccd : Value} {cl : List (Str × Addr)} {outer : List Env} {A₀ : Around} {base h₀ : Heap} {L : Addr} {m : Str → Option Value} {s : Shared} {Q E : Value → Shared → Prop}
theorem em_call {want got : Str} {t1 t2 : Tok} (B : Below A₀ base outer h₀) (F : Fr h₀ L s.heap m) (X : (hd.heap_39 w.params).In h₀) (N : News h₀ L s.heap news) (T : Top hd.view_39 Lo1 mean mg mb h₀) (hk : cs.kind = .function) (hp : want.length ≤ 1000000 ∧ got.length ≤ 1000000) (hd1 : dp + 1 < recursionLimit) (hu : un + 8 < cLine)
    (h : ∀ (h' : Heap) (tk' : Nat), Fr h₀ L h' m → News h₀ L h' news → Q (.bool (emS want got)) { s with heap := h', toks := tk' }) :
    wpAny (model Pr1 w) (ktrTop dp un gd cn cs L a ccd cl outer) (call (.ref 38) [.str want t1, .str got t2]) Q E s :=
  em w mean mg mb news want got t1 t2 dp un gd cn cs a ccd cl outer A₀ base h₀ L m s Q E B F X N T hk hp hd1 hu fun _ h' tk' => h h' tk'
end
theorem dots3 : (Str.ofString "...").length ≤ 3 := by decide +kernel
theorem len_app2 {x y : Str} {a b : Nat} (h1 : x.length ≤ a) (h2 : y.length ≤ b) : (x ++ y).length ≤ a + b := by rw [Str.length_append]; omega
theorem rk_get {a : Int} {n i : Nat} (h : i < n) : (rangeKs a n)[i]? = some (a + (i : Int)) := by simp [rangeKs, h]
end Mine
end
section
open PySem PySem.W PyProof.Rows PySem.Builtin PySem.Builtin.Str PySem.Calls
set_option maxRecDepth 100000
set_option maxHeartbeats 8000000
namespace Mine
section
variable {prog : Program} {A : Around} {w : World} {mean : ExcName → Option Value} {mg mb : Str → Option Value} {news : List (Addr × Obj)} {dp un : Nat} {gd : Option (List Code)} {cn : Str} {cs : Scope} {a : Addr} {ccd : Value} {cl : List (Str × Addr)} {outer : List Env} {A₀ : Around} {base h₀ : Heap} {L : Addr} {m : Str → Option Value} {s : Shared} {Q E : Value → Shared → Prop}
theorem qd_call {x : Str} {t1 : Tok} (B : Below A₀ base outer h₀) (F : Fr h₀ L s.heap m) (X : (hd.heap_39 w.params).In h₀) (N : News h₀ L s.heap news) (T : Top hd.view_39 Lo1 mean mg mb h₀) (hk : cs.kind = .function) (hp : x.length ≤ 20000) (hd1 : dp + 1 < recursionLimit) (hu : un + 8 < cLine)
    (h : ∀ (t : Tok) (h' : Heap) (tk' : Nat), Fr h₀ L h' m → News h₀ L h' news → Q (.str (qdT x) t) { s with heap := h', toks := tk' }) :
    wpAny (model Pr1 w) (ktrTop dp un gd cn cs L a ccd cl outer) (call (.ref 55) [.str x t1]) Q E s :=
  qd w mean mg mb news x t1 dp un gd cn cs a ccd cl outer A₀ base h₀ L m s Q E B F X N T hk hp hd1 hu h
theorem mul1 {x : Str} {t u : Tok} {i : Int} {Q : Value → Shared → Prop} (hx : x.length = 1) (h0 : -10 ≤ i) (h1 : i ≤ 2000) (h : ∀ t' k, Q (.str (Txt.mul x i) t') { s with toks := k }) : wpAny (model prog w) A (binaryOp .Mult (.str x t) (.int i u)) Q E s :=
  SB.mul (mulOk_of 16 1048576 (by omega) (by omega) (by omega) (by decide) (by decide)) h
end
end Mine
end
section
open PySem PySem.W PyProof.Rows PySem.Builtin PySem.Builtin.Str
set_option maxRecDepth 100000
set_option maxHeartbeats 8000000
namespace Mine
theorem fillI : PySem.Challenge.rw_rw0014_02 = PySem.Challenge.rw_rw0014_02 ∧ hd.heap_39 = hd.heap_39 := by k_fill; exact ⟨rfl, rfl⟩
theorem ist (w : World) (mean : ExcName → Option Value) (mg mb : Str → Option Value) (news : List (Addr × Obj)) (x : Int) (t1 : Tok) :
  CbClaim PySem.Challenge.rw_rw0014_02.row.prog w (hd.heap_39 w.params) hd.view_39 (looseW hd.view_39 [Str.ofString "_twin_re_1", Str.ofString "_twin_re_2"]) mean mg mb 62 news [] True [.int x t1] (fun _ => .bool (decide (x < 256))) := by
  w_on
  dsimp only [CbClaim, CbLists, CbRet]; intros; rename_i hret
  refine wpAny_call ?_
  k_dflt cell_enter
  k_steps
  all_goals (try (cb_end hret))
theorem isn (w : World) (mean : ExcName → Option Value) (mg mb : Str → Option Value) (news : List (Addr × Obj)) (x : Int) (t1 : Tok) :
  CbClaim PySem.Challenge.rw_rw0014_02.row.prog w (hd.heap_39 w.params) hd.view_39 (looseW hd.view_39 [Str.ofString "_twin_re_1", Str.ofString "_twin_re_2"]) mean mg mb 69 news [] True [.int x t1] (fun _ => .bool (decide (x ≥ 256))) := by
  w_on
  dsimp only [CbClaim, CbLists, CbRet]; intros; rename_i hret
  refine wpAny_call ?_
  k_dflt cell_enter
  k_steps
  all_goals (try (cb_end hret))
theorem ise (w : World) (mean : ExcName → Option Value) (mg mb : Str → Option Value) (news : List (Addr × Obj)) (x : Int) (t1 : Tok) :
  CbClaim PySem.Challenge.rw_rw0014_02.row.prog w (hd.heap_39 w.params) hd.view_39 (looseW hd.view_39 [Str.ofString "_twin_re_1", Str.ofString "_twin_re_2"]) mean mg mb 76 news [] True [.int x t1] (fun _ => .bool (decide (x = 0))) := by
  w_on
  dsimp only [CbClaim, CbLists, CbRet]; intros; rename_i hret
  refine wpAny_call ?_
  k_dflt cell_enter
  k_steps
  all_goals (try (cb_end hret))
section
variable {w : World} {mean : ExcName → Option Value} {mg mb : Str → Option Value} {news : List (Addr × Obj)} {dp un : Nat} {gd : Option (List Code)} {cn : Str} {cs : Scope} {a : Addr} {ccd : Value} {cl : List (Str × Addr)} {outer : List Env} {A₀ : Around} {base h₀ : Heap} {L : Addr} {m : Str → Option Value} {s : Shared} {Q E : Value → Shared → Prop}
theorem ist_call {x : Int} {t1 : Tok} (B : Below A₀ base outer h₀) (F : Fr h₀ L s.heap m) (X : (hd.heap_39 w.params).In h₀) (N : News h₀ L s.heap news) (T : Top hd.view_39 Lo1 mean mg mb h₀) (hk : cs.kind = .function) (hd1 : dp + 1 < recursionLimit) (hu : un + 8 < cLine)
    (h : ∀ (h' : Heap) (tk' : Nat), Fr h₀ L h' m → News h₀ L h' news → Q (.bool (decide (x < 256))) { s with heap := h', toks := tk' }) :
    wpAny (model Pr1 w) (ktrTop dp un gd cn cs L a ccd cl outer) (call (.ref 62) [.int x t1]) Q E s :=
  ist w mean mg mb news x t1 dp un gd cn cs a ccd cl outer A₀ base h₀ L m s Q E B F X N T hk trivial hd1 hu fun _ h' tk' => h h' tk'
theorem isn_call {x : Int} {t1 : Tok} (B : Below A₀ base outer h₀) (F : Fr h₀ L s.heap m) (X : (hd.heap_39 w.params).In h₀) (N : News h₀ L s.heap news) (T : Top hd.view_39 Lo1 mean mg mb h₀) (hk : cs.kind = .function) (hd1 : dp + 1 < recursionLimit) (hu : un + 8 < cLine)
    (h : ∀ (h' : Heap) (tk' : Nat), Fr h₀ L h' m → News h₀ L h' news → Q (.bool (decide (x ≥ 256))) { s with heap := h', toks := tk' }) :
    wpAny (model Pr1 w) (ktrTop dp un gd cn cs L a ccd cl outer) (call (.ref 69) [.int x t1]) Q E s :=
  isn w mean mg mb news x t1 dp un gd cn cs a ccd cl outer A₀ base h₀ L m s Q E B F X N T hk trivial hd1 hu fun _ h' tk' => h h' tk'
theorem ise_call {x : Int} {t1 : Tok} (B : Below A₀ base outer h₀) (F : Fr h₀ L s.heap m) (X : (hd.heap_39 w.params).In h₀) (N : News h₀ L s.heap news) (T : Top hd.view_39 Lo1 mean mg mb h₀) (hk : cs.kind = .function) (hd1 : dp + 1 < recursionLimit) (hu : un + 8 < cLine)
    (h : ∀ (h' : Heap) (tk' : Nat), Fr h₀ L h' m → News h₀ L h' news → Q (.bool (decide (x = 0))) { s with heap := h', toks := tk' }) :
    wpAny (model Pr1 w) (ktrTop dp un gd cn cs L a ccd cl outer) (call (.ref 76) [.int x t1]) Q E s :=
  ise w mean mg mb news x t1 dp un gd cn cs a ccd cl outer A₀ base h₀ L m s Q E B F X N T hk trivial hd1 hu fun _ h' tk' => h h' tk'
end
end Mine
namespace Mine
section
variable {M : Model} {A : Around} {E : Value → Shared → Prop} {s : Shared} {h₀ : Heap} {L a : Addr} {m : Str → Option Value} {cn : Str} {cs : Scope} {ccd : Value} {cl : List (Str × Addr)}
  {x : Str} {v : Value} {Q : Unit → Shared → Prop} {all rest : List (Addr × Obj)} {c : Addr} {o : Obj} {v₀ : Option Value}
theorem storeX_D (F : Fr h₀ L s.heap m) (N : News h₀ L s.heap all) (hc : cl.lookup x = some c) (hm : (c, o) ∈ all) (hne : ∀ p ∈ rest, p.1 ≠ c) (hs : ∀ p ∈ rest, p ∈ all) (hd : o.data = .cell v₀)
    (h : ∀ h' o', Fr h₀ L h' m → News h₀ L h' ((c, o') :: rest) → o'.data = .cell (some v) → Q () { s with heap := h' })
    (hk : cs.kind = .function := by rfl) (hx : (envX cn cs L a ccd cl).kindOf x = some .cell := by rfl) : wpAny M A (storeName (envX cn cs L a ccd cl) x v) Q E s :=
  storeX_C F (fun p hp => N p ((List.mem_cons.mp hp).elim (fun e => e ▸ hm) (hs p))) hc (UpdF.head hne) hd h hk hx
end
end Mine
namespace Mine
section
variable {prog : Program} {w : World} {A : Around} {E : Value → Shared → Prop} {s : Shared} {h₀ : Heap} {L : Addr} {m : Str → Option Value} {news news' : List (Addr × Obj)}
theorem three_int {k : Int} (h0 : 0 ≤ k) (h3 : k < 3) : k = 0 ∨ k = 1 ∨ k = 2 := by omega
theorem two_nat : ∀ i, i < 2 → i = 0 ∨ i = 1 := by decide
theorem three_nat : ∀ i, i < 3 → i = 0 ∨ i = 1 ∨ i = 2 := by decide
theorem item_menu3 {value slice : PySem.Expr} {D : Addr} {v0 v1 v2 : Value} {n : Nat} {k : Int} {u : Tok} {Q : Value → Shared → Prop} (N : News h₀ L s.heap news) (hm : (D, listOf [v0, v1, v2].toArray n) ∈ news) (h0 : 0 ≤ k) (h3 : k < 3) (c0 : k = 0 → Q v0 s) (c1 : k = 1 → Q v1 s) (c2 : k = 2 → Q v2 s)
    (hs : subscripted slice false (.ref D) (.int k u) = operate [.ref D, .int k u] (getItem (.ref D) (.int k u)) := by with_unfolding_all rfl) :
    wpAny (model prog w) A (subscriptTail value slice (.ref D) (.int k u)) Q E s := by
  have hk := three_int h0 h3
  rcases hk with rfl | rfl | rfl
  · exact item_at N hm (by omega) (by decide) rfl (c0 rfl) hs
  · exact item_at N hm (by omega) (by decide) rfl (c1 rfl) hs
  · exact item_at N hm (by omega) (by decide) rfl (c2 rfl) hs
def endS (j : Int) : Str := if j = 0 then Str.ofString "\n" else if j = 1 then Str.ofString "\r" else Str.ofString "\r\n"
theorem endS_len (j : Int) : (endS j).length ≤ 2 := by
  unfold endS
  split
  · decide
  · split <;> decide
/-- the menu of the three line ends, read whole -/
theorem item_menuE {value slice : PySem.Expr} {D : Addr} {u0 u1 u2 : Tok} {n : Nat} {k : Int} {u : Tok} {Q : Value → Shared → Prop} (N : News h₀ L s.heap news) (hm : (D, listOf [.str (Str.ofString "\n") u0, .str (Str.ofString "\r") u1, .str (Str.ofString "\r\n") u2].toArray n) ∈ news) (h0 : 0 ≤ k) (h3 : k < 3) (c : ∀ t, (endS k).length ≤ 2 → Q (.str (endS k) t) s)
    (hs : subscripted slice false (.ref D) (.int k u) = operate [.ref D, .int k u] (getItem (.ref D) (.int k u)) := by with_unfolding_all rfl) :
    wpAny (model prog w) A (subscriptTail value slice (.ref D) (.int k u)) Q E s :=
  item_menu3 N hm h0 h3 (fun e => by subst e; exact c u0 (endS_len _)) (fun e => by subst e; exact c u1 (endS_len _)) (fun e => by subst e; exact c u2 (endS_len _)) hs
theorem fmod3 (x : Int) : 0 ≤ x.fmod 3 ∧ x.fmod 3 < 3 := ⟨Int.fmod_nonneg_of_pos _ (by omega), Int.fmod_lt_of_pos _ (by omega)⟩
end
end Mine
end
section
open PySem PySem.W PyProof.Rows PySem.Builtin PySem.Spec PySem.Calls
set_option maxRecDepth 100000
set_option maxHeartbeats 4000000
namespace Mine
section
variable {prog : Program} {w : World} {A : Around} {E : Value → Shared → Prop} {s : Shared} {env : Env} {h₀ : Heap} {target : PySem.Expr} {body : List Stmt} {Q : Flow → Shared → Prop}
/-- a loop over a made list, its target any expression: an invariant over the names and the ledger -/
theorem iterT {l : Addr} {vs : List Value} {nn : Nat} {m₀ : Str → Option Value} {news : List (Addr × Obj)} (J : Nat → (Str → Option Value) → List (Addr × Obj) → Prop)
    (hh : A.handled = none) (hl : (l, listOf vs.toArray nn) ∈ news) (F : Fr h₀ env.locals s.heap m₀) (N : News h₀ env.locals s.heap news) (hj : J 0 m₀ news)
    (turn : ∀ i v m₁ nx h tk own, vs[i]? = some v → OwnOff own (nx.map (·.1)) → (l, listOf vs.toArray nn) ∈ nx → J i m₁ nx → Fr h₀ env.locals h m₁ → News h₀ env.locals h (nx ++ own) →
      wpAny (model prog w) A (assign target env v) (fun _ s₃ => wpAny (model prog w) A (execs body env) (InvPostG h₀ env.locals (fun m' nx' => (l, listOf vs.toArray nn) ∈ nx' ∧ J (i + 1) m' nx') own { s with heap := h, toks := tk } Q) E s₃) E { s with heap := h, toks := tk })
    (done : ∀ m₁ nx h tk, J vs.length m₁ nx → Fr h₀ env.locals h m₁ → News h₀ env.locals h nx → Q .next { s with heap := h, toks := tk }) :
    wpAny (model prog w) A (pyIter (.ref l)) (fun it s₂ => TurnsAt prog w A h₀ env target body Q E it s₂) E s := by
  refine iter_listTurns hh F N hl rfl rfl fun I hI => ?_
  -- the items from the i-th on, whatever names and ledger there are, as long as the iterator stands apart
  have key : ∀ (r : List Value) (i : Nat) (m₁ : Str → Option Value) (nx : List (Addr × Obj)), i + r.length = vs.length → r = vs.drop i → (∀ p ∈ nx, p.1 ≠ I) → (l, listOf vs.toArray nn) ∈ nx → J i m₁ nx →
      ItemsRest prog w A E h₀ env target body Q s [(I, "list_iterator")] [(l, listOf vs.toArray nn)] (r.map .val) m₁ nx := by
    intro r
    induction r with
    | nil =>
      intro i m₁ nx hi _ _ _ hJ
      have e : i = vs.length := by simpa using hi
      subst e
      exact ItemsRest.zero fun h tk F₁ N₁ => done m₁ nx h tk hJ F₁ N₁
    | cons v r ih =>
      intro i m₁ nx hi hr hoff hmem hJ
      have hv : vs[i]? = some v := by
        have h1 : (vs.drop i)[0]? = some v := by rw [← hr]; rfl
        simpa using h1
      have hr' : r = vs.drop (i + 1) := by
        have h1 : (vs.drop i).tail = r := by rw [← hr]; rfl
        rw [← h1]; simp
      refine ItemsRest.val fun h tk F₁ => ?_
      intro o _ N₁
      have hsep : OwnOff [(I, o)] (nx.map (·.1)) := by
        intro p hp b hb e
        obtain ⟨q, hq, rfl⟩ := List.mem_map.mp hb
        have h1 : p.1 = I := by rw [List.mem_singleton.mp hp]
        exact hoff q hq (e ▸ h1)
      have N₂ : News h₀ env.locals h (nx ++ [(I, o)]) := by
        intro p hp
        apply N₁
        rcases List.mem_append.mp hp with hp | hp
        · exact List.mem_append.mpr (.inr hp)
        · exact List.mem_append.mpr (.inl hp)
      refine wpAny_mono (turn i v m₁ nx h tk [(I, o)] hv hsep hmem hJ F₁ N₂) (fun _ s₃ hs => wpAny_mono hs (fun f s₄ hf => ?_) (fun _ _ e => e)) (fun _ _ e => e)
      have fin : InvEndG h₀ env.locals (fun m' nx' => (l, listOf vs.toArray nn) ∈ nx' ∧ J (i + 1) m' nx') [(I, o)] { s with heap := h, toks := tk } s₄ →
          UnrEndW h₀ env.locals { s with heap := h, toks := tk } [(I, o)] (fun m' n' => SubL [(l, listOf vs.toArray nn)] n' ∧ ItemsRest prog w A E h₀ env target body Q s [(I, "list_iterator")] [(l, listOf vs.toArray nn)] (r.map .val) m' n') s₄ := by
        rintro ⟨h', tk', m', all, nx', e, F', N', hn, ho, ha, hm', hJ'⟩
        have apart : ∀ p ∈ nx', p.1 ≠ I := fun p hp q => ha (I, o) (.head _) p.1 (List.mem_map.mpr ⟨p, hp, rfl⟩) q.symm
        refine ⟨h', tk', m', nx', e, F', ?_, ?_, ⟨hm', trivial⟩, ih (i + 1) m' nx' (by simp at hi; omega) hr' apart hm' hJ'⟩
        · intro p hp
          rcases List.mem_append.mp hp with hp | hp
          · exact N' p (ho p hp)
          · exact N' p (hn p hp)
        · intro p hp q hq
          rw [List.mem_singleton.mp hq]
          exact apart p hp
      cases f with
      | ret v => exact hf
      | brk => exact hf
      | next => exact fin hf
      | cont => exact fin hf
  exact key vs 0 m₀ news (by simp) rfl (fun p hp => Nat.ne_of_lt (hI p hp)) hl hj
end
end Mine
end
section
open PySem PySem.W PyProof.Rows PySem.Builtin PySem.Spec PySem.Calls
set_option maxRecDepth 100000
set_option maxHeartbeats 4000000
namespace Mine
abbrev tupO (vs : List Value) : Obj := { cls := .type "tuple", data := .seq vs.toArray }
/-- a list of made tuples: its items, the tuples as the ledger bears them, what they say -/
inductive Tups {α : Type} (R : α → List Value → Prop) : List Value → List (Addr × Obj) → List α → Prop
  | nil : Tups R [] [] []
  | cons {a : Addr} {v : List Value} {x : α} {vs : List Value} {led : List (Addr × Obj)} {xs : List α} : R x v → Tups R vs led xs → Tups R (.ref a :: vs) ((a, tupO v) :: led) (x :: xs)
section
variable {α : Type} {R : α → List Value → Prop}
theorem Tups.append {vs : List Value} {led : List (Addr × Obj)} {xs : List α} (h : Tups R vs led xs) {us : List Value} {led' : List (Addr × Obj)} {ys : List α} (h' : Tups R us led' ys) : Tups R (vs ++ us) (led ++ led') (xs ++ ys) := by
  induction h with
  | nil => exact h'
  | cons r _ ih => exact .cons r ih
theorem Tups.one {a : Addr} {v : List Value} {x : α} (r : R x v) : Tups R [.ref a] [(a, tupO v)] [x] := .cons r .nil
theorem Tups.len {vs : List Value} {led : List (Addr × Obj)} {xs : List α} (h : Tups R vs led xs) : vs.length = xs.length ∧ led.length = xs.length := by
  induction h with
  | nil => exact ⟨rfl, rfl⟩
  | cons _ _ ih => exact ⟨by simp [ih.1], by simp [ih.2]⟩
theorem Tups.item {vs : List Value} {led : List (Addr × Obj)} {xs : List α} (h : Tups R vs led xs) : ∀ {i : Nat} {v : Value}, vs[i]? = some v → ∃ a x tv, v = .ref a ∧ xs[i]? = some x ∧ R x tv ∧ (a, tupO tv) ∈ led := by
  induction h with
  | nil => intro i v e; simp at e
  | @cons a tv x vs led xs r _ ih =>
    intro i v e
    cases i with
    | zero =>
      have e' : Value.ref a = v := by simpa using e
      exact ⟨a, x, tv, e'.symm, rfl, r, .head _⟩
    | succ i =>
      obtain ⟨a', x', tv', e1, e2, e3, e4⟩ := ih (i := i) (v := v) (by simpa using e)
      exact ⟨a', x', tv', e1, by simpa using e2, e3, .tail _ e4⟩
end
section
variable {prog : Program} {w : World} {A : Around} {E : Value → Shared → Prop} {s : Shared} {h₀ : Heap} {L : Addr} {m : Str → Option Value}
/-- one tuple put onto a list of tuples -/
theorem tups_onE {α : Type} {R : α → List Value → Prop} {h' : Heap} {D a1 : Addr} {v1 : List Value} {x1 : α} {vs : List Value} {led news own : List (Addr × Obj)} {xs : List α} {kk : Nat} {o : Obj}
    (N : News h₀ L h' ((D, listOf (vs ++ [Value.ref a1]).toArray kk) :: (a1, tupO v1) :: (led ++ news ++ own))) (hT : Tups R vs led xs) (r1 : R x1 v1) (hled : ∀ p ∈ led, p.1 ≠ D)
    (l1 : D < a1) (hown : ∀ p ∈ own, p.1 ≠ a1) (hoff : OwnOff own (((D, o) :: (led ++ news)).map (·.1))) :
    ∃ vs' led', News h₀ L h' (((D, listOf vs'.toArray kk) :: (led' ++ news)) ++ own) ∧ Tups R vs' led' (xs ++ [x1]) ∧ (∀ p ∈ led', p.1 ≠ D) ∧ vs'.length = vs.length + 1 ∧ OwnOff own (((D, listOf vs'.toArray kk) :: (led' ++ news)).map (·.1)) := by
  refine ⟨vs ++ [Value.ref a1], led ++ [(a1, tupO v1)], ?_, hT.append (.one r1), ?_, by simp, ?_⟩
  · intro p hp
    apply N
    simp only [List.mem_append, List.mem_cons, List.not_mem_nil, or_false] at hp ⊢
    rcases hp with (rfl | ((hp | rfl) | hp)) | hp
    · exact .inl rfl
    · exact .inr (.inr (.inl (.inl hp)))
    · exact .inr (.inl rfl)
    · exact .inr (.inr (.inl (.inr hp)))
    · exact .inr (.inr (.inr hp))
  · intro p hp
    simp only [List.mem_append, List.mem_cons, List.not_mem_nil, or_false] at hp
    rcases hp with hp | rfl
    · exact hled p hp
    · exact Nat.ne_of_gt l1
  · intro p hp b hb
    simp only [List.map_cons, List.map_append, List.map_nil, List.mem_append, List.mem_cons, List.not_mem_nil, or_false] at hb
    rcases hb with rfl | ((hb | rfl) | hb)
    · exact hoff p hp _ (by simp)
    · exact hoff p hp b (by simp only [List.map_cons, List.map_append, List.mem_cons, List.mem_append]; exact .inr (.inl hb))
    · exact hown p hp
    · exact hoff p hp b (by simp only [List.map_cons, List.map_append, List.mem_cons, List.mem_append]; exact .inr (.inr hb))
/-- two tuples put onto a list of tuples -/
theorem tups_two {α : Type} {R : α → List Value → Prop} {h' : Heap} {D a1 a2 : Addr} {v1 v2 : List Value} {x1 x2 : α} {vs : List Value} {led news own : List (Addr × Obj)} {xs : List α} {kk : Nat} {o : Obj}
    (N : News h₀ L h' ((D, listOf (vs ++ [Value.ref a1] ++ [Value.ref a2]).toArray kk) :: (a2, tupO v2) :: (a1, tupO v1) :: (led ++ news ++ own))) (hT : Tups R vs led xs) (r1 : R x1 v1) (r2 : R x2 v2) (hled : ∀ p ∈ led, p.1 ≠ D)
    (l1 : D < a1 ∧ AllLt a1 (led ++ news ++ own)) (l2 : D < a2 ∧ a1 < a2 ∧ AllLt a2 (led ++ news ++ own)) (hoff : OwnOff own (((D, o) :: (led ++ news)).map (·.1))) :
    ∃ vs' led', News h₀ L h' (((D, listOf vs'.toArray kk) :: (led' ++ news)) ++ own) ∧ Tups R vs' led' (xs ++ [x1] ++ [x2]) ∧ (∀ p ∈ led', p.1 ≠ D) ∧ vs'.length = vs.length + 2 ∧ OwnOff own (((D, listOf vs'.toArray kk) :: (led' ++ news)).map (·.1)) := by
  refine ⟨vs ++ [Value.ref a1] ++ [Value.ref a2], led ++ [(a1, tupO v1)] ++ [(a2, tupO v2)], ?_, (hT.append (.one r1)).append (.one r2), ?_, by simp, ?_⟩
  · intro p hp
    apply N
    simp only [List.mem_append, List.mem_cons, List.not_mem_nil, or_false] at hp ⊢
    rcases hp with (rfl | (((hp | rfl) | rfl) | hp)) | hp
    · exact .inl rfl
    · exact .inr (.inr (.inr (.inl (.inl hp))))
    · exact .inr (.inr (.inl rfl))
    · exact .inr (.inl rfl)
    · exact .inr (.inr (.inr (.inl (.inr hp))))
    · exact .inr (.inr (.inr (.inr hp)))
  · intro p hp
    simp only [List.mem_append, List.mem_cons, List.not_mem_nil, or_false] at hp
    rcases hp with (hp | rfl) | rfl
    · exact hled p hp
    · exact Nat.ne_of_gt l1.1
    · exact Nat.ne_of_gt l2.1
  · intro p hp b hb
    simp only [List.map_cons, List.map_append, List.map_nil, List.mem_append, List.mem_cons, List.not_mem_nil, or_false] at hb
    have hmem : p ∈ led ++ news ++ own := List.mem_append.mpr (.inr hp)
    rcases hb with rfl | (((hb | rfl) | rfl) | hb)
    · exact hoff p hp _ (by simp)
    · exact hoff p hp b (by simp only [List.map_cons, List.map_append, List.mem_cons, List.mem_append]; exact .inr (.inl hb))
    · exact allLt_ne l1.2 p hmem
    · exact allLt_ne l2.2.2 p hmem
    · exact hoff p hp b (by simp only [List.map_cons, List.map_append, List.mem_cons, List.mem_append]; exact .inr (.inr hb))
/-- append of what stands ahead of the list in the ledger -/
theorem app_second {D a : Addr} {o : Obj} {vs : List Value} {k : Nat} {v : Value} {r : List (Addr × Obj)} {Q : Value → Shared → Prop} (F : Fr h₀ L s.heap m) (N : News h₀ L s.heap ((a, o) :: (D, listOf vs.toArray k) :: r)) (hne : ∀ p ∈ (a, o) :: r, p.1 ≠ D) (hsz : vs.length ≤ 100000)
    (h : ∀ h', Fr h₀ L h' m → News h₀ L h' ((D, listOf (vs ++ [v]).toArray (k + 1)) :: (a, o) :: r) → Q .none { s with heap := h' }) : wpAny (model prog w) A (call (.builtin "list.append") [.ref D, v]) Q E s := by
  refine app_head F (rest := (a, o) :: r) (fun p hp => N p ?_) hne hsz h
  rcases List.mem_cons.mp hp with rfl | hp
  · exact .tail _ (.head _)
  · rcases List.mem_cons.mp hp with rfl | hp
    · exact .head _
    · exact .tail _ (.tail _ hp)
end
section
variable {prog : Program} {w : World} {A : Around} {E : Value → Shared → Prop} {s : Shared} {h₀ : Heap} {L : Addr} {m : Str → Option Value}
theorem key_int (k : Int) (u : Tok) : (PySem.intKind prog w).is k (.int k u) = true := by
  show Value.isInt k (.int k u) = true
  simp [Value.isInt]
theorem dict_set_int {D : Addr} {o : Obj} {kvs : List (Int × Value)} {k : Int} {u : Tok} {v : Value} {r : List (Addr × Obj)} {Q : Unit → Shared → Prop} (F : Fr h₀ L s.heap m) (N : News h₀ L s.heap ((D, o) :: r)) (hd : o.IsDictOf (PySem.intKind prog w) kvs) (hne : ∀ p ∈ r, p.1 ≠ D) (hsz : kvs.length ≤ 100000)
    (h : ∀ h' o', Fr h₀ L h' m → News h₀ L h' ((D, o') :: r) → o'.IsDictOf (PySem.intKind prog w) (PySem.stored kvs k v) → Q () { s with heap := h', toks := s.toks + 1 }) : wpAny (model prog w) A (setItem (.ref D) (.int k u) v) Q E s :=
  kda_set F N (UpdF.head hne) hd (key_int k u) (by rw [sizeLine_eq]; omega) h
end
section
variable {prog : Program} {w : World} {A : Around} {E : Value → Shared → Prop} {s : Shared} {env : Env} {h₀ : Heap} {target : PySem.Expr} {body : List Stmt} {Q : Flow → Shared → Prop}
/-- a loop over a made list that leaves the ledger as it was and stores the names of st -/
theorem iterT_K {l : Addr} {vs : List Value} {nn : Nat} {m₀ : Str → Option Value} {news : List (Addr × Obj)} (st : List Str) (P : Nat → Prop)
    (hh : A.handled = none) (hl : (l, listOf vs.toArray nn) ∈ news) (F : Fr h₀ env.locals s.heap m₀) (N : News h₀ env.locals s.heap news) (h0 : P 0)
    (turn : ∀ i v m₁ h tk own, vs[i]? = some v → OwnOff own (news.map (·.1)) → P i → Keep st m₀ m₁ → Fr h₀ env.locals h m₁ → News h₀ env.locals h (news ++ own) →
      wpAny (model prog w) A (assign target env v) (fun _ s₃ => wpAny (model prog w) A (execs body env) (InvPostG h₀ env.locals (fun m' nx' => nx' = news ∧ Keep st m₀ m' ∧ P (i + 1)) own { s with heap := h, toks := tk } Q) E s₃) E { s with heap := h, toks := tk })
    (done : ∀ m₁ h tk, P vs.length → Keep st m₀ m₁ → Fr h₀ env.locals h m₁ → News h₀ env.locals h news → Q .next { s with heap := h, toks := tk }) :
    wpAny (model prog w) A (pyIter (.ref l)) (fun it s₂ => TurnsAt prog w A h₀ env target body Q E it s₂) E s := by
  refine iterT (fun i m' nx => nx = news ∧ Keep st m₀ m' ∧ P i) hh hl F N ⟨rfl, fun _ _ => rfl, h0⟩ ?_ ?_
  · rintro i v m₁ nx h tk own hv hoff _ ⟨rfl, hk, hp⟩ F₁ N₁
    refine wpAny_mono (turn i v m₁ h tk own hv hoff hp hk F₁ N₁) (fun _ s₃ hs => wpAny_mono hs (fun f s₄ hf => ?_) fun _ _ e => e) fun _ _ e => e
    have up : InvEndG h₀ env.locals (fun m' nx' => nx' = nx ∧ Keep st m₀ m' ∧ P (i + 1)) own { s with heap := h, toks := tk } s₄ → InvEndG h₀ env.locals (fun m' nx' => (l, listOf vs.toArray nn) ∈ nx' ∧ nx' = nx ∧ Keep st m₀ m' ∧ P (i + 1)) own { s with heap := h, toks := tk } s₄ := by
      rintro ⟨h', tk', m', all, nx', e, F', N', hn, ho, ha, hj⟩
      exact ⟨h', tk', m', all, nx', e, F', N', hn, ho, ha, hj.1 ▸ hl, hj⟩
    cases f with
    | ret v => exact hf
    | brk => exact hf
    | next => exact up hf
    | cont => exact up hf
  · rintro m₁ nx h tk ⟨rfl, hk, hp⟩ F₁ N₁
    exact done m₁ h tk hp hk F₁ N₁
end
end Mine
end
section
open PySem PySem.W PyProof.Rows PySem.Builtin PySem.Spec PySem.Calls
set_option maxRecDepth 100000
set_option maxHeartbeats 4000000
namespace Mine
open LCg
/-- a block over a made list: where its iterator, its frame and what it makes stand -/
structure Blk (h₀ : Heap) (L I C D : Addr) (news : List (Addr × Obj)) : Prop where
  iL : I ≠ L
  cL : C ≠ L
  dL : D ≠ L
  ic : I ≠ C
  di : I ≠ D
  cd : C ≠ D
  i0 : h₀.get? I = none
  c0 : h₀.get? C = none
  d0 : h₀.get? D = none
  off : ∀ p ∈ news, p.1 ≠ I ∧ p.1 ≠ C ∧ p.1 ≠ D
  ld : L < D
/-- the block with i items taken -/
structure BSt (h₀ : Heap) (L l I C D : Addr) (news : List (Addr × Obj)) (m : Str → Option Value) (h : Heap) (i : Nat) (mc : Str → Option Value) (oD : Obj) : Prop where
  fr : Fr h₀ L h m
  led : News h₀ L h news
  it : h.IsListIter I l i
  ns : h.Ns C mc
  acc : h.get? D = some oD
section
variable {prog : Program} {w : World} {A : Around} {E : Value → Shared → Prop} {s : Shared} {h₀ : Heap} {L l I C D : Addr} {m mc : Str → Option Value} {env : Env} {news : List (Addr × Obj)} {i : Nat} {oD : Obj}
/-- only at one place b, none of the frame's -/
theorem touch_fr {h h' : Heap} {b : Addr} (F : Fr h₀ L h m) (k : ∀ a o, a ≠ b → h.get? a = some o → h'.get? a = some o) (bL : b ≠ L) (b0 : h₀.get? b = none) : Fr h₀ L h' m :=
  ⟨F.ns.at' fun o e => k L o (Ne.symm bL) e, fun a o e => k a o (fun q => by rw [q, b0] at e; cases e) (F.keep a o e), F.above⟩
theorem touch_led {h h' : Heap} {b : Addr} (N : News h₀ L h news) (k : ∀ a o, a ≠ b → h.get? a = some o → h'.get? a = some o) (off : ∀ p ∈ news, p.1 ≠ b) : News h₀ L h' news :=
  fun p hp => ⟨k _ _ (off p hp) (N p hp).1, (N p hp).2⟩
theorem three_names {x y z : Str} {px py pz : Pos} {vx vy vz : Value} {e : Env} (hx : e.kindOf x = some .local) (hy : e.kindOf y = some .local) (hz : e.kindOf z = some .local) (xy : x ≠ y) (xz : x ≠ z) (yz : y ≠ z)
    (hp : (e.scope.kind == .class || (e.scope.kind == .module && e.locals != e.globals)) = false) (hn : s.heap.Ns e.locals mc) {Q : Unit → Shared → Prop}
    (h : ∀ h' tk mc', h'.Ns e.locals mc' → mc' x = some vx → mc' y = some vy → mc' z = some vz → (∀ a o, a ≠ e.locals → s.heap.get? a = some o → h'.get? a = some o) → Q () { s with heap := h', toks := tk }) :
    wpAny (model prog w) A (assignInOrder ((assignEach [.Name x px, .Name y py, .Name z pz] e).map (·.2)) [vx, vy, vz]) Q E s := by
  refine assignInOrder_cons (wpAny_assign_Name (wpAny_storeName_local hx hn (fun h1 n1 s1 => ?_) hp))
  refine assignInOrder_cons (wpAny_assign_Name (wpAny_storeName_local hy n1 (fun h2 n2 s2 => ?_) hp))
  refine assignInOrder_cons (wpAny_assign_Name (wpAny_storeName_local hz n2 (fun h3 n3 s3 => ?_) hp))
  refine assignInOrder_nil (h h3 _ _ n3 ?_ ?_ ?_ fun a o ha e => s3.extBut a o ha (s2.extBut a o ha (s1.extBut a o ha e)))
  · simp [xy, xz]
  · simp [yz]
  · simp
/-- one item taken and put into three names -/
theorem take3 {vs : List Value} {nn : Nat} {t : Addr} {vx vy vz : Value} {x y z : Str} {px py pz tp : Pos} {kk} {scope : Scope} {cl : List (Str × Addr)} {R : Shared → Prop} {Q : Unit → Shared → Prop} (hh : A.handled = none) (b : Blk h₀ L I C D news) (st : BSt h₀ L l I C D news m s.heap i mc oD)
    (hl : (l, listOf vs.toArray nn) ∈ news) (hv : vs[i]? = some (.ref t)) (ht : (t, tupO [vx, vy, vz]) ∈ news) (hkind : scope.kind = .function) (hx : scope.names.lookup x = some .local) (hy : scope.names.lookup y = some .local) (hz : scope.names.lookup z = some .local) (xy : x ≠ y) (xz : x ≠ z) (yz : y ≠ z)
    (hQ : ∀ h' tk mc', BSt h₀ L l I C D news m h' (i + 1) mc' oD → mc' x = some vx → mc' y = some vy → mc' z = some vz → Q () { s with heap := h', toks := tk }) :
    wpAny (model prog w) A (pyNext (.ref I)) (fun r s₁ => match r with
      | none => R s₁
      | some v => wpAny (model prog w) A (letOwnedTupleGo (.Tuple [.Name x px, .Name y py, .Name z pz] kk tp) (.ref I) v) (fun _ s₀ => wpAny (model prog w) A (assign (.Tuple [.Name x px, .Name y py, .Name z pz] kk tp) (compEnvC scope cl C env) v) Q E s₀) E s₁) E s := by
  have isl : s.heap.IsList l vs.toArray := ⟨_, (st.led _ hl).1, rfl, nn, rfl⟩
  refine wpAny_pyNext_list_item st.it isl (x := .ref t) (by simpa using hv) fun h1 it1 s1 => ?_
  have k1 : ∀ a o, a ≠ I → s.heap.get? a = some o → h1.get? a = some o := fun a o ha e => s1.extBut a o ha e
  have F1 := touch_fr st.fr k1 b.iL b.i0
  have N1 := touch_led st.led k1 fun p hp => (b.off p hp).1
  refine wpAny_letOwnedTupleGo_listiter it1 ?_
  have ht1 : IsTup h1 t #[vx, vy, vz] := ⟨_, (N1 _ ht).1, rfl, 0, rfl⟩
  refine assign_Tuple_tuple hh ht1 rfl rfl fun h2 e2 => ?_
  have k2 : ∀ a o, h1.get? a = some o → h2.get? a = some o := fun a o e => e2 a o (Nat.ne_of_lt (Heap.lt_size e)) e
  have n1 : h1.Ns C mc := st.ns.at' fun o e => k1 C o b.ic.symm e
  refine three_names (e := compEnvC scope cl C env) (lookup_relabel_local hx) (lookup_relabel_local hy) (lookup_relabel_local hz) xy xz yz (by simp [compEnvC, relabel, hkind]) (n1.at' fun o e => k2 C o e) fun h3 tk mc' n3 ex ey ez k3 => ?_
  have k4 : ∀ a o, a ≠ C → h1.get? a = some o → h3.get? a = some o := fun a o ha e => k3 a o ha (k2 a o e)
  refine hQ h3 tk mc' ⟨touch_fr F1 k4 b.cL b.c0, touch_led N1 k4 fun p hp => (b.off p hp).2.1, it1.at fun o e => k4 I o b.ic e, n3, k4 D oD b.cd.symm (k1 D oD b.di.symm st.acc)⟩ ex ey ez
/-- no item is left -/
theorem take_end {vs : List Value} {nn : Nat} {R : Shared → Prop} {K : Value → Shared → Prop} (hh : A.handled = none) (b : Blk h₀ L I C D news) (st : BSt h₀ L l I C D news m s.heap i mc oD)
    (hl : (l, listOf vs.toArray nn) ∈ news) (hv : vs[i]? = none) (hR : ∀ h' : Heap, Fr h₀ L h' m → News h₀ L h' news → h'.Ns C mc → h'.get? D = some oD → R { s with heap := h' }) :
    wpAny (model prog w) A (pyNext (.ref I)) (fun r s₁ => match r with
      | none => R s₁
      | some v => K v s₁) E s := by
  refine wpAny_pyNext_list_end hh st.it ⟨_, (st.led _ hl).1, rfl, nn, rfl⟩ (by simpa using hv) fun h1 e1 => ?_
  exact hR h1 (touch_fr st.fr (fun a o ha e => e1 a o ha e) b.iL b.i0) (touch_led st.led (fun a o ha e => e1 a o ha e) fun p hp => (b.off p hp).1) (st.ns.at' fun o e => e1 C o b.ic.symm e) (e1 D oD b.di.symm st.acc)
/-- the block's start: an iterator, what it makes, its frame -/
theorem blk_start {e : Expr} {scope : Scope} {cl : List (Str × Addr)} {newAcc : Sem Value} {vs : List Value} {nn : Nat} {RR : Value → Addr → Result → Shared → Prop}
    (hnew : ∀ (Q : Value → Shared → Prop) (E : Value → Shared → Prop) (s : Shared), Q (.ref s.heap.objs.size) { s with heap := s.heap.push oD } → wpAny (model prog w) A newAcc Q E s) (hfree : oD.isFreed = false)
    (hstart : ∀ (it acc : Value) (env : Env) (s : Shared) (R : Result → Shared → Prop), codeAny (model prog w) A (.compLoop e 0 it acc env) R s → wpAny (model prog w) A (pyIter it) (fun it' s' => codeAny (model prog w) A (.compLoop e 0 it' acc env) R s') (notedBy (model prog w) A env fun x s' => R (.error x) s') s → codeAny (model prog w) A (.compStart e 0 it acc env) R s)
    (F : Fr h₀ L s.heap m) (N : News h₀ L s.heap news) (hl : (l, listOf vs.toArray nn) ∈ news) (hcell : ∀ y ∈ scope.names, y.2 ≠ .cell) (hkind : scope.kind = .function)
    (go : ∀ I C D h tk mc, Blk h₀ L I C D news → BSt h₀ L l I C D news m h 0 mc oD → codeAny (model prog w) A (.compLoop e 0 (.ref I) (.ref D) (compEnvC scope cl C env)) (RR (.ref D) C) { s with heap := h, toks := tk }) :
    wpAny (model prog w) A (pyIter (.ref l)) (fun it s₂ => wpAny (model prog w) A newAcc (fun acc s₃ => wpAny (model prog w) A (newFunctionEnv scope env.globals cl [] env.qual none .none (some env)) (fun cenv s₄ =>
      codeAny (model prog w) A (.compStart e 0 it acc { cenv with scope := relabel scope env }) (RR acc cenv.locals) s₄) E s₃) E s₂) E s := by
  have isl : s.heap.IsList l vs.toArray := ⟨_, (N _ hl).1, rfl, nn, rfl⟩
  refine wpAny_pyIter_list isl ?_
  generalize hg1 : s.heap.push { cls := .type "list_iterator", data := .fields #[.ref l, .int 0 0] } = g1
  have z1 : g1.objs.size = s.heap.objs.size + 1 := by rw [← hg1, Heap.size_push]
  have k1 : ∀ a o, s.heap.get? a = some o → g1.get? a = some o := fun a o q => hg1 ▸ Heap.get?_push_of_some _ q
  have i1 : g1.get? s.heap.objs.size = some { cls := .type "list_iterator", data := .fields #[.ref l, .int 0 0] } := hg1 ▸ Heap.get?_push_size _ rfl
  refine hnew _ _ _ ?_
  dsimp only
  generalize hg2 : g1.push oD = g2
  have z2 : g2.objs.size = g1.objs.size + 1 := by rw [← hg2, Heap.size_push]
  have k2 : ∀ a o, g1.get? a = some o → g2.get? a = some o := fun a o q => hg2 ▸ Heap.get?_push_of_some _ q
  have d2 : g2.get? g1.objs.size = some oD := hg2 ▸ Heap.get?_push_size _ hfree
  refine wpAny_newFunctionEnv hcell (by intro y hy; simp at hy) (fun g3 n3 s3 => ?_) hkind
  dsimp only at n3 s3 ⊢
  have k3 : ∀ a o, g2.get? a = some o → g3.get? a = some o := fun a o q => s3.extBut a o (Nat.ne_of_lt (Heap.lt_size q)) (Heap.get?_push_of_some _ q)
  have fresh : ∀ a, s.heap.objs.size ≤ a → h₀.get? a = none := fun a ha => by
    cases q : h₀.get? a with
    | none => rfl
    | some o => exact absurd (Heap.lt_size (F.keep a o q)) (Nat.not_lt.mpr ha)
  have hL := F.ns.lt
  have small : ∀ p ∈ news, p.1 < s.heap.objs.size := fun p hp => Heap.lt_size (N p hp).1
  have lt1 : s.heap.objs.size < g1.objs.size := by rw [z1]; exact Nat.lt_succ_self _
  have lt2 : g1.objs.size < g2.objs.size := by rw [z2]; exact Nat.lt_succ_self _
  have b : Blk h₀ L s.heap.objs.size g2.objs.size g1.objs.size news :=
    ⟨Nat.ne_of_gt hL, Nat.ne_of_gt (Nat.lt_trans hL (Nat.lt_trans lt1 lt2)), Nat.ne_of_gt (Nat.lt_trans hL lt1), Nat.ne_of_lt (Nat.lt_trans lt1 lt2), Nat.ne_of_lt lt1, Nat.ne_of_gt lt2,
      fresh _ (Nat.le_refl _), fresh _ (Nat.le_of_lt (Nat.lt_trans lt1 lt2)), fresh _ (Nat.le_of_lt lt1), fun p hp => ⟨Nat.ne_of_lt (small p hp), Nat.ne_of_lt (Nat.lt_trans (small p hp) (Nat.lt_trans lt1 lt2)), Nat.ne_of_lt (Nat.lt_trans (small p hp) lt1)⟩, Nat.lt_trans hL lt1⟩
  have up : ∀ a o, s.heap.get? a = some o → g3.get? a = some o := fun a o q => k3 a o (k2 a o (k1 a o q))
  have st : BSt h₀ L l s.heap.objs.size g2.objs.size g1.objs.size news m g3 0 _ oD :=
    ⟨F.keeps up, fun p hp => ⟨up _ _ (N p hp).1, (N p hp).2⟩, ⟨_, k3 _ _ (k2 _ _ i1), rfl, rfl⟩, n3, k3 _ _ d2⟩
  have loop := go _ _ _ g3 (s.toks + ([] : List (Str × Value)).length) _ b st
  exact hstart _ _ _ _ _ loop (wpAny_pyIter_listiter st.it loop)
end
end Mine
end
section
open PySem PySem.W PyProof.Rows PySem.Builtin PySem.Spec PySem.Calls
set_option maxRecDepth 100000
set_option maxHeartbeats 4000000
namespace Mine
section
variable {prog : Program} {w : World} {A : Around} {E : Value → Shared → Prop} {s : Shared} {env : Env} {h₀ : Heap} {target : PySem.Expr} {body : List Stmt} {Q : Flow → Shared → Prop}
/-- iterT, the iterator told by its class -/
theorem iterTc {l : Addr} {vs : List Value} {nn : Nat} {m₀ : Str → Option Value} {news : List (Addr × Obj)} (J : Nat → (Str → Option Value) → List (Addr × Obj) → Prop)
    (hh : A.handled = none) (hl : (l, listOf vs.toArray nn) ∈ news) (F : Fr h₀ env.locals s.heap m₀) (N : News h₀ env.locals s.heap news) (hj : J 0 m₀ news)
    (turn : ∀ i v m₁ nx h tk own, vs[i]? = some v → OwnOff own (nx.map (·.1)) → (∀ p ∈ own, p.2.cls = .type "list_iterator") → (l, listOf vs.toArray nn) ∈ nx → J i m₁ nx → Fr h₀ env.locals h m₁ → News h₀ env.locals h (nx ++ own) →
      wpAny (model prog w) A (assign target env v) (fun _ s₃ => wpAny (model prog w) A (execs body env) (InvPostG h₀ env.locals (fun m' nx' => (l, listOf vs.toArray nn) ∈ nx' ∧ J (i + 1) m' nx') own { s with heap := h, toks := tk } Q) E s₃) E { s with heap := h, toks := tk })
    (done : ∀ m₁ nx h tk, J vs.length m₁ nx → Fr h₀ env.locals h m₁ → News h₀ env.locals h nx → Q .next { s with heap := h, toks := tk }) :
    wpAny (model prog w) A (pyIter (.ref l)) (fun it s₂ => TurnsAt prog w A h₀ env target body Q E it s₂) E s := by
  refine iter_listTurns hh F N hl rfl rfl fun I hI => ?_
  -- the items from the i-th on, whatever names and ledger there are, as long as the iterator stands apart
  have key : ∀ (r : List Value) (i : Nat) (m₁ : Str → Option Value) (nx : List (Addr × Obj)), i + r.length = vs.length → r = vs.drop i → (∀ p ∈ nx, p.1 ≠ I) → (l, listOf vs.toArray nn) ∈ nx → J i m₁ nx →
      ItemsRest prog w A E h₀ env target body Q s [(I, "list_iterator")] [(l, listOf vs.toArray nn)] (r.map .val) m₁ nx := by
    intro r
    induction r with
    | nil =>
      intro i m₁ nx hi _ _ _ hJ
      have e : i = vs.length := by simpa using hi
      subst e
      exact ItemsRest.zero fun h tk F₁ N₁ => done m₁ nx h tk hJ F₁ N₁
    | cons v r ih =>
      intro i m₁ nx hi hr hoff hmem hJ
      have hv : vs[i]? = some v := by
        have h1 : (vs.drop i)[0]? = some v := by rw [← hr]; rfl
        simpa using h1
      have hr' : r = vs.drop (i + 1) := by
        have h1 : (vs.drop i).tail = r := by rw [← hr]; rfl
        rw [← h1]; simp
      refine ItemsRest.val fun h tk F₁ => ?_
      intro o hcls N₁
      have hsep : OwnOff [(I, o)] (nx.map (·.1)) := by
        intro p hp b hb e
        obtain ⟨q, hq, rfl⟩ := List.mem_map.mp hb
        have h1 : p.1 = I := by rw [List.mem_singleton.mp hp]
        exact hoff q hq (e ▸ h1)
      have N₂ : News h₀ env.locals h (nx ++ [(I, o)]) := by
        intro p hp
        apply N₁
        rcases List.mem_append.mp hp with hp | hp
        · exact List.mem_append.mpr (.inr hp)
        · exact List.mem_append.mpr (.inl hp)
      refine wpAny_mono (turn i v m₁ nx h tk [(I, o)] hv hsep (fun p hp => by rw [List.mem_singleton.mp hp]; exact hcls) hmem hJ F₁ N₂) (fun _ s₃ hs => wpAny_mono hs (fun f s₄ hf => ?_) (fun _ _ e => e)) (fun _ _ e => e)
      have fin : InvEndG h₀ env.locals (fun m' nx' => (l, listOf vs.toArray nn) ∈ nx' ∧ J (i + 1) m' nx') [(I, o)] { s with heap := h, toks := tk } s₄ →
          UnrEndW h₀ env.locals { s with heap := h, toks := tk } [(I, o)] (fun m' n' => SubL [(l, listOf vs.toArray nn)] n' ∧ ItemsRest prog w A E h₀ env target body Q s [(I, "list_iterator")] [(l, listOf vs.toArray nn)] (r.map .val) m' n') s₄ := by
        rintro ⟨h', tk', m', all, nx', e, F', N', hn, ho, ha, hm', hJ'⟩
        have apart : ∀ p ∈ nx', p.1 ≠ I := fun p hp q => ha (I, o) (.head _) p.1 (List.mem_map.mpr ⟨p, hp, rfl⟩) q.symm
        refine ⟨h', tk', m', nx', e, F', ?_, ?_, ⟨hm', trivial⟩, ih (i + 1) m' nx' (by simp at hi; omega) hr' apart hm' hJ'⟩
        · intro p hp
          rcases List.mem_append.mp hp with hp | hp
          · exact N' p (ho p hp)
          · exact N' p (hn p hp)
        · intro p hp q hq
          rw [List.mem_singleton.mp hq]
          exact apart p hp
      cases f with
      | ret v => exact hf
      | brk => exact hf
      | next => exact fin hf
      | cont => exact fin hf
  exact key vs 0 m₀ news (by simp) rfl (fun p hp => Nat.ne_of_lt (hI p hp)) hl hj
end
end Mine
end
section
open PySem PySem.W PyProof.Rows PySem.Builtin PySem.Builtin.Str PySem.Calls
set_option maxRecDepth 100000
set_option maxHeartbeats 8000000
namespace Mine
local macro_rules | `(tactic| walk_at "enterD") => `(tactic| (refine' code_defC ?k1 ?k2 ?k3 ?k4 ?k5 ?kA ?kF ?kK ?k6 ?k7 ?k8 ?k9 ?kB ?kD ?_ ?c2 ?c3 ?c4; (case kA => exact rfl); (case kF => exact rfl); (case kK => assumption); (case k1 => k_asm); (case k2 => k_asm); (case k3 => k_asm); (case k4 => k_asm); (case k5 => k_asm); (case k6 => k_is); (case k7 => k_is); (case k8 => ktr_room); (case k9 => exact BindsTo.of_eq rfl); (case kB => exact rfl); (case kD => decide +kernel); (case c2 => exact rfl); (case c3 => exact rfl); (case c4 => exact rfl); k_whole; intro g' L' h' tk' cells' FG' F' N' Y' B' X' T' l1; (try k_lt l1); (try k_cells Y'); (try simp only [List.cons_append, List.nil_append] at N'); (try dsimp only); (try k_lift B'); (try k_fold)))
local macro_rules | `(tactic| walk_at "pad0") => `(tactic| skip)
local macro_rules | `(tactic| walk_at "pad1") => `(tactic| skip)
local macro_rules | `(tactic| walk_at "pad2") => `(tactic| skip)
local macro_rules | `(tactic| walk_at "pad3") => `(tactic| skip)
section
open PySem PySem.W PyProof.Rows PySem.Builtin PySem.Builtin.Str
set_option maxRecDepth 100000
set_option maxHeartbeats 8000000
theorem fillN : PySem.Challenge.rw_rw0014_02 = PySem.Challenge.rw_rw0014_02 ∧ hd.heap_39 = hd.heap_39 := by k_fill; exact ⟨rfl, rfl⟩
theorem SrcG.hold {prog : Program} {w : World} {A : Around} {h₀ : Heap} {L : Addr} {m : Str → Option Value} {env : Env} {elt : Expr} {x : Str} {scope : Scope} {cl : List (Str × Addr)} {Fin : Shared → List Value → List (Addr × Obj) → Prop} {xv : Value} {s₁ : Shared} (h : Hold (SrcG prog w A h₀ L m env elt x scope cl Fin xv s₁)) : SrcG prog w A h₀ L m env elt x scope cl Fin xv s₁ := h
local macro_rules | `(tactic| walk_at "eval ListComp") => `(tactic| (k_here; k_dflt (refine ListComp_G (by k_asm) (by with_unfolding_all rfl) (by decide) (by rfl) (by decide) (by rfl) ?_)))
theorem len_base {prog : Program} {w : World} {A : Around} {E : Value → Shared → Prop} {s : Shared} {h₀ : Heap} {L : Addr} {m : Str → Option Value} {D : Addr} {vs : List Value} {Q : Value → Shared → Prop} (hl : h₀.IsList D vs.toArray) (F : Fr h₀ L s.heap m) (hn : vs.length ≤ 63) (h : Q (.int (vs.length : Int) (s.toks + 1)) { s with toks := s.toks + 1 + 1 }) : wpAny (model prog w) A (call (.builtin "len") [.ref D]) Q E s := by
  have hl := hl.at fun o e => F.keep D o e
  exact len_list hl (by simp; omega) (by simpa using h)
local macro_rules | `(tactic| walk_at "call builtin:len") => `(tactic| ((with_reducible show wpAny _ _ (call (Value.builtin "len") [Value.ref _]) _ _ _); first | refine kst_len (by k_asm) (by k_mem) (by assumption) (by decide) ?_ | refine len_base (by k_asm) (by k_asm) (by assumption) ?_))
theorem fmod_mil (x : Int) : 0 ≤ x.fmod (10 ^ Int.toNat 6) ∧ x.fmod (10 ^ Int.toNat 6) < 1000000 := by
  have e : ((10 : Int) ^ Int.toNat 6) = 1000000 := by decide
  rw [e]
  exact ⟨Int.fmod_nonneg_of_pos _ (by omega), Int.fmod_lt_of_pos _ (by omega)⟩
theorem off1_mem {D : Addr} : ∀ {l : List (Addr × Obj)}, LCg.Off1 D l → ∀ p ∈ l, p.1 ≠ D
  | [], _, _, h => nomatch h
  | _ :: _, x, p, h => by
    rcases List.mem_cons.mp h with rfl | h
    · exact x.1
    · exact off1_mem x.2 p h
theorem int_at {vs : List Value} {ns : List Int} (h : IntsAre vs ns) {i : Nat} (hi : i < vs.length) : ∃ r t, vs[i]? = some (.int r t) := by
  have hl := h.length
  obtain ⟨t, ht⟩ := h.get i (ns[i]'(by omega)) (by simp [show i < ns.length by omega])
  exact ⟨_, t, ht⟩
theorem item_base {prog : Program} {w : World} {A : Around} {E : Value → Shared → Prop} {s : Shared} {h₀ : Heap} {L : Addr} {m : Str → Option Value} {value slice : PySem.Expr} {D : Addr} {vs : List Value} {k : Int} {u : Tok} {v : Value} {Q : Value → Shared → Prop} (hl : h₀.IsList D vs.toArray) (F : Fr h₀ L s.heap m) (h0 : 0 ≤ k) (hfit : k < 2 ^ 63) (hv : vs[k.toNat]? = some v) (h : Q v s)
    (hs : subscripted slice false (.ref D) (.int k u) = operate [.ref D, .int k u] (getItem (.ref D) (.int k u)) := by with_unfolding_all rfl) :
    wpAny (model prog w) A (subscriptTail value slice (.ref D) (.int k u)) Q E s := by
  have hl := hl.at fun o e => F.keep D o e
  exact tail_any hl.typeIs slot_list_getitem.lookup (wpAny_getItem_list hl h0 hfit (by simpa using hv) h) hs
local macro_rules | `(tactic| walk_at "subscriptTail") => `(tactic| ((with_reducible show wpAny _ _ (subscriptTail _ _ (Value.ref _) (Value.int _ _)) _ _ _); first | (with_unfolding_all refine item_at (by k_asm) (by k_mem) (by omega) (by omega) (by assumption) ?_) | (with_unfolding_all refine item_base (by k_asm) (by k_asm) (by omega) (by omega) (by assumption) ?_)))
local macro_rules | `(tactic| walk_at "SrcG") => `(tactic| (apply SrcG.hold))
section
variable {w : World} {mean : ExcName → Option Value} {mg mb : Str → Option Value} {news : List (Addr × Obj)} {dp un : Nat} {gd : Option (List Code)} {cn : Str} {cs : Scope} {a : Addr} {ccd : Value} {cl : List (Str × Addr)} {outer : List Env} {A₀ : Around} {base h₀ : Heap} {L : Addr} {m : Str → Option Value} {s : Shared} {Q E : Value → Shared → Prop}
theorem num_call {l Do : Addr} {vs ovs : List Value} {ns ons : List Int} {oo : Nat} (B : Below A₀ base outer h₀) (F : Fr h₀ L s.heap m) (X : (hd.heap_39 w.params).In h₀) (N : News h₀ L s.heap ((Do, listOf ovs.toArray oo) :: news)) (T : Top hd.view_39 (looseW hd.view_39 [Str.ofString "_twin_re_1", Str.ofString "_twin_re_2"]) mean mg mb h₀) (hk : cs.kind = .function)
    (hScL : h₀.IsList l vs.toArray) (hScI : IntsAre vs ns) (hScN : vs.length ≤ 63) (hOwn : IntsAre ovs ons) (h6 : ovs.length = 7) (hd1 : dp + 1 < recursionLimit) (hu : un + 8 < cLine)
    (hret : ∀ (D : Addr) (ws : List Value) (ks : List Int) (h' : Heap) (tk' : Nat), IntsAre ws ks → ws.length = 7 → (∀ k ∈ ks, 0 ≤ k ∧ k < 1000000) → Fr h₀ L h' m → News h₀ L h' ((D, LCg.lst ws) :: (Do, listOf ovs.toArray oo) :: news) → (∀ p ∈ (Do, listOf ovs.toArray oo) :: news, p.1 ≠ D) → Q (.ref D) { s with heap := h', toks := tk' }) :
    wpAny (model PySem.Challenge.rw_rw0014_02.row.prog w) (ktrTop dp un gd cn cs L a ccd cl outer) (call (.ref 81) [.ref l, .ref Do]) Q E s := by
  w_on
  refine wpAny_call ?_
  k_dflt (walk_at "enterD")
  (rename Fr h₀ L _ m => hFG9)
  have hSc9 := hScL.at (fun o e => hFG9.keep _ o e)
  k_steps
  unfold Hold
  refine ⟨7, _, _, IterOk.range (by rfl) (by assumption) (by decide +kernel) (by decide +kernel), by k_asm, by k_asm, by decide +kernel, ?_⟩
  rintro _ ⟨g9, rfl⟩
  refine crest_P (fun i (_ : Unit) v => ∃ t, v = .int (0 + i * 1) t) (fun y => ∃ r t, y = .int r t ∧ (0 ≤ r ∧ r < 1000000)) (fun i v hi h => ⟨(), h.2⟩) ?_ ?_
  · rintro i _ _ I' oI' C' oC' D' m' ys' h' tk' E' hi' ⟨u', rfl⟩ hC' hx' F' N' off' ne'
    (rename IntsAre ovs ons => hOwn)
    obtain ⟨r', t', hr'⟩ := int_at hOwn (show ((0 : Int) + (i : Int) * 1).toNat < ovs.length by omega)
    (try simp only [LCg.Off3, and_true] at off')
    k_unmd
    k_fold
    k_steps
    unfold Hold
    (rename IsRange _ _ _ (vs.length : Int) _ _ _ _ => hR9)
    have h6i : (ons.length : Int) = 7 := by rw [← hOwn.length, h6]; rfl
    rw [h6i] at hR9
    have hsz9 := rangeSize_toNat_le (0 + (i : Int) * 1) (vs.length : Int) 7
    refine ⟨(Builtin.Range.rangeSize (0 + (i : Int) * 1) (vs.length : Int) 7).toNat, _, _, IterOk.range (by rfl) hR9 (small_step (by omega) (by omega) (by omega) (by omega) (by omega) (by omega)) (rangeSize_toNat _ _ _), by k_asm, by k_asm, by (rw [sizeLine_eq]; omega), ?_⟩
    rintro _ ⟨g9, rfl⟩
    refine crest_P (fun i2 (_ : Unit) v => ∃ t, v = .int ((0 + (i : Int) * 1) + i2 * 7) t) (fun y => ∃ r t, y = .int r t ∧ True) (fun i v hi h => ⟨(), h.2⟩) ?_ ?_
    · rintro i2 _ _ I2' oI2' C2' oC2' D2' m2' ys2' h2' tk2' E2' hi2' ⟨u2', rfl⟩ hC2' hx2' F2' N2' off2' ne2'
      have hin := step_in (by omega) (by omega) hi2'
      obtain ⟨r2', t2', hr2'⟩ := int_at hScI (show ((0 + (i : Int) * 1) + i2 * 7 : Int).toNat < vs.length by omega)
      (try simp only [LCg.Off3, and_true] at off2')
      k_unmd
      k_fold
      k_steps
      refine LCg.CompEnd.intro (by k_asm) (by k_asm) _ ?hs ?ho ?hS ⟨rfl, _, _, rfl, trivial⟩
      case hs => kcf_all
      case ho => (simp only [LCg.Off3, and_true]; assumption)
      case hS => trivial
    · intro ys2' hlen2' hys2' D2' h2' tk2' F2' N2' off2'
      obtain ⟨ks2, hk21, hk22⟩ := ints_of hys2'
      (try k_unmd)
      (try k_fold)
      k_steps
      refine LCg.CompEnd.intro (by k_asm) (by k_asm) _ ?hs ?ho ?hS ⟨rfl, _, _, rfl, fmod_mil _⟩
      case hs => kcf_all
      case ho => (simp only [LCg.Off3, and_true]; assumption)
      case hS => trivial
  · intro ys' hlen' hys' D' h' tk' F' N' off'
    k_steps
    obtain ⟨ks, hk1, hk2⟩ := ints_of hys'
    exact hret D' ys' ks h' tk' hk1 hlen' hk2 (by k_asm) (cb_drop (by assumption) (by kcf_all)) (by
      have h1 := off1_mem off'
      intro p hp; exact h1 p (by first | exact .tail _ (.tail _ hp)))
end
end
section
open PySem PySem.W PyProof.Rows PySem.Builtin PySem.Builtin.Str PySem.Calls
set_option maxRecDepth 100000
set_option maxHeartbeats 8000000
noncomputable def lawDef : Stmt := PySem.Challenge.pw_rw0014_02.main.body.getLast?.getD (.Pass ⟨0, 0, 0, 0⟩)
noncomputable def lawBody : List Stmt := match lawDef with | .FunctionDef _ _ b _ _ _ _ _ _ _ => b | _ => []
noncomputable def lawStmt (n : Nat) : Stmt := lawBody.getD n (.Pass ⟨0, 0, 0, 0⟩)
noncomputable def lawScope : Scope := match lawDef with | .FunctionDef _ _ _ _ _ _ sc _ _ _ => sc | _ => { kind := .function, names := [], isGenerator := false, isCoroutine := false }
noncomputable abbrev lawEnv (L fa : Addr) (cdv : Value) : Env := envOfC (Str.ofString "law") lawScope L fa cdv
noncomputable abbrev lawA (dp un : Nat) (gd : Option (List Code)) (L fa : Addr) (cdv : Value) (outer : List Env) : Around := ktrTop dp un gd (Str.ofString "law") lawScope L fa cdv (cellsFrom (L + 1) lawScope.names []) outer
theorem fillD : PySem.Challenge.rw_rw0014_02 = PySem.Challenge.rw_rw0014_02 ∧ hd.heap_39 = hd.heap_39 := by k_fill; exact ⟨rfl, rfl⟩
theorem at_other {m : Str → Option Value} {x y : Str} {v : Option Value} {u : Option Value} (h : x ≠ y) (e : m x = u) : (fun z => if z = y then v else m z) x = u := by
  show (if x = y then v else m x) = u
  rw [if_neg h]; exact e
noncomputable def forBody (n : Nat) : List Stmt := match lawStmt n with | .For _ _ b _ _ => b | _ => []
/-- the law came back and said True -/
def RT (h₀ : Heap) (L : Addr) (s : Shared) (fl : Flow) (s' : Shared) : Prop := fl = .ret (.bool true) ∧ ∃ h' tk m' nw, s' = { s with heap := h', toks := tk } ∧ Fr h₀ L h' m' ∧ News h₀ L h' nw
end
local macro_rules | `(tactic| walk_at "go") => `(tactic| (first | (k_unfold; (try dsimp only)) | walk1 | (dsimp only; walk1)))
local macro_rules | `(tactic| walk_at "exec Assign cons ListComp") => `(tactic| (k_here; k_dflt (refine LCg.Assign_ListComp_U (F₀ := by k_asm) (by rfl) (by with_unfolding_all rfl) (by with_unfolding_all rfl) (by decide) (by rfl) (by decide) (by rfl) (by rfl) (by rfl) ?_)))
local macro_rules | `(tactic| walk_at "eval ListComp") => `(tactic| (k_here; k_dflt (refine LCg.ListComp_U (F₀ := by k_asm) (by with_unfolding_all rfl) (by decide) (by rfl) (by decide) (by rfl) ?_)))
local macro_rules | `(tactic| walk_at "CompSrc") => `(tactic| (apply Hold.out))
local macro_rules | `(tactic| walk_at "pyIter ref") => `(tactic| ((with_reducible show wpAny _ _ (pyIter (Value.ref _)) (fun it s₂ => LoopAtV _ _ _ _ _ _ _ _ _ it s₂) _ _); apply Hold.out))
local macro_rules | `(tactic| walk_at "exec For Name Call cons nil") => `(tactic| (walk_at "ownF"))
local macro_rules | `(tactic| walk_at "exec For Name Name cons nil") => `(tactic| (walk_at "ownF"))
local macro_rules | `(tactic| walk_at "CompEnd") => `(tactic| ((refine LCg.CompEnd.intro (by k_asm) (by k_asm) _ ?hs ?ho ?hS (kcf_el ?he rfl rfl)); (case he => first | rfl | (rw [if_pos (by assumption)]; done) | (rw [if_neg (by simp [*])]; done) | (simp [*]; done)); (case hs => kcf_all); (case ho => first | assumption | trivial | (simp only [LCg.Off3, and_true]; first | assumption | done)); (case hS => first | trivial | lcg_src | assumption)))
local macro_rules | `(tactic| walk_at "call ref") => `(tactic| ((with_reducible show wpAny _ _ (call (Value.ref 38) [Value.str _ _, Value.str _ _]) _ _ _); (k_dflt (refine' em_call ?k1 ?k2 ?k3 ?k4 ?k5 ?kK ?kp ?kd ?ku ?_; (case k2 => k_asm); (case k4 => k_asm); (case k1 => k_asm); (case k3 => k_asm); (case k5 => k_asm); (case kK => first | exact rfl | assumption); (case kp => constructor <;> first | omega | (walk_at "em_size")); (case kd => first | omega | ktr_room); (case ku => first | omega | ktr_units))); intro h' tk' F' N'; (try k_fold)))
local macro_rules | `(tactic| walk_at "em_size") => `(tactic| first | omega | (refine Nat.le_trans (by walk_at "len_up") (by omega)))
local macro_rules | `(tactic| walk_at "len_up") => `(tactic| first | (with_reducible exact Txt.slice_le _ _ _) | (with_reducible exact dots3) | (with_reducible refine len_app2 (by walk_at "len_up") (by walk_at "len_up")) | (with_reducible exact Nat.le_refl _))
local macro_rules | `(tactic| walk_at "call builtin:list.append") => `(tactic| ((show wpAny _ _ (call (Value.builtin "list.append") [Value.ref _, _]) _ _ _); (k_dflt (refine' app_head ?k1 ?k2 ?k3 ?z ?_; (case k1 => k_asm); (case k2 => k_asm); (case k3 => walk_at "ne_all"); (case z => walk_at "sz"))); intro h' F' N'))
local macro_rules | `(tactic| walk_at "sz") => `(tactic| first | ((simp only [List.length_append, List.length_cons, List.length_nil]); (have hl9 := IntsAre.length (by assumption)); omega) | ((simp only [List.length_append, List.length_cons, List.length_nil]); (have hl9 := StrsAre.len_eq (by assumption)); omega))
local macro_rules | `(tactic| walk_at "ne_all") => `(tactic| first | exact List.forall_mem_nil _ | (refine List.forall_mem_cons.mpr ⟨?_, ?_⟩; (focus (first | (exact Nat.ne_of_lt (by assumption)) | k_ne)); walk_at "ne_all") | (refine List.forall_mem_append.mpr ⟨?_, ?_⟩; (focus walk_at "ne_all"); walk_at "ne_all") | exact OwnOff.ne (by assumption) (List.Mem.head _) | exact allLt_ne (by assumption))
local macro_rules | `(tactic| walk_at "eval ListComp") => `(tactic| ((with_reducible show wpAny _ _ (eval (Expr.ListComp _ [⟨_, _, [_], _⟩] _ _) _) _ _ _); k_dflt (refine LCt.ListComp_T (F₀ := by k_asm) (by with_unfolding_all rfl) (by decide) (by rfl) (by decide) (by rfl) ?_)))
local macro_rules | `(tactic| walk_at "CompSrcT") => `(tactic| (apply Hold.out))
local macro_rules | `(tactic| walk_at "ifs") => `(tactic| repeat' (first | rfl | (split; (focus ((rename _ = Str.ofString _ => h9); subst h9; symm; assumption)))))
local macro_rules | `(tactic| walk_at "call ref") => `(tactic| ((with_reducible show wpAny _ _ (call (Value.ref _) [Value.int _ _]) _ _ _); (k_dflt (first | (refine' ist_call ?k1 ?k2 ?k3 ?k4 ?k5 ?kK ?kd ?ku ?_) | (refine' isn_call ?k1 ?k2 ?k3 ?k4 ?k5 ?kK ?kd ?ku ?_) | (refine' ise_call ?k1 ?k2 ?k3 ?k4 ?k5 ?kK ?kd ?ku ?_)); (case k2 => k_asm); (case k4 => k_asm); (case k1 => k_asm); (case k3 => k_asm); (case k5 => k_asm); (case kK => first | exact rfl | assumption); (case kd => first | omega | ktr_room); (case ku => first | omega | ktr_units)); intro h' tk' F' N'; (try k_fold)))
local macro_rules | `(tactic| walk_at "subscriptTail List cons BinOp ref int") => `(tactic| ((with_reducible show wpAny _ _ (subscriptTail (Expr.List _ _) _ (Value.ref _) (Value.int _ _)) _ _ _); ((refine' item_menu3 ?k1 ?k2 ?k3 ?k4 ?_ ?_ ?_ ?hs; (case k1 => k_asm); (case k2 => with_unfolding_all exact List.Mem.head _); (case k3 => exact (fmod3 _).1); (case k4 => exact (fmod3 _).2); (case hs => with_unfolding_all rfl)) <;> intro hj)))
local macro_rules | `(tactic| walk_at "mem5") => `(tactic| first | exact List.Mem.head _ | (refine List.Mem.tail _ ?_; walk_at "mem5"))
local macro_rules | `(tactic| walk_at "execs cons Assign nil") => `(tactic| ((with_reducible show wpAny _ _ (execs [Stmt.Assign _ _ _] _) _ _ _); refine wpAny_execs_cons ?_))
local macro_rules | `(tactic| walk_at "execs cons Expr nil") => `(tactic| ((with_reducible show wpAny _ _ (execs [Stmt.Expr _ _] _) _ _ _); refine wpAny_execs_cons ?_))
local macro_rules | `(tactic| walk_at "ownF") => `(tactic| (k_here; (rename Fr _ _ _ _ => lF'); (with_unfolding_all refine' For_invVF (hE := ?k3) lF' ?k1 ?k2 ?_; (case k1 => exact rfl); (case k2 => exact rfl); (case k3 => assumption); k_whole)))
local macro_rules | `(tactic| walk_at "brk") => `(tactic| (refine Hold.brk (by assumption) (by with_unfolding_all rfl) ?_))
local macro_rules | `(tactic| walk_at "execs cons") => `(tactic| (walk_at "brk"))
local macro_rules | `(tactic| walk_at "own0") => `(tactic| ((k_dflt (refine' qd_call ?k1 ?k2 ?k3 ?k4 ?k5 ?kK ?kp ?kd ?ku ?_; (case k2 => k_asm); (case k4 => k_asm); (case k1 => k_asm); (case k3 => k_asm); (case k5 => k_asm); (case kK => first | exact rfl | assumption); (case kp => omega); (case kd => first | omega | ktr_room); (case ku => first | omega | ktr_units))); intro t' h' tk' F' N'; (try k_fold)))
local macro_rules | `(tactic| walk_at "own1") => `(tactic| ((refine' item_menuE ?k1 ?k2 ?k3 ?k4 ?_ ?hs; (case k1 => k_asm); (case k2 => with_unfolding_all exact List.Mem.head _); (case k3 => exact (fmod3 _).1); (case k4 => exact (fmod3 _).2); (case hs => with_unfolding_all rfl)); intro tE hE'))
local macro_rules | `(tactic| walk_at "own2") => `(tactic| first | assumption | (refine List.forall_mem_cons.mpr ⟨?_, ?_⟩; (focus (first | (exact Nat.ne_of_gt (by assumption)) | k_ne)); walk_at "ne_all2"))
local macro_rules | `(tactic| walk_at "own3") => `(tactic| ((refine' storeX_D ?F ?N ?c ?m ?U ?S ?d ?_ ?a ?b; (case a => rfl); (case b => rfl); (case F => k_asm); (case N => k_asm); (case c => rfl); (case m => k_mem); (case U => assumption); (case S => kcf_all); (case d => k_asm)); k_whole; intro h' o' F' N' d'; (try dsimp only at N'); (try k_sweep)))
local macro_rules | `(tactic| walk_at "own4") => `(tactic| ((show wpAny _ _ (call (Value.builtin "str.join") [Value.str _ _, Value.str _ _]) _ _ _); (refine join_strF (by rfl) (by k_asm) (by k_asm) (joinOk_signsN (N := 100) (S := 16) (by omega) (by decide +kernel) (by decide)) ?_); intro h' k' t' F' N'))
local macro_rules | `(tactic| walk_at "own5") => `(tactic| ((with_reducible show wpAny _ _ (getMethod (Value.ref _) _ _) _ _ _); (refine kdg_method (knd := PySem.intKind Pr1 _) (by k_asm) (by walk_at "mem5") (by assumption) ?_)))
local macro_rules | `(tactic| walk_at "own6") => `(tactic| ((show wpAny _ _ (call (Value.builtin "dict.get") [Value.ref _, Value.int _ _]) _ _ _); (refine kdg_get1 (knd := PySem.intKind Pr1 _) (by k_asm) (by walk_at "mem5") (by assumption) (by assumption) (key_int _ _) _ (by assumption) ?_); dsimp only [Option.getD]))
section
open PySem PySem.W PyProof.Rows PySem.Builtin PySem.Builtin.Str PySem.Calls
set_option maxRecDepth 100000
set_option maxHeartbeats 8000000
theorem fill_SE : PySem.Challenge.rw_rw0014_02 = PySem.Challenge.rw_rw0014_02 ∧ hd.heap_39 = hd.heap_39 := by k_fill; exact ⟨rfl, rfl⟩
local macro_rules | `(tactic| walk_at "call ref") => `(tactic| ((with_reducible show wpAny _ _ (call (Value.ref 55) [Value.str _ _]) _ _ _); walk_at "own0"))
local macro_rules | `(tactic| walk_at "subscriptTail List cons BinOp ref int") => `(tactic| ((with_reducible show wpAny _ _ (subscriptTail (Expr.List _ _) _ (Value.ref _) (Value.int _ _)) _ _ _); walk_at "own1"))
/-- one symbol sent: b tells a nonterminal -/
def sentStep (lo hi : Str) (turn : Int) (a : Str × Str) (x : Int) : Str × Str :=
  (a.1 ++ (if x < 256 then lo else hi), qdT a.2 ++ (if x ≥ 256 then Str.ofString "." else Str.ofString "a") ++ endS ((turn + (a.1.length : Int)).fmod 3))
def sentF (lo hi : Str) (turn : Int) (ws : List Int) : Str × Str := ws.foldl (sentStep lo hi turn) (Str.ofString "", Str.ofString "")
section
variable {w : World} {mean : ExcName → Option Value} {mg mb : Str → Option Value} {news : List (Addr × Obj)} {dp un : Nat} {gd : Option (List Code)} {cn : Str} {cs : Scope} {a : Addr} {ccd : Value} {cl : List (Str × Addr)} {outer : List Env} {A₀ : Around} {base h₀ : Heap} {L : Addr} {m : Str → Option Value} {s : Shared} {Q E : Value → Shared → Prop}
theorem sent_call {Dl : Addr} {vs : List Value} {ws post : List Int} {kk : Nat} {lo hi : Str} {turn : Int} {t1 t2 t3 : Tok} (B : Below A₀ base outer h₀) (F : Fr h₀ L s.heap m) (X : (hd.heap_39 w.params).In h₀) (N : News h₀ L s.heap ((Dl, listOf vs.toArray kk) :: news)) (T : Top hd.view_39 Lo1 mean mg mb h₀) (hk : cs.kind = .function)
    (hI : IntsAre vs (ws ++ 0 :: post)) (hw0 : ∀ x ∈ ws, x ≠ 0) (hlo : lo.length = 1) (hhi : hi.length = 1) (htn : 0 ≤ turn ∧ turn ≤ 10000000) (hl : ∀ i, i ≤ ws.length → (sentF lo hi turn (ws.take i)).1.length ≤ 100 ∧ (sentF lo hi turn (ws.take i)).2.length ≤ 1000 ∧ (qdT (sentF lo hi turn (ws.take i)).2).length ≤ 1000) (hd1 : dp + 2 < recursionLimit) (hu : un + 100 < cLine)
    (hret : ∀ (D : Addr) (tw tm : Tok) (h' : Heap) (tk' : Nat), Fr h₀ L h' m → News h₀ L h' ((D, { cls := .type "tuple", data := .seq #[.str (sentF lo hi turn ws).1 tw, .str (sentF lo hi turn ws).2 tm] }) :: (Dl, listOf vs.toArray kk) :: news) → (∀ p ∈ (Dl, listOf vs.toArray kk) :: news, p.1 ≠ D) → Q (.ref D) { s with heap := h', toks := tk' }) :
    wpAny (model Pr1 w) (ktrTop dp un gd cn cs L a ccd cl outer) (call (.ref 88) [.ref Dl, .str lo t1, .str hi t2, .int turn t3]) Q E s := by
  w_on
  refine wpAny_call ?_
  k_dflt (walk_at "enterD")
  repeat' (walk_at "go")
  unfold Hold
  rename_i g L2 h5 tk5 cells FG Y B2 X2 T2 lL DT h3 lT h2 h1 h0 lF lN
  obtain ⟨m₀, F₀, ⟨tw0, e1⟩, ⟨tm0, e2⟩, e3, e4, e5⟩ : ∃ m₀, Fr g L2 h0 m₀ ∧ (∃ t, m₀ (Str.ofString "word") = some (.str (Str.ofString "") t)) ∧ (∃ t, m₀ (Str.ofString "mail") = some (.str (Str.ofString "") t)) ∧ m₀ (Str.ofString "low") = some (.str lo t1) ∧ m₀ (Str.ofString "high") = some (.str hi t2) ∧ m₀ (Str.ofString "turn") = some (.int turn t3) :=
    ⟨_, lF, ⟨_, by with_unfolding_all rfl⟩, ⟨_, by with_unfolding_all rfl⟩, by with_unfolding_all rfl, by with_unfolding_all rfl, by with_unfolding_all rfl⟩
  (rename IntsAre vs _ => hI9)
  refine kdl_iter (vs := vs) (nn := kk) (news := (Dl, listOf vs.toArray kk) :: news)
    (fun i m' nx => i ≤ ws.length ∧ nx = (Dl, listOf vs.toArray kk) :: news ∧ (∃ t, m' (Str.ofString "word") = some (.str (sentF lo hi turn (ws.take i)).1 t)) ∧ (∃ t, m' (Str.ofString "mail") = some (.str (sentF lo hi turn (ws.take i)).2 t)) ∧ Keep [Str.ofString "symbol", Str.ofString "word", Str.ofString "mail"] m₀ m')
    (by rfl) (by walk_at "mem5") F₀ (cb_drop lN (by kcf_all)) ?_ ?_ ?_
  · exact ⟨Nat.zero_le _, rfl, ⟨tw0, e1⟩, ⟨tm0, e2⟩, fun z _ => rfl⟩
  · rintro i v m₁ nx h' tk' own hv hoff hmem ⟨hi6, rfl, ⟨tw1, hw1⟩, ⟨tm1, hm1⟩, hkeep⟩ F' N'
    simp only [List.cons_append] at N'
    obtain ⟨x, hx, t, rfl⟩ := int_item hI9 (by simpa using hv)
    have hlen := hl i hi6
    have F2 := fr_put F' (put_at (x := Str.ofString "symbol") (v := .int x t) (by with_unfolding_all rfl) (put_at (at_other (by decide +kernel) hw1) (put_at (at_other (by decide +kernel) hm1) (put_at (at_other (by decide +kernel) ((hkeep _ (by decide +kernel)).trans e3)) (put_at (at_other (by decide +kernel) ((hkeep _ (by decide +kernel)).trans e4)) (put_at (at_other (by decide +kernel) ((hkeep _ (by decide +kernel)).trans e5)) rfl))))))
    clear F' lF F₀ lN
    have hS : x ≠ 0 → i < ws.length ∧ sentF lo hi turn (ws.take (i + 1)) = sentStep lo hi turn (sentF lo hi turn (ws.take i)) x := by
      intro hx0
      have hi7 : i < ws.length := by
        rcases Nat.lt_or_ge i ws.length with h | h
        · exact h
        · exfalso
          have e6 : i = ws.length := by omega
          subst e6
          simp at hx
          exact hx0 hx.symm
      refine ⟨hi7, ?_⟩
      have hxw : ws[i]? = some x := by rw [List.getElem?_append_left (by omega)] at hx; exact hx
      have e : ws.take (i + 1) = ws.take i ++ [x] := by rw [List.take_add_one, hxw]; rfl
      unfold sentF
      rw [e, List.foldl_append]
      rfl
    have hZ : x = 0 → ws.take i = ws := by
      intro hx0
      rcases Nat.lt_or_ge i ws.length with h | h
      · exfalso
        rw [List.getElem?_append_left (by omega)] at hx
        exact hw0 x (List.mem_of_getElem? hx) hx0
      · exact List.take_of_length_le h
    show wpAny _ _ (execs (_ :: _ :: _) _) _ _ _
    repeat' (walk_at "go")
    · (rename x = 0 => hx0)
      (rename News h₀ L _ _ => lN9)
      (rename Fr h₀ L _ _ => lF9)
      (rename _ < _ ∧ AllLt _ (news ++ own) => hl9)
      rw [hZ hx0] at lN9
      refine hret _ _ _ _ _ lF9 (cb_drop lN9 (by kcf_all)) ?_
      intro p hp
      rcases List.mem_cons.mp hp with rfl | hp
      · exact Nat.ne_of_lt hl9.1
      · exact allLt_ne hl9.2 p (List.mem_append.mpr (.inl hp))
    all_goals
      obtain ⟨hi7, hst⟩ := hS (by assumption)
      first
        | rw [sentStep, if_neg (by omega), if_pos (by omega)] at hst
        | rw [sentStep, if_pos (by omega), if_neg (by omega)] at hst
      (rename Fr g L2 _ _ => lF9)
      (rename News g L2 _ _ => lN9)
      refine InvEndG.intro (nx := (Dl, listOf vs.toArray kk) :: news) lF9 lN9 ⟨.head _, by omega, rfl, ⟨_, by rw [hst]; with_unfolding_all rfl⟩, ⟨_, by rw [hst]; with_unfolding_all rfl⟩, ?_⟩ hoff (by kcf_all) (by kcf_all)
      · intro z h1
        have h9 := h1
        simp only [List.contains_cons, List.contains_nil, Bool.or_false, Bool.or_eq_false_iff, beq_eq_false_iff_ne, ne_eq] at h1
        have hk9 := hkeep z h9
        simp [h1]
        repeat' (first | exact hk9 | (split; (focus ((rename _ = Str.ofString _ => h8); subst h8; symm; assumption))))
  · rintro m₁ nx h' tk' ⟨hi6, _⟩
    exfalso
    have h9 := hI9.length
    simp at h9
    omega
end
end
local macro_rules | `(tactic| walk_at "pad4") => `(tactic| skip)
section
open PySem PySem.W PyProof.Rows PySem.Builtin PySem.Builtin.Str PySem.Calls
set_option maxRecDepth 100000
set_option maxHeartbeats 8000000
local macro_rules | `(tactic| walk_at "call builtin:list.append") => `(tactic| ((show wpAny _ _ (call (Value.builtin "list.append") [Value.ref _, _]) _ _ _); (k_dflt (refine' app_second ?k1 ?k2 ?k3 ?z ?_; (case k1 => k_asm); (case k2 => k_asm); (case k3 => walk_at "ne_all2"); (case z => ((try simp only [List.length_append, List.length_cons, List.length_nil]); omega)))); intro h' F' N'))
local macro_rules | `(tactic| walk_at "ne_all2") => `(tactic| (walk_at "own2"))
def R3 (x : Int × Int × Str) (v : List Value) : Prop := ∃ t1 t2 t3, v = [.int x.1 t1, .int x.2.1 t2, .str x.2.2 t3]
def putAt (word lo hi : Str) (k : Nat) : List (Int × Int × Str) :=
  [(Txt.count (Txt.slice word none (some (k : Int))) hi, (k : Int), Txt.slice word none (some (k : Int)) ++ lo ++ Txt.slice word (some (k : Int)) none),
   (Txt.count word hi + 1 + Txt.count (Txt.slice word (some (k : Int)) none) lo, (k : Int), Txt.slice word none (some (k : Int)) ++ hi ++ Txt.slice word (some (k : Int)) none)]
def putN (word lo hi : Str) (i : Nat) : List (Int × Int × Str) := (List.range i).flatMap (putAt word lo hi)
def putF (word lo hi : Str) : List (Int × Int × Str) := putN word lo hi (word.length + 1)
theorem putN_succ (word lo hi : Str) (i : Nat) : putN word lo hi (i + 1) = putN word lo hi i ++ putAt word lo hi i := by
  unfold putN
  rw [List.range_succ, List.flatMap_append]
  simp
section
variable {w : World} {mean : ExcName → Option Value} {mg mb : Str → Option Value} {news : List (Addr × Obj)} {dp un : Nat} {gd : Option (List Code)} {cn : Str} {cs : Scope} {a : Addr} {ccd : Value} {cl : List (Str × Addr)} {outer : List Env} {A₀ : Around} {base h₀ : Heap} {L : Addr} {m : Str → Option Value} {s : Shared} {Q E : Value → Shared → Prop}
theorem put_call {word lo hi : Str} {t1 t2 t3 : Tok} (B : Below A₀ base outer h₀) (F : Fr h₀ L s.heap m) (X : (hd.heap_39 w.params).In h₀) (N : News h₀ L s.heap news) (T : Top hd.view_39 Lo1 mean mg mb h₀) (hk : cs.kind = .function)
    (hw : word.length ≤ 10) (hlo : lo.length = 1) (hhi : hi.length = 1) (hd1 : dp + 2 < recursionLimit) (hu : un + 100 < cLine)
    (hret : ∀ (D : Addr) (vs : List Value) (led : List (Addr × Obj)) (kk : Nat) (h' : Heap) (tk' : Nat), Tups R3 vs led (putF word lo hi) → Fr h₀ L h' m → News h₀ L h' ((D, listOf vs.toArray kk) :: (led ++ news)) → (∀ p ∈ led ++ news, p.1 ≠ D) → Q (.ref D) { s with heap := h', toks := tk' }) :
    wpAny (model Pr1 w) (ktrTop dp un gd cn cs L a ccd cl outer) (call (.ref 95) [.str word t1, .str lo t2, .str hi t3]) Q E s := by
  w_on
  refine wpAny_call ?_
  k_dflt (walk_at "enterD")
  repeat' (walk_at "go")
  unfold Hold
  rename_i g L2 h5 tk5 cells FG Y B2 X2 T2 lL D h4 lD h3 lF0 lN0 h0 tk0 t6 u6 v6 hR lF lN up
  obtain ⟨m₀, F₀, e1, e2, e3, e4⟩ : ∃ m₀, Fr g L2 h0 m₀ ∧ m₀ (Str.ofString "made") = some (.ref D) ∧ m₀ (Str.ofString "word") = some (.str word t1) ∧ m₀ (Str.ofString "low") = some (.str lo t2) ∧ m₀ (Str.ofString "high") = some (.str hi t3) :=
    ⟨_, lF, by with_unfolding_all rfl, by with_unfolding_all rfl, by with_unfolding_all rfl, by with_unfolding_all rfl⟩
  have hneD : ∀ p ∈ news, p.1 ≠ D := fun p hp => Nat.ne_of_lt (lD p (List.mem_append.mpr (.inr hp)))
  refine for_range (n := word.length + 1) (news := (D, listOf (([] : List Value)).toArray 0) :: ([] ++ news))
    (fun i m' nx => (∃ vs led kk, nx = (D, listOf vs.toArray kk) :: (led ++ news) ∧ Tups R3 vs led (putN word lo hi i) ∧ (∀ p ∈ led, p.1 ≠ D) ∧ vs.length = 2 * i) ∧ Keep [Str.ofString "k"] m₀ m')
    (by rfl) (by assumption) (small_one (by omega) (by omega) (by omega) (by omega)) (by rw [rangeSize_nat]; omega) F₀ (cb_drop lN (by kcf_all)) ?_ ?_ ?_
  · exact ⟨⟨[], [], 0, rfl, .nil, (fun p hp => nomatch hp), rfl⟩, fun z _ => rfl⟩
  · rintro i k t m₁ nx h' tk' own hi6 hk9 hoff ⟨⟨vs, led, kk, rfl, hT, hled, hvl⟩, hkeep⟩ F' N'
    simp only [List.cons_append] at N'
    have hki : k = (i : Int) := by omega
    subst hki
    have hoD := OwnOff.ne hoff (List.mem_map.mpr ⟨(D, listOf vs.toArray kk), .head _, rfl⟩)
    have hrest : ∀ p ∈ led ++ news ++ own, p.1 ≠ D := by
      intro p hp
      rcases List.mem_append.mp hp with hp | hp
      · rcases List.mem_append.mp hp with hp | hp
        · exact hled p hp
        · exact hneD p hp
      · exact hoD p hp
    have F2 := fr_put F' (put_at (x := Str.ofString "k") (v := .int (i : Int) t) (by with_unfolding_all rfl) (put_at (at_other (by decide +kernel) ((hkeep _ (by decide +kernel)).trans e1)) (put_at (at_other (by decide +kernel) ((hkeep _ (by decide +kernel)).trans e2)) (put_at (at_other (by decide +kernel) ((hkeep _ (by decide +kernel)).trans e3)) (put_at (at_other (by decide +kernel) ((hkeep _ (by decide +kernel)).trans e4)) rfl)))))
    clear F' lF F₀ lN lF0 lN0
    show wpAny _ _ (execs (_ :: _ :: _) _) _ _ _
    repeat' (walk_at "go")
    (rename D < _ ∧ AllLt _ (led ++ news ++ own) => ha1)
    rename_i a2 hx1 Fx1 Nx1 la2 hx2 lF9 lN9
    obtain ⟨vs', led', q1, q2, q3, q4, q5⟩ := tups_two (x1 := (Txt.count (Txt.slice word none (some (i : Int))) hi, (i : Int), Txt.slice word none (some (i : Int)) ++ lo ++ Txt.slice word (some (i : Int)) none)) (x2 := (Txt.count word hi + 1 + Txt.count (Txt.slice word (some (i : Int)) none) lo, (i : Int), Txt.slice word none (some (i : Int)) ++ hi ++ Txt.slice word (some (i : Int)) none)) (R := R3) lN9 hT ⟨_, _, _, rfl⟩ ⟨_, _, _, rfl⟩ hled ha1 la2 hoff
    refine InvEndG.intro lF9 q1 ⟨⟨vs', led', _, rfl, ?_, q3, by omega⟩, ?_⟩ q5 (fun p hp => List.mem_append.mpr (.inl hp)) (fun p hp => List.mem_append.mpr (.inr hp))
    · rw [putN_succ]
      have e : putN word lo hi i ++ putAt word lo hi i = putN word lo hi i ++ [(Txt.count (Txt.slice word none (some (i : Int))) hi, (i : Int), Txt.slice word none (some (i : Int)) ++ lo ++ Txt.slice word (some (i : Int)) none)] ++ [(Txt.count word hi + 1 + Txt.count (Txt.slice word (some (i : Int)) none) lo, (i : Int), Txt.slice word none (some (i : Int)) ++ hi ++ Txt.slice word (some (i : Int)) none)] := by
        rw [List.append_assoc]; rfl
      rw [e]
      exact q2
    · intro z h1
      have h9 := h1
      simp only [List.contains_cons, List.contains_nil, Bool.or_false, Bool.or_eq_false_iff, beq_eq_false_iff_ne, ne_eq] at h1
      have hk9 := hkeep z h9
      simp [h1]
      repeat' (first | exact hk9 | (split; (focus ((rename _ = Str.ofString _ => h8); subst h8; symm; assumption))))
  · rintro m₁ nx h' tk' ⟨⟨vs, led, kk, rfl, hT, hled, hvl⟩, hkeep⟩ F' N'
    have F2 := fr_put F' (put_at ((hkeep _ (by decide +kernel)).trans e1) rfl)
    clear F' lF F₀ lN lF0 lN0
    repeat' (walk_at "go")
    (rename Fr h₀ L _ _ => lF9)
    (rename News h₀ L _ _ => lN9)
    refine hret D vs led kk _ _ hT lF9 lN9 ?_
    intro p hp
    rcases List.mem_append.mp hp with hp | hp
    · exact hled p hp
    · exact hneD p hp
end
end
section
open PySem PySem.W PyProof.Rows PySem.Builtin PySem.Builtin.Str PySem.Calls
set_option maxRecDepth 100000
set_option maxHeartbeats 8000000
def leftAt (word lo hi : Str) (k : Nat) : Int × Str :=
  (((if Txt.item word (k : Int) == lo then Txt.count (Txt.slice word none (some (k : Int))) hi else Txt.count word hi + Txt.count (Txt.slice word (some (k : Int)) none) lo)).fmod (word.length : Int), Txt.slice word none (some (k : Int)) ++ Txt.slice word (some ((k : Int) + 1)) none)
local macro_rules | `(tactic| walk_at "setItem ref int str") => `(tactic| ((with_reducible show wpAny _ _ (setItem (Value.ref _) (Value.int _ _) _) _ _ _); (k_dflt (refine' dict_set_int ?k1 ?k2 ?k3 ?k4 ?k5 ?_; (case k1 => k_asm); (case k2 => k_asm); (case k3 => k_asm); (case k4 => assumption); (case k5 => omega))); intro h' o' F' N' d'))
def putS (xs : List (Int × Str)) (k : Int) (x : Str) : List (Int × Str) := if xs.any (fun p => p.1 = k) then xs.map (fun p => if p.1 = k then (p.1, x) else p) else xs ++ [(k, x)]
def leftN (word lo hi : Str) (i : Nat) : List (Int × Str) := (List.range i).foldl (fun acc k => putS acc (leftAt word lo hi k).1 (leftAt word lo hi k).2) []
theorem leftN_succ (word lo hi : Str) (i : Nat) : leftN word lo hi (i + 1) = putS (leftN word lo hi i) (leftAt word lo hi i).1 (leftAt word lo hi i).2 := by
  unfold leftN
  rw [List.range_succ, List.foldl_append]
  rfl
theorem putS_len (xs : List (Int × Str)) (k : Int) (x : Str) : (putS xs k x).length ≤ xs.length + 1 := by
  unfold putS
  split <;> simp
theorem leftN_len (word lo hi : Str) : ∀ i, (leftN word lo hi i).length ≤ i
  | 0 => Nat.le_refl _
  | i + 1 => by
    rw [leftN_succ]
    have h1 := putS_len (leftN word lo hi i) (leftAt word lo hi i).1 (leftAt word lo hi i).2
    have h2 := leftN_len word lo hi i
    omega
/-- what a dict of texts under ints says -/
inductive DRel : List (Int × Value) → List (Int × Str) → Prop
  | nil : DRel [] []
  | cons {k : Int} {x : Str} {t : Tok} {kvs : List (Int × Value)} {xs : List (Int × Str)} : DRel kvs xs → DRel ((k, .str x t) :: kvs) ((k, x) :: xs)
theorem DRel.any {kvs : List (Int × Value)} {xs : List (Int × Str)} (h : DRel kvs xs) (k : Int) : kvs.any (fun p => p.1 = k) = xs.any (fun p => p.1 = k) := by
  induction h with
  | nil => rfl
  | cons _ ih => simp only [List.any_cons, ih]
theorem DRel.snoc {kvs : List (Int × Value)} {xs : List (Int × Str)} (h : DRel kvs xs) (k : Int) (x : Str) (t : Tok) : DRel (kvs ++ [(k, .str x t)]) (xs ++ [(k, x)]) := by
  induction h with
  | nil => exact .cons .nil
  | cons _ ih => exact .cons ih
theorem DRel.turn {kvs : List (Int × Value)} {xs : List (Int × Str)} (h : DRel kvs xs) (k : Int) (x : Str) (t : Tok) : DRel (kvs.map fun p => if p.1 = k then (p.1, .str x t) else p) (xs.map fun p => if p.1 = k then (p.1, x) else p) := by
  induction h with
  | nil => exact .nil
  | @cons j y u kvs xs _ ih =>
    simp only [List.map_cons]
    by_cases e : j = k
    · simp only [e, if_true]; exact .cons ih
    · simp only [e, if_false]; exact .cons ih
theorem DRel.put {kvs : List (Int × Value)} {xs : List (Int × Str)} (h : DRel kvs xs) (k : Int) (x : Str) (t : Tok) : DRel (PySem.stored kvs k (.str x t)) (putS xs k x) := by
  unfold PySem.stored putS
  rw [h.any k]
  split
  · exact h.turn k x t
  · exact h.snoc k x t
theorem DRel.len {kvs : List (Int × Value)} {xs : List (Int × Str)} (h : DRel kvs xs) : kvs.length = xs.length := by
  induction h with
  | nil => rfl
  | cons _ ih => simp [ih]
theorem DRel.get {kvs : List (Int × Value)} {xs : List (Int × Str)} (h : DRel kvs xs) (k : Int) : (valueAt kvs k = none ∧ (xs.find? fun p => p.1 = k) = none) ∨ ∃ j x t, valueAt kvs k = some (.str x t) ∧ (xs.find? fun p => p.1 = k) = some (j, x) := by
  unfold valueAt
  induction h with
  | nil => exact .inl ⟨rfl, rfl⟩
  | @cons j y u kvs xs _ ih =>
    by_cases e : j = k
    · exact .inr ⟨j, y, u, by simp [e], by simp [e]⟩
    · simpa [List.find?_cons, e] using ih
section
variable {w : World} {mean : ExcName → Option Value} {mg mb : Str → Option Value} {news : List (Addr × Obj)} {dp un : Nat} {gd : Option (List Code)} {cn : Str} {cs : Scope} {a : Addr} {ccd : Value} {cl : List (Str × Addr)} {outer : List Env} {A₀ : Around} {base h₀ : Heap} {L : Addr} {m : Str → Option Value} {s : Shared} {Q E : Value → Shared → Prop}
theorem left_call {word lo hi : Str} {t1 t2 t3 : Tok} (B : Below A₀ base outer h₀) (F : Fr h₀ L s.heap m) (X : (hd.heap_39 w.params).In h₀) (N : News h₀ L s.heap news) (T : Top hd.view_39 Lo1 mean mg mb h₀) (hk : cs.kind = .function)
    (hw : 1 ≤ word.length ∧ word.length ≤ 10) (hlo : lo.length = 1) (hhi : hi.length = 1) (hd1 : dp + 2 < recursionLimit) (hu : un + 100 < cLine)
    (hret : ∀ (D : Addr) (o : Obj) (kvs : List (Int × Value)) (h' : Heap) (tk' : Nat), o.IsDictOf (PySem.intKind Pr1 w) kvs → DRel kvs (leftN word lo hi word.length) → (D == sysModules) = false → Fr h₀ L h' m → News h₀ L h' ((D, o) :: news) → (∀ p ∈ news, p.1 ≠ D) → Q (.ref D) { s with heap := h', toks := tk' }) :
    wpAny (model Pr1 w) (ktrTop dp un gd cn cs L a ccd cl outer) (call (.ref 102) [.str word t1, .str lo t2, .str hi t3]) Q E s := by
  w_on
  refine wpAny_call ?_
  k_dflt (walk_at "enterD")
  repeat' (walk_at "go")
  unfold Hold
  rename_i g L2 h5 tk5 cells FG Y B2 X2 T2 lL D h4 o lD loD hs0 fs0 hi0 fi0 h3 lF0 lN0 h0 tk0 t6 u6 v6 hR lF lN up
  obtain ⟨m₀, F₀, e1, e2, e3, e4⟩ : ∃ m₀, Fr g L2 h0 m₀ ∧ m₀ (Str.ofString "made") = some (.ref D) ∧ m₀ (Str.ofString "word") = some (.str word t1) ∧ m₀ (Str.ofString "low") = some (.str lo t2) ∧ m₀ (Str.ofString "high") = some (.str hi t3) :=
    ⟨_, lF, by with_unfolding_all rfl, by with_unfolding_all rfl, by with_unfolding_all rfl, by with_unfolding_all rfl⟩
  have hneD : ∀ p ∈ news, p.1 ≠ D := fun p hp => Nat.ne_of_lt (lD p (List.mem_append.mpr (.inr hp)))
  refine for_range (n := word.length) (news := (D, o) :: news)
    (fun i m' nx => (∃ o kvs, nx = (D, o) :: news ∧ o.IsDictOf (PySem.intKind Pr1 w) kvs ∧ DRel kvs (leftN word lo hi i)) ∧ Keep [Str.ofString "k", Str.ofString "count"] m₀ m')
    (by rfl) (by assumption) (small_one (by omega) (by omega) (by omega) (by omega)) (by rw [rangeSize_nat]; omega) F₀ (cb_drop lN (by kcf_all)) ?_ ?_ ?_
  · exact ⟨⟨o, [], rfl, hi0, .nil⟩, fun z _ => rfl⟩
  · rintro i k t m₁ nx h' tk' own hi6 hk9 hoff ⟨⟨o, kvs, rfl, hd9, hD⟩, hkeep⟩ F' N'
    have hkl : kvs.length ≤ i := by rw [hD.len]; exact leftN_len word lo hi i
    simp only [List.cons_append] at N'
    have hki : k = (i : Int) := by omega
    subst hki
    have hoD := OwnOff.ne hoff (List.mem_map.mpr ⟨(D, o), .head _, rfl⟩)
    have hrest : ∀ p ∈ news ++ own, p.1 ≠ D := by
      intro p hp
      rcases List.mem_append.mp hp with hp | hp
      · exact hneD p hp
      · exact hoD p hp
    have F2 := fr_put F' (put_at (x := Str.ofString "k") (v := .int (i : Int) t) (by with_unfolding_all rfl) (put_at (at_other (by decide +kernel) ((hkeep _ (by decide +kernel)).trans e1)) (put_at (at_other (by decide +kernel) ((hkeep _ (by decide +kernel)).trans e2)) (put_at (at_other (by decide +kernel) ((hkeep _ (by decide +kernel)).trans e3)) (put_at (at_other (by decide +kernel) ((hkeep _ (by decide +kernel)).trans e4)) rfl)))))
    clear F' lF F₀ lN lF0 lN0 hs0 fs0 hi0 fi0
    show wpAny _ _ (execs (_ :: _ :: _) _) _ _ _
    repeat' (walk_at "go")
    all_goals
      rename_i h9 o9 F9 N9 d9
      refine InvEndG.intro (nx := (D, o9) :: news) F9 N9 ⟨⟨o9, _, rfl, d9, ?_⟩, ?_⟩ ?_ (by kcf_all) (by kcf_all)
      · rw [leftN_succ]
        unfold leftAt
        first
          | rw [if_pos (by assumption)]
          | rw [if_neg (Bool.eq_false_iff.mp (by assumption))]
        exact hD.put _ _ _
      · intro z h1
        have h9 := h1
        simp only [List.contains_cons, List.contains_nil, Bool.or_false, Bool.or_eq_false_iff, beq_eq_false_iff_ne, ne_eq] at h1
        have hk9 := hkeep z h9
        simp [h1]
        repeat' (first | exact hk9 | (split; (focus ((rename _ = Str.ofString _ => h8); subst h8; symm; assumption))))
      · simpa using hoff
  · rintro m₁ nx h' tk' ⟨⟨o, kvs, rfl, hd9, hD⟩, hkeep⟩ F' N'
    have F2 := fr_put F' (put_at ((hkeep _ (by decide +kernel)).trans e1) rfl)
    clear F' lF F₀ lN lF0 lN0
    repeat' (walk_at "go")
    (rename Fr h₀ L _ _ => lF9)
    (rename News h₀ L _ _ => lN9)
    exact hret D o kvs _ _ hd9 hD loD lF9 lN9 hneD
end
end
section
open PySem PySem.W PyProof.Rows PySem.Builtin PySem.Builtin.Str PySem.Calls
set_option maxRecDepth 100000
set_option maxHeartbeats 8000000
local macro_rules | `(tactic| walk_at "call ref") => `(tactic| ((with_reducible show wpAny _ _ (call (Value.ref 55) [Value.str _ _]) _ _ _); walk_at "own0"))
local macro_rules | `(tactic| walk_at "binaryOp Mult str int") => `(tactic| ((with_reducible show wpAny _ _ (binaryOp _ (Value.str _ _) (Value.int _ _)) _ _ _); (refine mul1 (by first | assumption | decide +kernel) (by omega) (by omega) ?_); intro t' k'))
local macro_rules | `(tactic| walk_at "call builtin:str.join") => `(tactic| ((show wpAny _ _ (call (Value.builtin "str.join") [Value.str _ _, Value.ref _]) _ _ _); (refine join_B 1000 (News.isList (by k_asm) (List.Mem.head _)) (by assumption) (by assumption) (by omega) (by decide +kernel) ?_); intro t' k' hlen'))
local macro_rules | `(tactic| walk_at "CompEnd") => `(tactic| ((refine LCg.CompEnd.intro (by k_asm) (by k_asm) _ ?hs ?ho ?hS (kct_el ?he rfl rfl)); (case he => first | rfl | (rw [if_pos (by assumption)]; done) | (rw [if_neg (by assumption)]; done) | (rw [if_neg (by simp [*])]; done) | (simp [*]; done)); (case hs => kcf_all); (case ho => first | assumption | trivial | (simp only [LCg.Off3, and_true]; first | assumption | done)); (case hS => first | trivial | lcg_src | assumption)))
def bitS (lo hi : Str) (x : Int) : Str := if x = 0 then lo else hi
def toldS (bs : List Int) (k : Int) : Str := if bs.getD k.toNat 0 = 0 then Str.ofString "a" else Txt.mul (Str.ofString ".") ((bs.length : Int) + 1 - k)
/-- what the law asks of one word sent -/
structure SentOk (lo hi word mail : Str) (bs : List Int) : Prop where
  ml : mail.length ≤ 1000
  ql : (qdT mail).length ≤ 1000
  w : word = Txt.join (Str.ofString "") (bs.map (bitS lo hi))
  q : qdT mail = Txt.join (Str.ofString "") (((rangeKs 0 bs.length).map (toldS bs)).map (fun row => row ++ Str.ofString "\r\n"))
  rl : ∀ row ∈ (rangeKs 0 bs.length).map (toldS bs), row.length ≤ 100
  j1 : ((bs.map (bitS lo hi)).map (·.length)).sum + (bs.map (bitS lo hi)).length ≤ 1000
  j2 : ((((rangeKs 0 bs.length).map (toldS bs)).map (fun row => row ++ Str.ofString "\r\n")).map (·.length)).sum + (((rangeKs 0 bs.length).map (toldS bs)).map (fun row => row ++ Str.ofString "\r\n")).length ≤ 1000
section
variable {w : World} {mean : ExcName → Option Value} {mg mb : Str → Option Value} {rest : List (Addr × Obj)} {dp un : Nat} {gd : Option (List Code)} {fa : Addr} {cdv : Value} {outer : List Env} {A₀ : Around} {base h₀ : Heap} {L : Addr} {m : Str → Option Value} {s : Shared} {E : Value → Shared → Prop} {Q : Flow → Shared → Prop}
theorem r9 {Db : Addr} {oB oLo oHi : Obj} {vsB : List Value} {bs : List Int} {kB : Nat} {lo hi word mail : Str} {tlo thi t1 t2 : Tok} (B : Below A₀ base outer h₀)
    (F₀ : Fr h₀ L s.heap m) (hm1 : m (Str.ofString "word") = some (.str word t1)) (hm2 : m (Str.ofString "mail") = some (.str mail t2)) (X : (hd.heap_39 w.params).In h₀)
    (N : News h₀ L s.heap ((L + 1, oLo) :: (L + 1 + 1, oHi) :: (L + 1 + 1 + 1 + 1 + 1, oB) :: (Db, listOf vsB.toArray kB) :: rest)) (T : Top hd.view_39 Lo1 mean mg mb h₀) (hd1 : dp + 3 < recursionLimit) (hu : un + 100 < cLine)
    (hB0 : oB.data = .cell (some (.ref Db))) (hLo : oLo.data = .cell (some (.str lo tlo))) (hHi : oHi.data = .cell (some (.str hi thi))) (hlo : lo.length = 1) (hhi : hi.length = 1)
    (hI : IntsAre vsB bs) (hbl : bs.length ≤ 10) (hb01 : ∀ x ∈ bs, x = 0 ∨ x = 1) (ok : SentOk lo hi word mail bs)
    (hq : ∀ h' tk m', Fr h₀ L h' m' → Keep [Str.ofString "told"] m m' → News h₀ L h' ((L + 1, oLo) :: (L + 1 + 1, oHi) :: (L + 1 + 1 + 1 + 1 + 1, oB) :: (Db, listOf vsB.toArray kB) :: rest) → Q .next { s with heap := h', toks := tk }) :
    wpAny (model Pr1 w) (lawA dp un gd L fa cdv outer) (execs (forBody 9) (lawEnv L fa cdv)) Q E s := by
  have F := fr_put F₀ (put_at hm1 (put_at hm2 rfl))
  clear F₀
  have hml := ok.ml
  have hql := ok.ql
  have hj1 := ok.j1
  have hj2 := ok.j2
  have hw := ok.w
  have hq9 := ok.q
  w_on
  show wpAny _ _ (execs [_, _, _] _) _ _ _
  repeat' (walk_at "go")
  unfold Hold
  (rename Fr _ _ _ _ => lF9)
  (rename News _ _ _ _ => lN9)
  refine LCg.CompSrc.ledger (by rfl) lF9 lN9 (by walk_at "mem5") (by rw [List.size_toArray, hI.length, sizeLine_eq]; omega) ?_
  intro g'
  refine crest_S bs (bitS lo hi) (fun x v => ∃ t, v = .int x t) (by rw [List.size_toArray, hI.length]) (fun i v _ h => int_item hI h) ?_ ?_
  · rintro x v I' oI' C' oC' D' m' ys' h' tk' E' hx' ⟨u', rfl⟩ hC' hxx' F' N' off' ne'
    clear lF9 lN9
    unfold bitS
    (try simp only [LCg.Off3, and_true] at off')
    (try k_unmd)
    (try k_fold)
    repeat' (walk_at "go")
  · intro ys' hys' D' h' tk' F' N' off'
    clear lF9 lN9
    repeat' (walk_at "go")
    all_goals first
      | (exfalso; simp_all; done)
      | skip
    unfold Hold
    (rename Fr _ _ _ _ => lF9)
    (rename News _ _ _ _ => lN9)
    have hvb := hI.length
    refine LCg.CompSrc.range (n := bs.length) (by rfl) lF9 lN9 (by assumption) (small_one (by omega) (by omega) (by omega) (by omega)) (by rw [rangeSize_nat]; omega) (by rw [sizeLine_eq]; omega) ?_
    intro g'
    refine crest_S (rangeKs 0 bs.length) (toldS bs) (fun x v => ∃ t, v = .int x t) (by rw [rangeKs_length]) (fun i v hi hv => by obtain ⟨t, rfl⟩ := hv; exact ⟨0 + (i : Int), rk_get hi, t, rfl⟩) ?_ ?_
    · rintro k v I' oI' C' oC' D' m' ys' h' tk' E' hk' ⟨u', rfl⟩ hC' hxx' F' N' off' ne'
      have hb' := mem_rangeKs hk'
      clear lF9 lN9
      unfold toldS
      (try simp only [LCg.Off3, and_true] at off')
      (try k_unmd)
      (try k_fold)
      repeat' (walk_at "go")
    · intro ys2 hys2 D' h' tk' F' N' off'
      clear lF9 lN9
      repeat' (walk_at "go")
      unfold Hold
      (rename Fr _ _ _ _ => lF9)
      (rename News _ _ _ _ => lN9)
      refine LCg.CompSrc.ledger (by rfl) lF9 lN9 (by walk_at "mem5") (by rw [List.size_toArray, hys2.len_eq, List.length_map, rangeKs_length, sizeLine_eq]; omega) ?_
      intro g'
      refine crest_S ((rangeKs 0 bs.length).map (toldS bs)) (fun row => row ++ Str.ofString "\r\n") (fun x v => ∃ t, v = .str x t) (by rw [List.size_toArray, hys2.len_eq]) (fun i v _ h => str_item hys2 h) ?_ ?_
      · rintro row v I' oI' C' oC' D' m' ys' h' tk' E' hx' ⟨u', rfl⟩ hC' hxx' F' N' off' ne'
        clear lF9 lN9
        have hrl : row.length ≤ 100 := ok.rl row hx'
        (try simp only [LCg.Off3, and_true] at off')
        (try k_unmd)
        (try k_fold)
        repeat' (walk_at "go")
      · intro ys3 hys3 D' h' tk' F' N' off'
        clear lF9 lN9
        repeat' (walk_at "go")
        all_goals first
          | (exfalso; simp_all; done)
          | skip
        refine hq _ _ _ (by k_asm) ?_ (cb_drop (by k_asm) (by kcf_all))
        intro z h1
        simp only [List.contains_cons, List.contains_nil, Bool.or_false, Bool.or_eq_false_iff, beq_eq_false_iff_ne, ne_eq] at h1
        simp [h1]
        walk_at "ifs"
end
end
local macro_rules | `(tactic| walk_at "pad5") => `(tactic| skip)
section
open PySem PySem.W PyProof.Rows PySem.Builtin PySem.Builtin.Str PySem.Calls
set_option maxRecDepth 100000
set_option maxHeartbeats 8000000
local macro_rules | `(tactic| walk_at "storeName") => `(tactic| ((with_reducible show wpAny _ _ (storeName _ (Str.ofString "rest") _) _ _ _); walk_at "own3"))
local macro_rules | `(tactic| walk_at "call builtin:str.join") => `(tactic| (walk_at "own4"))
local macro_rules | `(tactic| walk_at "getMethod ref") => `(tactic| (walk_at "own5"))
local macro_rules | `(tactic| walk_at "call builtin:dict.get") => `(tactic| (walk_at "own6"))
def lookS (xs : List (Int × Str)) (k : Int) (text : Str) : Bool := match xs.find? (fun p => p.1 = k) with | some p => p.2 == text | none => false
section
variable {w : World} {mean : ExcName → Option Value} {mg mb : Str → Option Value} {rest : List (Addr × Obj)} {dp un : Nat} {gd : Option (List Code)} {fa : Addr} {cdv : Value} {outer : List Env} {A₀ : Around} {base h₀ : Heap} {L : Addr} {m : Str → Option Value} {s : Shared} {E : Value → Shared → Prop} {Q : Flow → Shared → Prop}
theorem c15 {DL : Addr} {oL oR oT : Obj} {kvs : List (Int × Value)} {xs : List (Int × Str)} {lg text : Str} {tT : Tok} {n : Nat} {dots many : Int} {t1 t2 t3 t4 : Tok} (B : Below A₀ base outer h₀)
    (F₀ : Fr h₀ L s.heap m) (hm1 : m (Str.ofString "size") = some (.int (n : Int) t1)) (hm2 : m (Str.ofString "long") = some (.str lg t2)) (hm3 : m (Str.ofString "dots") = some (.int dots t3)) (hm4 : m (Str.ofString "many") = some (.int many t4)) (hm5 : m (Str.ofString "left_out") = some (.ref DL)) (X : (hd.heap_39 w.params).In h₀)
    (N : News h₀ L s.heap ((L + 1 + 1 + 1 + 1 + 1 + 1 + 1, oR) :: (L + 1 + 1 + 1 + 1 + 1 + 1, oT) :: (DL, oL) :: rest)) (T : Top hd.view_39 Lo1 mean mg mb h₀) (hd1 : dp + 3 < recursionLimit) (hu : un + 100 < cLine) (hn : n ≤ 5)
    (hR0 : ∃ v, oR.data = .cell v) (hT0 : oT.data = .cell (some (.str text tT))) (hLd : oL.IsDictOf (PySem.intKind Pr1 w) kvs) (hD : DRel kvs xs) (hsm : (DL == sysModules) = false)
    (hne : ∀ p ∈ (L + 1 + 1 + 1 + 1 + 1 + 1, oT) :: (DL, oL) :: rest, p.1 ≠ L + 1 + 1 + 1 + 1 + 1 + 1 + 1) (htl : text.length ≤ 10) (hll : lg.length ≤ 10) (hdm : 0 ≤ dots ∧ dots ≤ 1000 ∧ 0 ≤ many ∧ many ≤ 1000)
    (hq0 : emS (Str.ofString "..." ++ Txt.join (Str.ofString "...") (PyProof.Rows.signs text) ++ Str.ofString "...") lg = lookS xs ((many - dots).fmod ((n : Int) + 1)) text)
    (hjl : (Txt.join (Str.ofString "...") (PyProof.Rows.signs text)).length ≤ 100)
    (hq : ∀ h' tk m' oR', Fr h₀ L h' m' → Keep [] m m' → (∃ v, oR'.data = .cell v) → News h₀ L h' ((L + 1 + 1 + 1 + 1 + 1 + 1 + 1, oR') :: (L + 1 + 1 + 1 + 1 + 1 + 1, oT) :: (DL, oL) :: rest) → Q .next { s with heap := h', toks := tk }) :
    wpAny (model Pr1 w) (lawA dp un gd L fa cdv outer) (execs ((forBody 15).drop 6) (lawEnv L fa cdv)) Q E s := by
  have F := fr_put F₀ (put_at hm1 (put_at hm2 (put_at hm3 (put_at hm4 (put_at hm5 rfl)))))
  clear F₀
  obtain ⟨v0, hR0⟩ := hR0
  have hget := hD.get ((many - dots).fmod ((n : Int) + 1))
  unfold lookS at hq0
  w_on
  show wpAny _ _ (execs [_, _] _) _ _ _
  rcases hget with ⟨hv, hx⟩ | ⟨j, x, t, hv, hx⟩
  all_goals
    rw [hx] at hq0
    dsimp only at hq0
    repeat' (walk_at "go")
    all_goals first
      | (refine hq _ _ _ _ (by k_asm) ?_ ⟨_, by assumption⟩ (cb_drop (by k_asm) (by kcf_all)))
      | (exfalso; simp_all; done)
    all_goals
      intro z h1
      dsimp only
      walk_at "ifs"
end
end
local macro_rules | `(tactic| walk_at "pad6") => `(tactic| skip)
section
open PySem PySem.W PyProof.Rows PySem.Builtin PySem.Builtin.Str PySem.Calls
set_option maxRecDepth 100000
set_option maxHeartbeats 8000000
local macro_rules | `(tactic| walk_at "storeName") => `(tactic| ((with_reducible show wpAny _ _ (storeName _ (Str.ofString "rest") _) _ _ _); walk_at "own3"))
local macro_rules | `(tactic| walk_at "call builtin:str.join") => `(tactic| (walk_at "own4"))
local macro_rules | `(tactic| walk_at "getMethod ref") => `(tactic| (walk_at "own5"))
local macro_rules | `(tactic| walk_at "call builtin:dict.get") => `(tactic| (walk_at "own6"))
section
variable {w : World} {mean : ExcName → Option Value} {mg mb : Str → Option Value} {rest : List (Addr × Obj)} {dp un : Nat} {gd : Option (List Code)} {fa : Addr} {cdv : Value} {outer : List Env} {A₀ : Around} {base h₀ : Heap} {L : Addr} {m : Str → Option Value} {s : Shared} {E : Value → Shared → Prop} {Q : Flow → Shared → Prop}
theorem a15 {DP : Addr} {oP oR oT oS : Obj} {kvs : List (Int × Value)} {xs : List (Int × Str)} {short text post bare : Str} {tT tS : Tok} {n : Nat} {few : Int} {t1 t2 t3 t4 : Tok} (B : Below A₀ base outer h₀)
    (F₀ : Fr h₀ L s.heap m) (hm1 : m (Str.ofString "size") = some (.int (n : Int) t1)) (hm2 : m (Str.ofString "post") = some (.str post t2)) (hm3 : m (Str.ofString "few") = some (.int few t3)) (hm4 : m (Str.ofString "bare") = some (.str bare t4)) (hm5 : m (Str.ofString "put_in") = some (.ref DP)) (X : (hd.heap_39 w.params).In h₀)
    (N : News h₀ L s.heap ((L + 1 + 1 + 1 + 1 + 1 + 1 + 1, oR) :: (L + 1 + 1 + 1 + 1 + 1 + 1, oT) :: (L + 1 + 1 + 1 + 1, oS) :: (DP, oP) :: rest)) (T : Top hd.view_39 Lo1 mean mg mb h₀) (hd1 : dp + 3 < recursionLimit) (hu : un + 100 < cLine) (hn : n ≤ 5)
    (hR0 : ∃ v, oR.data = .cell v) (hT0 : oT.data = .cell (some (.str text tT))) (hS0 : oS.data = .cell (some (.str short tS))) (hPd : oP.IsDictOf (PySem.intKind Pr1 w) kvs) (hD : DRel kvs xs) (hsm : (DP == sysModules) = false)
    (hne : ∀ p ∈ (L + 1 + 1 + 1 + 1 + 1 + 1, oT) :: (L + 1 + 1 + 1 + 1, oS) :: (DP, oP) :: rest, p.1 ≠ L + 1 + 1 + 1 + 1 + 1 + 1 + 1) (htl : 1 ≤ text.length ∧ text.length ≤ 10) (hsl : 1 ≤ short.length ∧ short.length ≤ 10) (hpl : post.length ≤ 1000) (hbl : bare.length ≤ 100) (hfm : 0 ≤ few ∧ few ≤ 1000)
    (hq1 : emS (Str.ofString "..." ++ bare ++ Str.ofString "...") text = lookS xs ((Txt.count post (Str.ofString ".") - few).fmod ((n : Int) + 1)) text)
    (hq2 : emS bare text = (emS (Str.ofString "..." ++ bare ++ Str.ofString "...") text && (Txt.item short 0 ++ Txt.item short (-1) == Txt.item text 0 ++ Txt.item text (-1))))
    (hq : ∀ h' tk m' oR' td tr, Fr h₀ L h' m' → m' (Str.ofString "dots") = some (.int (Txt.count post (Str.ofString ".")) td) → m' (Str.ofString "holds") = some (.bool (emS (Str.ofString "..." ++ bare ++ Str.ofString "...") text)) → Keep [Str.ofString "dots", Str.ofString "holds"] m m' → oR'.data = .cell (some (.int ((Txt.count post (Str.ofString ".") - few).fmod ((n : Int) + 1)) tr)) → News h₀ L h' ((L + 1 + 1 + 1 + 1 + 1 + 1 + 1, oR') :: (L + 1 + 1 + 1 + 1 + 1 + 1, oT) :: (L + 1 + 1 + 1 + 1, oS) :: (DP, oP) :: rest) → wpAny (model Pr1 w) (lawA dp un gd L fa cdv outer) (execs ((forBody 15).drop 5) (lawEnv L fa cdv)) Q E { s with heap := h', toks := tk }) :
    wpAny (model Pr1 w) (lawA dp un gd L fa cdv outer) (execs (forBody 15) (lawEnv L fa cdv)) Q E s := by
  have F := fr_put F₀ (put_at hm1 (put_at hm2 (put_at hm3 (put_at hm4 (put_at hm5 rfl)))))
  clear F₀
  obtain ⟨v0, hR0⟩ := hR0
  have hget := hD.get ((Txt.count post (Str.ofString ".") - few).fmod ((n : Int) + 1))
  unfold lookS at hq1
  w_on
  have hbrk : Brake [3] := trivial
  show wpAny _ _ (execs [_, _, _, _, _, _, _, _] _) _ _ _
  rcases hget with ⟨hv, hx⟩ | ⟨j, x, t, hv, hx⟩
  all_goals
    rw [hx] at hq1
    dsimp only at hq1
    repeat' (walk_at "go")
    all_goals first
      | (unfold Hold; refine hq _ _ _ _ _ _ (by k_asm) (by with_unfolding_all rfl) (by with_unfolding_all rfl) ?_ (by assumption) (cb_drop (by k_asm) (by kcf_all)))
      | (exfalso; simp_all; done)
    all_goals
      intro z h1
      simp only [List.contains_cons, List.contains_nil, Bool.or_false, Bool.or_eq_false_iff, beq_eq_false_iff_ne, ne_eq] at h1
      simp [h1]
      walk_at "ifs"
end
end
section
open PySem PySem.W PyProof.Rows PySem.Builtin PySem.Spec PySem.Calls
set_option maxRecDepth 100000
set_option maxHeartbeats 4000000
open LCg
section
variable {prog : Program} {w : World} {A : Around} {E : Value → Shared → Prop} {s : Shared} {h₀ : Heap} {L l I C D : Addr} {m mc : Str → Option Value} {env : Env} {news : List (Addr × Obj)} {i : Nat} {oD : Obj}
theorem BSt.open {h : Heap} (b : Blk h₀ L I C D news) (st : BSt h₀ L l I C D news m h i mc oD) :
    ∃ oI oC, NsObj oC mc ∧ News h₀ L h ((I, oI) :: (C, oC) :: (D, oD) :: news) ∧ ∀ h', Fr h₀ L h' m → News h₀ L h' ((I, oI) :: (C, oC) :: (D, oD) :: news) → BSt h₀ L l I C D news m h' i mc oD := by
  obtain ⟨oI, eI, rI⟩ := st.it
  obtain ⟨oC, eC, nC⟩ := ns_obj st.ns
  refine ⟨oI, oC, nC, ?_, fun h' F N => ⟨F, fun p hp => N p (.tail _ (.tail _ (.tail _ hp))), ⟨oI, (N (I, oI) (.head _)).1, rI⟩, nC.ns (N (C, oC) (.tail _ (.head _))).1, (N (D, oD) (.tail _ (.tail _ (.head _)))).1⟩⟩
  intro p hp
  rcases List.mem_cons.mp hp with rfl | hp
  · exact ⟨eI, b.iL, b.i0⟩
  rcases List.mem_cons.mp hp with rfl | hp
  · exact ⟨eC, b.cL, b.c0⟩
  rcases List.mem_cons.mp hp with rfl | hp
  · exact ⟨st.acc, b.dL, b.d0⟩
  · exact st.led p hp
/-- what is made turned -/
theorem BSt.turnD {h h' : Heap} {oD' : Obj} (b : Blk h₀ L I C D news) (st : BSt h₀ L l I C D news m h i mc oD) (hs : Heap.SameBut D h h') (hd : h'.get? D = some oD') : BSt h₀ L l I C D news m h' i mc oD' :=
  have k : ∀ a o, a ≠ D → h.get? a = some o → h'.get? a = some o := fun a o ha e => hs.extBut a o ha e
  ⟨touch_fr st.fr k b.dL b.d0, touch_led st.led k fun p hp => (b.off p hp).2.2, st.it.at fun o e => k I o b.di e, st.ns.at' fun o e => k C o b.cd e, hd⟩
/-- a made list of triples as a block's source -/
def Src3 (prog : Program) (w : World) (A : Around) (h₀ : Heap) (L : Addr) (m : Str → Option Value) (G : List (Addr × Obj) → List (Int × Int × Str) → Shared → Prop) (xv : Value) (s₁ : Shared) : Prop :=
  ∃ l vs nn news led xs, xv = .ref l ∧ A.handled = none ∧ Fr h₀ L s₁.heap m ∧ News h₀ L s₁.heap news ∧ (l, listOf vs.toArray nn) ∈ news ∧ vs.length ≤ sizeLine ∧ Tups R3 vs led xs ∧ (∀ p ∈ led, p ∈ news) ∧ G news xs s₁
/-- the turns of a list's block with one test over triples -/
def Turns3 (prog : Program) (w : World) (A : Around) (h₀ : Heap) (L : Addr) (m : Str → Option Value) (env : Env) (c elt : Expr) (x y z : Str) (scope : Scope) (cl : List (Str × Addr)) (Q : Value → Shared → Prop) (news : List (Addr × Obj)) (xs : List (Int × Int × Str)) (s : Shared) : Prop :=
  ∃ (p : Int × Int × Str → Bool) (f : Int × Int × Str → Int),
    (∀ a t1 t2 t3 I oI C oC D mc ys h tk (E' : Value → Shared → Prop), a ∈ xs → NsObj oC mc → mc x = some (.int a.1 t1) → mc y = some (.int a.2.1 t2) → mc z = some (.str a.2.2 t3) → Fr h₀ L h m → News h₀ L h ((I, oI) :: (C, oC) :: (D, lst ys) :: news) → Off3 I C D news → ((@Ne Nat I C) ∧ (@Ne Nat I D) ∧ (@Ne Nat C D)) →
      wpAny (model prog w) A (isTrue c (compEnvC scope cl C env) (eval c (compEnvC scope cl C env))) (fun ok s' => TestEnd (p a)
        (wpAny (model prog w) A (eval elt (compEnvC scope cl C env)) (CompEnd h₀ L m { s with heap := h, toks := tk } I oI C oC D (lst ys) (fun _ => True) (fun y news' => news' = news ∧ ∃ t, y = .int (f a) t)) E' s')
        (CompEnd h₀ L m { s with heap := h, toks := tk } I oI C oC D (lst ys) (fun _ => True) (fun _ news' => news' = news) Value.none s') ok) E' { s with heap := h, toks := tk }) ∧
    ∀ D ys h tk, IntsAre ys ((xs.filter p).map f) → Fr h₀ L h m → News h₀ L h ((D, lst ys) :: news) → (∀ q ∈ news, q.1 ≠ D) → Q (.ref D) { s with heap := h, toks := tk }
theorem ListComp_3 {elt iter c : Expr} {x y z : Str} {px py pz tp : Pos} {kk} {scope : Scope} {cl : List (Str × Addr)} {pos : Pos} {Q : Value → Shared → Prop} (_F₀ : Fr h₀ L s.heap m)
    (hclos : closureFor scope env = pure cl) (hcell : ∀ y ∈ scope.names, y.2 ≠ .cell) (hkind : scope.kind = .function)
    (hnames : ∀ y ∈ scope.names, y.2 = .local → scope.names.lookup y.1 = some .local) (hx : scope.names.lookup x = some .local) (hy : scope.names.lookup y = some .local) (hz : scope.names.lookup z = some .local) (xy : x ≠ y) (xz : x ≠ z) (yz : y ≠ z)
    (h : wpAny (model prog w) A (eval iter env) (Src3 prog w A h₀ L m (Turns3 prog w A h₀ L m env c elt x y z scope cl Q)) E s)
    (hs : ∀ x, foldedSetIterable iter env x = pure x := by intro _; rfl) :
    wpAny (model prog w) A (eval (.ListComp elt [⟨.Tuple [.Name x px, .Name y py, .Name z pz] kk tp, iter, [c], 0⟩] scope pos) env) Q E s := by
  rw [eval_ListComp]
  apply wpAny_comprehension_free (use := none) rfl hs hclos hkind hnames
  refine wpAny_mono h (fun xv s₁ src => ?_) (fun _ _ e => e)
  obtain ⟨l, vs, nn, news, led, xs, rfl, hh, F, N, hl, hsz, hT, hled, p, f, turn, fin⟩ := src
  refine blk_start (oD := lst []) (fun Q E s hq => wpAny_newObj_type hq) rfl (fun it acc env s R h1 h2 => codeAny_compStart_list h1 h2) F N hl hcell hkind ?_
  intro I C D hB tkB mB b st0
  refine kct_loop (fun n s' => ∃ h' tk i ys mc, s' = { s₁ with heap := h', toks := tk } ∧ i ≤ vs.length ∧ n = vs.length - i ∧ BSt h₀ L l I C D news m h' i mc (lst ys) ∧ IntsAre ys (((xs.take i).filter p).map f)) ?_ vs.length ⟨hB, tkB, 0, [], mB, rfl, Nat.zero_le _, rfl, st0, by simp only [List.take_zero, List.filter_nil, List.map_nil]; exact .nil⟩
  rintro n s' ⟨h', tk, i, ys, mc, rfl, hi, rfl, st, hy9⟩
  rcases Nat.lt_or_ge i vs.length with hlt | hge
  · obtain ⟨a, xa, tv, hva, hxa, hr, hmem⟩ := hT.item (i := i) (v := vs[i]) (List.getElem?_eq_getElem hlt)
    obtain ⟨t1, t2, t3, rfl⟩ := hr
    have hys : ys.length ≤ i := by
      rw [hy9.length, List.length_map]
      exact Nat.le_trans (List.length_filter_le _ _) (by rw [List.length_take]; exact Nat.min_le_left _ _)
    have hstep : ((xs.take (i + 1)).filter p).map f = ((xs.take i).filter p).map f ++ if p xa then [f xa] else [] := by
      rw [List.take_add_one, hxa, List.filter_append, List.map_append]
      cases hp : p xa <;> simp [hp]
    refine take3 (s := { s₁ with heap := h', toks := tk }) hh b st hl (hva ▸ List.getElem?_eq_getElem hlt) (hled _ hmem) hkind hx hy hz xy xz yz fun h2 tk2 mc2 st2 ex ey ez => ?_
    obtain ⟨oI, oC, nC, N2, back⟩ := st2.open b
    refine wpAny_mono (turn xa t1 t2 t3 I oI C oC D mc2 ys h2 tk2 _ (List.mem_of_getElem? hxa) nC ex ey ez st2.fr N2 (Off3.of b.off) ⟨b.ic, b.di, b.cd⟩) (fun ok s3 hq => ?_) fun _ _ e => e
    obtain ⟨hok, hq⟩ := hq
    cases ok with
    | true =>
      rw [← hok] at hstep
      simp only [if_true] at hq hstep ⊢
      refine wpAny_mono hq (fun yv s4 hq => ?_) fun _ _ e => e
      obtain ⟨h4, tk4, nw, rfl, F4, N4, _, _, rfl, t4, rfl⟩ := hq
      have st4 := back h4 F4 N4
      refine append_at (hsz := by rw [List.size_toArray]; omega) st4.acc fun h5 hs5 hd5 => ?_
      exact ⟨vs.length - (i + 1), Nat.sub_succ_lt_self _ _ hlt, h5, tk4, i + 1, _, mc2, rfl, hlt, rfl, st4.turnD b hs5 (hd5.trans (congrArg some (lst_snoc ys _))), by rw [hstep]; exact IntsAre.append hy9 (.cons _ t4 .nil)⟩
    | false =>
      rw [← hok] at hstep
      simp only [Bool.false_eq_true, if_false, List.append_nil] at hq hstep ⊢
      obtain ⟨h4, tk4, nw, rfl, F4, N4, _, _, rfl⟩ := hq
      exact ⟨vs.length - (i + 1), Nat.sub_succ_lt_self _ _ hlt, h4, tk4, i + 1, ys, mc2, rfl, hlt, rfl, back h4 F4 N4, by rw [hstep]; exact hy9⟩
  · have e : i = vs.length := Nat.le_antisymm hi hge
    subst e
    rw [hT.len.1, List.take_length] at hy9
    refine take_end (s := { s₁ with heap := h', toks := tk }) hh b st hl (List.getElem?_eq_none (Nat.le_refl _)) fun h2 F2 N2 n2 d2 => ?_
    refine ⟨mc, n2, fun g hg => ?_⟩
    have k : ∀ a o, a ≠ C → h2.get? a = some o → g.get? a = some o := fun a o ha e => hg.extBut a o ha e
    refine fin D ys g tk hy9 (touch_fr F2 k b.cL b.c0) (fun q hq => ?_) fun q hq => (b.off q hq).2.2
    rcases List.mem_cons.mp hq with rfl | hq
    · exact ⟨k _ _ b.cd.symm d2, b.dL, b.d0⟩
    · exact touch_led N2 k (fun p hp => (b.off p hp).2.1) q hq
/-- the turns of a dict's block -/
theorem loop_D {kx vx target iter : Expr} {scope : Scope} {pos : Pos} {it : Value} {R : Result → Shared → Prop} (J : Nat → Shared → Prop)
    (turn : ∀ n s, J n s → wpAny (model prog w) A (pyNext it) (fun r s₁ => match r with
      | none => R (.ok .next) s₁
      | some v => wpAny (model prog w) A (letOwnedTupleGo target it v) (fun _ s₀ => wpAny (model prog w) A (assign target env v) (fun _ s₂ => wpAny (model prog w) A (eval kx env) (fun kv s₃ => wpAny (model prog w) A (eval vx env) (fun vv s₄ =>
          wpAny (model prog w) A (dictSet D kv vv) (fun _ s₅ => ∃ k, k < n ∧ J k s₅) (notedBy (model prog w) A env fun e s' => R (.error e) s') s₄) (notedBy (model prog w) A env fun e s' => R (.error e) s') s₃) (notedBy (model prog w) A env fun e s' => R (.error e) s') s₂)
          (notedBy (model prog w) A env fun e s' => R (.error e) s') s₀) (notedBy (model prog w) A env fun e s' => R (.error e) s') s₁) (notedBy (model prog w) A env fun e s' => R (.error e) s') s)
    (n : Nat) (h : J n s) : codeAny (model prog w) A (.compLoop (.DictComp kx vx [⟨target, iter, [], 0⟩] scope pos) 0 it (.ref D) env) R s := by
  apply codeAny_loop rfl J (fun k s1 hJ => ?_) n h
  show wpAny _ A (Sem.onRaise (compTurn (.DictComp kx vx [⟨target, iter, [], 0⟩] scope pos) 0 it (.ref D) env) _) _ _ s1
  apply wpAny_noted
  rw [compTurn_dict]
  apply wpAny_bind
  apply wpAny_standAt
  apply wpAny_bind
  refine wpAny_mono (turn k s1 hJ) (fun r s2 hr => ?_) fun _ _ e => e
  match r, hr with
  | none, hr => exact wpAny_pure hr
  | some v, hr =>
    apply wpAny_bind
    refine wpAny_mono hr (fun _ s3 h3 => ?_) fun _ _ e => e
    apply wpAny_bind
    refine wpAny_mono h3 (fun _ s4 h4 => ?_) fun _ _ e => e
    apply wpAny_bind
    apply wpAny_tests_nil
    apply wpAny_bind
    apply wpAny_bind
    refine wpAny_mono h4 (fun kv s5 h5 => ?_) fun _ _ e => e
    apply wpAny_bind
    apply wpAny_holding
    refine wpAny_mono h5 (fun vv s6 h6 => ?_) fun _ _ e => e
    apply wpAny_bind
    apply wpAny_standAt
    apply wpAny_holding
    exact wpAny_mono h6 (fun _ s7 h7 => wpAny_pure ⟨rfl, h7⟩) fun _ _ e => e
/-- the turns of a dict's block over triples -/
def TurnsD (prog : Program) (w : World) (A : Around) (h₀ : Heap) (L : Addr) (m : Str → Option Value) (env : Env) (kx vx : Expr) (x y z nm : Str) (scope : Scope) (cl : List (Str × Addr)) (Q : Flow → Shared → Prop) (news : List (Addr × Obj)) (xs : List (Int × Int × Str)) (s : Shared) : Prop :=
  ∃ (kf : Int × Int × Str → Int) (vf : Int × Int × Str → Str),
    (∀ a t1 t2 t3 I oI C oC D oD mc h tk (E' : Value → Shared → Prop), a ∈ xs → NsObj oC mc → mc x = some (.int a.1 t1) → mc y = some (.int a.2.1 t2) → mc z = some (.str a.2.2 t3) → Fr h₀ L h m → News h₀ L h ((I, oI) :: (C, oC) :: (D, oD) :: news) → Off3 I C D news → ((@Ne Nat I C) ∧ (@Ne Nat I D) ∧ (@Ne Nat C D)) →
      wpAny (model prog w) A (eval kx (compEnvC scope cl C env)) (fun kv s3 => wpAny (model prog w) A (eval vx (compEnvC scope cl C env)) (fun vv s4 =>
        (∃ t, kv = .int (kf a) t) ∧ CompEnd h₀ L m { s with heap := h, toks := tk } I oI C oC D oD (fun _ => True) (fun y news' => news' = news ∧ ∃ t, y = .str (vf a) t) vv s4) E' s3) E' { s with heap := h, toks := tk }) ∧
    ∀ D o kvs h tk, o.IsDictOf (PySem.intKind prog w) kvs → DRel kvs (xs.foldl (fun acc a => putS acc (kf a) (vf a)) []) → Fr h₀ L h (fun q => if q = nm then some (.ref D) else m q) → News h₀ L h ((D, o) :: news) → (∀ q ∈ news, q.1 ≠ D) → L < D → Q .next { s with heap := h, toks := tk }
theorem Assign_DictComp_3 {kx vx iter : Expr} {x y z nm : Str} {px py pz pn tp : Pos} {kk} {scope : Scope} {cl : List (Str × Addr)} {pos spos : Pos} {Q : Flow → Shared → Prop} (_F₀ : Fr h₀ L s.heap m) (hLe : env.locals = L)
    (hsw : swapsWith (.DictComp kx vx [⟨.Tuple [.Name x px, .Name y py, .Name z pz] kk tp, iter, [], 0⟩] scope pos) (some (.Name nm pn)) spos.line env = pure true)
    (hclos : closureFor scope env = pure cl) (hcell : ∀ y ∈ scope.names, y.2 ≠ .cell) (hkind : scope.kind = .function)
    (hnames : ∀ y ∈ scope.names, y.2 = .local → scope.names.lookup y.1 = some .local) (hx : scope.names.lookup x = some .local) (hy : scope.names.lookup y = some .local) (hz : scope.names.lookup z = some .local) (xy : x ≠ y) (xz : x ≠ z) (yz : y ≠ z)
    (hnm : env.kindOf nm = some .local) (hp : (env.scope.kind == .class || (env.scope.kind == .module && env.locals != env.globals)) = false)
    (h : wpAny (model prog w) A (eval iter env) (Src3 prog w A h₀ L m (TurnsD prog w A h₀ L m env kx vx x y z nm scope cl Q)) E s)
    (hs : ∀ x, foldedSetIterable iter env x = pure x := by intro _; rfl) :
    wpAny (model prog w) A (exec (.Assign [.Name nm pn] (.DictComp kx vx [⟨.Tuple [.Name x px, .Name y py, .Name z pz] kk tp, iter, [], 0⟩] scope pos) spos) env) Q E s := by
  have run : ∀ p' : Pos, wpAny (model prog w) A (comprehension (.DictComp kx vx [⟨.Tuple [.Name x px, .Name y py, .Name z pz] kk tp, iter, [], 0⟩] scope pos) scope env p' newDict false (eval iter env) (some (assign (.Name nm pn) env))) (fun _ s' => Q .next s') E s := by
    intro p'
    apply wpAny_comprehension_free (use := some (assign (.Name nm pn) env)) rfl hs hclos hkind hnames
    refine wpAny_mono h (fun xv s₁ src => ?_) (fun _ _ e => e)
    obtain ⟨l, vs, nn, news, led, xs, rfl, hh, F, N, hl, hsz, hT, hled, kf, vf, turn, fin⟩ := src
    refine blk_start (oD := { cls := .type "dict", data := .dict #[] }) (fun Q E s hq => wpAny_newObj_type hq) rfl (fun it acc env s R h1 h2 => codeAny_compStart_dict h1 h2) F N hl hcell hkind ?_
    intro I C D hB tkB mB b st0
    have d0 : ({ cls := .type "dict", data := .dict #[] } : Obj).IsDictOf (PySem.intKind prog w) [] := by
      obtain ⟨o, ho, hd⟩ := Heap.dictOf_iff.mp (Heap.DictOf.new (knd := PySem.intKind prog w) s.heap)
      rw [Heap.get?_push_size _ rfl] at ho
      cases ho
      exact hd
    refine loop_D (fun n s' => ∃ h' tk i oD kvs mc, s' = { s₁ with heap := h', toks := tk } ∧ i ≤ vs.length ∧ n = vs.length - i ∧ BSt h₀ L l I C D news m h' i mc oD ∧ oD.IsDictOf (PySem.intKind prog w) kvs ∧ DRel kvs ((xs.take i).foldl (fun acc a => putS acc (kf a) (vf a)) []) ∧ kvs.length ≤ i) ?_ vs.length
      ⟨hB, tkB, 0, _, [], mB, rfl, Nat.zero_le _, rfl, st0, d0, by simp only [List.take_zero, List.foldl_nil]; exact .nil, Nat.zero_le _⟩
    rintro n s' ⟨h', tk, i, oD, kvs, mc, rfl, hi, rfl, st, hd9, hy9, hkl⟩
    rcases Nat.lt_or_ge i vs.length with hlt | hge
    · obtain ⟨a, xa, tv, hva, hxa, hr, hmem⟩ := hT.item (i := i) (v := vs[i]) (List.getElem?_eq_getElem hlt)
      obtain ⟨t1, t2, t3, rfl⟩ := hr
      have hstep : (xs.take (i + 1)).foldl (fun acc a => putS acc (kf a) (vf a)) [] = putS ((xs.take i).foldl (fun acc a => putS acc (kf a) (vf a)) []) (kf xa) (vf xa) := by
        rw [List.take_add_one, hxa, List.foldl_append]
        rfl
      refine take3 (s := { s₁ with heap := h', toks := tk }) hh b st hl (hva ▸ List.getElem?_eq_getElem hlt) (hled _ hmem) hkind hx hy hz xy xz yz fun h2 tk2 mc2 st2 ex ey ez => ?_
      obtain ⟨oI, oC, nC, N2, back⟩ := st2.open b
      refine wpAny_mono (turn xa t1 t2 t3 I oI C oC D oD mc2 h2 tk2 _ (List.mem_of_getElem? hxa) nC ex ey ez st2.fr N2 (Off3.of b.off) ⟨b.ic, b.di, b.cd⟩) (fun kv s3 hq => ?_) fun _ _ e => e
      refine wpAny_mono hq (fun vv s4 hq => ?_) fun _ _ e => e
      obtain ⟨⟨tk9, rfl⟩, h4, tk4, nw, rfl, F4, N4, _, _, rfl, t4, rfl⟩ := hq
      have st4 := back h4 F4 N4
      refine wpAny_dictSet_pairs (knd := PySem.intKind prog w) (hsz := Nat.le_trans hkl (Nat.le_of_lt (Nat.lt_of_lt_of_le hlt hsz))) (key_int _ _) (Heap.dictOf_iff.mpr ⟨_, st4.acc, hd9⟩) fun h5 hd5 hs5 => ?_
      obtain ⟨o5, ho5, hd5⟩ := Heap.dictOf_iff.mp hd5
      exact ⟨vs.length - (i + 1), Nat.sub_succ_lt_self _ _ hlt, h5, _, i + 1, o5, _, mc2, rfl, hlt, rfl, st4.turnD b hs5 ho5, hd5, by rw [hstep]; exact hy9.put _ _ _, Nat.le_trans (stored_length_le _ _ _) (Nat.succ_le_succ hkl)⟩
    · have e : i = vs.length := Nat.le_antisymm hi hge
      subst e
      rw [hT.len.1, List.take_length] at hy9
      refine take_end (s := { s₁ with heap := h', toks := tk }) hh b st hl (List.getElem?_eq_none (Nat.le_refl _)) fun h2 F2 N2 n2 d2 => ?_
      have hL : h₀.get? L = none := Heap.get?_none_of_le F2.above
      show wpAny _ A (assign (.Name nm pn) env (.ref D)) _ _ _
      apply wpAny_assign_Name
      subst hLe
      refine wpAny_storeName_local hnm F2.ns (fun g hg hb => ?_) hp
      have F3 : Fr h₀ env.locals g (fun q => if q = nm then some (.ref D) else m q) := F2.set hg hb
      have k1 : ∀ a o, a ≠ env.locals → h2.get? a = some o → g.get? a = some o := fun a o ha e => hb.extBut a o ha e
      refine ⟨mc, n2.sameBut hb b.cL, fun g' hg' => ?_⟩
      have k : ∀ a o, a ≠ C → g.get? a = some o → g'.get? a = some o := fun a o ha e => hg'.extBut a o ha e
      refine fin D oD kvs g' _ hd9 hy9 (touch_fr F3 k b.cL b.c0) (fun q hq => ?_) (fun q hq => (b.off q hq).2.2) b.ld
      rcases List.mem_cons.mp hq with rfl | hq
      · exact ⟨k _ _ b.cd.symm (k1 _ _ b.dL d2), b.dL, b.d0⟩
      · exact ⟨k _ _ (b.off q hq).2.1 (k1 _ _ (N2 q hq).2.1 (N2 q hq).1), (N2 q hq).2⟩
  rw [exec_Assign_Name_used _ _ _ _ hsw]
  apply wpAny_bind
  apply wpAny_standAt
  apply wpAny_bind
  apply wpAny_bind
  exact wpAny_mono (run _) (fun _ s' hq => wpAny_pure (wpAny_pure hq)) (fun _ _ e => e)
end
end
section
open PySem PySem.W PyProof.Rows PySem.Builtin PySem.Builtin.Str PySem.Calls
set_option maxRecDepth 100000
set_option maxHeartbeats 8000000
local macro_rules | `(tactic| walk_at "exec Assign cons ListComp") => `(tactic| (k_here; k_dflt (refine LCt.Assign_ListComp_T (F₀ := by k_asm) (by rfl) (by with_unfolding_all rfl) (by with_unfolding_all rfl) (by decide) (by rfl) (by decide) (by rfl) (by rfl) (by rfl) ?_)))
local macro_rules | `(tactic| walk_at "eval ListComp") => `(tactic| ((with_reducible show wpAny _ _ (eval (Expr.ListComp _ [⟨Expr.Tuple _ _ _, _, _, _⟩] _ _) _) _ _ _); k_dflt (refine ListComp_3 (_F₀ := by k_asm) (by with_unfolding_all rfl) (by decide) (by rfl) (by decide) (by rfl) (by rfl) (by rfl) (by decide) (by decide) (by decide) ?_)))
section
variable {w : World} {mean : ExcName → Option Value} {mg mb : Str → Option Value} {rest : List (Addr × Obj)} {dp un : Nat} {gd : Option (List Code)} {fa : Addr} {cdv : Value} {outer : List Env} {A₀ : Around} {base h₀ : Heap} {L : Addr} {m : Str → Option Value} {s : Shared} {E : Value → Shared → Prop} {Q : Flow → Shared → Prop}
theorem b15 {DS : Addr} {oR oT oS : Obj} {vs : List Value} {led : List (Addr × Obj)} {xs : List (Int × Int × Str)} {kk : Nat} {short text : Str} {r : Int} {hb : Bool} {tR tT tS : Tok} {n : Nat} {t1 : Tok} (B : Below A₀ base outer h₀)
    (F₀ : Fr h₀ L s.heap m) (hm1 : m (Str.ofString "size") = some (.int (n : Int) t1)) (hm2 : m (Str.ofString "holds") = some (.bool hb)) (hm3 : m (Str.ofString "spots") = some (.ref DS)) (X : (hd.heap_39 w.params).In h₀)
    (N : News h₀ L s.heap ((L + 1 + 1 + 1 + 1 + 1 + 1 + 1, oR) :: (L + 1 + 1 + 1 + 1 + 1 + 1, oT) :: (L + 1 + 1 + 1 + 1, oS) :: (DS, listOf vs.toArray kk) :: (led ++ rest))) (T : Top hd.view_39 Lo1 mean mg mb h₀) (hd1 : dp + 3 < recursionLimit) (hu : un + 100 < cLine) (hn : n ≤ 5)
    (hR0 : oR.data = .cell (some (.int r tR))) (hT0 : oT.data = .cell (some (.str text tT))) (hS0 : oS.data = .cell (some (.str short tS))) (hT : Tups R3 vs led xs) (hvl : vs.length ≤ 100)
    (htl : text.length ≤ 10) (hsl : short.length ≤ 10)
    (hq5 : hb = true → (rangeKs 0 n).filter (fun k => emS (Txt.slice short none (some k) ++ Str.ofString "..." ++ Txt.slice short (some k) none) text) = (xs.filter (fun a => decide (a.1 = r))).map (fun a => a.2.1))
    (hq : ∀ h' tk m', Fr h₀ L h' m' → Keep [Str.ofString "places"] m m' → News h₀ L h' ((L + 1 + 1 + 1 + 1 + 1 + 1 + 1, oR) :: (L + 1 + 1 + 1 + 1 + 1 + 1, oT) :: (L + 1 + 1 + 1 + 1, oS) :: (DS, listOf vs.toArray kk) :: (led ++ rest)) → wpAny (model Pr1 w) (lawA dp un gd L fa cdv outer) (execs ((forBody 15).drop 6) (lawEnv L fa cdv)) Q E { s with heap := h', toks := tk }) :
    wpAny (model Pr1 w) (lawA dp un gd L fa cdv outer) (execs ((forBody 15).drop 5) (lawEnv L fa cdv)) Q E s := by
  have F := fr_put F₀ (put_at hm1 (put_at hm2 (put_at hm3 rfl)))
  clear F₀
  w_on
  have hbrk : Brake [2] := trivial
  show wpAny _ _ (execs [_, _, _] _) _ _ _
  cases hb with
  | false =>
    repeat' (walk_at "go")
    unfold Hold
    refine hq _ _ _ (by k_asm) ?_ (by k_asm)
    intro z h1
    dsimp only
    walk_at "ifs"
  | true =>
    have hq6 := hq5 rfl
    repeat' (walk_at "go")
    unfold Hold
    refine wpAny_execs_cons ?_
    repeat' (walk_at "go")
    unfold Hold
    (rename Fr _ _ _ _ => lF9)
    (rename News _ _ _ _ => lN9)
    refine LCt.CompSrcT.range (by rfl) lF9 lN9 (by assumption) (small_one (by omega) (by omega) (by omega) (by omega)) (rangeSize_nat _ _) (by rw [sizeLine_eq]; omega) ?_
    intro g'
    refine crest_T (rangeKs 0 n) (fun k => emS (Txt.slice short none (some k) ++ Str.ofString "..." ++ Txt.slice short (some k) none) text) (by rw [rangeKs_length]; omega) ?_ ?_ ?_
    · rintro i v hi ⟨t, rfl⟩
      exact ⟨(0 : Int) + (i : Int), rk_get (by omega), t, rfl⟩
    · rintro k t I' oI' C' oC' D' m' ys' h' tk' E' hk' hC' hx' F' N' off' ne'
      have hb' := mem_rangeKs hk'
      (try simp only [LCg.Off3, and_true] at off')
      k_unmd
      k_fold
      repeat' (walk_at "go")
      refine TestEnd.of (fun hc => ?_) (fun hc => ?_)
      · repeat' (walk_at "go")
      · refine LCg.CompEnd.intro (by k_asm) (by k_asm) _ ?hs ?ho ?hS rfl
        case hs => kcf_all
        case ho => first | assumption | (simp only [LCg.Off3, and_true]; assumption)
        case hS => trivial
    · intro ys' hys' D' h' tk' F' N' off'
      rw [hq6] at hys'
      repeat' (walk_at "go")
      (rename Fr _ _ _ _ => lF9)
      (rename News _ _ _ _ => lN9)
      refine ⟨DS, vs, kk, _, led, xs, rfl, by rfl, lF9, lN9, by walk_at "mem5", by (rw [sizeLine_eq]; omega), hT, ?_, (fun a => decide (a.1 = r)), (fun a => a.2.1), ?_, ?_⟩
      · intro p hp
        simp [hp]
      · intro a t1 t2 t3 I oI C oC D mc ys h9 tk9 E9 ha9 hC9 e1 e2 e3 F9 N9 off9 ne9
        clear lF9 lN9
        (try simp only [LCg.Off3, and_true] at off9)
        k_unmd
        k_fold
        repeat' (walk_at "go")
        refine TestEnd.of (fun hc => ?_) (fun hc => ?_)
        · repeat' (walk_at "go")
        · refine LCg.CompEnd.intro (by k_asm) (by k_asm) _ ?hs ?ho trivial rfl
          case hs => kcf_all
          case ho => first | assumption | (simp only [LCg.Off3, and_true]; assumption)
      · intro D9 ys9 h9 tk9 hys9 F9 N9 off9
        clear lF9 lN9
        repeat' (walk_at "go")
        all_goals first
          | (exfalso; simp_all; done)
          | skip
        unfold Hold
        refine hq _ _ _ (by k_asm) ?_ (cb_drop (by k_asm) (by kcf_all))
        intro z h1
        simp only [List.contains_cons, List.contains_nil, Bool.or_false, Bool.or_eq_false_iff, beq_eq_false_iff_ne, ne_eq] at h1
        simp [h1]
        walk_at "ifs"
end
end
section
open PySem PySem.W PyProof.Rows PySem.Builtin PySem.Builtin.Str PySem.Calls
set_option maxRecDepth 100000
set_option maxHeartbeats 8000000
/-- what the big loop asks of one text of the table -/
structure TextOk (short lg bare : Str) (n : Nat) (few many : Int) (spots : List (Int × Int × Str)) (put left : List (Int × Str)) (text post : Str) : Prop where
  tl : 1 ≤ text.length ∧ text.length ≤ 10
  pl : post.length ≤ 1000
  dl : 0 ≤ Txt.count post (Str.ofString ".") ∧ Txt.count post (Str.ofString ".") ≤ 1000
  jl : (Txt.join (Str.ofString "...") (PyProof.Rows.signs text)).length ≤ 100
  q1 : emS (Str.ofString "..." ++ bare ++ Str.ofString "...") text = lookS put ((Txt.count post (Str.ofString ".") - few).fmod ((n : Int) + 1)) text
  q2 : emS bare text = (emS (Str.ofString "..." ++ bare ++ Str.ofString "...") text && (Txt.item short 0 ++ Txt.item short (-1) == Txt.item text 0 ++ Txt.item text (-1)))
  q3 : emS (Str.ofString "..." ++ bare ++ Str.ofString "...") text = true → (rangeKs 0 n).filter (fun k => emS (Txt.slice short none (some k) ++ Str.ofString "..." ++ Txt.slice short (some k) none) text) = (spots.filter (fun a => decide (a.1 = (Txt.count post (Str.ofString ".") - few).fmod ((n : Int) + 1)))).map (fun a => a.2.1)
  q4 : emS (Str.ofString "..." ++ Txt.join (Str.ofString "...") (PyProof.Rows.signs text) ++ Str.ofString "...") lg = lookS left ((many - Txt.count post (Str.ofString ".")).fmod ((n : Int) + 1)) text
def led15 (L DS DP DL : Addr) (oR oT oS oP oL : Obj) (vs : List Value) (kk : Nat) (rest : List (Addr × Obj)) : List (Addr × Obj) :=
  (L + 1 + 1 + 1 + 1 + 1 + 1 + 1, oR) :: (L + 1 + 1 + 1 + 1 + 1 + 1, oT) :: (L + 1 + 1 + 1 + 1, oS) :: (DP, oP) :: (DL, oL) :: (DS, listOf vs.toArray kk) :: rest
section
variable {w : World} {mean : ExcName → Option Value} {mg mb : Str → Option Value} {rest : List (Addr × Obj)} {dp un : Nat} {gd : Option (List Code)} {fa : Addr} {cdv : Value} {outer : List Env} {A₀ : Around} {base h₀ : Heap} {L : Addr} {m : Str → Option Value} {s : Shared} {E : Value → Shared → Prop} {Q : Flow → Shared → Prop}
theorem body15 {DS DP DL : Addr} {oR oT oS oP oL : Obj} {vs : List Value} {led : List (Addr × Obj)} {spots : List (Int × Int × Str)} {kk : Nat} {kvsP kvsL : List (Int × Value)} {put left : List (Int × Str)} {short text post bare lg : Str} {tT tS : Tok} {n : Nat} {few many : Int} {t1 t2 t3 t4 t5 t6 : Tok} (B : Below A₀ base outer h₀)
    (F₀ : Fr h₀ L s.heap m) (hm1 : m (Str.ofString "size") = some (.int (n : Int) t1)) (hm2 : m (Str.ofString "post") = some (.str post t2)) (hm3 : m (Str.ofString "few") = some (.int few t3)) (hm4 : m (Str.ofString "bare") = some (.str bare t4)) (hm5 : m (Str.ofString "put_in") = some (.ref DP)) (hm6 : m (Str.ofString "spots") = some (.ref DS)) (hm7 : m (Str.ofString "long") = some (.str lg t5)) (hm8 : m (Str.ofString "many") = some (.int many t6)) (hm9 : m (Str.ofString "left_out") = some (.ref DL)) (X : (hd.heap_39 w.params).In h₀)
    (N : News h₀ L s.heap (led15 L DS DP DL oR oT oS oP oL vs kk (led ++ rest))) (T : Top hd.view_39 Lo1 mean mg mb h₀) (hd1 : dp + 3 < recursionLimit) (hu : un + 100 < cLine) (hn : n ≤ 5)
    (hR0 : ∃ v, oR.data = .cell v) (hT0 : oT.data = .cell (some (.str text tT))) (hS0 : oS.data = .cell (some (.str short tS))) (hPd : oP.IsDictOf (PySem.intKind Pr1 w) kvsP) (hDP : DRel kvsP put) (hsP : (DP == sysModules) = false) (hLd : oL.IsDictOf (PySem.intKind Pr1 w) kvsL) (hDL : DRel kvsL left) (hsL : (DL == sysModules) = false)
    (hT : Tups R3 vs led spots) (hvl : vs.length ≤ 100) (hne : ∀ p ∈ (L + 1 + 1 + 1 + 1 + 1 + 1, oT) :: (L + 1 + 1 + 1 + 1, oS) :: (DP, oP) :: (DL, oL) :: (DS, listOf vs.toArray kk) :: (led ++ rest), p.1 ≠ L + 1 + 1 + 1 + 1 + 1 + 1 + 1)
    (hsl : 1 ≤ short.length ∧ short.length ≤ 10) (hbl : bare.length ≤ 100) (hll : lg.length ≤ 10) (hfm : 0 ≤ few ∧ few ≤ 1000) (hmm : 0 ≤ many ∧ many ≤ 1000)
    (ok : TextOk short lg bare n few many spots put left text post)
    (hq : ∀ h' tk m' oR', Fr h₀ L h' m' → Keep [Str.ofString "dots", Str.ofString "holds", Str.ofString "places"] m m' → (∃ v, oR'.data = .cell v) → News h₀ L h' (led15 L DS DP DL oR' oT oS oP oL vs kk (led ++ rest)) → Q .next { s with heap := h', toks := tk }) :
    wpAny (model Pr1 w) (lawA dp un gd L fa cdv outer) (execs (forBody 15) (lawEnv L fa cdv)) Q E s := by
  unfold led15 at N
  have hne2 : ∀ p ∈ (L + 1 + 1 + 1 + 1 + 1 + 1, oT) :: (L + 1 + 1 + 1 + 1, oS) :: (DP, oP) :: ((DL, oL) :: (DS, listOf vs.toArray kk) :: (led ++ rest)), p.1 ≠ L + 1 + 1 + 1 + 1 + 1 + 1 + 1 := hne
  refine a15 (rest := (DL, oL) :: (DS, listOf vs.toArray kk) :: (led ++ rest)) B F₀ hm1 hm2 hm3 hm4 hm5 X N T hd1 hu hn hR0 hT0 hS0 hPd hDP hsP hne2 ok.tl hsl ok.pl hbl hfm ok.q1 ok.q2 ?_
  intro h1 tk1 m1 oR1 td tr F1 ed eh K1 eR N1
  have up1 : ∀ {z : Str} {v : Option Value}, [Str.ofString "dots", Str.ofString "holds"].contains z = false → m z = v → m1 z = v := fun hz e => (K1 _ hz).trans e
  refine b15 (rest := (DP, oP) :: (DL, oL) :: rest) (led := led) (vs := vs) (kk := kk) (DS := DS) (oR := oR1) (oT := oT) (oS := oS) (n := n) B F1 (up1 (by decide +kernel) hm1) eh (up1 (by decide +kernel) hm6) X ?_ T hd1 hu hn eR hT0 hS0 hT hvl ok.tl.2 hsl.2 ok.q3 ?_
  · refine cb_drop N1 ?_
    kcf_all
  intro h2 tk2 m2 F2 K2 N2
  have up2 : ∀ {z : Str} {v : Option Value}, [Str.ofString "places"].contains z = false → m1 z = v → m2 z = v := fun hz e => (K2 _ hz).trans e
  refine c15 (rest := (L + 1 + 1 + 1 + 1, oS) :: (DP, oP) :: (DS, listOf vs.toArray kk) :: (led ++ rest)) (oR := oR1) (oT := oT) (n := n) (lg := lg) (many := many) B F2 (up2 (by decide +kernel) (up1 (by decide +kernel) hm1)) (up2 (by decide +kernel) (up1 (by decide +kernel) hm7)) (up2 (by decide +kernel) ed) (up2 (by decide +kernel) (up1 (by decide +kernel) hm8)) (up2 (by decide +kernel) (up1 (by decide +kernel) hm9)) X ?_ T hd1 hu hn ⟨_, eR⟩ hT0 hLd hDL hsL ?_ ok.tl.2 hll ⟨ok.dl.1, ok.dl.2, hmm.1, hmm.2⟩ ok.q4 ok.jl ?_
  · refine cb_drop N2 ?_
    kcf_all
  · refine fun p hp => hne p ((show ∀ q ∈ _, q ∈ _ from ?_) p hp)
    kcf_all
  intro h3 tk3 m3 oR3 F3 K3 hR3 N3
  refine hq h3 tk3 m3 oR3 F3 ?_ hR3 ?_
  · intro z h9
    have h8 := h9
    simp only [List.contains_cons, List.contains_nil, Bool.or_false, Bool.or_eq_false_iff] at h9
    refine (K3 z rfl).trans ((K2 z ?_).trans (K1 z ?_))
    · simp only [List.contains_cons, List.contains_nil, Bool.or_false]; exact h9.2.2
    · simp only [List.contains_cons, List.contains_nil, Bool.or_false, Bool.or_eq_false_iff]; exact ⟨h9.1, h9.2.1⟩
  · refine cb_drop N3 ?_
    (try unfold led15)
    kcf_all
end
end
section
open PySem PySem.W PyProof.Rows PySem.Builtin PySem.Builtin.Str PySem.Calls
set_option maxRecDepth 100000
set_option maxHeartbeats 8000000
section
variable {w : World} {mean : ExcName → Option Value} {mg mb : Str → Option Value} {rest : List (Addr × Obj)} {dp un : Nat} {gd : Option (List Code)} {fa : Addr} {cdv : Value} {outer : List Env} {A₀ : Around} {base h₀ : Heap} {L : Addr} {m : Str → Option Value} {s : Shared} {E : Value → Shared → Prop} {Q : Flow → Shared → Prop}
/-- what the law's last loop asks of the long word -/
structure LongOk (lg : Str) (n : Nat) : Prop where
  len : lg.length = n + 1
  ahead : ∀ k : Int, 0 ≤ k → k < n + 2 → emS (Txt.slice lg none (some k)) lg = decide (k > (n : Int))
  cut : ∀ k : Int, 0 ≤ k → k < n + 2 → emS (Txt.slice lg none (some k) ++ Str.ofString "..." ++ Txt.slice lg (some k) none) lg = true
  twice : ∀ k : Int, 0 ≤ k → k < n + 2 → emS (Txt.slice lg none (some (k + 1)) ++ Str.ofString "..." ++ Txt.slice lg (some k) none) lg = decide (k > (n : Int))
theorem tail16 {lg : Str} {n : Nat} {t1 t2 : Tok} (B : Below A₀ base outer h₀)
    (F₀ : Fr h₀ L s.heap m) (hm1 : m (Str.ofString "size") = some (.int (n : Int) t1)) (hm2 : m (Str.ofString "long") = some (.str lg t2)) (X : (hd.heap_39 w.params).In h₀)
    (N : News h₀ L s.heap rest) (T : Top hd.view_39 Lo1 mean mg mb h₀) (hd1 : dp + 3 < recursionLimit) (hu : un + 100 < cLine) (hn : n ≤ 5)
    (hl : LongOk lg n) (hE : PassesOwn (model Pr1 w) (lawA dp un gd L fa cdv outer) (lawEnv L fa cdv) E) :
    wpAny (model Pr1 w) (lawA dp un gd L fa cdv outer) (execs (lawBody.drop 16) (lawEnv L fa cdv)) (RT h₀ L s) E s := by
  have F := fr_put F₀ (put_at hm1 (put_at hm2 rfl))
  clear F₀
  have hll := hl.len
  w_on
  show wpAny _ _ (execs [_, _] _) _ _ _
  repeat' (walk_at "go")
  unfold Hold
  (rename Fr _ _ _ _ => lF9)
  (rename News _ _ _ _ => lN9)
  refine for_rangeS (n := n + 2) [Str.ofString "ahead", Str.ofString "cut", Str.ofString "twice", Str.ofString "want", Str.ofString "fits"] (fun i => True) (by rfl) (by assumption) (small_one (by omega) (by omega) (by omega) (by omega)) (by rw [rangeSize_nat]; omega) lF9 lN9 trivial (fun i' k' t' h' tk' own' u' hi' hk' hoff' hP' F' N' => ?_) (fun u' h' tk' hP' F' N' => ?_)
  · have hk0 : k' = (i' : Int) := by omega
    have q1 := hl.ahead k' (by omega) (by omega)
    have q2 := hl.cut k' (by omega) (by omega)
    have q3 := hl.twice k' (by omega) (by omega)
    (try simp only [List.cons_append] at N')
    repeat' (walk_at "go")
    (rename Fr _ _ _ _ => lF9)
    (rename News _ _ _ _ => lN9)
    refine iterT_K [Str.ofString "want", Str.ofString "fits"] (fun _ => True) (by rfl) (List.Mem.head _) lF9 lN9 trivial ?_ ?_
    · rintro i v m₁ h2 tk2 own2 hv hoff2 _ hkeep F2 N2
      simp only [List.cons_append] at N2
      have F3 := fr_put F2 (put_at (x := Str.ofString "long") (v := .str lg t2) ((hkeep _ (by decide +kernel)).trans (by with_unfolding_all rfl)) rfl)
      clear F2 lF9 lN9
      have hi3 : i = 0 ∨ i = 1 ∨ i = 2 := by
        have h1 := (List.getElem?_eq_some_iff.mp hv).1
        exact three_nat i h1
      rcases hi3 with rfl | rfl | rfl
      all_goals
        simp at hv
        subst hv
        repeat' (walk_at "go")
        all_goals first
          | (refine InvEndG.intro (nx := _) (by k_asm) (by k_asm) ⟨rfl, ?_, trivial⟩ hoff2 (by kcf_all) (by kcf_all))
          | (exfalso; simp_all; done)
        all_goals
          intro z h1
          have hk9 := hkeep z h1
          rw [← hk9]
          simp only [List.contains_cons, List.contains_nil, Bool.or_false, Bool.or_eq_false_iff, beq_eq_false_iff_ne, ne_eq] at h1
          simp [h1]
          repeat' (first | rfl | (intro h8; subst h8; exact ((hkeep _ (by decide +kernel)).trans (by with_unfolding_all rfl)).symm) | (split; (focus ((rename _ = Str.ofString _ => h8); subst h8; exact ((hkeep _ (by decide +kernel)).trans (by with_unfolding_all rfl)).symm))))
    · rintro m₁ h2 tk2 _ hkeep F2 N2
      repeat' (walk_at "go")
      refine InvEndG.intro (by k_asm) (by k_asm) ⟨rfl, ?_, trivial⟩ hoff' (by kcf_all) (by kcf_all)
      intro z h1 h2
      simp only [List.contains_cons, List.contains_nil, Bool.or_false, Bool.or_eq_false_iff, beq_eq_false_iff_ne, ne_eq] at h2
      refine (hkeep z (by (simp only [List.contains_cons, List.contains_nil, Bool.or_false, Bool.or_eq_false_iff, beq_eq_false_iff_ne, ne_eq]; simp [h2]))).trans ?_
      simp [h1, h2]
  · repeat' (walk_at "go")
    exact ⟨rfl, _, _, _, _, rfl, by k_asm, by k_asm⟩
end
end
local macro_rules | `(tactic| walk_at "pad7") => `(tactic| skip)
section
open PySem PySem.W PyProof.Rows PySem.Builtin PySem.Builtin.Str PySem.Calls
set_option maxRecDepth 100000
set_option maxHeartbeats 8000000
def AllOff (D : Addr) (l : List (Addr × Obj)) : Prop := ∀ p ∈ l, p.1 ≠ D
section
variable {prog : Program} {w : World} {A : Around} {E : Value → Shared → Prop} {s : Shared} {h₀ : Heap} {L : Addr} {m : Str → Option Value}
theorem app_front {D a : Addr} {o : Obj} {vs : List Value} {k : Nat} {v : Value} {all all' : List (Addr × Obj)} {Q : Value → Shared → Prop} (F : Fr h₀ L s.heap m) (N : News h₀ L s.heap ((a, o) :: all)) (hm : (D, listOf vs.toArray k) ∈ all) (hoff : AllOff D all') (hs : ∀ p ∈ all', p ∈ all) (ha : a ≠ D) (hsz : vs.length ≤ 100000)
    (h : ∀ h', Fr h₀ L h' m → News h₀ L h' ((D, listOf (vs ++ [v]).toArray (k + 1)) :: (a, o) :: all') → Q .none { s with heap := h' }) : wpAny (model prog w) A (call (.builtin "list.append") [.ref D, v]) Q E s := by
  refine app_head F (rest := (a, o) :: all') (fun p hp => N p ?_) ?_ hsz h
  · rcases List.mem_cons.mp hp with rfl | hp
    · exact .tail _ hm
    · rcases List.mem_cons.mp hp with rfl | hp
      · exact .head _
      · exact .tail _ (hs p hp)
  · intro p hp
    rcases List.mem_cons.mp hp with rfl | hp
    · exact ha
    · exact hoff p hp
end
theorem tups_onL {h₀ h' : Heap} {L : Addr} {α : Type} {R : α → List Value → Prop} {D a1 : Addr} {v1 : List Value} {x1 : α} {vs : List Value} {led news own : List (Addr × Obj)} {xs : List α} {kk : Nat} {o : Obj}
    (N : News h₀ L h' ((D, listOf (vs ++ [Value.ref a1]).toArray kk) :: (a1, tupO v1) :: (led ++ news ++ own))) (hT : Tups R vs led xs) (r1 : R x1 v1) (hled : ∀ p ∈ led, D < p.1)
    (l1 : D < a1) (hown : ∀ p ∈ own, p.1 ≠ a1) (hoff : OwnOff own (((D, o) :: (led ++ news)).map (·.1))) :
    ∃ vs' led', News h₀ L h' (((D, listOf vs'.toArray kk) :: (led' ++ news)) ++ own) ∧ Tups R vs' led' (xs ++ [x1]) ∧ (∀ p ∈ led', D < p.1) ∧ vs'.length = vs.length + 1 ∧ OwnOff own (((D, listOf vs'.toArray kk) :: (led' ++ news)).map (·.1)) := by
  refine ⟨vs ++ [Value.ref a1], led ++ [(a1, tupO v1)], ?_, hT.append (.one r1), ?_, by simp, ?_⟩
  · intro p hp
    apply N
    simp only [List.mem_append, List.mem_cons, List.not_mem_nil, or_false] at hp ⊢
    rcases hp with (rfl | ((hp | rfl) | hp)) | hp
    · exact .inl rfl
    · exact .inr (.inr (.inl (.inl hp)))
    · exact .inr (.inl rfl)
    · exact .inr (.inr (.inl (.inr hp)))
    · exact .inr (.inr (.inr hp))
  · intro p hp
    simp only [List.mem_append, List.mem_cons, List.not_mem_nil, or_false] at hp
    rcases hp with hp | rfl
    · exact hled p hp
    · exact l1
  · intro p hp b hb
    simp only [List.map_cons, List.map_append, List.map_nil, List.mem_append, List.mem_cons, List.not_mem_nil, or_false] at hb
    rcases hb with rfl | ((hb | rfl) | hb)
    · exact hoff p hp _ (by simp)
    · exact hoff p hp b (by simp only [List.map_cons, List.map_append, List.mem_cons, List.mem_append]; exact .inr (.inl hb))
    · exact hown p hp
    · exact hoff p hp b (by simp only [List.map_cons, List.map_append, List.mem_cons, List.mem_append]; exact .inr (.inr hb))
local macro_rules | `(tactic| walk_at "call ref") => `(tactic| ((with_reducible show wpAny _ _ (call (Value.ref 55) [Value.str _ _]) _ _ _); walk_at "own0"))
local macro_rules | `(tactic| walk_at "call builtin:list.append") => `(tactic| ((show wpAny _ _ (call (Value.builtin "list.append") [Value.ref _, _]) _ _ _); (k_dflt (refine' app_front ?k1 ?k2 ?km ?k3 ?ks ?ka ?z ?_; (case k1 => k_asm); (case k2 => k_asm); (case km => walk_at "mem5"); (case k3 => assumption); (case ks => first | assumption | (intro p hp; refine List.Mem.tail _ ?_; revert hp; revert p; assumption)); (case ka => first | k_ne | exact Nat.ne_of_gt (by assumption)); (case z => ((try simp only [List.length_append, List.length_cons, List.length_nil]); omega)))); intro h' F' N'))
local macro_rules | `(tactic| walk_at "ne_all2") => `(tactic| (walk_at "own2"))
local macro_rules | `(tactic| walk_at "subscriptTail List cons BinOp ref int") => `(tactic| ((with_reducible show wpAny _ _ (subscriptTail (Expr.List _ _) _ (Value.ref _) (Value.int _ _)) _ _ _); walk_at "own1"))
def R2 (x : Str × Str) (v : List Value) : Prop := ∃ t1 t2, v = [.str x.1 t1, .str x.2 t2]
noncomputable def tabBody : List Stmt := match (forBody 11).getD 1 (.Pass ⟨0, 0, 0, 0⟩) with | .For _ _ b _ _ => b | _ => []
/-- the two texts that one text of the table gives -/
def tabAt (lo hi : Str) (j : Int) (a : Str × Str) : List (Str × Str) :=
  [(a.1 ++ lo, qdT a.2 ++ (Str.ofString "a" ++ endS j)), (a.1 ++ hi, qdT a.2 ++ (Str.ofString "." ++ endS j))]
section
variable {w : World} {mean : ExcName → Option Value} {mg mb : Str → Option Value} {rest : List (Addr × Obj)} {dp un : Nat} {gd : Option (List Code)} {fa : Addr} {cdv : Value} {outer : List Env} {A₀ : Around} {base h₀ : Heap} {L : Addr} {m : Str → Option Value} {s : Shared} {E : Value → Shared → Prop} {Q : Flow → Shared → Prop}
theorem t11 {Dl Dp : Addr} {oLo oHi oPr oT : Obj} {vs : List Value} {led : List (Addr × Obj)} {xs : List (Str × Str)} {kk kp : Nat} {p0 p1 tot K : Int} {tp0 tp1 tlo thi tT t1 t2 t3 : Tok} {lo hi text post : Str} (B : Below A₀ base outer h₀)
    (F₀ : Fr h₀ L s.heap m) (hm1 : m (Str.ofString "post") = some (.str post t1)) (hm2 : m (Str.ofString "total") = some (.int tot t2)) (hm3 : m (Str.ofString "k") = some (.int K t3)) (hm4 : m (Str.ofString "longer") = some (.ref Dl)) (X : (hd.heap_39 w.params).In h₀)
    (N : News h₀ L s.heap ((Dl, listOf vs.toArray kk) :: (led ++ ((L + 1, oLo) :: (L + 1 + 1, oHi) :: (L + 1 + 1 + 1, oPr) :: (L + 1 + 1 + 1 + 1 + 1 + 1, oT) :: (Dp, listOf [Value.int p0 tp0, Value.int p1 tp1].toArray kp) :: rest)))) (T : Top hd.view_39 Lo1 mean mg mb h₀) (hd1 : dp + 3 < recursionLimit) (hu : un + 100 < cLine)
    (hLo : oLo.data = .cell (some (.str lo tlo))) (hHi : oHi.data = .cell (some (.str hi thi))) (hPr : oPr.data = .cell (some (.ref Dp))) (hT0 : oT.data = .cell (some (.str text tT)))
    (hT : Tups R2 vs led xs) (hled : ∀ p ∈ led, Dl < p.1) (hne : ∀ p ∈ (L + 1, oLo) :: (L + 1 + 1, oHi) :: (L + 1 + 1 + 1, oPr) :: (L + 1 + 1 + 1 + 1 + 1 + 1, oT) :: (Dp, listOf [Value.int p0 tp0, Value.int p1 tp1].toArray kp) :: rest, p.1 ≠ Dl)
    (hp0 : p0 < 256) (hp1 : p1 ≥ 256) (hlo : lo.length = 1) (hhi : hi.length = 1) (htx : text.length ≤ 10) (hpo : post.length ≤ 1000) (hqp : (qdT post).length ≤ 1000) (htot : 0 ≤ tot ∧ tot ≤ 10000000) (hK : 0 ≤ K ∧ K ≤ 10) (hvl : vs.length ≤ 1000) (hE : PassesOwn (model Pr1 w) (lawA dp un gd L fa cdv outer) (lawEnv L fa cdv) E)
    (hq : ∀ h' tk m' vs' led' kk', Fr h₀ L h' m' → Keep [Str.ofString "sent", Str.ofString "symbol", Str.ofString "row"] m m' → Tups R2 vs' led' (xs ++ tabAt lo hi ((tot + K).fmod 3) (text, post)) → (∀ p ∈ led', Dl < p.1) → News h₀ L h' ((Dl, listOf vs'.toArray kk') :: (led' ++ ((L + 1, oLo) :: (L + 1 + 1, oHi) :: (L + 1 + 1 + 1, oPr) :: (L + 1 + 1 + 1 + 1 + 1 + 1, oT) :: (Dp, listOf [Value.int p0 tp0, Value.int p1 tp1].toArray kp) :: rest))) → Q .next { s with heap := h', toks := tk }) :
    wpAny (model Pr1 w) (lawA dp un gd L fa cdv outer) (execs tabBody (lawEnv L fa cdv)) Q E s := by
  have F := fr_put F₀ (put_at hm1 (put_at hm2 (put_at hm3 (put_at hm4 rfl))))
  clear F₀
  w_on
  show wpAny _ _ (execs [_, _] _) _ _ _
  have N9 := cb_drop (news := (L + 1, oLo) :: (L + 1 + 1, oHi) :: (L + 1 + 1 + 1, oPr) :: (L + 1 + 1 + 1 + 1 + 1 + 1, oT) :: (Dp, listOf [Value.int p0 tp0, Value.int p1 tp1].toArray kp) :: (Dl, listOf vs.toArray kk) :: (led ++ rest)) N (by kcf_all)
  clear N
  repeat' (walk_at "go")
  unfold Hold
  rename_i ts h1 tk1 h0 lF lN
  obtain ⟨m₀, F₀, e0, e1, e2, e3, e4, hk0⟩ : ∃ m₀, Fr h₀ L h0 m₀ ∧ m₀ (Str.ofString "sent") = some (.str (qdT post) ts) ∧ m₀ (Str.ofString "post") = some (.str post t1) ∧ m₀ (Str.ofString "total") = some (.int tot t2) ∧ m₀ (Str.ofString "k") = some (.int K t3) ∧ m₀ (Str.ofString "longer") = some (.ref Dl) ∧ Keep [Str.ofString "sent"] m m₀ := by
    refine ⟨_, lF, by with_unfolding_all rfl, by with_unfolding_all rfl, by with_unfolding_all rfl, by with_unfolding_all rfl, by with_unfolding_all rfl, ?_⟩
    intro z h1
    simp only [List.contains_cons, List.contains_nil, Bool.or_false, Bool.or_eq_false_iff, beq_eq_false_iff_ne, ne_eq] at h1
    simp [h1]
    walk_at "ifs"
  refine kdl_iter (vs := [Value.int p0 tp0, Value.int p1 tp1]) (nn := kp) (news := (Dl, listOf vs.toArray kk) :: (led ++ ((L + 1, oLo) :: (L + 1 + 1, oHi) :: (L + 1 + 1 + 1, oPr) :: (L + 1 + 1 + 1 + 1 + 1 + 1, oT) :: (Dp, listOf [Value.int p0 tp0, Value.int p1 tp1].toArray kp) :: rest)))
    (fun i m' nx => (∃ vs' led' kk', nx = (Dl, listOf vs'.toArray kk') :: (led' ++ ((L + 1, oLo) :: (L + 1 + 1, oHi) :: (L + 1 + 1 + 1, oPr) :: (L + 1 + 1 + 1 + 1 + 1 + 1, oT) :: (Dp, listOf [Value.int p0 tp0, Value.int p1 tp1].toArray kp) :: rest)) ∧ Tups R2 vs' led' (xs ++ (tabAt lo hi ((tot + K).fmod 3) (text, post)).take i) ∧ (∀ p ∈ led', Dl < p.1) ∧ vs'.length = vs.length + i) ∧ Keep [Str.ofString "symbol", Str.ofString "row"] m₀ m')
    (by rfl) (by kcf_m) F₀ (cb_drop lN (by kcf_all)) ?_ ?_ ?_
  · exact ⟨⟨vs, led, kk, rfl, by simpa using hT, hled, rfl⟩, fun z _ => rfl⟩
  · rintro i v m₁ nx h' tk' own hv hoff hmem ⟨⟨vs', led', kk', rfl, hT', hled', hvl'⟩, hkeep⟩ F' N'
    simp only [List.cons_append] at N'
    have hi2 : i = 0 ∨ i = 1 := by
      have h1 := (List.getElem?_eq_some_iff.mp hv).1
      exact two_nat i h1
    have hoD := OwnOff.ne hoff (List.mem_map.mpr ⟨(Dl, listOf vs'.toArray kk'), .head _, rfl⟩)
    have hall : AllOff Dl (led' ++ ((L + 1, oLo) :: (L + 1 + 1, oHi) :: (L + 1 + 1 + 1, oPr) :: (L + 1 + 1 + 1 + 1 + 1 + 1, oT) :: (Dp, listOf [Value.int p0 tp0, Value.int p1 tp1].toArray kp) :: rest) ++ own) := by
      intro p hp
      rcases List.mem_append.mp hp with hp | hp
      · rcases List.mem_append.mp hp with hp | hp
        · exact Nat.ne_of_gt (hled' p hp)
        · exact hne p hp
      · exact hoD p hp
    have hsub : ∀ p ∈ led' ++ ((L + 1, oLo) :: (L + 1 + 1, oHi) :: (L + 1 + 1 + 1, oPr) :: (L + 1 + 1 + 1 + 1 + 1 + 1, oT) :: (Dp, listOf [Value.int p0 tp0, Value.int p1 tp1].toArray kp) :: rest) ++ own, p ∈ (L + 1, oLo) :: (L + 1 + 1, oHi) :: (L + 1 + 1 + 1, oPr) :: (L + 1 + 1 + 1 + 1 + 1 + 1, oT) :: (Dp, listOf [Value.int p0 tp0, Value.int p1 tp1].toArray kp) :: (Dl, listOf vs'.toArray kk') :: (led' ++ rest ++ own) := by
      kcf_all
    have N2 : News h₀ (lawEnv L fa cdv).locals h' ((L + 1, oLo) :: (L + 1 + 1, oHi) :: (L + 1 + 1 + 1, oPr) :: (L + 1 + 1 + 1 + 1 + 1 + 1, oT) :: (Dp, listOf [Value.int p0 tp0, Value.int p1 tp1].toArray kp) :: (Dl, listOf vs'.toArray kk') :: (led' ++ rest ++ own)) := by
      refine cb_drop N' ?_
      kcf_all
    have hv0 := hv
    clear N' lN
    rcases hi2 with rfl | rfl
    · simp at hv
      subst hv
      have F2 := fr_put F' (put_at (x := Str.ofString "symbol") (by with_unfolding_all rfl) (put_at (at_other (by decide +kernel) ((hkeep _ (by decide +kernel)).trans e0)) (put_at (at_other (by decide +kernel) ((hkeep _ (by decide +kernel)).trans e2)) (put_at (at_other (by decide +kernel) ((hkeep _ (by decide +kernel)).trans e3)) (put_at (at_other (by decide +kernel) ((hkeep _ (by decide +kernel)).trans e4)) rfl)))))
      clear F' lF F₀
      show wpAny _ _ (execs (_ :: _ :: _) _) _ _ _
      repeat' (walk_at "go")
      all_goals (rename Fr h₀ L _ _ => lF9)
      all_goals (rename News h₀ L _ _ => lN9)
      all_goals
        (rename _ < _ ∧ L + 1 < _ ∧ _ => la)
        obtain ⟨_, _, _, _, _, _, la7, la8⟩ := la
        obtain ⟨vs2, led2, q1, q2, q3, q4, q5⟩ := tups_onL (R := R2) (x1 := (text ++ lo, qdT post ++ (Str.ofString "a" ++ endS ((tot + K).fmod 3)))) lN9 hT' ⟨_, _, rfl⟩ hled' la7 (fun p hp => allLt_ne la8 p (List.mem_append.mpr (.inr hp))) hoff
        refine InvEndG.intro (nx := _) lF9 q1 ⟨.tail _ (List.mem_append.mpr (.inr (.tail _ (.tail _ (.tail _ (.tail _ (.head _))))))), ⟨vs2, led2, _, rfl, by simpa [tabAt] using q2, q3, by omega⟩, ?_⟩ q5 (fun p hp => List.mem_append.mpr (.inl hp)) (fun p hp => List.mem_append.mpr (.inr hp))
        intro z h1
        have hk9 := hkeep z h1
        rw [← hk9]
        simp only [List.contains_cons, List.contains_nil, Bool.or_false, Bool.or_eq_false_iff, beq_eq_false_iff_ne, ne_eq] at h1
        simp [h1]
        repeat' (first | rfl | (split; (focus ((rename _ = Str.ofString _ => h8); subst h8; symm; refine (hkeep _ (by decide +kernel)).trans ?_; assumption))))
    · simp at hv
      subst hv
      have F2 := fr_put F' (put_at (x := Str.ofString "symbol") (by with_unfolding_all rfl) (put_at (at_other (by decide +kernel) ((hkeep _ (by decide +kernel)).trans e0)) (put_at (at_other (by decide +kernel) ((hkeep _ (by decide +kernel)).trans e2)) (put_at (at_other (by decide +kernel) ((hkeep _ (by decide +kernel)).trans e3)) (put_at (at_other (by decide +kernel) ((hkeep _ (by decide +kernel)).trans e4)) rfl)))))
      clear F' lF F₀
      show wpAny _ _ (execs (_ :: _ :: _) _) _ _ _
      repeat' (walk_at "go")
      all_goals (rename Fr h₀ L _ _ => lF9)
      all_goals (rename News h₀ L _ _ => lN9)
      all_goals
        (rename _ < _ ∧ L + 1 < _ ∧ _ => la)
        obtain ⟨_, _, _, _, _, _, la7, la8⟩ := la
        obtain ⟨vs2, led2, q1, q2, q3, q4, q5⟩ := tups_onL (R := R2) (x1 := (text ++ hi, qdT post ++ (Str.ofString "." ++ endS ((tot + K).fmod 3)))) lN9 hT' ⟨_, _, rfl⟩ hled' la7 (fun p hp => allLt_ne la8 p (List.mem_append.mpr (.inr hp))) hoff
        refine InvEndG.intro (nx := _) lF9 q1 ⟨.tail _ (List.mem_append.mpr (.inr (.tail _ (.tail _ (.tail _ (.tail _ (.head _))))))), ⟨vs2, led2, _, rfl, by simpa [tabAt] using q2, q3, by omega⟩, ?_⟩ q5 (fun p hp => List.mem_append.mpr (.inl hp)) (fun p hp => List.mem_append.mpr (.inr hp))
        intro z h1
        have hk9 := hkeep z h1
        rw [← hk9]
        simp only [List.contains_cons, List.contains_nil, Bool.or_false, Bool.or_eq_false_iff, beq_eq_false_iff_ne, ne_eq] at h1
        simp [h1]
        repeat' (first | rfl | (split; (focus ((rename _ = Str.ofString _ => h8); subst h8; symm; refine (hkeep _ (by decide +kernel)).trans ?_; assumption))))
  · rintro m₁ nx h' tk' ⟨⟨vs', led', kk', rfl, hT', hled', hvl'⟩, hkeep⟩ F' N'
    repeat' (walk_at "go")
    refine hq _ _ _ vs' led' kk' F' ?_ (by simpa [tabAt] using hT') hled' N'
    intro z h1
    simp only [List.contains_cons, List.contains_nil, Bool.or_false, Bool.or_eq_false_iff, beq_eq_false_iff_ne, ne_eq] at h1
    refine (hkeep z (by (simp only [List.contains_cons, List.contains_nil, Bool.or_false, Bool.or_eq_false_iff, beq_eq_false_iff_ne, ne_eq]; simp [h1]))).trans (hk0 z (by simp [h1]))
end
end
section
open PySem PySem.W PyProof.Rows PySem.Builtin PySem.Builtin.Str PySem.Calls
set_option maxRecDepth 100000
set_option maxHeartbeats 8000000
local macro_rules | `(tactic| walk_at "storeName") => `(tactic| ((with_reducible show wpAny _ _ (storeName _ (Str.ofString "text") _) _ _ _); walk_at "own3"))
section
variable {w : World} {mean : ExcName → Option Value} {mg mb : Str → Option Value} {rest : List (Addr × Obj)} {dp un : Nat} {gd : Option (List Code)} {fa : Addr} {cdv : Value} {outer : List Env} {A₀ : Around} {base h₀ : Heap} {L : Addr} {m : Str → Option Value} {s : Shared} {E : Value → Shared → Prop} {Q : Flow → Shared → Prop}
theorem RT.up {h : Heap} {tk : Nat} {fl : Flow} {s' : Shared} (r : RT h₀ L { s with heap := h, toks := tk } fl s') : RT h₀ L s fl s' := by
  obtain ⟨rfl, h', tk', m', nw, rfl, F, N⟩ := r
  exact ⟨rfl, h', tk', m', nw, rfl, F, N⟩
theorem e15 {DS DP DL Dt : Addr} {oR oT oS oP oL : Obj} {vs vsT : List Value} {led ledT : List (Addr × Obj)} {spots : List (Int × Int × Str)} {tbl : List (Str × Str)} {kk kT : Nat} {kvsP kvsL : List (Int × Value)} {put left : List (Int × Str)} {short bare lg : Str} {tS : Tok} {n : Nat} {few many : Int} {t1 t3 t4 t5 t6 : Tok} (B : Below A₀ base outer h₀)
    (F₀ : Fr h₀ L s.heap m) (hm1 : m (Str.ofString "size") = some (.int (n : Int) t1)) (hm2 : m (Str.ofString "table") = some (.ref Dt)) (hm3 : m (Str.ofString "few") = some (.int few t3)) (hm4 : m (Str.ofString "bare") = some (.str bare t4)) (hm5 : m (Str.ofString "put_in") = some (.ref DP)) (hm6 : m (Str.ofString "spots") = some (.ref DS)) (hm7 : m (Str.ofString "long") = some (.str lg t5)) (hm8 : m (Str.ofString "many") = some (.int many t6)) (hm9 : m (Str.ofString "left_out") = some (.ref DL)) (X : (hd.heap_39 w.params).In h₀)
    (N : News h₀ L s.heap (led15 L DS DP DL oR oT oS oP oL vs kk (led ++ ((Dt, listOf vsT.toArray kT) :: (ledT ++ rest))))) (T : Top hd.view_39 Lo1 mean mg mb h₀) (hd1 : dp + 3 < recursionLimit) (hu : un + 100 < cLine) (hn : n ≤ 5)
    (hR0 : ∃ v, oR.data = .cell v) (hT0 : ∃ v, oT.data = .cell v) (hS0 : oS.data = .cell (some (.str short tS))) (hPd : oP.IsDictOf (PySem.intKind Pr1 w) kvsP) (hDP : DRel kvsP put) (hsP : (DP == sysModules) = false) (hLd : oL.IsDictOf (PySem.intKind Pr1 w) kvsL) (hDL : DRel kvsL left) (hsL : (DL == sysModules) = false)
    (hT : Tups R3 vs led spots) (hvl : vs.length ≤ 100) (hTb : Tups R2 vsT ledT tbl)
    (far : ∀ p ∈ (L + 1 + 1 + 1 + 1, oS) :: (DP, oP) :: (DL, oL) :: (DS, listOf vs.toArray kk) :: (led ++ ((Dt, listOf vsT.toArray kT) :: (ledT ++ rest))), p.1 ≠ L + 1 + 1 + 1 + 1 + 1 + 1 + 1 ∧ p.1 ≠ L + 1 + 1 + 1 + 1 + 1 + 1)
    (hsl : 1 ≤ short.length ∧ short.length ≤ 10) (hbl : bare.length ≤ 100) (hll : lg.length ≤ 10) (hfm : 0 ≤ few ∧ few ≤ 1000) (hmm : 0 ≤ many ∧ many ≤ 1000)
    (ok : ∀ x ∈ tbl, TextOk short lg bare n few many spots put left x.1 x.2) (hlo : LongOk lg n) (hE : PassesOwn (model Pr1 w) (lawA dp un gd L fa cdv outer) (lawEnv L fa cdv) E) :
    wpAny (model Pr1 w) (lawA dp un gd L fa cdv outer) (execs (lawBody.drop 15) (lawEnv L fa cdv)) (RT h₀ L s) E s := by
  w_on
  have hbrk : Brake [8, 2] := trivial
  show wpAny _ _ (execs [_, _, _] _) _ _ _
  refine wpAny_execs_cons ?_
  (with_unfolding_all refine' For_turns (hE := ?k3) F₀ ?_ ?k1; (case k1 => exact fun _ => rfl); (case k3 => assumption))
  have F := fr_put F₀ (put_at hm2 rfl)
  walk1
  refine iterT (l := Dt) (vs := vsT) (nn := kT) (news := led15 L DS DP DL oR oT oS oP oL vs kk (led ++ ((Dt, listOf vsT.toArray kT) :: (ledT ++ rest))))
    (fun i m' nx => (∃ oR' oT', nx = led15 L DS DP DL oR' oT' oS oP oL vs kk (led ++ ((Dt, listOf vsT.toArray kT) :: (ledT ++ rest))) ∧ (∃ v, oR'.data = .cell v) ∧ (∃ v, oT'.data = .cell v)) ∧ Keep [Str.ofString "post", Str.ofString "dots", Str.ofString "holds", Str.ofString "places"] m m')
    (by rfl) ?hl F₀ N ⟨⟨oR, oT, rfl, hR0, hT0⟩, fun _ _ => rfl⟩ ?_ ?_
  case hl => (unfold led15; kcf_m)
  · rintro i v m₁ nx h' tk' own hv hoff hmem ⟨⟨oR', oT', rfl, hR', hT'⟩, hkeep⟩ F' N'
    obtain ⟨a, xa, tv, rfl, hxa, hr, hmem2⟩ := hTb.item hv
    obtain ⟨text, post⟩ := xa
    obtain ⟨u1, u2, rfl⟩ := hr
    dsimp only at *
    have hok := ok _ (List.mem_of_getElem? hxa)
    have up : ∀ {z : Str} {v : Option Value}, [Str.ofString "post", Str.ofString "dots", Str.ofString "holds", Str.ofString "places"].contains z = false → m z = v → m₁ z = v := fun hz e => (hkeep _ hz).trans e
    obtain ⟨v1, hT1⟩ := hT'
    have h67 : L + 1 + 1 + 1 + 1 + 1 + 1 + 1 ≠ L + 1 + 1 + 1 + 1 + 1 + 1 := Nat.succ_ne_self _
    have o6 := OwnOff.ne hoff (List.mem_map.mpr ⟨(L + 1 + 1 + 1 + 1 + 1 + 1, oT'), .tail _ (.head _), rfl⟩)
    have o7 := OwnOff.ne hoff (List.mem_map.mpr ⟨(L + 1 + 1 + 1 + 1 + 1 + 1 + 1, oR'), .head _, rfl⟩)
    have ne6 : ∀ p ∈ (a, tupO [.str text u1, .str post u2]) :: (L + 1 + 1 + 1 + 1 + 1 + 1 + 1, oR') :: (L + 1 + 1 + 1 + 1, oS) :: (DP, oP) :: (DL, oL) :: (DS, listOf vs.toArray kk) :: (led ++ ((Dt, listOf vsT.toArray kT) :: (ledT ++ rest)) ++ own), p.1 ≠ L + 1 + 1 + 1 + 1 + 1 + 1 := by
      repeat' (first | exact h67 | exact o6 | exact (far _ (by kcf_m)).2 | exact (fun p hp => (far p (by kcf_m)).2) | refine List.forall_mem_cons.mpr ⟨?_, ?_⟩ | refine List.forall_mem_append.mpr ⟨?_, ?_⟩)
    have ne7 : ∀ p ∈ (L + 1 + 1 + 1 + 1, oS) :: (DP, oP) :: (DL, oL) :: (DS, listOf vs.toArray kk) :: (led ++ ((Dt, listOf vsT.toArray kT) :: (ledT ++ rest) ++ own)), p.1 ≠ L + 1 + 1 + 1 + 1 + 1 + 1 + 1 := by
      repeat' (first | exact o7 | exact (far _ (by kcf_m)).1 | exact (fun p hp => (far p (by kcf_m)).1) | refine List.forall_mem_cons.mpr ⟨?_, ?_⟩ | refine List.forall_mem_append.mpr ⟨?_, ?_⟩)
    have N2 : News h₀ (lawEnv L fa cdv).locals h' ((L + 1 + 1 + 1 + 1 + 1 + 1, oT') :: (a, tupO [.str text u1, .str post u2]) :: (L + 1 + 1 + 1 + 1 + 1 + 1 + 1, oR') :: (L + 1 + 1 + 1 + 1, oS) :: (DP, oP) :: (DL, oL) :: (DS, listOf vs.toArray kk) :: (led ++ ((Dt, listOf vsT.toArray kT) :: (ledT ++ rest)) ++ own)) := by
      refine cb_drop N' ?_
      (try unfold led15)
      kcf_all
    clear N' F hm2
    repeat' (walk_at "go")
    unfold Hold
    rename_i hA FA NA hA2 oA dA hB FB NB
    have upB : ∀ {z : Str} {v : Option Value}, z ≠ Str.ofString "post" → m₁ z = v → (fun z => if z = Str.ofString "post" then some (Value.str post u2) else m₁ z) z = v := fun hz e => at_other hz e
    refine body15 (DS := DS) (DP := DP) (DL := DL) (oR := oR') (oT := oA) (oS := oS) (oP := oP) (oL := oL) (vs := vs) (led := led) (rest := (Dt, listOf vsT.toArray kT) :: (ledT ++ rest) ++ own) (kk := kk) (spots := spots) (put := put) (left := left) (short := short) (text := text) (post := post) (bare := bare) (lg := lg) (n := n) (few := few) (many := many) B FB
      (upB (by decide +kernel) (up (by decide +kernel) hm1)) (by with_unfolding_all rfl) (upB (by decide +kernel) (up (by decide +kernel) hm3)) (upB (by decide +kernel) (up (by decide +kernel) hm4)) (upB (by decide +kernel) (up (by decide +kernel) hm5)) (upB (by decide +kernel) (up (by decide +kernel) hm6)) (upB (by decide +kernel) (up (by decide +kernel) hm7)) (upB (by decide +kernel) (up (by decide +kernel) hm8)) (upB (by decide +kernel) (up (by decide +kernel) hm9)) X ?_ T hd1 hu hn hR' dA hS0 hPd hDP hsP hLd hDL hsL hT hvl ?_ hsl hbl hll hfm hmm hok ?_
    · refine cb_drop NB ?_
      (try unfold led15)
      kcf_all
    · intro p hp
      rcases List.mem_cons.mp hp with rfl | hp
      · exact h67.symm
      · exact ne7 p hp
    · intro h3 tk3 m3 oR3 F3 K3 hR3 N3
      refine ⟨h3, tk3, m3, _, led15 L DS DP DL oR3 oA oS oP oL vs kk (led ++ ((Dt, listOf vsT.toArray kT) :: (ledT ++ rest))), rfl, F3, N3, ?_, ?_, hoff, ?_, ⟨⟨oR3, oA, rfl, hR3, _, dA⟩, ?_⟩⟩
      · (try unfold led15)
        kcf_all
      · intro p hp
        unfold led15
        kcf_m
      · unfold led15
        kcf_m
      · intro z h9
        have h8 := h9
        simp only [List.contains_cons, List.contains_nil, Bool.or_false, Bool.or_eq_false_iff] at h9
        refine (K3 z ?_).trans ?_
        · simp only [List.contains_cons, List.contains_nil, Bool.or_false, Bool.or_eq_false_iff]; exact h9.2
        · refine at_other ?_ (hkeep z h8)
          simpa using h9.1
  · rintro m₁ nx h' tk' ⟨⟨oR', oT', rfl, hR', hT'⟩, hkeep⟩ F' N'
    have up : ∀ {z : Str} {v : Option Value}, [Str.ofString "post", Str.ofString "dots", Str.ofString "holds", Str.ofString "places"].contains z = false → m z = v → m₁ z = v := fun hz e => (hkeep _ hz).trans e
    repeat' (walk_at "go")
    unfold Hold
    exact wpAny_mono (tail16 (lg := lg) (n := n) (rest := led15 L DS DP DL oR' oT' oS oP oL vs kk (led ++ ((Dt, listOf vsT.toArray kT) :: (ledT ++ rest)))) B F' (up (by decide +kernel) hm1) (up (by decide +kernel) hm7) X N' T hd1 hu hn hlo hE) (fun fl s' r => r.up) fun _ _ e => e
end
end
section
open PySem PySem.W PyProof.Rows PySem.Builtin PySem.Builtin.Str PySem.Calls
set_option maxRecDepth 100000
set_option maxHeartbeats 8000000
section
variable {w : World} {mean : ExcName → Option Value} {mg mb : Str → Option Value} {rest : List (Addr × Obj)} {dp un : Nat} {gd : Option (List Code)} {fa : Addr} {cdv : Value} {outer : List Env} {A₀ : Around} {base h₀ : Heap} {L : Addr} {m : Str → Option Value} {s : Shared} {E : Value → Shared → Prop} {Q : Flow → Shared → Prop}
theorem put_call2 {cn : Str} {cs : Scope} {a : Addr} {ccd : Value} {cl : List (Str × Addr)} {news : List (Addr × Obj)} {Q : Value → Shared → Prop} {word lo hi : Str} {t1 t2 t3 : Tok} (B : Below A₀ base outer h₀) (F : Fr h₀ L s.heap m) (X : (hd.heap_39 w.params).In h₀) (N : News h₀ L s.heap news) (T : Top hd.view_39 Lo1 mean mg mb h₀) (hk : cs.kind = .function)
    (hw : word.length ≤ 10) (hlo : lo.length = 1) (hhi : hi.length = 1) (hd1 : dp + 2 < recursionLimit) (hu : un + 100 < cLine)
    (hret : ∀ (D : Addr) (vs : List Value) (led : List (Addr × Obj)) (kk : Nat) (h' : Heap) (tk' : Nat), Tups R3 vs led (putF word lo hi) → Fr h₀ L h' m → News h₀ L h' ((D, listOf vs.toArray kk) :: (news ++ led)) → (∀ p ∈ news ++ led, p.1 ≠ D) → Q (.ref D) { s with heap := h', toks := tk' }) :
    wpAny (model Pr1 w) (ktrTop dp un gd cn cs L a ccd cl outer) (call (.ref 95) [.str word t1, .str lo t2, .str hi t3]) Q E s := by
  have sw : ∀ {led : List (Addr × Obj)} {p : Addr × Obj}, p ∈ news ++ led → p ∈ led ++ news := fun hp => List.mem_append.mpr ((List.mem_append.mp hp).elim .inr .inl)
  refine put_call B F X N T hk hw hlo hhi hd1 hu fun D vs led kk h' tk' hT F' N' ne => hret D vs led kk h' tk' hT F' (fun p hp => N' p ?_) (fun p hp => ne p (sw hp))
  rcases List.mem_cons.mp hp with rfl | hp
  · exact .head _
  · exact .tail _ (sw hp)
end
local macro_rules | `(tactic| walk_at "storeName") => `(tactic| ((with_reducible show wpAny _ _ (storeName _ (Str.ofString "rest") _) _ _ _); walk_at "own3"))
local macro_rules | `(tactic| walk_at "call builtin:str.join") => `(tactic| (walk_at "own4"))
local macro_rules | `(tactic| walk_at "getMethod ref") => `(tactic| (walk_at "own5"))
local macro_rules | `(tactic| walk_at "call builtin:dict.get") => `(tactic| (walk_at "own6"))
local macro_rules | `(tactic| walk_at "call ref") => `(tactic| ((with_reducible show wpAny _ _ (call (Value.ref 95) [Value.str _ _, Value.str _ _, Value.str _ _]) _ _ _); (k_dflt (refine' put_call2 ?k1 ?k2 ?k3 ?k4 ?k5 ?kK ?ka ?kb ?kc ?kd ?ku ?_; (case k2 => k_asm); (case k4 => k_asm); (case k1 => k_asm); (case k3 => k_asm); (case k5 => k_asm); (case kK => first | exact rfl | assumption); (case ka => omega); (case kb => assumption); (case kc => assumption); (case kd => omega); (case ku => omega))); intro D' vs' led' kk' h' tk' hT' F' N' ne'; (try simp only [List.cons_append] at N' ne'); (try k_fold)))
local macro_rules | `(tactic| walk_at "call ref") => `(tactic| ((with_reducible show wpAny _ _ (call (Value.ref 102) [Value.str _ _, Value.str _ _, Value.str _ _]) _ _ _); (k_dflt (refine' left_call ?k1 ?k2 ?k3 ?k4 ?k5 ?kK ?ka ?kb ?kc ?kd ?ku ?_; (case k2 => k_asm); (case k4 => k_asm); (case k1 => k_asm); (case k3 => k_asm); (case k5 => k_asm); (case kK => first | exact rfl | assumption); (case ka => omega); (case kb => assumption); (case kc => assumption); (case kd => omega); (case ku => omega))); intro D' o' kvs' h' tk' hd' hr' hs' F' N' ne'; (try k_fold)))
section
variable {w : World} {mean : ExcName → Option Value} {mg mb : Str → Option Value} {rest : List (Addr × Obj)} {dp un : Nat} {gd : Option (List Code)} {fa : Addr} {cdv : Value} {outer : List Env} {A₀ : Around} {base h₀ : Heap} {L : Addr} {m : Str → Option Value} {s : Shared} {E : Value → Shared → Prop} {Q : Flow → Shared → Prop}
theorem s12 {oS oL oH : Obj} {short lg lo hi : Str} {tS tL tH : Tok} {t1 : Tok} (B : Below A₀ base outer h₀)
    (F₀ : Fr h₀ L s.heap m) (hm1 : m (Str.ofString "long") = some (.str lg t1)) (X : (hd.heap_39 w.params).In h₀)
    (N : News h₀ L s.heap ((L + 1 + 1 + 1 + 1, oS) :: (L + 1, oL) :: (L + 1 + 1, oH) :: rest)) (T : Top hd.view_39 Lo1 mean mg mb h₀) (hd1 : dp + 3 < recursionLimit) (hu : un + 100 < cLine)
    (hS0 : oS.data = .cell (some (.str short tS))) (hL0 : oL.data = .cell (some (.str lo tL))) (hH0 : oH.data = .cell (some (.str hi tH))) (hlo : lo.length = 1) (hhi : hi.length = 1) (hsl : short.length ≤ 10) (hll : 1 ≤ lg.length ∧ lg.length ≤ 10)
    (hq : ∀ h' tk m' (DS : Addr) (vs : List Value) (led : List (Addr × Obj)) (kk : Nat) (DL : Addr) (o : Obj) (kvs : List (Int × Value)), Fr h₀ L h' m' → m' (Str.ofString "spots") = some (.ref DS) → m' (Str.ofString "left_out") = some (.ref DL) → Keep [Str.ofString "spots", Str.ofString "left_out"] m m' →
      Tups R3 vs led (putF short lo hi) → o.IsDictOf (PySem.intKind Pr1 w) kvs → DRel kvs (leftN lg lo hi lg.length) → (DL == sysModules) = false →
      (∀ p ∈ (L + 1 + 1 + 1 + 1, oS) :: (L + 1, oL) :: (L + 1 + 1, oH) :: (rest ++ led), p.1 ≠ DS) → (∀ p ∈ (DS, listOf vs.toArray kk) :: (L + 1 + 1 + 1 + 1, oS) :: (L + 1, oL) :: (L + 1 + 1, oH) :: (rest ++ led), p.1 ≠ DL) →
      News h₀ L h' ((DL, o) :: (DS, listOf vs.toArray kk) :: (L + 1 + 1 + 1 + 1, oS) :: (L + 1, oL) :: (L + 1 + 1, oH) :: (rest ++ led)) → wpAny (model Pr1 w) (lawA dp un gd L fa cdv outer) (execs (lawBody.drop 13) (lawEnv L fa cdv)) Q E { s with heap := h', toks := tk }) :
    wpAny (model Pr1 w) (lawA dp un gd L fa cdv outer) (execs (lawBody.drop 12) (lawEnv L fa cdv)) Q E s := by
  have F := fr_put F₀ (put_at hm1 rfl)
  clear F₀
  w_on
  have hbrk : Brake [5] := trivial
  show wpAny _ _ (execs [_, _, _, _, _, _] _) _ _ _
  repeat' (walk_at "go")
  unfold Hold
  refine hq _ _ _ _ _ _ _ _ _ _ (by k_asm) (by with_unfolding_all rfl) (by with_unfolding_all rfl) ?_ (by assumption) (by assumption) (by assumption) (by assumption) (by assumption) (by assumption) (cb_drop (by k_asm) (by kcf_all))
  intro z h1
  simp only [List.contains_cons, List.contains_nil, Bool.or_false, Bool.or_eq_false_iff, beq_eq_false_iff_ne, ne_eq] at h1
  simp [h1]
  intro h8
  subst h8
  exact hm1.symm
end
end
section
open PySem PySem.W PyProof.Rows PySem.Builtin PySem.Builtin.Str PySem.Calls
set_option maxRecDepth 100000
set_option maxHeartbeats 8000000
local macro_rules | `(tactic| walk_at "exec Assign cons DictComp") => `(tactic| (k_here; k_dflt (refine Assign_DictComp_3 (_F₀ := by k_asm) (by rfl) (by with_unfolding_all rfl) (by with_unfolding_all rfl) (by decide) (by rfl) (by decide) (by rfl) (by rfl) (by rfl) (by decide) (by decide) (by decide) (by rfl) (by rfl) ?_)))
section
variable {w : World} {mean : ExcName → Option Value} {mg mb : Str → Option Value} {rest : List (Addr × Obj)} {dp un : Nat} {gd : Option (List Code)} {fa : Addr} {cdv : Value} {outer : List Env} {A₀ : Around} {base h₀ : Heap} {L : Addr} {m : Str → Option Value} {s : Shared} {E : Value → Shared → Prop} {Q : Flow → Shared → Prop}
theorem s13 {DS : Addr} {vs : List Value} {led : List (Addr × Obj)} {xs : List (Int × Int × Str)} {kk : Nat} (B : Below A₀ base outer h₀)
    (F₀ : Fr h₀ L s.heap m) (hm1 : m (Str.ofString "spots") = some (.ref DS)) (X : (hd.heap_39 w.params).In h₀)
    (N : News h₀ L s.heap ((DS, listOf vs.toArray kk) :: (led ++ rest))) (T : Top hd.view_39 Lo1 mean mg mb h₀) (hd1 : dp + 3 < recursionLimit) (hu : un + 100 < cLine)
    (hT : Tups R3 vs led xs) (hvl : vs.length ≤ 100)
    (hq : ∀ h' tk m' (DP : Addr) (o : Obj) (kvs : List (Int × Value)), Fr h₀ L h' m' → m' (Str.ofString "put_in") = some (.ref DP) → Keep [Str.ofString "put_in"] m m' → o.IsDictOf (PySem.intKind Pr1 w) kvs → DRel kvs (xs.foldl (fun acc a => putS acc a.1 a.2.2) []) → (DP == sysModules) = false → (∀ p ∈ (DS, listOf vs.toArray kk) :: (led ++ rest), p.1 ≠ DP) → News h₀ L h' ((DP, o) :: (DS, listOf vs.toArray kk) :: (led ++ rest)) → wpAny (model Pr1 w) (lawA dp un gd L fa cdv outer) (execs (lawBody.drop 14) (lawEnv L fa cdv)) Q E { s with heap := h', toks := tk }) :
    wpAny (model Pr1 w) (lawA dp un gd L fa cdv outer) (execs (lawBody.drop 13) (lawEnv L fa cdv)) Q E s := by
  have F := fr_put F₀ (put_at hm1 rfl)
  clear F₀
  w_on
  have hbrk : Brake [4] := trivial
  show wpAny _ _ (execs [_, _, _, _, _] _) _ _ _
  repeat' (walk_at "go")
  (rename Fr _ _ _ _ => lF9)
  (rename News _ _ _ _ => lN9)
  refine ⟨DS, vs, kk, _, led, xs, rfl, by rfl, lF9, lN9, by walk_at "mem5", by (rw [sizeLine_eq]; omega), hT, ?_, (fun a => a.1), (fun a => a.2.2), ?_, ?_⟩
  · intro p hp
    simp [hp]
  · intro a t1 t2 t3 I oI C oC D oD mc h9 tk9 E9 ha9 hC9 e1 e2 e3 F9 N9 off9 ne9
    clear lF9 lN9
    (try simp only [LCg.Off3, and_true] at off9)
    k_unmd
    k_fold
    repeat' (walk_at "go")
    refine LCg.CompEnd.intro (by k_asm) (by k_asm) _ ?hs ?ho trivial ⟨rfl, _, rfl⟩
    case hs => kcf_all
    case ho => first | assumption | (simp only [LCg.Off3, and_true]; assumption)
  · intro D9 o9 kvs9 h9 tk9 hd9 hr9 F9 N9 off9 ld9
    clear lF9 lN9
    repeat' (walk_at "go")
    unfold Hold
    refine hq _ _ _ D9 o9 kvs9 F9 (by with_unfolding_all rfl) ?_ hd9 hr9 ?_ off9 N9
    · intro z h1
      simp only [List.contains_cons, List.contains_nil, Bool.or_false, Bool.or_eq_false_iff, beq_eq_false_iff_ne, ne_eq] at h1
      simp [h1]
      intro h2
      subst h2
      exact hm1.symm
    · exact beq_eq_false_iff_ne.mpr (Nat.ne_of_gt (Nat.lt_trans (modules_low T.nolimit) (Nat.lt_of_le_of_lt F9.above ld9)))
end
end
section
open PySem PySem.W PyProof.Rows PySem.Builtin PySem.Builtin.Str PySem.Calls
set_option maxRecDepth 100000
set_option maxHeartbeats 8000000
local macro_rules | `(tactic| walk_at "storeName") => `(tactic| ((with_reducible show wpAny _ _ (storeName _ (Str.ofString "rest") _) _ _ _); walk_at "own3"))
local macro_rules | `(tactic| walk_at "call builtin:str.join") => `(tactic| (walk_at "own4"))
local macro_rules | `(tactic| walk_at "getMethod ref") => `(tactic| (walk_at "own5"))
local macro_rules | `(tactic| walk_at "call builtin:dict.get") => `(tactic| (walk_at "own6"))
section
variable {w : World} {mean : ExcName → Option Value} {mg mb : Str → Option Value} {rest : List (Addr × Obj)} {dp un : Nat} {gd : Option (List Code)} {fa : Addr} {cdv : Value} {outer : List Env} {A₀ : Around} {base h₀ : Heap} {L : Addr} {m : Str → Option Value} {s : Shared} {E : Value → Shared → Prop} {Q : Flow → Shared → Prop}
theorem s14 {oS : Obj} {short first last : Str} {tS : Tok} {t1 t2 : Tok} (B : Below A₀ base outer h₀)
    (F₀ : Fr h₀ L s.heap m) (hm1 : m (Str.ofString "first") = some (.str first t1)) (hm2 : m (Str.ofString "last") = some (.str last t2)) (X : (hd.heap_39 w.params).In h₀)
    (N : News h₀ L s.heap ((L + 1 + 1 + 1 + 1, oS) :: rest)) (T : Top hd.view_39 Lo1 mean mg mb h₀) (hd1 : dp + 3 < recursionLimit) (hu : un + 100 < cLine)
    (hS0 : oS.data = .cell (some (.str short tS))) (hsl : short.length ≤ 10) (hfl : first.length ≤ 1000) (hll : last.length ≤ 1000)
    (hq : ∀ h' tk m' tb tf tm, Fr h₀ L h' m' → m' (Str.ofString "bare") = some (.str (Txt.join (Str.ofString "...") (PyProof.Rows.signs short)) tb) → m' (Str.ofString "few") = some (.int (Txt.count first (Str.ofString ".")) tf) → m' (Str.ofString "many") = some (.int (Txt.count last (Str.ofString ".")) tm) → Keep [Str.ofString "bare", Str.ofString "few", Str.ofString "many"] m m' → News h₀ L h' ((L + 1 + 1 + 1 + 1, oS) :: rest) → wpAny (model Pr1 w) (lawA dp un gd L fa cdv outer) (execs (lawBody.drop 15) (lawEnv L fa cdv)) Q E { s with heap := h', toks := tk }) :
    wpAny (model Pr1 w) (lawA dp un gd L fa cdv outer) (execs (lawBody.drop 14) (lawEnv L fa cdv)) Q E s := by
  have F := fr_put F₀ (put_at hm1 (put_at hm2 rfl))
  clear F₀
  w_on
  have hbrk : Brake [3] := trivial
  show wpAny _ _ (execs [_, _, _, _] _) _ _ _
  repeat' (walk_at "go")
  unfold Hold
  refine hq _ _ _ _ _ _ (by k_asm) (by with_unfolding_all rfl) (by with_unfolding_all rfl) (by with_unfolding_all rfl) ?_ (cb_drop (by k_asm) (by kcf_all))
  intro z h1
  simp only [List.contains_cons, List.contains_nil, Bool.or_false, Bool.or_eq_false_iff, beq_eq_false_iff_ne, ne_eq] at h1
  simp [h1]
  walk_at "ifs"
end
end
section
open PySem PySem.W PyProof.Rows PySem.Builtin PySem.Builtin.Str PySem.Calls
set_option maxRecDepth 100000
set_option maxHeartbeats 8000000
local macro_rules | `(tactic| walk_at "storeName") => `(tactic| ((with_reducible show wpAny _ _ (storeName _ (Str.ofString "text") _) _ _ _); walk_at "own3"))
theorem cell_off {h₀ h : Heap} {L : Addr} {all : List (Addr × Obj)} (N : News h₀ L h all) {c : Addr} {oc : Obj} {v : Option Value} (hc : (c, oc) ∈ all) (hd : oc.data = .cell v) {p : Addr × Obj} (hp : p ∈ all) (hs : ∃ a n, p.2.data = .seq a n) : p.1 ≠ c := by
  intro e
  have h1 := (N _ hp).1
  have h2 := (N _ hc).1
  rw [e] at h1
  have h3 : p.2 = oc := Option.some.inj (h1.symm.trans h2)
  obtain ⟨a, n, h4⟩ := hs
  rw [h3, hd] at h4
  cases h4
theorem Tups.seq {α : Type} {R : α → List Value → Prop} {vs : List Value} {led : List (Addr × Obj)} {xs : List α} (h : Tups R vs led xs) : ∀ p ∈ led, ∃ a n, p.2.data = .seq a n := by
  induction h with
  | nil => intro p hp; cases hp
  | cons _ _ ih =>
    intro p hp
    rcases List.mem_cons.mp hp with rfl | hp
    · exact ⟨_, _, rfl⟩
    · exact ih p hp
theorem Tups.cls {α : Type} {R : α → List Value → Prop} {vs : List Value} {led : List (Addr × Obj)} {xs : List α} (h : Tups R vs led xs) : ∀ p ∈ led, p.2.cls = .type "tuple" := by
  induction h with
  | nil => intro p hp; cases hp
  | cons _ _ ih =>
    intro p hp
    rcases List.mem_cons.mp hp with rfl | hp
    · rfl
    · exact ih p hp
theorem cls_off {h₀ h : Heap} {L : Addr} {all : List (Addr × Obj)} (N : News h₀ L h all) {p q : Addr × Obj} (hp : p ∈ all) (hq : q ∈ all) (h1 : p.2.cls = .type "list_iterator") (h2 : q.2.cls = .type "tuple") : p.1 ≠ q.1 := by
  intro e
  have e1 := (N _ hp).1
  have e2 := (N _ hq).1
  rw [e] at e1
  have e3 : p.2 = q.2 := Option.some.inj (e1.symm.trans e2)
  rw [e3, h2] at h1
  revert h1
  decide
theorem tabAt_len (lo hi : Str) (j : Int) (a : Str × Str) : (tabAt lo hi j a).length = 2 := rfl
theorem flat_len (lo hi : Str) (j : Int) : ∀ l : List (Str × Str), (l.flatMap (tabAt lo hi j)).length = 2 * l.length
  | [] => rfl
  | a :: l => by simp [List.flatMap_cons, tabAt_len, flat_len lo hi j l]; omega
theorem flat_take {lo hi : Str} {j : Int} {l : List (Str × Str)} {i : Nat} {a : Str × Str} (h : l[i]? = some a) : (l.take (i + 1)).flatMap (tabAt lo hi j) = (l.take i).flatMap (tabAt lo hi j) ++ tabAt lo hi j a := by
  rw [List.take_add_one, h, List.flatMap_append]
  simp
/-- the ledger of the table loop -/
def ledT (L Dl Dp : Addr) (oLo oHi oPr oT : Obj) (vs : List Value) (kk : Nat) (pr : List Value) (kp : Nat) (led rest : List (Addr × Obj)) : List (Addr × Obj) :=
  (Dl, listOf vs.toArray kk) :: (led ++ ((L + 1, oLo) :: (L + 1 + 1, oHi) :: (L + 1 + 1 + 1, oPr) :: (L + 1 + 1 + 1 + 1 + 1 + 1, oT) :: (Dp, listOf pr.toArray kp) :: rest))
section
variable {w : World} {mean : ExcName → Option Value} {mg mb : Str → Option Value} {rest : List (Addr × Obj)} {dp un : Nat} {gd : Option (List Code)} {fa : Addr} {cdv : Value} {outer : List Env} {A₀ : Around} {base h₀ : Heap} {L : Addr} {m : Str → Option Value} {s : Shared} {E : Value → Shared → Prop} {Q : Flow → Shared → Prop}
theorem t11i {Dl Dp Dt : Addr} {oLo oHi oPr oT : Obj} {vsT : List Value} {tl : List (Addr × Obj)} {ys : List (Str × Str)} {kk kp kT : Nat} {p0 p1 tot K : Int} {tp0 tp1 tlo thi t1 t2 : Tok} {lo hi : Str} (B : Below A₀ base outer h₀)
    (F₀ : Fr h₀ L s.heap m) (hm1 : m (Str.ofString "table") = some (.ref Dt)) (hm2 : m (Str.ofString "total") = some (.int tot t1)) (hm3 : m (Str.ofString "k") = some (.int K t2)) (hm4 : m (Str.ofString "longer") = some (.ref Dl)) (X : (hd.heap_39 w.params).In h₀)
    (N : News h₀ L s.heap (ledT L Dl Dp oLo oHi oPr oT [] kk [Value.int p0 tp0, Value.int p1 tp1] kp [] ((Dt, listOf vsT.toArray kT) :: (tl ++ rest)))) (T : Top hd.view_39 Lo1 mean mg mb h₀) (hd1 : dp + 3 < recursionLimit) (hu : un + 100 < cLine)
    (hLo : oLo.data = .cell (some (.str lo tlo))) (hHi : oHi.data = .cell (some (.str hi thi))) (hPr : oPr.data = .cell (some (.ref Dp))) (hT0 : ∃ v, oT.data = .cell v)
    (hT : Tups R2 vsT tl ys) (hne : ∀ p ∈ (L + 1, oLo) :: (L + 1 + 1, oHi) :: (L + 1 + 1 + 1, oPr) :: (L + 1 + 1 + 1 + 1 + 1 + 1, oT) :: (Dp, listOf [Value.int p0 tp0, Value.int p1 tp1].toArray kp) :: ((Dt, listOf vsT.toArray kT) :: (tl ++ rest)), p.1 ≠ Dl) (hr6 : ∀ p ∈ rest, p.1 ≠ L + 1 + 1 + 1 + 1 + 1 + 1)
    (hp0 : p0 < 256) (hp1 : p1 ≥ 256) (hlo : lo.length = 1) (hhi : hi.length = 1) (hys : ys.length ≤ 100) (hbd : ∀ x ∈ ys, x.1.length ≤ 10 ∧ x.2.length ≤ 1000 ∧ (qdT x.2).length ≤ 1000) (htot : 0 ≤ tot ∧ tot ≤ 10000000) (hK : 0 ≤ K ∧ K ≤ 10) (hE : PassesOwn (model Pr1 w) (lawA dp un gd L fa cdv outer) (lawEnv L fa cdv) E)
    (hq : ∀ h' tk m' vs' led' kk' oT', Fr h₀ L h' m' → Keep [Str.ofString "post", Str.ofString "sent", Str.ofString "symbol", Str.ofString "row"] m m' → (∃ v, oT'.data = .cell v) → Tups R2 vs' led' (ys.flatMap (tabAt lo hi ((tot + K).fmod 3))) → (∀ p ∈ led', Dl < p.1) → News h₀ L h' (ledT L Dl Dp oLo oHi oPr oT' vs' kk' [Value.int p0 tp0, Value.int p1 tp1] kp led' ((Dt, listOf vsT.toArray kT) :: (tl ++ rest))) → wpAny (model Pr1 w) (lawA dp un gd L fa cdv outer) (execs ((forBody 11).drop 2) (lawEnv L fa cdv)) Q E { s with heap := h', toks := tk }) :
    wpAny (model Pr1 w) (lawA dp un gd L fa cdv outer) (execs ((forBody 11).drop 1) (lawEnv L fa cdv)) Q E s := by
  w_on
  have hbrk : Brake [2] := trivial
  show wpAny _ _ (execs [_, _] _) _ _ _
  refine wpAny_execs_cons ?_
  (with_unfolding_all refine' For_turns (hE := ?k3) F₀ ?_ ?k1; (case k1 => exact fun _ => rfl); (case k3 => assumption))
  have F := fr_put F₀ (put_at hm1 rfl)
  walk1
  refine iterTc (l := Dt) (vs := vsT) (nn := kT) (news := ledT L Dl Dp oLo oHi oPr oT [] kk [Value.int p0 tp0, Value.int p1 tp1] kp [] ((Dt, listOf vsT.toArray kT) :: (tl ++ rest)))
    (fun i m' nx => (∃ oT' vs' led' kk', nx = ledT L Dl Dp oLo oHi oPr oT' vs' kk' [Value.int p0 tp0, Value.int p1 tp1] kp led' ((Dt, listOf vsT.toArray kT) :: (tl ++ rest)) ∧ (∃ v, oT'.data = .cell v) ∧ Tups R2 vs' led' ((ys.take i).flatMap (tabAt lo hi ((tot + K).fmod 3))) ∧ (∀ p ∈ led', Dl < p.1)) ∧ Keep [Str.ofString "post", Str.ofString "sent", Str.ofString "symbol", Str.ofString "row"] m m')
    (by rfl) ?hl F₀ N ⟨⟨oT, [], [], kk, rfl, hT0, by simpa using Tups.nil, fun p hp => (nomatch hp)⟩, fun _ _ => rfl⟩ ?_ ?_
  case hl => (unfold ledT; kcf_m)
  · rintro i v m₁ nx h' tk' own hv hoff hcls hmem ⟨⟨oT', vs', led', kk', rfl, hT', hTt, hled⟩, hkeep⟩ F' N'
    obtain ⟨a, xa, tv, rfl, hxa, hr, hmem2⟩ := hT.item hv
    obtain ⟨text, post⟩ := xa
    obtain ⟨u1, u2, rfl⟩ := hr
    dsimp only at *
    have hok := hbd _ (List.mem_of_getElem? hxa)
    dsimp only at hok
    have hi9 : i < ys.length := (List.getElem?_eq_some_iff.mp hxa).1
    have hvl : vs'.length ≤ 200 := by
      rw [hTt.len.1, flat_len, List.length_take]
      omega
    have up : ∀ {z : Str} {v : Option Value}, [Str.ofString "post", Str.ofString "sent", Str.ofString "symbol", Str.ofString "row"].contains z = false → m z = v → m₁ z = v := fun hz e => (hkeep _ hz).trans e
    obtain ⟨v1, hT1⟩ := hT'
    have o6 := OwnOff.ne hoff (List.mem_map.mpr ⟨(L + 1 + 1 + 1 + 1 + 1 + 1, oT'), .tail _ (List.mem_append.mpr (.inr (.tail _ (.tail _ (.tail _ (.head _)))))), rfl⟩)
    have oD := OwnOff.ne hoff (List.mem_map.mpr ⟨(Dl, listOf vs'.toArray kk'), .head _, rfl⟩)
    have c6 : ∀ {p : Addr × Obj}, p ∈ ledT L Dl Dp oLo oHi oPr oT' vs' kk' [Value.int p0 tp0, Value.int p1 tp1] kp led' ((Dt, listOf vsT.toArray kT) :: (tl ++ rest)) → (∃ a n, p.2.data = .seq a n) → p.1 ≠ L + 1 + 1 + 1 + 1 + 1 + 1 :=
      fun hp hs => cell_off N' (List.mem_append.mpr (.inl (.tail _ (List.mem_append.mpr (.inr (.tail _ (.tail _ (.tail _ (.head _))))))))) hT1 (List.mem_append.mpr (.inl hp)) hs
    have ne6 : ∀ p ∈ (a, tupO [.str text u1, .str post u2]) :: (Dl, listOf vs'.toArray kk') :: (led' ++ ((L + 1, oLo) :: (L + 1 + 1, oHi) :: (L + 1 + 1 + 1, oPr) :: (Dp, listOf [Value.int p0 tp0, Value.int p1 tp1].toArray kp) :: ((Dt, listOf vsT.toArray kT) :: (tl ++ rest ++ own)))), p.1 ≠ L + 1 + 1 + 1 + 1 + 1 + 1 := by
      repeat' (first | exact hr6 | exact o6 | exact c6 (by unfold ledT; kcf_m) ⟨_, _, rfl⟩ | exact (fun p hp => c6 (by unfold ledT; kcf_m) (hTt.seq p hp)) | exact (fun p hp => c6 (by unfold ledT; kcf_m) (hT.seq p hp)) | exact Nat.ne_of_lt (Nat.le_add_right _ 2) | exact Nat.ne_of_lt (Nat.le_add_right _ 3) | exact Nat.ne_of_lt (Nat.le_add_right _ 4) | refine List.forall_mem_cons.mpr ⟨?_, ?_⟩ | refine List.forall_mem_append.mpr ⟨?_, ?_⟩)
    have N2 : News h₀ (lawEnv L fa cdv).locals h' ((L + 1 + 1 + 1 + 1 + 1 + 1, oT') :: (a, tupO [.str text u1, .str post u2]) :: (Dl, listOf vs'.toArray kk') :: (led' ++ ((L + 1, oLo) :: (L + 1 + 1, oHi) :: (L + 1 + 1 + 1, oPr) :: (Dp, listOf [Value.int p0 tp0, Value.int p1 tp1].toArray kp) :: ((Dt, listOf vsT.toArray kT) :: (tl ++ rest ++ own))))) := by
      refine cb_drop N' ?_
      (try unfold ledT)
      kcf_all
    clear N' F hm1
    repeat' (walk_at "go")
    unfold Hold
    rename_i hA FA NA hA2 oA dA hB FB NB
    have upB : ∀ {z : Str} {v : Option Value}, z ≠ Str.ofString "post" → m₁ z = v → (fun z => if z = Str.ofString "post" then some (Value.str post u2) else m₁ z) z = v := fun hz e => at_other hz e
    refine t11 (Dl := Dl) (Dp := Dp) (oLo := oLo) (oHi := oHi) (oPr := oPr) (oT := oA) (vs := vs') (led := led') (xs := (ys.take i).flatMap (tabAt lo hi ((tot + K).fmod 3))) (kk := kk') (kp := kp) (p0 := p0) (p1 := p1) (tp0 := tp0) (tp1 := tp1) (tot := tot) (K := K) (lo := lo) (hi := hi) (text := text) (post := post) (rest := (Dt, listOf vsT.toArray kT) :: (tl ++ rest ++ own)) B FB
      (by with_unfolding_all rfl) (upB (by decide +kernel) (up (by decide +kernel) hm2)) (upB (by decide +kernel) (up (by decide +kernel) hm3)) (upB (by decide +kernel) (up (by decide +kernel) hm4)) X ?_ T hd1 hu hLo hHi hPr dA hTt hled ?_ hp0 hp1 hlo hhi hok.1 hok.2.1 hok.2.2 htot hK (by omega) hE ?_
    · refine cb_drop NB ?_
      kcf_all
    · repeat' (first | exact oD | exact hne _ (by kcf_m) | exact (fun p hp => hne p (by kcf_m)) | exact hne (_, oT) (.tail _ (.tail _ (.tail _ (.head _)))) | refine List.forall_mem_cons.mpr ⟨?_, ?_⟩ | refine List.forall_mem_append.mpr ⟨?_, ?_⟩)
    · intro h3 tk3 m3 vs3 led3 kk3 F3 K3 T3 hled3 N3
      refine ⟨h3, tk3, m3, _, ledT L Dl Dp oLo oHi oPr oA vs3 kk3 [Value.int p0 tp0, Value.int p1 tp1] kp led3 ((Dt, listOf vsT.toArray kT) :: (tl ++ rest)), rfl, F3, N3, ?_, ?_, ?_, ?_, ⟨⟨oA, vs3, led3, kk3, rfl, ⟨_, dA⟩, ?_, hled3⟩, ?_⟩⟩
      · (try unfold ledT)
        kcf_all
      · intro p hp
        kcf_m
      · intro p hp b hb
        simp only [ledT, List.map_cons, List.map_append, List.mem_cons, List.mem_append] at hb
        rcases hb with rfl | hb | hb
        · exact oD p hp
        · obtain ⟨q, hq9, rfl⟩ := List.mem_map.mp hb
          exact cls_off N3 (p := p) (q := q) (by kcf_m) (by kcf_m) (hcls p hp) (T3.cls q hq9)
        · exact hoff p hp b (by simp only [ledT, List.map_cons, List.map_append, List.mem_cons, List.mem_append]; exact .inr (.inr hb))
      · unfold ledT
        kcf_m
      · rw [flat_take hxa]; exact T3
      · intro z h9
        have h8 := h9
        simp only [List.contains_cons, List.contains_nil, Bool.or_false, Bool.or_eq_false_iff] at h9
        refine (K3 z ?_).trans ?_
        · simp only [List.contains_cons, List.contains_nil, Bool.or_false, Bool.or_eq_false_iff]; exact h9.2
        · refine at_other ?_ (hkeep z h8)
          simpa using h9.1
  · rintro m₁ nx h' tk' ⟨⟨oT', vs', led', kk', rfl, hT', hTt, hled⟩, hkeep⟩ F' N'
    have e9 : ys.take vsT.length = ys := List.take_of_length_le (Nat.le_of_eq hT.len.1.symm)
    rw [e9] at hTt
    dsimp only
    exact hq h' tk' m₁ vs' led' kk' oT' F' hkeep hT' hTt hled N'
end
end
section
open PySem PySem.W PyProof.Rows PySem.Builtin PySem.Builtin.Str PySem.Calls
set_option maxRecDepth 100000
set_option maxHeartbeats 8000000
theorem lall_lt {D : Addr} : ∀ {l : List (Addr × Obj)}, AllLt D l → ∀ p ∈ l, p.1 < D
  | [], _, p, h => nomatch h
  | q :: r, h, p, hp => by
    rcases List.mem_cons.mp hp with rfl | hp
    · exact h.1
    · exact lall_lt h.2 p hp
theorem frEq {h₀ h : Heap} {L : Addr} {m m' : Str → Option Value} (F : Fr h₀ L h m) (e : m = m') : Fr h₀ L h m' := e ▸ F
def tabN (lo hi : Str) (tot : Int) : Nat → List (Str × Str)
  | 0 => [(Str.ofString "", Str.ofString "")]
  | i + 1 => (tabN lo hi tot i).flatMap (tabAt lo hi ((tot + (i : Int)).fmod 3))
theorem tabN_len (lo hi : Str) (tot : Int) : ∀ i, i ≤ 5 → (tabN lo hi tot i).length ≤ 100 ∧ (tabN lo hi tot i).length = 2 ^ i
  | 0, _ => ⟨Nat.le_of_ble_eq_true rfl, rfl⟩
  | i + 1, h => by
    have h1 := tabN_len lo hi tot i (by omega)
    have h2 : 2 ^ (i + 1) ≤ 2 ^ 5 := Nat.pow_le_pow_right (by decide) h
    refine ⟨?_, ?_⟩
    · rw [tabN, flat_len, h1.2]; omega
    · rw [tabN, flat_len, h1.2]; omega
/-- the ledger around the table loop -/
def ledO (L Dt Dp : Addr) (oLo oHi oPr oT : Obj) (vs : List Value) (kk : Nat) (pr : List Value) (kp : Nat) (tl rest : List (Addr × Obj)) : List (Addr × Obj) :=
  (L + 1 + 1 + 1 + 1 + 1 + 1, oT) :: (Dt, listOf vs.toArray kk) :: (tl ++ ((L + 1, oLo) :: (L + 1 + 1, oHi) :: (L + 1 + 1 + 1, oPr) :: (Dp, listOf pr.toArray kp) :: rest))
section
variable {w : World} {mean : ExcName → Option Value} {mg mb : Str → Option Value} {rest : List (Addr × Obj)} {dp un : Nat} {gd : Option (List Code)} {fa : Addr} {cdv : Value} {outer : List Env} {A₀ : Around} {base h₀ : Heap} {L : Addr} {m : Str → Option Value} {s : Shared} {E : Value → Shared → Prop} {Q : Flow → Shared → Prop}
theorem o11 {Dt Dp : Addr} {oLo oHi oPr oT : Obj} {vsT : List Value} {tl : List (Addr × Obj)} {kp kT n : Nat} {p0 p1 tot : Int} {tp0 tp1 tlo thi t1 t2 : Tok} {lo hi : Str} (B : Below A₀ base outer h₀)
    (F₀ : Fr h₀ L s.heap m) (hm1 : m (Str.ofString "table") = some (.ref Dt)) (hm2 : m (Str.ofString "total") = some (.int tot t1)) (hm3 : m (Str.ofString "size") = some (.int (n : Int) t2)) (X : (hd.heap_39 w.params).In h₀)
    (N : News h₀ L s.heap (ledO L Dt Dp oLo oHi oPr oT vsT kT [Value.int p0 tp0, Value.int p1 tp1] kp tl rest)) (T : Top hd.view_39 Lo1 mean mg mb h₀) (hd1 : dp + 3 < recursionLimit) (hu : un + 100 < cLine) (hn : n ≤ 5)
    (hLo : oLo.data = .cell (some (.str lo tlo))) (hHi : oHi.data = .cell (some (.str hi thi))) (hPr : oPr.data = .cell (some (.ref Dp))) (hT0 : ∃ v, oT.data = .cell v)
    (hT : Tups R2 vsT tl (tabN lo hi tot 0)) (hr6 : ∀ p ∈ rest, p.1 ≠ L + 1 + 1 + 1 + 1 + 1 + 1)
    (hp0 : p0 < 256) (hp1 : p1 ≥ 256) (hlo : lo.length = 1) (hhi : hi.length = 1) (hbd : ∀ i, i < n → ∀ x ∈ tabN lo hi tot i, x.1.length ≤ 10 ∧ x.2.length ≤ 1000 ∧ (qdT x.2).length ≤ 1000) (htot : 0 ≤ tot ∧ tot ≤ 10000000) (hE : PassesOwn (model Pr1 w) (lawA dp un gd L fa cdv outer) (lawEnv L fa cdv) E)
    (hq : ∀ h' tk m' Dt' vs' tl' kk' oT', Fr h₀ L h' m' → Keep [Str.ofString "k", Str.ofString "table", Str.ofString "longer", Str.ofString "post", Str.ofString "sent", Str.ofString "symbol", Str.ofString "row"] m m' → m' (Str.ofString "table") = some (.ref Dt') → (∃ v, oT'.data = .cell v) → Tups R2 vs' tl' (tabN lo hi tot n) → News h₀ L h' (ledO L Dt' Dp oLo oHi oPr oT' vs' kk' [Value.int p0 tp0, Value.int p1 tp1] kp tl' rest) → wpAny (model Pr1 w) (lawA dp un gd L fa cdv outer) (execs (lawBody.drop 12) (lawEnv L fa cdv)) Q E { s with heap := h', toks := tk }) :
    wpAny (model Pr1 w) (lawA dp un gd L fa cdv outer) (execs (lawBody.drop 11) (lawEnv L fa cdv)) Q E s := by
  have F := fr_put F₀ (put_at hm3 rfl)
  clear F₀
  w_on
  have hbrk : Brake [2] := trivial
  show wpAny _ _ (execs (_ :: _ :: _ :: _) _) _ _ _
  have hn9 : Hold (n ≤ 5) := hn
  clear hn
  repeat' (walk_at "go")
  unfold Hold
  have hn : n ≤ 5 := hn9
  clear hn9
  (rename Fr _ _ _ _ => lF9)
  (rename News _ _ _ _ => lN9)
  have F9 : Fr h₀ (lawEnv L fa cdv).locals _ m := frEq lF9 (by
    funext z
    by_cases e : z = Str.ofString "size"
    · subst e; simp [hm3]
    · simp [e])
  refine for_range (n := n) (news := ledO L Dt Dp oLo oHi oPr oT vsT kT [Value.int p0 tp0, Value.int p1 tp1] kp tl rest)
    (fun i m' nx => (∃ oT' Dt' vs' tl' kk', nx = ledO L Dt' Dp oLo oHi oPr oT' vs' kk' [Value.int p0 tp0, Value.int p1 tp1] kp tl' rest ∧ (∃ v, oT'.data = .cell v) ∧ Tups R2 vs' tl' (tabN lo hi tot i) ∧ m' (Str.ofString "table") = some (.ref Dt')) ∧ Keep [Str.ofString "k", Str.ofString "table", Str.ofString "longer", Str.ofString "post", Str.ofString "sent", Str.ofString "symbol", Str.ofString "row"] m m')
    (by rfl) (by assumption) (small_one (by omega) (by omega) (by omega) (by omega)) (by rw [rangeSize_nat]; omega) F9 lN9 ⟨⟨oT, Dt, vsT, tl, kT, rfl, hT0, hT, hm1⟩, fun _ _ => rfl⟩ ?_ ?_
  · rintro i k t m₁ nx h' tk' own hi6 hk9 hoff ⟨⟨oT', Dt', vs', tl', kk', rfl, hT', hTt, hmt⟩, hkeep⟩ F' N'
    have hki : k = (i : Int) := by omega
    subst hki
    have up : ∀ {z : Str} {v : Option Value}, [Str.ofString "k", Str.ofString "table", Str.ofString "longer", Str.ofString "post", Str.ofString "sent", Str.ofString "symbol", Str.ofString "row"].contains z = false → m z = v → m₁ z = v := fun hz e => (hkeep _ hz).trans e
    simp only [ledO, List.cons_append, List.append_assoc] at N'
    clear lF9 lN9 F9
    show wpAny _ _ (execs [_, _, _] _) _ _ _
    repeat' (walk_at "go")
    unfold Hold
    rename_i Dl hA FA NA lA hB FB NB
    obtain ⟨l6, lt, lall⟩ := lA
    have hall := allLt_ne lall
    have o6 := OwnOff.ne hoff (List.mem_map.mpr ⟨(L + 1 + 1 + 1 + 1 + 1 + 1, oT'), .head _, rfl⟩)
    have upB : ∀ {z : Str} {v : Option Value}, z ≠ Str.ofString "longer" → z ≠ Str.ofString "k" → m₁ z = v → (fun y => if y = Str.ofString "longer" then some (Value.ref Dl) else if y = Str.ofString "k" then some (Value.int (i : Int) t) else m₁ y) z = v := fun h1 h2 e => by simp [h1, h2, e]
    refine t11i (Dl := Dl) (Dp := Dp) (Dt := Dt') (oLo := oLo) (oHi := oHi) (oPr := oPr) (oT := oT') (vsT := vs') (tl := tl') (ys := tabN lo hi tot i) (kk := 0) (kp := kp) (kT := kk') (p0 := p0) (p1 := p1) (tp0 := tp0) (tp1 := tp1) (tot := tot) (K := (i : Int)) (rest := rest ++ own) B FB
      (upB (by decide +kernel) (by decide +kernel) hmt) (upB (by decide +kernel) (by decide +kernel) (up (by decide +kernel) hm2)) (by with_unfolding_all rfl) (by with_unfolding_all rfl) X ?_ T hd1 hu hLo hHi hPr hT' hTt ?_ ?_ hp0 hp1 hlo hhi (tabN_len lo hi tot i (by omega)).1 (hbd i hi6) htot (by omega) hE ?_
    · refine cb_drop NB ?_
      (try unfold ledT)
      kcf_all
    · repeat' (first | exact Nat.ne_of_lt l6 | exact Nat.ne_of_lt lt | exact hall _ (by kcf_m) | exact (fun p hp => hall p (by kcf_m)) | refine List.forall_mem_cons.mpr ⟨?_, ?_⟩ | refine List.forall_mem_append.mpr ⟨?_, ?_⟩)
    · intro p hp
      rcases List.mem_append.mp hp with hp | hp
      · exact hr6 p hp
      · exact o6 p hp
    · intro h3 tk3 m3 vs3 led3 kk3 oT3 F3 K3 hT3 T3 hled3 N3
      have F4 := fr_put F3 (put_at (x := Str.ofString "longer") (v := .ref Dl) ((K3 _ (by decide +kernel)).trans (by with_unfolding_all rfl)) rfl)
      show wpAny _ _ (execs [_] _) _ _ _
      clear F3 FB NB FA NA
      have hown : ∀ p ∈ own, p.1 < Dl := fun p hp => lall_lt lall p (by kcf_m)
      unfold ledT at N3
      repeat' (walk_at "go")
      rename_i hC FC NC
      refine ⟨hC, _, _, _, ledO L Dl Dp oLo oHi oPr oT3 vs3 kk3 [Value.int p0 tp0, Value.int p1 tp1] kp led3 rest, rfl, FC, NC, ?_, ?_, ?_, ⟨⟨oT3, Dl, vs3, led3, kk3, rfl, hT3, T3, by with_unfolding_all rfl⟩, ?_⟩⟩
      · (try unfold ledO)
        kcf_all
      · intro p hp
        kcf_m
      · intro p hp b hb
        simp only [ledO, List.map_cons, List.map_append, List.mem_cons, List.mem_append] at hb
        rcases hb with rfl | rfl | hb | hb
        · exact o6 p hp
        · exact Nat.ne_of_lt (hown p hp)
        · obtain ⟨q, hq9, rfl⟩ := List.mem_map.mp hb
          exact Nat.ne_of_lt (Nat.lt_trans (hown p hp) (hled3 q hq9))
        · exact hoff p hp b (by simp only [ledO, List.map_cons, List.map_append, List.mem_cons, List.mem_append]; exact .inr (.inr (.inr hb)))
      · intro z h9
        have h8 := h9
        simp only [List.contains_cons, List.contains_nil, Bool.or_false, Bool.or_eq_false_iff, beq_eq_false_iff_ne, ne_eq] at h9
        obtain ⟨e1, e2, e3, e4, e5, e6, e7⟩ := h9
        have k3 := K3 z (by simp only [List.contains_cons, List.contains_nil, Bool.or_false, Bool.or_eq_false_iff, beq_eq_false_iff_ne, ne_eq]; exact ⟨e4, e5, e6, e7⟩)
        simp only [e2, e3, e1, if_false] at k3 ⊢
        exact k3.trans (hkeep z h8)
  · rintro m₁ nx h' tk' ⟨⟨oT', Dt', vs', tl', kk', rfl, hT', hTt, hmt⟩, hkeep⟩ F' N'
    dsimp only
    exact hq h' tk' m₁ Dt' vs' tl' kk' oT' F' hkeep hmt hT' hTt N'
end
end
section
open PySem PySem.W PyProof.Rows PySem.Builtin PySem.Builtin.Str PySem.Calls
set_option maxRecDepth 100000
set_option maxHeartbeats 8000000
/-- the count dict that the comprehension over the spots makes -/
def putD (xs : List (Int × Int × Str)) : List (Int × Str) := xs.foldl (fun acc a => putS acc a.1 a.2.2) []
def bareS (short : Str) : Str := Txt.join (Str.ofString "...") (PyProof.Rows.signs short)
/-- all that the law asks from the table's end on -/
structure TailOk (lo hi short lg first last : Str) (n : Nat) (tbl : List (Str × Str)) : Prop where
  sl : 1 ≤ short.length ∧ short.length ≤ 8
  fl : first.length ≤ 1000
  la : last.length ≤ 1000
  bl : (bareS short).length ≤ 100
  fm : 0 ≤ Txt.count first (Str.ofString ".") ∧ Txt.count first (Str.ofString ".") ≤ 1000
  mm : 0 ≤ Txt.count last (Str.ofString ".") ∧ Txt.count last (Str.ofString ".") ≤ 1000
  lok : LongOk lg n
  txt : ∀ x ∈ tbl, TextOk short lg (bareS short) n (Txt.count first (Str.ofString ".")) (Txt.count last (Str.ofString ".")) (putF short lo hi) (putD (putF short lo hi)) (leftN lg lo hi lg.length) x.1 x.2
theorem putF_len (word lo hi : Str) : (putF word lo hi).length = 2 * (word.length + 1) := by
  have h : ∀ i, (putN word lo hi i).length = 2 * i := by
    intro i
    induction i with
    | zero => rfl
    | succ i ih => rw [putN_succ, List.length_append, ih]; show _ + 2 = _; omega
  exact h _
section
variable {w : World} {mean : ExcName → Option Value} {mg mb : Str → Option Value} {rest : List (Addr × Obj)} {dp un : Nat} {gd : Option (List Code)} {fa : Addr} {cdv : Value} {outer : List Env} {A₀ : Around} {base h₀ : Heap} {L : Addr} {m : Str → Option Value} {s : Shared} {E : Value → Shared → Prop} {Q : Flow → Shared → Prop}
theorem j12 {Dt : Addr} {oR oT oS oLo oHi : Obj} {vsT : List Value} {tl : List (Addr × Obj)} {tbl : List (Str × Str)} {kT : Nat} {lo hi short lg first last : Str} {tS tlo thi : Tok} {n : Nat} {t1 t3 t4 t5 : Tok} (B : Below A₀ base outer h₀)
    (F₀ : Fr h₀ L s.heap m) (hm1 : m (Str.ofString "size") = some (.int (n : Int) t1)) (hm2 : m (Str.ofString "table") = some (.ref Dt)) (hm3 : m (Str.ofString "first") = some (.str first t3)) (hm4 : m (Str.ofString "last") = some (.str last t4)) (hm7 : m (Str.ofString "long") = some (.str lg t5)) (X : (hd.heap_39 w.params).In h₀)
    (N : News h₀ L s.heap ((L + 1 + 1 + 1 + 1, oS) :: (L + 1, oLo) :: (L + 1 + 1, oHi) :: ((L + 1 + 1 + 1 + 1 + 1 + 1, oT) :: (L + 1 + 1 + 1 + 1 + 1 + 1 + 1, oR) :: (Dt, listOf vsT.toArray kT) :: tl))) (T : Top hd.view_39 Lo1 mean mg mb h₀) (hd1 : dp + 3 < recursionLimit) (hu : un + 100 < cLine) (hn : n ≤ 5)
    (hR0 : ∃ v, oR.data = .cell v) (hT0 : ∃ v, oT.data = .cell v) (hS0 : oS.data = .cell (some (.str short tS))) (hLo : oLo.data = .cell (some (.str lo tlo))) (hHi : oHi.data = .cell (some (.str hi thi))) (hlo : lo.length = 1) (hhi : hi.length = 1)
    (hTb : Tups R2 vsT tl tbl) (ok : TailOk lo hi short lg first last n tbl) (hE : PassesOwn (model Pr1 w) (lawA dp un gd L fa cdv outer) (lawEnv L fa cdv) E) :
    wpAny (model Pr1 w) (lawA dp un gd L fa cdv outer) (execs (lawBody.drop 12) (lawEnv L fa cdv)) (RT h₀ L s) E s := by
  have hll := ok.lok.len
  have hsl := ok.sl
  refine s12 (rest := (L + 1 + 1 + 1 + 1 + 1 + 1, oT) :: (L + 1 + 1 + 1 + 1 + 1 + 1 + 1, oR) :: (Dt, listOf vsT.toArray kT) :: tl) (lo := lo) (hi := hi) (short := short) (lg := lg) B F₀ hm7 X N T hd1 hu hS0 hLo hHi hlo hhi (by omega) (by omega) ?_
  intro h1 tk1 m1 DS vs led kk DL oL kvsL F1 es el K1 hT hLd hDL hsL oDS oDL N1
  have up1 : ∀ {z : Str} {v : Option Value}, [Str.ofString "spots", Str.ofString "left_out"].contains z = false → m z = v → m1 z = v := fun hz e => (K1 _ hz).trans e
  have hvl : vs.length ≤ 100 := by
    rw [hT.len.1, putF_len]
    omega
  refine s13 (DS := DS) (vs := vs) (led := led) (kk := kk) (rest := (DL, oL) :: (L + 1 + 1 + 1 + 1, oS) :: (L + 1 + 1 + 1 + 1 + 1 + 1, oT) :: (L + 1 + 1 + 1 + 1 + 1 + 1 + 1, oR) :: (Dt, listOf vsT.toArray kT) :: tl) B F1 es X ?_ T hd1 hu hT hvl ?_
  · refine cb_drop N1 ?_
    kcf_all
  intro h2 tk2 m2 DP oP kvsP F2 ep K2 hPd hDP hsP oDP N2
  have up2 : ∀ {z : Str} {v : Option Value}, [Str.ofString "put_in"].contains z = false → m1 z = v → m2 z = v := fun hz e => (K2 _ hz).trans e
  refine s14 (oS := oS) (short := short) (first := first) (last := last) (rest := (DP, oP) :: (DS, listOf vs.toArray kk) :: (led ++ ((DL, oL) :: (L + 1 + 1 + 1 + 1 + 1 + 1, oT) :: (L + 1 + 1 + 1 + 1 + 1 + 1 + 1, oR) :: (Dt, listOf vsT.toArray kT) :: tl))) B F2 (up2 (by decide +kernel) (up1 (by decide +kernel) hm3)) (up2 (by decide +kernel) (up1 (by decide +kernel) hm4)) X ?_ T hd1 hu hS0 (by omega) ok.fl ok.la ?_
  · refine cb_drop N2 ?_
    kcf_all
  intro h3 tk3 m3 tb tf tm F3 eb ef em K3 N3
  have up3 : ∀ {z : Str} {v : Option Value}, [Str.ofString "bare", Str.ofString "few", Str.ofString "many"].contains z = false → m2 z = v → m3 z = v := fun hz e => (K3 _ hz).trans e
  obtain ⟨vT, hT1⟩ := hT0
  obtain ⟨vR, hR1⟩ := hR0
  have c6 : ∀ {p : Addr × Obj}, p ∈ (L + 1 + 1 + 1 + 1, oS) :: (DP, oP) :: (DS, listOf vs.toArray kk) :: (led ++ ((DL, oL) :: (L + 1 + 1 + 1 + 1 + 1 + 1, oT) :: (L + 1 + 1 + 1 + 1 + 1 + 1 + 1, oR) :: (Dt, listOf vsT.toArray kT) :: tl)) → (∃ a n, p.2.data = .seq a n) → p.1 ≠ L + 1 + 1 + 1 + 1 + 1 + 1 + 1 ∧ p.1 ≠ L + 1 + 1 + 1 + 1 + 1 + 1 :=
    fun hp hs => ⟨cell_off N3 (by kcf_m) hR1 hp hs, cell_off N3 (by kcf_m) hT1 hp hs⟩
  refine wpAny_mono (e15 (DS := DS) (DP := DP) (DL := DL) (Dt := Dt) (oR := oR) (oT := oT) (oS := oS) (oP := oP) (oL := oL) (vs := vs) (vsT := vsT) (led := led) (ledT := tl) (rest := []) (kk := kk) (kT := kT) (n := n) (lg := lg) (short := short) B F3
    (up3 (by decide +kernel) (up2 (by decide +kernel) (up1 (by decide +kernel) hm1))) (up3 (by decide +kernel) (up2 (by decide +kernel) (up1 (by decide +kernel) hm2))) ef eb (up3 (by decide +kernel) ep) (up3 (by decide +kernel) (up2 (by decide +kernel) es)) (up3 (by decide +kernel) (up2 (by decide +kernel) (up1 (by decide +kernel) hm7))) em (up3 (by decide +kernel) (up2 (by decide +kernel) el)) X ?_ T hd1 hu hn ⟨_, hR1⟩ ⟨_, hT1⟩ hS0 hPd hDP hsP hLd hDL hsL hT hvl hTb ?_ (by omega) ok.bl (by omega) ok.fm ok.mm ok.txt ok.lok hE) (fun fl s' r => r.up) fun _ _ e => e
  · refine cb_drop N3 ?_
    (try unfold led15)
    kcf_all
  · simp only [List.append_nil]
    repeat' (first
      | exact List.forall_mem_nil _
      | exact ⟨Nat.ne_of_lt (Nat.le_add_right _ 2), Nat.ne_of_lt (Nat.le_add_right _ 1)⟩
      | exact ⟨(oDP (L + 1 + 1 + 1 + 1 + 1 + 1 + 1, oR) (by kcf_m)).symm, (oDP (L + 1 + 1 + 1 + 1 + 1 + 1, oT) (by kcf_m)).symm⟩
      | exact ⟨(oDL (L + 1 + 1 + 1 + 1 + 1 + 1 + 1, oR) (by kcf_m)).symm, (oDL (L + 1 + 1 + 1 + 1 + 1 + 1, oT) (by kcf_m)).symm⟩
      | exact c6 (by kcf_m) ⟨_, _, rfl⟩
      | exact (fun p hp => c6 (by kcf_m) (hT.seq p hp))
      | exact (fun p hp => c6 (by kcf_m) (hTb.seq p hp))
      | refine List.forall_mem_cons.mpr ⟨?_, ?_⟩ | refine List.forall_mem_append.mpr ⟨?_, ?_⟩)
end
end
local macro_rules | `(tactic| walk_at "pad8") => `(tactic| skip)
section
open PySem PySem.W PyProof.Rows PySem.Builtin PySem.Builtin.Str PySem.Calls
set_option maxRecDepth 100000
set_option maxHeartbeats 8000000
section
variable {w : World} {mean : ExcName → Option Value} {mg mb : Str → Option Value} {rest : List (Addr × Obj)} {dp un : Nat} {gd : Option (List Code)} {fa : Addr} {cdv : Value} {outer : List Env} {A₀ : Around} {base h₀ : Heap} {L : Addr} {m : Str → Option Value} {s : Shared} {E : Value → Shared → Prop} {Q : Flow → Shared → Prop}
theorem j10 {Dp : Addr} {oR oT oS oLo oHi oPr : Obj} {kp : Nat} {p0 p1 tot : Int} {lo hi short lg first last : Str} {tS tlo thi tp0 tp1 : Tok} {n : Nat} {t1 t2 t3 t4 t5 : Tok} (B : Below A₀ base outer h₀)
    (F₀ : Fr h₀ L s.heap m) (hm1 : m (Str.ofString "size") = some (.int (n : Int) t1)) (hm2 : m (Str.ofString "total") = some (.int tot t2)) (hm3 : m (Str.ofString "first") = some (.str first t3)) (hm4 : m (Str.ofString "last") = some (.str last t4)) (hm7 : m (Str.ofString "long") = some (.str lg t5)) (X : (hd.heap_39 w.params).In h₀)
    (N : News h₀ L s.heap ((L + 1 + 1 + 1 + 1, oS) :: (L + 1, oLo) :: (L + 1 + 1, oHi) :: (L + 1 + 1 + 1, oPr) :: (L + 1 + 1 + 1 + 1 + 1 + 1, oT) :: (L + 1 + 1 + 1 + 1 + 1 + 1 + 1, oR) :: (Dp, listOf [Value.int p0 tp0, Value.int p1 tp1].toArray kp) :: rest)) (T : Top hd.view_39 Lo1 mean mg mb h₀) (hd1 : dp + 3 < recursionLimit) (hu : un + 100 < cLine) (hn : n ≤ 5)
    (hR0 : ∃ v, oR.data = .cell v) (hT0 : ∃ v, oT.data = .cell v) (hS0 : oS.data = .cell (some (.str short tS))) (hLo : oLo.data = .cell (some (.str lo tlo))) (hHi : oHi.data = .cell (some (.str hi thi))) (hPr : oPr.data = .cell (some (.ref Dp))) (hlo : lo.length = 1) (hhi : hi.length = 1)
    (hp0 : p0 < 256) (hp1 : p1 ≥ 256) (htot : 0 ≤ tot ∧ tot ≤ 10000000) (hbd : ∀ i, i < n → ∀ x ∈ tabN lo hi tot i, x.1.length ≤ 10 ∧ x.2.length ≤ 1000 ∧ (qdT x.2).length ≤ 1000)
    (ok : TailOk lo hi short lg first last n (tabN lo hi tot n)) (hE : PassesOwn (model Pr1 w) (lawA dp un gd L fa cdv outer) (lawEnv L fa cdv) E) :
    wpAny (model Pr1 w) (lawA dp un gd L fa cdv outer) (execs (lawBody.drop 10) (lawEnv L fa cdv)) (RT h₀ L s) E s := by
  have F := fr_put F₀ (put_at hm1 rfl)
  w_on
  have hbrk : Brake [7] := trivial
  show wpAny _ _ (execs (_ :: _ :: _ :: _) _) _ _ _
  repeat' (walk_at "go")
  unfold Hold
  rename_i Da hA lA Dt hB lB hC FC NC
  obtain ⟨u1, u2, NC⟩ : ∃ u1 u2, News h₀ L hC ((Dt, listOf [Value.ref Da].toArray 0) :: (Da, tupO [Value.str (Str.ofString "") u1, Value.str (Str.ofString "") u2]) :: (L + 1 + 1 + 1 + 1, oS) :: (L + 1, oLo) :: (L + 1 + 1, oHi) :: (L + 1 + 1 + 1, oPr) :: (L + 1 + 1 + 1 + 1 + 1 + 1, oT) :: (L + 1 + 1 + 1 + 1 + 1 + 1 + 1, oR) :: (Dp, listOf [Value.int p0 tp0, Value.int p1 tp1].toArray kp) :: rest) := ⟨_, _, NC⟩
  have upC : ∀ {z : Str} {v : Option Value}, z ≠ Str.ofString "table" → z ≠ Str.ofString "size" → m z = v → (fun y => if y = Str.ofString "table" then some (Value.ref Dt) else if y = Str.ofString "size" then some (Value.int (n : Int) t1) else m y) z = v := fun h1 h2 e => by simp [h1, h2, e]
  refine wpAny_mono (o11 (Dt := Dt) (Dp := Dp) (oLo := oLo) (oHi := oHi) (oPr := oPr) (oT := oT) (vsT := [Value.ref Da]) (tl := [(Da, tupO [Value.str (Str.ofString "") u1, Value.str (Str.ofString "") u2])]) (kp := kp) (kT := 0) (n := n) (p0 := p0) (p1 := p1) (tp0 := tp0) (tp1 := tp1) (tot := tot) (lo := lo) (hi := hi) (rest := [(L + 1 + 1 + 1 + 1, oS), (L + 1 + 1 + 1 + 1 + 1 + 1 + 1, oR)]) (Q := RT h₀ L s) B FC
    (by with_unfolding_all rfl) (upC (by decide +kernel) (by decide +kernel) hm2) (by with_unfolding_all rfl) X ?_ T hd1 hu hn hLo hHi hPr hT0 (.one ⟨_, _, rfl⟩) ?_ hp0 hp1 hlo hhi hbd htot hE ?_) (fun fl s' r => r) fun _ _ e => e
  · refine cb_drop NC ?_
    unfold ledO
    kcf_all
  · intro p hp
    simp only [List.mem_cons, List.not_mem_nil, or_false] at hp
    rcases hp with rfl | rfl
    · exact Nat.ne_of_lt (Nat.lt_of_lt_of_le (Nat.lt_succ_self _) (by simp [Nat.add_assoc]))
    · exact Nat.succ_ne_self _
  · intro h1 tk1 m1 Dt1 vs1 tl1 kk1 oT1 F1 K1 et hT1 hTb N1
    have up1 : ∀ {z : Str} {v : Option Value}, [Str.ofString "k", Str.ofString "table", Str.ofString "longer", Str.ofString "post", Str.ofString "sent", Str.ofString "symbol", Str.ofString "row"].contains z = false → (fun y => if y = Str.ofString "table" then some (Value.ref Dt) else if y = Str.ofString "size" then some (Value.int (n : Int) t1) else m y) z = v → m1 z = v := fun hz e => (K1 _ hz).trans e
    refine wpAny_mono (j12 (oR := oR) (oT := oT1) (oS := oS) (oLo := oLo) (oHi := oHi) (vsT := vs1) (tl := tl1) (kT := kk1) (lo := lo) (hi := hi) (short := short) (lg := lg) (first := first) (last := last) (n := n) B F1 (up1 (by decide +kernel) (by with_unfolding_all rfl)) et (up1 (by decide +kernel) (upC (by decide +kernel) (by decide +kernel) hm3)) (up1 (by decide +kernel) (upC (by decide +kernel) (by decide +kernel) hm4)) (up1 (by decide +kernel) (upC (by decide +kernel) (by decide +kernel) hm7)) X ?_ T hd1 hu hn hR0 hT1 hS0 hLo hHi hlo hhi hTb ok hE) (fun fl s' r => RT.up r) fun _ _ e => e
    refine cb_drop N1 ?_
    (try unfold ledO)
    kcf_all
end
end
section
open PySem PySem.W PyProof.Rows PySem.Builtin PySem.Builtin.Str PySem.Calls
set_option maxRecDepth 100000
set_option maxHeartbeats 8000000
local macro_rules | `(tactic| walk_at "storeName") => `(tactic| ((with_reducible show wpAny _ _ (storeName _ (Str.ofString "bits") _) _ _ _); walk_at "own3"))
def led9 (L Dl D1 D2 Dh Dw : Addr) (oB oS oLo oHi : Obj) (ta tb : List Value) (vsH vsW : List Value) (kH kW : Nat) (rest : List (Addr × Obj)) : List (Addr × Obj) :=
  (L + 1 + 1 + 1 + 1 + 1, oB) :: (Dl, listOf [Value.ref D1, Value.ref D2].toArray 0) :: (D2, tupO tb) :: (D1, tupO ta) :: (L + 1 + 1 + 1 + 1, oS) :: (L + 1, oLo) :: (L + 1 + 1, oHi) :: (Dh, listOf vsH.toArray kH) :: (Dw, listOf vsW.toArray kW) :: rest
section
variable {w : World} {mean : ExcName → Option Value} {mg mb : Str → Option Value} {rest : List (Addr × Obj)} {dp un : Nat} {gd : Option (List Code)} {fa : Addr} {cdv : Value} {outer : List Env} {A₀ : Around} {base h₀ : Heap} {L : Addr} {m : Str → Option Value} {s : Shared} {E : Value → Shared → Prop} {Q : Flow → Shared → Prop}
theorem l9 {Dh Dw : Addr} {oB oS oLo oHi : Obj} {vsH vsW : List Value} {hs ws : List Int} {kH kW : Nat} {lo hi short lg first last : Str} {tlo thi tS t1 t2 t3 : Tok} (B : Below A₀ base outer h₀)
    (F₀ : Fr h₀ L s.heap m) (hm1 : m (Str.ofString "first") = some (.str first t1)) (hm2 : m (Str.ofString "halves") = some (.ref Dh)) (hm3 : m (Str.ofString "long") = some (.str lg t2)) (hm4 : m (Str.ofString "last") = some (.str last t3)) (hm5 : m (Str.ofString "wholes") = some (.ref Dw)) (X : (hd.heap_39 w.params).In h₀)
    (N : News h₀ L s.heap ((L + 1 + 1 + 1 + 1 + 1, oB) :: (L + 1 + 1 + 1 + 1, oS) :: (L + 1, oLo) :: (L + 1 + 1, oHi) :: (Dh, listOf vsH.toArray kH) :: (Dw, listOf vsW.toArray kW) :: rest)) (T : Top hd.view_39 Lo1 mean mg mb h₀) (hd1 : dp + 3 < recursionLimit) (hu : un + 100 < cLine)
    (hB0 : ∃ v, oB.data = .cell v) (hS0 : oS.data = .cell (some (.str short tS))) (hLo : oLo.data = .cell (some (.str lo tlo))) (hHi : oHi.data = .cell (some (.str hi thi))) (hlo : lo.length = 1) (hhi : hi.length = 1)
    (hIh : IntsAre vsH hs) (hIw : IntsAre vsW ws) (hhl : hs.length ≤ 10) (hwl : ws.length ≤ 10) (hh01 : ∀ x ∈ hs, x = 0 ∨ x = 1) (hw01 : ∀ x ∈ ws, x = 0 ∨ x = 1) (hr5 : ∀ p ∈ rest, p.1 ≠ L + 1 + 1 + 1 + 1 + 1)
    (ok1 : SentOk lo hi short first hs) (ok2 : SentOk lo hi lg last ws) (hE : PassesOwn (model Pr1 w) (lawA dp un gd L fa cdv outer) (lawEnv L fa cdv) E)
    (hq : ∀ h' tk m', Fr h₀ L h' m' → Keep [Str.ofString "word", Str.ofString "mail", Str.ofString "told"] m m' → News h₀ L h' ((L + 1 + 1 + 1 + 1, oS) :: (L + 1, oLo) :: (L + 1 + 1, oHi) :: rest) → wpAny (model Pr1 w) (lawA dp un gd L fa cdv outer) (execs (lawBody.drop 10) (lawEnv L fa cdv)) Q E { s with heap := h', toks := tk }) :
    wpAny (model Pr1 w) (lawA dp un gd L fa cdv outer) (execs (lawBody.drop 9) (lawEnv L fa cdv)) Q E s := by
  have F := fr_put F₀ (put_at hm1 (put_at hm2 (put_at hm3 (put_at hm4 (put_at hm5 rfl)))))
  clear F₀
  w_on
  have hbrk : Brake [3, 8] := trivial
  show wpAny _ _ (execs (_ :: _ :: _ :: _) _) _ _ _
  repeat' (walk_at "go")
  rename_i D1 hA lA D2 hB lB Dl hC FC NC lC
  obtain ⟨u1, u2, u3, u4, NC⟩ : ∃ u1 u2 u3 u4, News h₀ L hC (led9 L Dl D1 D2 Dh Dw oB oS oLo oHi [Value.str short u1, Value.str first u2, Value.ref Dh] [Value.str lg u3, Value.str last u4, Value.ref Dw] vsH vsW kH kW rest) := ⟨tS, t1, t2, t3, cb_drop NC (by unfold led9; kcf_all)⟩
  refine iterT (l := Dl) (vs := [Value.ref D1, Value.ref D2]) (nn := 0) (news := led9 L Dl D1 D2 Dh Dw oB oS oLo oHi [Value.str short u1, Value.str first u2, Value.ref Dh] [Value.str lg u3, Value.str last u4, Value.ref Dw] vsH vsW kH kW rest)
    (fun i m' nx => (∃ oB', nx = led9 L Dl D1 D2 Dh Dw oB' oS oLo oHi [Value.str short u1, Value.str first u2, Value.ref Dh] [Value.str lg u3, Value.str last u4, Value.ref Dw] vsH vsW kH kW rest ∧ (∃ v, oB'.data = .cell v)) ∧ Keep [Str.ofString "word", Str.ofString "mail", Str.ofString "told"] m m')
    (by rfl) (.tail _ (.head _)) (frEq FC ?hF) NC ⟨⟨oB, rfl, hB0⟩, fun _ _ => rfl⟩ ?_ ?_
  case hF =>
    funext z
    walk_at "ifs"
  · rintro i v m₁ nx h' tk' own hv hoff hmem ⟨⟨oB', rfl, hB'⟩, hkeep⟩ F' N'
    obtain ⟨v1, hB1⟩ := hB'
    have hi2 : i = 0 ∨ i = 1 := by
      have h1 := (List.getElem?_eq_some_iff.mp hv).1
      exact two_nat i h1
    have o5 := OwnOff.ne hoff (List.mem_map.mpr ⟨(L + 1 + 1 + 1 + 1 + 1, oB'), .head _, rfl⟩)
    have c5 : ∀ {p : Addr × Obj}, p ∈ led9 L Dl D1 D2 Dh Dw oB' oS oLo oHi [Value.str short u1, Value.str first u2, Value.ref Dh] [Value.str lg u3, Value.str last u4, Value.ref Dw] vsH vsW kH kW rest → (∃ a n, p.2.data = .seq a n) → p.1 ≠ L + 1 + 1 + 1 + 1 + 1 :=
      fun hp hs => cell_off N' (List.mem_append.mpr (.inl (.head _))) hB1 (List.mem_append.mpr (.inl hp)) hs
    have ne5 : ∀ p ∈ (Dl, listOf [Value.ref D1, Value.ref D2].toArray 0) :: (D2, tupO [Value.str lg u3, Value.str last u4, Value.ref Dw]) :: (D1, tupO [Value.str short u1, Value.str first u2, Value.ref Dh]) :: (L + 1 + 1 + 1 + 1, oS) :: (L + 1, oLo) :: (L + 1 + 1, oHi) :: (Dh, listOf vsH.toArray kH) :: (Dw, listOf vsW.toArray kW) :: (rest ++ own), p.1 ≠ L + 1 + 1 + 1 + 1 + 1 := by
      repeat' (first | exact hr5 | exact o5 | exact c5 (by unfold led9; kcf_m) ⟨_, _, rfl⟩ | exact Nat.ne_of_lt (Nat.le_add_right _ 0) | exact Nat.ne_of_lt (Nat.le_add_right _ 2) | exact Nat.ne_of_lt (Nat.le_add_right _ 3) | refine List.forall_mem_cons.mpr ⟨?_, ?_⟩ | refine List.forall_mem_append.mpr ⟨?_, ?_⟩)
    simp only [led9, List.cons_append] at N'
    clear NC FC
    rcases hi2 with rfl | rfl
    all_goals
      simp at hv
      subst hv
      repeat' (walk_at "go")
      unfold Hold
      rename_i hD FD ND hX hY hE oE FE NE dE
      first
        | refine r9 (Db := Dh) (oB := oE) (oLo := oLo) (oHi := oHi) (vsB := vsH) (bs := hs) (kB := kH) (lo := lo) (hi := hi) (word := short) (mail := first) (rest := (Dl, listOf [Value.ref D1, Value.ref D2].toArray 0) :: (D2, tupO [Value.str lg u3, Value.str last u4, Value.ref Dw]) :: (D1, tupO [Value.str short u1, Value.str first u2, Value.ref Dh]) :: (L + 1 + 1 + 1 + 1, oS) :: (Dw, listOf vsW.toArray kW) :: (rest ++ own)) B FE (by with_unfolding_all rfl) (by with_unfolding_all rfl) X (cb_drop NE (by kcf_all)) T hd1 hu dE hLo hHi hlo hhi hIh hhl hh01 ok1 ?_
        | refine r9 (Db := Dw) (oB := oE) (oLo := oLo) (oHi := oHi) (vsB := vsW) (bs := ws) (kB := kW) (lo := lo) (hi := hi) (word := lg) (mail := last) (rest := (Dl, listOf [Value.ref D1, Value.ref D2].toArray 0) :: (D2, tupO [Value.str lg u3, Value.str last u4, Value.ref Dw]) :: (D1, tupO [Value.str short u1, Value.str first u2, Value.ref Dh]) :: (L + 1 + 1 + 1 + 1, oS) :: (Dh, listOf vsH.toArray kH) :: (rest ++ own)) B FE (by with_unfolding_all rfl) (by with_unfolding_all rfl) X (cb_drop NE (by kcf_all)) T hd1 hu dE hLo hHi hlo hhi hIw hwl hw01 ok2 ?_
      intro h3 tk3 m3 F3 K3 N3
      refine ⟨h3, tk3, m3, _, led9 L Dl D1 D2 Dh Dw oE oS oLo oHi [Value.str short u1, Value.str first u2, Value.ref Dh] [Value.str lg u3, Value.str last u4, Value.ref Dw] vsH vsW kH kW rest, rfl, F3, N3, ?_, ?_, hoff, .tail _ (.head _), ⟨⟨oE, rfl, _, dE⟩, ?_⟩⟩
      · (try unfold led9)
        kcf_all
      · intro p hp
        kcf_m
      · intro z h9
        have h8 := h9
        simp only [List.contains_cons, List.contains_nil, Bool.or_false, Bool.or_eq_false_iff, beq_eq_false_iff_ne, ne_eq] at h9
        obtain ⟨e1, e2, e3⟩ := h9
        have k3 := K3 z (by simp only [List.contains_cons, List.contains_nil, Bool.or_false, beq_eq_false_iff_ne, ne_eq]; exact e3)
        simp only [e1, e2, if_false] at k3 ⊢
        exact k3.trans (hkeep z h8)
  · rintro m₁ nx h' tk' ⟨⟨oB', rfl, hB'⟩, hkeep⟩ F' N'
    repeat' (walk_at "go")
    unfold Hold
    refine hq h' tk' m₁ F' hkeep (cb_drop N' ?_)
    unfold led9
    kcf_all
end
end
local macro_rules | `(tactic| walk_at "pad9") => `(tactic| skip)
section
open PySem PySem.W PyProof.Rows PySem.Builtin PySem.Builtin.Str PySem.Calls
set_option maxRecDepth 100000
set_option maxHeartbeats 8000000
local macro_rules | `(tactic| walk_at "call ref") => `(tactic| ((with_reducible show wpAny _ _ (call (Value.ref 88) _) _ _ _); apply Hold.wp))
section
variable {w : World} {mean : ExcName → Option Value} {mg mb : Str → Option Value} {rest : List (Addr × Obj)} {dp un : Nat} {gd : Option (List Code)} {fa : Addr} {cdv : Value} {outer : List Env} {A₀ : Around} {base h₀ : Heap} {L : Addr} {m : Str → Option Value} {s : Shared} {E : Value → Shared → Prop} {Q : Flow → Shared → Prop}
theorem s8 {Dw Dp : Addr} {oLo oHi oPr : Obj} {vsW : List Value} {ws : List Int} {kW kp : Nat} {lo hi : Str} {tlo thi t1 t2 tp0 tp1 : Tok} {tot p0 p1 : Int} (B : Below A₀ base outer h₀)
    (F₀ : Fr h₀ L s.heap m) (hm1 : m (Str.ofString "wholes") = some (.ref Dw)) (hm2 : m (Str.ofString "total") = some (.int tot t1)) (X : (hd.heap_39 w.params).In h₀)
    (N : News h₀ L s.heap ((L + 1, oLo) :: (L + 1 + 1, oHi) :: (L + 1 + 1 + 1, oPr) :: (Dw, listOf vsW.toArray kW) :: (Dp, listOf [Value.int p0 tp0, Value.int p1 tp1].toArray kp) :: rest)) (T : Top hd.view_39 Lo1 mean mg mb h₀) (hd1 : dp + 3 < recursionLimit) (hu : un + 100 < cLine)
    (hLo : oLo.data = .cell (some (.str lo tlo))) (hHi : oHi.data = .cell (some (.str hi thi))) (hPr : oPr.data = .cell (some (.ref Dp))) (hlo : lo.length = 1) (hhi : hi.length = 1)
    (hI : IntsAre vsW ws) (hwl : ws.length ≤ 10) (hw01 : ∀ x ∈ ws, x = 0 ∨ x = 1) (hp0 : p0 ≠ 0) (hp1 : p1 ≠ 0) (htot : 0 ≤ tot ∧ tot ≤ 10000000)
    (hl : ∀ i, i ≤ ws.length → (sentF lo hi tot ((ws.map fun x => if x = 0 then p0 else p1).take i)).1.length ≤ 100 ∧ (sentF lo hi tot ((ws.map fun x => if x = 0 then p0 else p1).take i)).2.length ≤ 1000 ∧ (qdT (sentF lo hi tot ((ws.map fun x => if x = 0 then p0 else p1).take i)).2).length ≤ 1000)
    (hq : ∀ h' tk m' ta tb, Fr h₀ L h' m' → Keep [Str.ofString "long", Str.ofString "last"] m m' → m' (Str.ofString "long") = some (.str (sentF lo hi tot (ws.map fun x => if x = 0 then p0 else p1)).1 ta) → m' (Str.ofString "last") = some (.str (sentF lo hi tot (ws.map fun x => if x = 0 then p0 else p1)).2 tb) → News h₀ L h' ((L + 1, oLo) :: (L + 1 + 1, oHi) :: (L + 1 + 1 + 1, oPr) :: (Dw, listOf vsW.toArray kW) :: (Dp, listOf [Value.int p0 tp0, Value.int p1 tp1].toArray kp) :: rest) → wpAny (model Pr1 w) (lawA dp un gd L fa cdv outer) (execs (lawBody.drop 9) (lawEnv L fa cdv)) Q E { s with heap := h', toks := tk }) :
    wpAny (model Pr1 w) (lawA dp un gd L fa cdv outer) (execs (lawBody.drop 8) (lawEnv L fa cdv)) Q E s := by
  have F := fr_put F₀ (put_at hm1 (put_at hm2 rfl))
  clear F₀
  w_on
  have hbrk : Brake [9] := trivial
  show wpAny _ _ (execs (_ :: _ :: _ :: _) _) _ _ _
  repeat' (walk_at "go")
  unfold Hold
  (rename Fr _ _ _ _ => lF9)
  (rename News _ _ _ _ => lN9)
  refine LCg.CompSrc.ledger (by rfl) lF9 lN9 (by walk_at "mem5") (by rw [List.size_toArray, hI.length, sizeLine_eq]; omega) ?_
  intro g'
  refine crest_I ws (fun x => if x = 0 then p0 else p1) (fun x v => ∃ t, v = .int x t) (by rw [List.size_toArray, hI.length]) (fun i v _ h => int_item hI h) ?_ ?_
  · rintro x v I' oI' C' oC' D' m' ys' h' tk' E' hx' ⟨u', rfl⟩ hC' hxx' F' N' off' ne'
    clear lF9 lN9
    (try simp only [LCg.Off3, and_true] at off')
    (try k_unmd)
    (try k_fold)
    rcases hw01 x hx' with rfl | rfl
    · repeat' (walk_at "go")
    · repeat' (walk_at "go")
  · intro ys' hys' D' h' tk' F' N' off'
    clear lF9 lN9
    repeat' (walk_at "go")
    unfold Hold
    rename_i D1 hA lA D2 us hB hI2 lB D3 vs3 hC FC NC hI3 lC
    clear lA lB lC hA hB
    have hI4 : IntsAre vs3 ((ws.map fun x => if x = 0 then p0 else p1) ++ 0 :: [p0, p1]) := by
      rw [List.append_assoc] at hI3
      exact hI3
    refine sent_call (Dl := D3) (vs := vs3) (ws := ws.map fun x => if x = 0 then p0 else p1) (post := [p0, p1]) (kk := 0) (lo := lo) (hi := hi) (turn := tot) B FC X NC T rfl hI4 ?hw0 hlo hhi htot (fun i hi9 => hl i (by simpa using hi9)) (by omega) hu ?_
    case hw0 =>
      intro x hx
      obtain ⟨y, hy, rfl⟩ := List.mem_map.mp hx
      split <;> assumption
    intro D4 tw tm h4 tk4 F4 N4 ne4
    repeat' (walk_at "go")
    unfold Hold
    refine hq _ _ _ tw tm (by k_asm) ?_ (by with_unfolding_all rfl) (by with_unfolding_all rfl) (cb_drop (by k_asm) (by kcf_all))
    intro z h1
    simp only [List.contains_cons, List.contains_nil, Bool.or_false, Bool.or_eq_false_iff, beq_eq_false_iff_ne, ne_eq] at h1
    simp [h1]
    walk_at "ifs"
end
end
section
open PySem PySem.W PyProof.Rows PySem.Builtin PySem.Builtin.Str PySem.Calls
set_option maxRecDepth 100000
set_option maxHeartbeats 8000000
local macro_rules | `(tactic| walk_at "storeName") => `(tactic| ((with_reducible show wpAny _ _ (storeName _ (Str.ofString "short") _) _ _ _); walk_at "own3"))
local macro_rules | `(tactic| walk_at "call ref") => `(tactic| ((with_reducible show wpAny _ _ (call (Value.ref 88) _) _ _ _); apply Hold.wp))
section
variable {w : World} {mean : ExcName → Option Value} {mg mb : Str → Option Value} {rest : List (Addr × Obj)} {dp un : Nat} {gd : Option (List Code)} {fa : Addr} {cdv : Value} {outer : List Env} {A₀ : Around} {base h₀ : Heap} {L : Addr} {m : Str → Option Value} {s : Shared} {E : Value → Shared → Prop} {Q : Flow → Shared → Prop}
theorem s7 {Dw Dp : Addr} {oLo oHi oPr oS : Obj} {vsW : List Value} {ws : List Int} {kW kp : Nat} {lo hi : Str} {tlo thi t1 t2 tp0 tp1 : Tok} {tot p0 p1 : Int} (B : Below A₀ base outer h₀)
    (F₀ : Fr h₀ L s.heap m) (hm1 : m (Str.ofString "halves") = some (.ref Dw)) (hm2 : m (Str.ofString "total") = some (.int tot t1)) (X : (hd.heap_39 w.params).In h₀)
    (N : News h₀ L s.heap ((L + 1 + 1 + 1 + 1, oS) :: (L + 1, oLo) :: (L + 1 + 1, oHi) :: (L + 1 + 1 + 1, oPr) :: (Dw, listOf vsW.toArray kW) :: (Dp, listOf [Value.int p0 tp0, Value.int p1 tp1].toArray kp) :: rest)) (T : Top hd.view_39 Lo1 mean mg mb h₀) (hd1 : dp + 3 < recursionLimit) (hu : un + 100 < cLine)
    (hLo : oLo.data = .cell (some (.str lo tlo))) (hHi : oHi.data = .cell (some (.str hi thi))) (hPr : oPr.data = .cell (some (.ref Dp))) (hlo : lo.length = 1) (hhi : hi.length = 1)
    (hS0 : ∃ v, oS.data = .cell v) (hr4 : ∀ p ∈ rest, p.1 ≠ L + 1 + 1 + 1 + 1)
    (hI : IntsAre vsW ws) (hwl : ws.length ≤ 10) (hw01 : ∀ x ∈ ws, x = 0 ∨ x = 1) (hp0 : p0 ≠ 0) (hp1 : p1 ≠ 0) (htot : 0 ≤ tot ∧ tot ≤ 10000000)
    (hl : ∀ i, i ≤ ws.length → (sentF lo hi tot ((ws.map fun x => if x = 0 then p0 else p1).take i)).1.length ≤ 100 ∧ (sentF lo hi tot ((ws.map fun x => if x = 0 then p0 else p1).take i)).2.length ≤ 1000 ∧ (qdT (sentF lo hi tot ((ws.map fun x => if x = 0 then p0 else p1).take i)).2).length ≤ 1000)
    (hq : ∀ h' tk m' ta tb oS', Fr h₀ L h' m' → Keep [Str.ofString "first"] m m' → oS'.data = .cell (some (.str (sentF lo hi tot (ws.map fun x => if x = 0 then p0 else p1)).1 ta)) → m' (Str.ofString "first") = some (.str (sentF lo hi tot (ws.map fun x => if x = 0 then p0 else p1)).2 tb) → News h₀ L h' ((L + 1 + 1 + 1 + 1, oS') :: (L + 1, oLo) :: (L + 1 + 1, oHi) :: (L + 1 + 1 + 1, oPr) :: (Dw, listOf vsW.toArray kW) :: (Dp, listOf [Value.int p0 tp0, Value.int p1 tp1].toArray kp) :: rest) → wpAny (model Pr1 w) (lawA dp un gd L fa cdv outer) (execs (lawBody.drop 8) (lawEnv L fa cdv)) Q E { s with heap := h', toks := tk }) :
    wpAny (model Pr1 w) (lawA dp un gd L fa cdv outer) (execs (lawBody.drop 7) (lawEnv L fa cdv)) Q E s := by
  have F := fr_put F₀ (put_at hm1 (put_at hm2 rfl))
  clear F₀
  w_on
  have hbrk : Brake [10] := trivial
  show wpAny _ _ (execs (_ :: _ :: _ :: _) _) _ _ _
  repeat' (walk_at "go")
  unfold Hold
  (rename Fr _ _ _ _ => lF9)
  (rename News _ _ _ _ => lN9)
  refine LCg.CompSrc.ledger (by rfl) lF9 lN9 (by walk_at "mem5") (by rw [List.size_toArray, hI.length, sizeLine_eq]; omega) ?_
  intro g'
  refine crest_I ws (fun x => if x = 0 then p0 else p1) (fun x v => ∃ t, v = .int x t) (by rw [List.size_toArray, hI.length]) (fun i v _ h => int_item hI h) ?_ ?_
  · rintro x v I' oI' C' oC' D' m' ys' h' tk' E' hx' ⟨u', rfl⟩ hC' hxx' F' N' off' ne'
    clear lF9 lN9
    (try simp only [LCg.Off3, and_true] at off')
    (try k_unmd)
    (try k_fold)
    rcases hw01 x hx' with rfl | rfl
    · repeat' (walk_at "go")
    · repeat' (walk_at "go")
  · intro ys' hys' D' h' tk' F' N' off'
    clear lF9 lN9
    repeat' (walk_at "go")
    unfold Hold
    rename_i D1 hA lA D2 us hB hI2 lB D3 vs3 hC FC NC hI3 lC
    clear lA lB lC hA hB
    have hI4 : IntsAre vs3 ((ws.map fun x => if x = 0 then p0 else p1) ++ 0 :: [p0, p1]) := by
      rw [List.append_assoc] at hI3
      exact hI3
    refine sent_call (Dl := D3) (vs := vs3) (ws := ws.map fun x => if x = 0 then p0 else p1) (post := [p0, p1]) (kk := 0) (lo := lo) (hi := hi) (turn := tot) B FC X NC T rfl hI4 ?hw0 hlo hhi htot (fun i hi9 => hl i (by simpa using hi9)) (by omega) hu ?_
    case hw0 =>
      intro x hx
      obtain ⟨y, hy, rfl⟩ := List.mem_map.mp hx
      split <;> assumption
    intro D4 tw tm h4 tk4 F4 N4 ne4
    obtain ⟨v4, hS4⟩ := hS0
    have c4 : ∀ {p : Addr × Obj}, p ∈ (D4, ({ cls := .type "tuple", data := .seq #[.str (sentF lo hi tot (ws.map fun x => if x = 0 then p0 else p1)).1 tw, .str (sentF lo hi tot (ws.map fun x => if x = 0 then p0 else p1)).2 tm] } : Obj)) :: (Dw, listOf vsW.toArray kW) :: (Dp, listOf [Value.int p0 tp0, Value.int p1 tp1].toArray kp) :: (L + 1 + 1 + 1 + 1, oS) :: [] → (∃ a n, p.2.data = .seq a n) → p.1 ≠ L + 1 + 1 + 1 + 1 :=
      fun hp hs => cell_off (cb_drop N4 (news := (D4, ({ cls := .type "tuple", data := .seq #[.str (sentF lo hi tot (ws.map fun x => if x = 0 then p0 else p1)).1 tw, .str (sentF lo hi tot (ws.map fun x => if x = 0 then p0 else p1)).2 tm] } : Obj)) :: (Dw, listOf vsW.toArray kW) :: (Dp, listOf [Value.int p0 tp0, Value.int p1 tp1].toArray kp) :: (L + 1 + 1 + 1 + 1, oS) :: []) (by kcf_all)) (by simp) hS4 hp hs
    have ne4s : ∀ p ∈ (D4, ({ cls := .type "tuple", data := .seq #[.str (sentF lo hi tot (ws.map fun x => if x = 0 then p0 else p1)).1 tw, .str (sentF lo hi tot (ws.map fun x => if x = 0 then p0 else p1)).2 tm] } : Obj)) :: (L + 1, oLo) :: (L + 1 + 1, oHi) :: (L + 1 + 1 + 1, oPr) :: (Dw, listOf vsW.toArray kW) :: (Dp, listOf [Value.int p0 tp0, Value.int p1 tp1].toArray kp) :: rest, p.1 ≠ L + 1 + 1 + 1 + 1 := by
      intro p hp
      simp only [List.mem_cons] at hp
      rcases hp with rfl | rfl | rfl | rfl | rfl | rfl | hp
      · exact c4 (by simp) ⟨_, _, rfl⟩
      · exact Nat.ne_of_lt (Nat.lt_of_lt_of_le (Nat.lt_succ_self _) (by simp [Nat.add_assoc]))
      · exact Nat.ne_of_lt (Nat.lt_of_lt_of_le (Nat.lt_succ_self _) (by simp [Nat.add_assoc]))
      · exact Nat.ne_of_lt (Nat.lt_succ_self _)
      · exact c4 (by simp) ⟨_, _, rfl⟩
      · exact c4 (by simp) ⟨_, _, rfl⟩
      · exact hr4 p hp
    repeat' (walk_at "go")
    unfold Hold
    rename_i hX hY oE dE hZ FE NE
    refine hq _ _ _ tw tm oE FE ?_ dE (by with_unfolding_all rfl) (cb_drop NE (by kcf_all))
    intro z h1
    simp only [List.contains_cons, List.contains_nil, Bool.or_false, beq_eq_false_iff_ne, ne_eq] at h1
    simp [h1]
    walk_at "ifs"
end
end
section
open PySem PySem.W PyProof.Rows PySem.Builtin PySem.Builtin.Str PySem.Calls
set_option maxRecDepth 100000
set_option maxHeartbeats 8000000
section
variable {w : World} {mean : ExcName → Option Value} {mg mb : Str → Option Value} {rest : List (Addr × Obj)} {dp un : Nat} {gd : Option (List Code)} {fa : Addr} {cdv : Value} {outer : List Env} {A₀ : Around} {base h₀ : Heap} {L : Addr} {m : Str → Option Value} {s : Shared} {E : Value → Shared → Prop} {Q : Flow → Shared → Prop}
theorem s6 {Dn : Addr} {vsN : List Value} {ns : List Int} {kN n : Nat} {t1 : Tok} (B : Below A₀ base outer h₀)
    (F₀ : Fr h₀ L s.heap m) (hm1 : m (Str.ofString "numbers") = some (.ref Dn)) (hm2 : m (Str.ofString "size") = some (.int (n : Int) t1)) (X : (hd.heap_39 w.params).In h₀)
    (N : News h₀ L s.heap ((Dn, listOf vsN.toArray kN) :: rest)) (T : Top hd.view_39 Lo1 mean mg mb h₀) (hd1 : dp + 3 < recursionLimit) (hu : un + 100 < cLine)
    (hI : IntsAre vsN ns) (hN7 : ns.length = 7) (hn : 3 ≤ n ∧ n ≤ 5) (hNb : ∀ x ∈ ns, 0 ≤ x ∧ x < 1000000)
    (hq : ∀ h' tk m' Dw vsW kW, Fr h₀ L h' m' → Keep [Str.ofString "wholes"] m m' → m' (Str.ofString "wholes") = some (.ref Dw) → IntsAre vsW ((ns.take (n + 1)).map fun x => x.fmod 2) → News h₀ L h' ((Dw, listOf vsW.toArray kW) :: (Dn, listOf vsN.toArray kN) :: rest) → wpAny (model Pr1 w) (lawA dp un gd L fa cdv outer) (execs (lawBody.drop 7) (lawEnv L fa cdv)) Q E { s with heap := h', toks := tk }) :
    wpAny (model Pr1 w) (lawA dp un gd L fa cdv outer) (execs (lawBody.drop 6) (lawEnv L fa cdv)) Q E s := by
  have F := fr_put F₀ (put_at hm1 (put_at hm2 rfl))
  clear F₀
  w_on
  have hbrk : Brake [11] := trivial
  show wpAny _ _ (execs (_ :: _ :: _ :: _) _) _ _ _
  repeat' (walk_at "go")
  unfold Hold
  rename_i Dt us hA FA NA hI2 hC2 hL2 lA
  have e9 : ((n : Int) + 1).toNat = n + 1 := rfl
  rw [e9] at hI2
  have hl9 : (ns.take (n + 1)).length ≤ 7 := by rw [List.length_take]; omega
  refine LCg.CompSrc.ledger (by rfl) FA NA (by walk_at "mem5") (by rw [List.size_toArray, hI2.length, sizeLine_eq]; omega) ?_
  intro g'
  refine crest_I (ns.take (n + 1)) (fun x => x.fmod 2) (fun x v => ∃ t, v = .int x t) (by rw [List.size_toArray, hI2.length]) (fun i v _ h => int_item hI2 h) ?_ ?_
  · rintro x v I' oI' C' oC' D' m' ys' h' tk' E' hx' ⟨u', rfl⟩ hC' hxx' F' N' off' ne'
    have hxb := hNb x (List.mem_of_mem_take hx')
    clear FA NA
    (try simp only [LCg.Off3, and_true] at off')
    (try k_unmd)
    (try k_fold)
    repeat' (walk_at "go")
  · intro ys' hys' D' h' tk' F' N' off'
    clear FA NA
    repeat' (walk_at "go")
    unfold Hold
    refine hq _ _ _ D' ys' _ (by k_asm) ?_ (by with_unfolding_all rfl) hys' (cb_drop (by k_asm) (by kcf_all))
    intro z h1
    simp only [List.contains_cons, List.contains_nil, Bool.or_false, beq_eq_false_iff_ne, ne_eq] at h1
    simp [h1]
    walk_at "ifs"
end
end
local macro_rules | `(tactic| walk_at "pad10") => `(tactic| skip)
section
open PySem PySem.W PyProof.Rows PySem.Builtin PySem.Builtin.Str PySem.Calls
set_option maxRecDepth 100000
set_option maxHeartbeats 8000000
section
variable {w : World} {mean : ExcName → Option Value} {mg mb : Str → Option Value} {rest : List (Addr × Obj)} {dp un : Nat} {gd : Option (List Code)} {fa : Addr} {cdv : Value} {outer : List Env} {A₀ : Around} {base h₀ : Heap} {L : Addr} {m : Str → Option Value} {s : Shared} {E : Value → Shared → Prop} {Q : Flow → Shared → Prop}
theorem s5 {Dn : Addr} {vsN : List Value} {ns : List Int} {kN n : Nat} {t1 : Tok} (B : Below A₀ base outer h₀)
    (F₀ : Fr h₀ L s.heap m) (hm1 : m (Str.ofString "numbers") = some (.ref Dn)) (hm2 : m (Str.ofString "size") = some (.int (n : Int) t1)) (X : (hd.heap_39 w.params).In h₀)
    (N : News h₀ L s.heap ((Dn, listOf vsN.toArray kN) :: rest)) (T : Top hd.view_39 Lo1 mean mg mb h₀) (hd1 : dp + 3 < recursionLimit) (hu : un + 100 < cLine)
    (hI : IntsAre vsN ns) (hN7 : ns.length = 7) (hn : 3 ≤ n ∧ n ≤ 5) (hNb : ∀ x ∈ ns, 0 ≤ x ∧ x < 1000000)
    (hq : ∀ h' tk m' Dw vsW kW, Fr h₀ L h' m' → Keep [Str.ofString "halves"] m m' → m' (Str.ofString "halves") = some (.ref Dw) → IntsAre vsW ((ns.take (n - 1)).map fun x => (x.fdiv 2).fmod 2) → News h₀ L h' ((Dw, listOf vsW.toArray kW) :: (Dn, listOf vsN.toArray kN) :: rest) → wpAny (model Pr1 w) (lawA dp un gd L fa cdv outer) (execs (lawBody.drop 6) (lawEnv L fa cdv)) Q E { s with heap := h', toks := tk }) :
    wpAny (model Pr1 w) (lawA dp un gd L fa cdv outer) (execs (lawBody.drop 5) (lawEnv L fa cdv)) Q E s := by
  have F := fr_put F₀ (put_at hm1 (put_at hm2 rfl))
  clear F₀
  w_on
  have hbrk : Brake [12] := trivial
  show wpAny _ _ (execs (_ :: _ :: _ :: _) _) _ _ _
  repeat' (walk_at "go")
  unfold Hold
  rename_i Dt us hA FA NA hI2 hC2 hL2 lA
  have e9 : ((n : Int) - 1).toNat = n - 1 := Int.toNat_sub n 1
  rw [e9] at hI2
  have hl9 : (ns.take (n - 1)).length ≤ 7 := by rw [List.length_take]; omega
  refine LCg.CompSrc.ledger (by rfl) FA NA (by walk_at "mem5") (by rw [List.size_toArray, hI2.length, sizeLine_eq]; omega) ?_
  intro g'
  refine crest_I (ns.take (n - 1)) (fun x => (x.fdiv 2).fmod 2) (fun x v => ∃ t, v = .int x t) (by rw [List.size_toArray, hI2.length]) (fun i v _ h => int_item hI2 h) ?_ ?_
  · rintro x v I' oI' C' oC' D' m' ys' h' tk' E' hx' ⟨u', rfl⟩ hC' hxx' F' N' off' ne'
    have hxb := hNb x (List.mem_of_mem_take hx')
    clear FA NA
    (try simp only [LCg.Off3, and_true] at off')
    (try k_unmd)
    (try k_fold)
    repeat' (walk_at "go")
  · intro ys' hys' D' h' tk' F' N' off'
    clear FA NA
    repeat' (walk_at "go")
    unfold Hold
    refine hq _ _ _ D' ys' _ (by k_asm) ?_ (by with_unfolding_all rfl) hys' (cb_drop (by k_asm) (by kcf_all))
    intro z h1
    simp only [List.contains_cons, List.contains_nil, Bool.or_false, beq_eq_false_iff_ne, ne_eq] at h1
    simp [h1]
    walk_at "ifs"
end
end
section
open PySem PySem.W PyProof.Rows PySem.Builtin PySem.Builtin.Str PySem.Calls
set_option maxRecDepth 100000
set_option maxHeartbeats 8000000
local macro_rules | `(tactic| walk_at "storeName") => `(tactic| ((with_reducible show wpAny _ _ (storeName _ (Str.ofString "pair") _) _ _ _); apply Hold.wp))
theorem fmod255 (x : Int) : 0 ≤ x.fmod 255 ∧ x.fmod 255 < 255 := ⟨Int.fmod_nonneg_of_pos _ (by omega), Int.fmod_lt_of_pos _ (by omega)⟩
section
variable {w : World} {mean : ExcName → Option Value} {mg mb : Str → Option Value} {rest : List (Addr × Obj)} {dp un : Nat} {gd : Option (List Code)} {fa : Addr} {cdv : Value} {outer : List Env} {A₀ : Around} {base h₀ : Heap} {L : Addr} {m : Str → Option Value} {s : Shared} {E : Value → Shared → Prop} {Q : Flow → Shared → Prop}
theorem s4 {Dn : Addr} {oPr : Obj} {vsN : List Value} {ns : List Int} {kN : Nat} (B : Below A₀ base outer h₀)
    (F₀ : Fr h₀ L s.heap m) (hm1 : m (Str.ofString "numbers") = some (.ref Dn)) (X : (hd.heap_39 w.params).In h₀)
    (N : News h₀ L s.heap ((L + 1 + 1 + 1, oPr) :: (Dn, listOf vsN.toArray kN) :: rest)) (T : Top hd.view_39 Lo1 mean mg mb h₀) (hd1 : dp + 3 < recursionLimit) (hu : un + 100 < cLine)
    (hP0 : ∃ v, oPr.data = .cell v) (hr3 : ∀ p ∈ rest, p.1 ≠ L + 1 + 1 + 1)
    (hI : IntsAre vsN ns) (hN7 : ns.length = 7) (hNb : ∀ x ∈ ns, 0 ≤ x ∧ x < 1000000)
    (hq : ∀ h' tk m' Dp oP' ta tb, Fr h₀ L h' m' → Keep [] m m' → oP'.data = .cell (some (.ref Dp)) → News h₀ L h' ((L + 1 + 1 + 1, oP') :: (Dp, listOf [Value.int (255 - (ns.getD 6 0).fmod 255) ta, Value.int (256 + ns.getD 6 0) tb].toArray 0) :: (Dn, listOf vsN.toArray kN) :: rest) → wpAny (model Pr1 w) (lawA dp un gd L fa cdv outer) (execs (lawBody.drop 5) (lawEnv L fa cdv)) Q E { s with heap := h', toks := tk }) :
    wpAny (model Pr1 w) (lawA dp un gd L fa cdv outer) (execs (lawBody.drop 4) (lawEnv L fa cdv)) Q E s := by
  have F := fr_put F₀ (put_at hm1 rfl)
  clear F₀
  have h6 : 0 ≤ ns.getD 6 0 ∧ ns.getD 6 0 < 1000000 := by
    rw [List.getD_eq_getElem?_getD, List.getElem?_eq_getElem (by omega)]
    exact hNb _ (List.getElem_mem _)
  have h6m := fmod255 (ns.getD 6 0)
  w_on
  have hbrk : Brake [13] := trivial
  show wpAny _ _ (execs (_ :: _ :: _ :: _) _) _ _ _
  repeat' (walk_at "go")
  unfold Hold
  rename_i tx ty Dp hA FA NA lA
  obtain ⟨ta, tb, NA⟩ : ∃ ta tb, News h₀ L hA ((Dp, listOf [Value.int (255 - (ns.getD 6 0).fmod 255) ta, Value.int (256 + ns.getD 6 0) tb].toArray 0) :: (L + 1 + 1 + 1, oPr) :: (Dn, listOf vsN.toArray kN) :: rest) := ⟨_, _, NA⟩
  obtain ⟨v3, hP3⟩ := hP0
  have ne3 : ∀ p ∈ (Dp, listOf [Value.int (255 - (ns.getD 6 0).fmod 255) ta, Value.int (256 + ns.getD 6 0) tb].toArray 0) :: (Dn, listOf vsN.toArray kN) :: rest, p.1 ≠ L + 1 + 1 + 1 := by
    intro p hp
    simp only [List.mem_cons] at hp
    rcases hp with rfl | rfl | hp
    · exact cell_off NA (.tail _ (.head _)) hP3 (.head _) ⟨_, _, rfl⟩
    · exact cell_off NA (.tail _ (.head _)) hP3 (.tail _ (.tail _ (.head _))) ⟨_, _, rfl⟩
    · exact hr3 p hp
  refine' storeX_D ?F ?N ?c ?m ?U ?S ?d ?_ ?a ?b
  case a => rfl
  case b => rfl
  case F => exact FA
  case N => exact NA
  case c => rfl
  case m => k_mem
  case U => exact ne3
  case S => kcf_all
  case d => exact hP3
  intro h4 o4 F4 N4 d4
  dsimp only
  repeat' (walk_at "go")
  unfold Hold
  refine hq _ _ _ Dp o4 ta tb F4 ?_ d4 N4
  intro z h1
  dsimp only
  walk_at "ifs"
end
end
section
open PySem PySem.W PyProof.Rows PySem.Builtin PySem.Builtin.Str PySem.Calls
set_option maxRecDepth 100000
set_option maxHeartbeats 8000000
/-- all that the law asks of the texts -/
structure AllOk (lo hi : Str) (tot : Int) (n : Nat) (p0 p1 : Int) (hs ws : List Int) : Prop where
  b1 : ∀ i, i ≤ hs.length → (sentF lo hi tot ((hs.map fun x => if x = 0 then p0 else p1).take i)).1.length ≤ 100 ∧ (sentF lo hi tot ((hs.map fun x => if x = 0 then p0 else p1).take i)).2.length ≤ 1000 ∧ (qdT (sentF lo hi tot ((hs.map fun x => if x = 0 then p0 else p1).take i)).2).length ≤ 1000
  b2 : ∀ i, i ≤ ws.length → (sentF lo hi tot ((ws.map fun x => if x = 0 then p0 else p1).take i)).1.length ≤ 100 ∧ (sentF lo hi tot ((ws.map fun x => if x = 0 then p0 else p1).take i)).2.length ≤ 1000 ∧ (qdT (sentF lo hi tot ((ws.map fun x => if x = 0 then p0 else p1).take i)).2).length ≤ 1000
  s1 : SentOk lo hi (sentF lo hi tot (hs.map fun x => if x = 0 then p0 else p1)).1 (sentF lo hi tot (hs.map fun x => if x = 0 then p0 else p1)).2 hs
  s2 : SentOk lo hi (sentF lo hi tot (ws.map fun x => if x = 0 then p0 else p1)).1 (sentF lo hi tot (ws.map fun x => if x = 0 then p0 else p1)).2 ws
  tb : ∀ i, i < n → ∀ x ∈ tabN lo hi tot i, x.1.length ≤ 10 ∧ x.2.length ≤ 1000 ∧ (qdT x.2).length ≤ 1000
  tl : TailOk lo hi (sentF lo hi tot (hs.map fun x => if x = 0 then p0 else p1)).1 (sentF lo hi tot (ws.map fun x => if x = 0 then p0 else p1)).1 (sentF lo hi tot (hs.map fun x => if x = 0 then p0 else p1)).2 (sentF lo hi tot (ws.map fun x => if x = 0 then p0 else p1)).2 n (tabN lo hi tot n)
def halvesL (ns : List Int) (n : Nat) : List Int := (ns.take (n - 1)).map fun x => (x.fdiv 2).fmod 2
def wholesL (ns : List Int) (n : Nat) : List Int := (ns.take (n + 1)).map fun x => x.fmod 2
theorem fmod2 (x : Int) : x.fmod 2 = 0 ∨ x.fmod 2 = 1 := by
  have h1 := Int.fmod_nonneg_of_pos x (b := 2) (by omega)
  have h2 := Int.fmod_lt_of_pos x (b := 2) (by omega)
  omega
section
variable {w : World} {mean : ExcName → Option Value} {mg mb : Str → Option Value} {rest : List (Addr × Obj)} {dp un : Nat} {gd : Option (List Code)} {fa : Addr} {cdv : Value} {outer : List Env} {A₀ : Around} {base h₀ : Heap} {L : Addr} {m : Str → Option Value} {s : Shared} {E : Value → Shared → Prop} {Q : Flow → Shared → Prop}
theorem j4 {Dn : Addr} {oLo oHi oPr oS oB oT oR : Obj} {vsN : List Value} {ns : List Int} {kN n : Nat} {lo hi : Str} {tlo thi t1 t2 : Tok} {tot : Int} (B : Below A₀ base outer h₀)
    (F₀ : Fr h₀ L s.heap m) (hm1 : m (Str.ofString "numbers") = some (.ref Dn)) (hm2 : m (Str.ofString "size") = some (.int (n : Int) t1)) (hm3 : m (Str.ofString "total") = some (.int tot t2)) (X : (hd.heap_39 w.params).In h₀)
    (N : News h₀ L s.heap ((L + 1, oLo) :: (L + 1 + 1, oHi) :: (L + 1 + 1 + 1, oPr) :: (L + 1 + 1 + 1 + 1, oS) :: (L + 1 + 1 + 1 + 1 + 1, oB) :: (L + 1 + 1 + 1 + 1 + 1 + 1, oT) :: (L + 1 + 1 + 1 + 1 + 1 + 1 + 1, oR) :: (Dn, listOf vsN.toArray kN) :: [])) (T : Top hd.view_39 Lo1 mean mg mb h₀) (hd1 : dp + 3 < recursionLimit) (hu : un + 100 < cLine)
    (hLo : oLo.data = .cell (some (.str lo tlo))) (hHi : oHi.data = .cell (some (.str hi thi))) (hP0 : ∃ v, oPr.data = .cell v) (hS0 : ∃ v, oS.data = .cell v) (hB0 : ∃ v, oB.data = .cell v) (hT0 : ∃ v, oT.data = .cell v) (hR0 : ∃ v, oR.data = .cell v)
    (hlo : lo.length = 1) (hhi : hi.length = 1) (hI : IntsAre vsN ns) (hN7 : ns.length = 7) (hNb : ∀ x ∈ ns, 0 ≤ x ∧ x < 1000000) (hn : 3 ≤ n ∧ n ≤ 5) (htot : 0 ≤ tot ∧ tot ≤ 10000000)
    (ok : AllOk lo hi tot n (255 - (ns.getD 6 0).fmod 255) (256 + ns.getD 6 0) (halvesL ns n) (wholesL ns n)) (hE : PassesOwn (model Pr1 w) (lawA dp un gd L fa cdv outer) (lawEnv L fa cdv) E) :
    wpAny (model Pr1 w) (lawA dp un gd L fa cdv outer) (execs (lawBody.drop 4) (lawEnv L fa cdv)) (RT h₀ L s) E s := by
  have h6 : 0 ≤ ns.getD 6 0 ∧ ns.getD 6 0 < 1000000 := by
    rw [List.getD_eq_getElem?_getD, List.getElem?_eq_getElem (by omega)]
    exact hNb _ (List.getElem_mem _)
  have h6m := fmod255 (ns.getD 6 0)
  have hhl : (halvesL ns n).length ≤ 10 := by unfold halvesL; rw [List.length_map, List.length_take]; omega
  have hwl : (wholesL ns n).length ≤ 10 := by unfold wholesL; rw [List.length_map, List.length_take]; omega
  have hh01 : ∀ x ∈ halvesL ns n, x = 0 ∨ x = 1 := by
    intro x hx
    obtain ⟨y, _, rfl⟩ := List.mem_map.mp hx
    exact fmod2 _
  have hw01 : ∀ x ∈ wholesL ns n, x = 0 ∨ x = 1 := by
    intro x hx
    obtain ⟨y, _, rfl⟩ := List.mem_map.mp hx
    exact fmod2 _
  obtain ⟨vP, hP1⟩ := hP0
  obtain ⟨vS, hS1⟩ := hS0
  obtain ⟨vB, hB1⟩ := hB0
  have lt_ne : ∀ {a b : Nat}, a < b → a ≠ b := fun h => Nat.ne_of_lt h
  refine s4 (Dn := Dn) (oPr := oPr) (rest := (L + 1, oLo) :: (L + 1 + 1, oHi) :: (L + 1 + 1 + 1 + 1, oS) :: (L + 1 + 1 + 1 + 1 + 1, oB) :: (L + 1 + 1 + 1 + 1 + 1 + 1, oT) :: (L + 1 + 1 + 1 + 1 + 1 + 1 + 1, oR) :: []) B F₀ hm1 X (cb_drop N (by kcf_all)) T hd1 hu ⟨_, hP1⟩ ?hr3 hI hN7 hNb ?_
  case hr3 =>
    intro p hp
    simp only [List.mem_cons, List.not_mem_nil, or_false] at hp
    rcases hp with rfl | rfl | rfl | rfl | rfl | rfl
    · exact Nat.ne_of_lt (Nat.lt_of_lt_of_le (Nat.lt_succ_self _) (by simp [Nat.add_assoc]))
    · exact Nat.ne_of_lt (Nat.lt_succ_self _)
    · exact Nat.ne_of_gt (Nat.lt_succ_self _)
    · exact Nat.ne_of_gt (Nat.lt_of_lt_of_le (Nat.lt_succ_self _) (by simp [Nat.add_assoc]))
    · exact Nat.ne_of_gt (Nat.lt_of_lt_of_le (Nat.lt_succ_self _) (by simp [Nat.add_assoc]))
    · exact Nat.ne_of_gt (Nat.lt_of_lt_of_le (Nat.lt_succ_self _) (by simp [Nat.add_assoc]))
  intro h4 tk4 m4 Dp oP4 ta tb F4 K4 hP4 N4
  have up4 : ∀ {z : Str} {v : Option Value}, m z = v → m4 z = v := fun e => (K4 _ rfl).trans e
  refine s5 (Dn := Dn) (n := n) (rest := (L + 1 + 1 + 1, oP4) :: (Dp, listOf [Value.int (255 - (ns.getD 6 0).fmod 255) ta, Value.int (256 + ns.getD 6 0) tb].toArray 0) :: (L + 1, oLo) :: (L + 1 + 1, oHi) :: (L + 1 + 1 + 1 + 1, oS) :: (L + 1 + 1 + 1 + 1 + 1, oB) :: (L + 1 + 1 + 1 + 1 + 1 + 1, oT) :: (L + 1 + 1 + 1 + 1 + 1 + 1 + 1, oR) :: []) B F4 (up4 hm1) (up4 hm2) X (cb_drop N4 (by kcf_all)) T hd1 hu hI hN7 hn hNb ?_
  intro h5 tk5 m5 Dh vsH kH F5 K5 eh hIh N5
  have up5 : ∀ {z : Str} {v : Option Value}, [Str.ofString "halves"].contains z = false → m z = v → m5 z = v := fun hz e => (K5 _ hz).trans (up4 e)
  refine s6 (Dn := Dn) (n := n) (rest := (Dh, listOf vsH.toArray kH) :: (L + 1 + 1 + 1, oP4) :: (Dp, listOf [Value.int (255 - (ns.getD 6 0).fmod 255) ta, Value.int (256 + ns.getD 6 0) tb].toArray 0) :: (L + 1, oLo) :: (L + 1 + 1, oHi) :: (L + 1 + 1 + 1 + 1, oS) :: (L + 1 + 1 + 1 + 1 + 1, oB) :: (L + 1 + 1 + 1 + 1 + 1 + 1, oT) :: (L + 1 + 1 + 1 + 1 + 1 + 1 + 1, oR) :: []) B F5 (up5 (by decide +kernel) hm1) (up5 (by decide +kernel) hm2) X (cb_drop N5 (by kcf_all)) T hd1 hu hI hN7 hn hNb ?_
  intro h7 tk7 m7 Dw vsW kW F7 K7 ew hIw N7
  have up7 : ∀ {z : Str} {v : Option Value}, [Str.ofString "wholes"].contains z = false → m5 z = v → m7 z = v := fun hz e => (K7 _ hz).trans e
  refine s7 (t2 := t1) (Dw := Dh) (Dp := Dp) (oLo := oLo) (oHi := oHi) (oPr := oP4) (oS := oS) (vsW := vsH) (ws := halvesL ns n) (tot := tot) (lo := lo) (hi := hi) (p0 := 255 - (ns.getD 6 0).fmod 255) (p1 := 256 + ns.getD 6 0) (rest := (Dw, listOf vsW.toArray kW) :: (L + 1 + 1 + 1 + 1 + 1, oB) :: (L + 1 + 1 + 1 + 1 + 1 + 1, oT) :: (L + 1 + 1 + 1 + 1 + 1 + 1 + 1, oR) :: []) B F7 (up7 (by decide +kernel) eh) (up7 (by decide +kernel) (up5 (by decide +kernel) hm3)) X (cb_drop N7 (by kcf_all)) T hd1 hu hLo hHi hP4 hlo hhi ⟨_, hS1⟩ ?hr4 hIh hhl hh01 (by omega) (by omega) htot ok.b1 ?_
  case hr4 =>
    intro p hp
    simp only [List.mem_cons, List.not_mem_nil, or_false] at hp
    rcases hp with rfl | rfl | rfl | rfl
    · exact cell_off N7 (c := L + 1 + 1 + 1 + 1) (oc := oS) (by simp) hS1 (by simp) ⟨_, _, rfl⟩
    · exact Nat.ne_of_gt (Nat.lt_succ_self _)
    · exact Nat.ne_of_gt (Nat.lt_of_lt_of_le (Nat.lt_succ_self _) (by simp [Nat.add_assoc]))
    · exact Nat.ne_of_gt (Nat.lt_of_lt_of_le (Nat.lt_succ_self _) (by simp [Nat.add_assoc]))
  intro h8 tk8 m8 tu tv oS8 F8 K8 hS8 ef N8
  have up8 : ∀ {z : Str} {v : Option Value}, [Str.ofString "first"].contains z = false → m7 z = v → m8 z = v := fun hz e => (K8 _ hz).trans e
  refine s8 (t2 := t1) (Dw := Dw) (Dp := Dp) (oLo := oLo) (oHi := oHi) (oPr := oP4) (vsW := vsW) (ws := wholesL ns n) (tot := tot) (lo := lo) (hi := hi) (p0 := 255 - (ns.getD 6 0).fmod 255) (p1 := 256 + ns.getD 6 0) (rest := (Dh, listOf vsH.toArray kH) :: (L + 1 + 1 + 1 + 1, oS8) :: (L + 1 + 1 + 1 + 1 + 1, oB) :: (L + 1 + 1 + 1 + 1 + 1 + 1, oT) :: (L + 1 + 1 + 1 + 1 + 1 + 1 + 1, oR) :: []) B F8 (up8 (by decide +kernel) ew) (up8 (by decide +kernel) (up7 (by decide +kernel) (up5 (by decide +kernel) hm3))) X (cb_drop N8 (by kcf_all)) T hd1 hu hLo hHi hP4 hlo hhi hIw hwl hw01 (by omega) (by omega) htot ok.b2 ?_
  intro h9 tk9 m9 tx ty F9 K9 el ea N9
  have up9 : ∀ {z : Str} {v : Option Value}, [Str.ofString "long", Str.ofString "last"].contains z = false → m8 z = v → m9 z = v := fun hz e => (K9 _ hz).trans e
  refine l9 (Dh := Dh) (Dw := Dw) (oB := oB) (oS := oS8) (oLo := oLo) (oHi := oHi) (vsH := vsH) (vsW := vsW) (hs := halvesL ns n) (ws := wholesL ns n) (lo := lo) (hi := hi) (rest := (L + 1 + 1 + 1, oP4) :: (Dp, listOf [Value.int (255 - (ns.getD 6 0).fmod 255) ta, Value.int (256 + ns.getD 6 0) tb].toArray 0) :: (L + 1 + 1 + 1 + 1 + 1 + 1, oT) :: (L + 1 + 1 + 1 + 1 + 1 + 1 + 1, oR) :: []) B F9 (up9 (by decide +kernel) ef) (up9 (by decide +kernel) (up8 (by decide +kernel) (up7 (by decide +kernel) eh))) el ea (up9 (by decide +kernel) (up8 (by decide +kernel) ew)) X (cb_drop N9 (by kcf_all)) T hd1 hu ⟨_, hB1⟩ hS8 hLo hHi hlo hhi hIh hIw hhl hwl hh01 hw01 ?hr5 ok.s1 ok.s2 hE ?_
  case hr5 =>
    intro p hp
    simp only [List.mem_cons, List.not_mem_nil, or_false] at hp
    rcases hp with rfl | rfl | rfl | rfl
    · exact Nat.ne_of_lt (Nat.lt_of_lt_of_le (Nat.lt_succ_self _) (by simp [Nat.add_assoc]))
    · exact cell_off N9 (c := L + 1 + 1 + 1 + 1 + 1) (oc := oB) (by simp) hB1 (by simp) ⟨_, _, rfl⟩
    · exact Nat.ne_of_gt (Nat.lt_succ_self _)
    · exact Nat.ne_of_gt (Nat.lt_of_lt_of_le (Nat.lt_succ_self _) (by simp [Nat.add_assoc]))
  intro hA tkA mA FA KA NA
  have upA : ∀ {z : Str} {v : Option Value}, [Str.ofString "word", Str.ofString "mail", Str.ofString "told"].contains z = false → m9 z = v → mA z = v := fun hz e => (KA _ hz).trans e
  refine wpAny_mono (j10 (Dp := Dp) (oR := oR) (oT := oT) (oS := oS8) (oLo := oLo) (oHi := oHi) (oPr := oP4) (kp := 0) (p0 := 255 - (ns.getD 6 0).fmod 255) (p1 := 256 + ns.getD 6 0) (tot := tot) (lo := lo) (hi := hi) (n := n) (rest := []) B FA (upA (by decide +kernel) (up9 (by decide +kernel) (up8 (by decide +kernel) (up7 (by decide +kernel) (up5 (by decide +kernel) hm2))))) (upA (by decide +kernel) (up9 (by decide +kernel) (up8 (by decide +kernel) (up7 (by decide +kernel) (up5 (by decide +kernel) hm3))))) (upA (by decide +kernel) (up9 (by decide +kernel) ef)) (upA (by decide +kernel) ea) (upA (by decide +kernel) el) X (cb_drop NA (by kcf_all)) T hd1 hu hn.2 hR0 hT0 hS8 hLo hHi hP4 hlo hhi (by omega) (by omega) htot ok.tb ok.tl hE) (fun fl s' r => RT.up r) fun _ _ e => e
end
end
section
open PySem PySem.W PyProof.Rows PySem.Builtin PySem.Builtin.Str PySem.StrLaws
set_option maxRecDepth 100000
theorem cnt_count (c : Nat) : ∀ l : List Nat, cnt c l = (l.count c : Int)
  | [] => rfl
  | n :: r => by
    rw [cnt_cons, cnt_count c r, List.count_cons]
    by_cases h : n = c
    · subst h; simp; omega
    · simp [h]
theorem count_S (l : List Nat) (c : Nat) : Txt.count (S l) (S [c]) = (l.count c : Int) := by
  rw [← cnt_count]
  exact count_cnt (S l) c
theorem map_count {f : Bool → Nat} (hf : f false ≠ f true) (b : Bool) : ∀ w : List Bool, (w.map f).count (f b) = w.count b
  | [] => rfl
  | a :: r => by
    rw [List.map_cons, List.count_cons, List.count_cons, map_count hf b r]
    cases a <;> cases b <;> simp [hf, hf.symm]
theorem count_B {f : Bool → Nat} (hf : f false ≠ f true) (w : List Bool) (b : Bool) : Txt.count (enc f w) (enc f [b]) = (w.count b : Int) := by
  unfold enc
  rw [← map_count hf b w]
  exact count_S _ _
theorem item_B (f : Bool → Nat) (w : List Bool) {k : Nat} (h : k < w.length) : Txt.item (enc f w) (k : Int) = enc f [w.getD k false] := by
  unfold Txt.item Txt.charAt
  rw [StrLaws.seqIndex_nonneg (by omega) (by rw [enc_len]; omega)]
  show (⟨#[((w.map f).toArray[(k : Int).toNat]?).getD 0]⟩ : Str) = _
  rw [Int.toNat_natCast, List.getElem?_toArray, List.getElem?_map, List.getElem?_eq_getElem h, List.getD_eq_getElem?_getD, List.getElem?_eq_getElem h]
  rfl
theorem item_last (f : Bool → Nat) (w : List Bool) (h : 1 ≤ w.length) : Txt.item (enc f w) (-1) = enc f [w.getD (w.length - 1) false] := by
  unfold Txt.item Txt.charAt
  rw [StrLaws.seqIndex_neg (by omega) (by rw [enc_len]; omega)]
  show (⟨#[((w.map f).toArray[(-1 + ((enc f w).length : Int)).toNat]?).getD 0]⟩ : Str) = _
  have e : (-1 + ((enc f w).length : Int)).toNat = w.length - 1 := by rw [enc_len, Int.add_comm]; exact Int.toNat_sub w.length 1
  have h2 : w.length - 1 < w.length := by omega
  rw [e, List.getElem?_toArray, List.getElem?_map, List.getElem?_eq_getElem h2, List.getD_eq_getElem?_getD, List.getElem?_eq_getElem h2]
  rfl
def sing (w : List Bool) : List (List Bool) := w.map fun b => [b]
theorem signs_B (f : Bool → Nat) (w : List Bool) : PyProof.Rows.signs (enc f w) = (sing w).map (enc f) := by
  show ((w.map f).map _) = _
  unfold sing
  rw [List.map_map, List.map_map]
  rfl
theorem dot_S : Str.ofString "." = S [46] := by decide +kernel
theorem crlf_S : Str.ofString "\r\n" = S [13, 10] := by decide +kernel
theorem a_S : Str.ofString "a" = S [97] := by decide +kernel
theorem qd_S (l : List Nat) : qdT (S l) = S (dt true (crlf l)) := rfl
def eN (j : Nat) : List Nat := if j = 0 then [10] else if j = 1 then [13] else [13, 10]
theorem end_S {j : Int} (h0 : 0 ≤ j) (h3 : j < 3) : endS j = S (eN j.toNat) := by
  have hj := three_int h0 h3
  rcases hj with rfl | rfl | rfl <;> decide +kernel
theorem turn3 {tot : Int} (k : Nat) : endS ((tot + (k : Int)).fmod 3) = S (eN (((tot.fmod 3).toNat + k) % 3)) := by
  have h1 := fmod3 (tot + (k : Int))
  rw [end_S h1.1 h1.2]
  congr 2
  have e1 : (tot + (k : Int)).fmod 3 = (tot + (k : Int)) % 3 := Int.fmod_eq_emod_of_nonneg _ (by decide)
  have e2 : tot.fmod 3 = tot % 3 := Int.fmod_eq_emod_of_nonneg _ (by decide)
  rw [e1, e2, ← Int.emod_add_emod]
  obtain ⟨a, ha⟩ := Int.eq_ofNat_of_zero_le (Int.emod_nonneg tot (b := 3) (by decide))
  rw [ha]
  rfl
/-- a word's mail, letter by letter -/
def mlStep (j : Nat) (a : Nat × List Nat) (b : Bool) : Nat × List Nat := (a.1 + 1, dt true (crlf a.2) ++ ((if b then [46] else [97]) ++ eN ((j + a.1) % 3)))
def mlB (j : Nat) (w : List Bool) : List Nat := (w.foldl (mlStep j) (0, [])).2
theorem ml_fst (j : Nat) : ∀ (w : List Bool) (a : Nat × List Nat), (w.foldl (mlStep j) a).1 = a.1 + w.length
  | [], a => rfl
  | b :: r, a => by
    rw [List.foldl_cons, ml_fst j r]
    simp only [mlStep, List.length_cons]
    omega
theorem mlB_snoc (j : Nat) (w : List Bool) (b : Bool) : mlB j (w ++ [b]) = dt true (crlf (mlB j w)) ++ ((if b then [46] else [97]) ++ eN ((j + w.length) % 3)) := by
  unfold mlB
  rw [List.foldl_append]
  show dt true (crlf (w.foldl (mlStep j) (0, [])).2) ++ ((if b then [46] else [97]) ++ eN ((j + (w.foldl (mlStep j) (0, [])).1) % 3)) = _
  rw [ml_fst, Nat.zero_add]
def bitI (x : Int) : Bool := !decide (x = 0)
theorem sent_fold (f : Bool → Nat) {tot p0 p1 : Int} (h0 : p0 < 256) (h1 : p1 ≥ 256) : ∀ (l : List Int) (w : List Bool),
    (l.map fun x => if x = 0 then p0 else p1).foldl (sentStep (enc f [false]) (enc f [true]) tot) (enc f w, S (mlB (tot.fmod 3).toNat w)) = (enc f (w ++ l.map bitI), S (mlB (tot.fmod 3).toNat (w ++ l.map bitI)))
  | [], w => by simp
  | x :: r, w => by
    rw [List.map_cons, List.foldl_cons]
    have e : sentStep (enc f [false]) (enc f [true]) tot (enc f w, S (mlB (tot.fmod 3).toNat w)) (if x = 0 then p0 else p1) = (enc f (w ++ [bitI x]), S (mlB (tot.fmod 3).toNat (w ++ [bitI x]))) := by
      unfold sentStep
      rw [mlB_snoc, qd_S, dot_S, a_S, enc_len, turn3]
      by_cases hx : x = 0
      · subst hx
        simp only [if_true, if_pos h0, if_neg (show ¬ p0 ≥ 256 by omega), bitI, decide_true, Bool.not_true, Bool.false_eq_true, if_false]
        rw [app_B, S_app, S_app, List.append_assoc]
      · simp only [hx, if_false, if_pos h1, if_neg (show ¬ p1 < 256 by omega), bitI, decide_false, Bool.not_false, if_true]
        rw [app_B, S_app, S_app, List.append_assoc]
    rw [e, sent_fold f h0 h1 r, List.map_cons, List.append_assoc]
    rfl
theorem sent_B (f : Bool → Nat) {tot p0 p1 : Int} (h0 : p0 < 256) (h1 : p1 ≥ 256) (l : List Int) :
    sentF (enc f [false]) (enc f [true]) tot (l.map fun x => if x = 0 then p0 else p1) = (enc f (l.map bitI), S (mlB (tot.fmod 3).toNat (l.map bitI))) := by
  have h := sent_fold f (tot := tot) h0 h1 l []
  rw [List.nil_append] at h
  have e : (Str.ofString "", Str.ofString "") = (enc f [], S (mlB (tot.fmod 3).toNat [])) := by
    rw [empty_S]; rfl
  unfold sentF
  rw [e]
  exact h
def wordsN : Nat → List (List Bool)
  | 0 => [[]]
  | i + 1 => (wordsN i).flatMap fun w => [w ++ [false], w ++ [true]]
theorem words_len : ∀ (i : Nat) (w : List Bool), w ∈ wordsN i → w.length = i
  | 0, w, h => by rw [List.mem_singleton.mp h]; rfl
  | i + 1, w, h => by
    obtain ⟨v, hv, hw⟩ := List.mem_flatMap.mp h
    have := words_len i v hv
    simp only [List.mem_cons, List.not_mem_nil, or_false] at hw
    rcases hw with rfl | rfl <;> simp [this]
theorem mem_words : ∀ (i : Nat) (w : List Bool), w.length = i → w ∈ wordsN i
  | 0, w, h => by rw [List.length_eq_zero_iff.mp h]; exact .head _
  | i + 1, w, h => by
    have hne : w ≠ [] := by rintro rfl; simp at h
    have e := List.dropLast_concat_getLast hne
    refine List.mem_flatMap.mpr ⟨w.dropLast, mem_words i _ (by rw [List.length_dropLast]; omega), ?_⟩
    rw [← e]
    cases w.getLast hne <;> simp
theorem tab_B (f : Bool → Nat) (tot : Int) : ∀ i, tabN (enc f [false]) (enc f [true]) tot i = (wordsN i).map fun w => (enc f w, S (mlB (tot.fmod 3).toNat w))
  | 0 => by
    unfold tabN wordsN
    rw [empty_S]
    rfl
  | i + 1 => by
    unfold tabN wordsN
    rw [tab_B f tot i, List.flatMap_map, List.map_flatMap]
    have key : ∀ l : List (List Bool), (∀ w ∈ l, w.length = i) → (l.flatMap fun w => tabAt (enc f [false]) (enc f [true]) ((tot + (i : Int)).fmod 3) (enc f w, S (mlB (tot.fmod 3).toNat w))) = l.flatMap fun w => [w ++ [false], w ++ [true]].map fun w => (enc f w, S (mlB (tot.fmod 3).toNat w)) := by
      intro l hl
      induction l with
      | nil => rfl
      | cons w r ih =>
        rw [List.flatMap_cons, List.flatMap_cons, ih fun v hv => hl v (.tail _ hv)]
        congr 1
        have hw := hl w (.head _)
        unfold tabAt
        simp only [List.map_cons, List.map_nil]
        rw [mlB_snoc, mlB_snoc, qd_S, dot_S, a_S, turn3, hw, app_B, app_B, S_app, S_app, S_app, S_app]
        rfl
    exact key _ (words_len i)
end
section
open PySem PySem.W PyProof.Rows PySem.Builtin PySem.Builtin.Str PySem.StrLaws
set_option maxRecDepth 100000
abbrev Sp := Int × Int × List Bool
def encS (f : Bool → Nat) (a : Sp) : Int × Int × Str := (a.1, a.2.1, enc f a.2.2)
def encD (f : Bool → Nat) (a : Int × List Bool) : Int × Str := (a.1, enc f a.2)
def putAtB (s : List Bool) (k : Nat) : List Sp :=
  [(((s.take k).count true : Nat), (k : Int), s.take k ++ [false] ++ s.drop k), ((s.count true : Nat) + 1 + ((s.drop k).count false : Nat), (k : Int), s.take k ++ [true] ++ s.drop k)]
def putFB (s : List Bool) : List Sp := (List.range (s.length + 1)).flatMap (putAtB s)
theorem putAt_B {f : Bool → Nat} (hf : f false ≠ f true) (s : List Bool) {k : Nat} (hk : k ≤ s.length) : putAt (enc f s) (enc f [false]) (enc f [true]) k = (putAtB s k).map (encS f) := by
  unfold putAt putAtB encS
  rw [take_B f s (by omega) (by omega), drop_B f s (by omega) (by omega), Int.toNat_natCast]
  simp only [List.map_cons, List.map_nil, count_B hf, app_B]
theorem flatMap_eq {α β : Type} {g h : α → List β} : ∀ {l : List α}, (∀ a ∈ l, g a = h a) → l.flatMap g = l.flatMap h
  | [], _ => rfl
  | a :: r, e => by rw [List.flatMap_cons, List.flatMap_cons, e a (.head _), flatMap_eq fun b hb => e b (.tail _ hb)]
theorem putF_B {f : Bool → Nat} (hf : f false ≠ f true) (s : List Bool) : putF (enc f s) (enc f [false]) (enc f [true]) = (putFB s).map (encS f) := by
  unfold putF putN putFB
  rw [enc_len, List.map_flatMap]
  exact flatMap_eq fun k hk => putAt_B hf s (by have := List.mem_range.mp hk; omega)
def putSB (xs : List (Int × List Bool)) (k : Int) (x : List Bool) : List (Int × List Bool) := if xs.any (fun p => p.1 = k) then xs.map (fun p => if p.1 = k then (p.1, x) else p) else xs ++ [(k, x)]
theorem putS_B (f : Bool → Nat) (xs : List (Int × List Bool)) (k : Int) (x : List Bool) : putS (xs.map (encD f)) k (enc f x) = (putSB xs k x).map (encD f) := by
  unfold putS putSB
  have e : (xs.map (encD f)).any (fun p => p.1 = k) = xs.any (fun p => p.1 = k) := by
    rw [List.any_map]; rfl
  rw [e]
  split
  · rw [List.map_map, List.map_map]
    apply List.map_congr_left
    intro p _
    show (if (encD f p).1 = k then ((encD f p).1, enc f x) else encD f p) = encD f (if p.1 = k then (p.1, x) else p)
    by_cases h : p.1 = k
    · rw [if_pos h, if_pos (show (encD f p).1 = k from h)]; rfl
    · rw [if_neg h, if_neg (show ¬ (encD f p).1 = k from h)]
  · rw [List.map_append]; rfl
def putDB (xs : List Sp) : List (Int × List Bool) := xs.foldl (fun acc a => putSB acc a.1 a.2.2) []
theorem putD_fold (f : Bool → Nat) : ∀ (xs : List Sp) (acc : List (Int × List Bool)), (xs.map (encS f)).foldl (fun acc a => putS acc a.1 a.2.2) (acc.map (encD f)) = (xs.foldl (fun acc a => putSB acc a.1 a.2.2) acc).map (encD f)
  | [], _ => rfl
  | a :: r, acc => by
    rw [List.map_cons, List.foldl_cons, List.foldl_cons]
    have e : putS (acc.map (encD f)) (encS f a).1 (encS f a).2.2 = (putSB acc a.1 a.2.2).map (encD f) := putS_B f acc a.1 a.2.2
    rw [e]
    exact putD_fold f r _
theorem putD_B (f : Bool → Nat) (xs : List Sp) : putD (xs.map (encS f)) = (putDB xs).map (encD f) := putD_fold f xs []
def lookB (xs : List (Int × List Bool)) (k : Int) (w : List Bool) : Bool := match xs.find? (fun p => p.1 = k) with | some p => p.2 == w | none => false
theorem lookS_B {f : Bool → Nat} (hf : f false ≠ f true) (xs : List (Int × List Bool)) (k : Int) (w : List Bool) : lookS (xs.map (encD f)) k (enc f w) = lookB xs k w := by
  unfold lookS lookB
  rw [List.find?_map]
  have e : ((fun p : Int × Str => decide (p.1 = k)) ∘ encD f) = fun p => decide (p.1 = k) := rfl
  rw [e]
  cases xs.find? (fun p => decide (p.1 = k)) with
  | none => rfl
  | some p => exact beq_B hf _ _
def leftAtB (l : List Bool) (k : Nat) : Int × List Bool :=
  (((if l.getD k false == false then ((l.take k).count true : Int) else (l.count true : Int) + ((l.drop k).count false : Int))).fmod (l.length : Int), l.take k ++ l.drop (k + 1))
theorem leftAt_B {f : Bool → Nat} (hf : f false ≠ f true) (l : List Bool) {k : Nat} (hk : k < l.length) : leftAt (enc f l) (enc f [false]) (enc f [true]) k = encD f (leftAtB l k) := by
  unfold leftAt leftAtB encD
  have e : ((k : Int) + 1).toNat = k + 1 := by omega
  rw [item_B f l hk, take_B f l (by omega) (by omega), drop_B f l (k := (k : Int)) (by omega) (by omega), drop_B f l (k := (k : Int) + 1) (by omega) (by omega), Int.toNat_natCast, e, app_B, enc_len, beq_B hf]
  simp only [count_B hf]
  cases l.getD k false <;> rfl
def leftNB (l : List Bool) (i : Nat) : List (Int × List Bool) := (List.range i).foldl (fun acc k => putSB acc (leftAtB l k).1 (leftAtB l k).2) []
theorem leftN_B {f : Bool → Nat} (hf : f false ≠ f true) (l : List Bool) : ∀ i, i ≤ l.length → leftN (enc f l) (enc f [false]) (enc f [true]) i = (leftNB l i).map (encD f)
  | 0, _ => rfl
  | i + 1, h => by
    rw [leftN_succ, leftN_B hf l i (by omega), leftAt_B hf l (by omega)]
    have e : leftNB l (i + 1) = putSB (leftNB l i) (leftAtB l i).1 (leftAtB l i).2 := by
      unfold leftNB
      rw [List.range_succ, List.foldl_append]
      rfl
    rw [e]
    exact putS_B f _ _ _
end
section
open PySem PySem.W PyProof.Rows PySem.Builtin PySem.Builtin.Str PySem.StrLaws
set_option maxRecDepth 100000
def dotsB : List Bool → Nat
  | [] => 0
  | b :: r => (if b then r.length + 1 else 0) + dotsB r
def rowsL : List Bool → List (List Nat)
  | [] => []
  | b :: r => ((if b then List.replicate (r.length + 2) 46 else [97]) ++ [13, 10]) :: rowsL r
def mailChk (j : Nat) (w : List Bool) : Bool :=
  decide ((mlB j w).length ≤ 500) && decide ((dt true (crlf (mlB j w))).length ≤ 500) && (mlB j w).count 46 == dotsB w && dt true (crlf (mlB j w)) == (rowsL w).flatten
def chkS (n : Nat) (s : List Bool) : Bool :=
  (wordsN n).all fun w =>
    (emBL [] (sing s) [] w == lookB (putDB (putFB s)) (((dotsB w : Int) - (dotsB s : Int)).fmod ((n : Int) + 1)) w)
    && (emBL [s.getD 0 false] ((sing s).drop 1).dropLast [s.getD (s.length - 1) false] w == (emBL [] (sing s) [] w && ([s.getD 0 false] ++ [s.getD (s.length - 1) false] == [w.getD 0 false] ++ [w.getD (w.length - 1) false])))
    && (!(emBL [] (sing s) [] w) || ((rangeKs 0 n).filter (fun k => emBL (s.take k.toNat) [] (s.drop k.toNat) w) == ((putFB s).filter (fun a => decide (a.1 = ((dotsB w : Int) - (dotsB s : Int)).fmod ((n : Int) + 1)))).map (fun a => a.2.1)))
def chkL (n : Nat) (l : List Bool) : Bool :=
  ((wordsN n).all fun w => emBL [] (sing w) [] l == lookB (leftNB l (n + 1)) (((dotsB l : Int) - (dotsB w : Int)).fmod ((n : Int) + 1)) w)
  && (List.range (n + 2)).all fun k => ((l.take k == l) == decide (k > n)) && emBL (l.take k) [] (l.drop k) l && (emBL (l.take (k + 1)) [] (l.drop k) l == decide (k > n))
theorem mails : ((List.range 3).all fun j => (List.range 7).all fun i => (wordsN i).all (mailChk j)) = true := by decide +kernel
theorem s3 : (wordsN 2).all (chkS 3) = true := by decide +kernel
theorem s4' : (wordsN 3).all (chkS 4) = true := by decide +kernel
theorem s5' : (wordsN 4).all (chkS 5) = true := by decide +kernel
theorem l3 : (wordsN 4).all (chkL 3) = true := by decide +kernel
theorem l4 : (wordsN 5).all (chkL 4) = true := by decide +kernel
theorem l5 : (wordsN 6).all (chkL 5) = true := by decide +kernel
end
section
open PySem PySem.W PyProof.Rows PySem.Builtin PySem.Builtin.Str PySem.Calls
set_option maxRecDepth 100000
set_option maxHeartbeats 8000000
def OffAll (c : Addr) (l : List (Addr × Obj)) : Prop := ∀ p ∈ l, p.1 ≠ c
def OffOne (c : Addr) (l : Obj → List (Addr × Obj)) : Prop := ∀ o, ∀ p ∈ l o, p.1 ≠ c
local macro_rules | `(tactic| walk_at "storeName") => `(tactic| ((with_reducible show wpAny _ _ (storeName _ (Str.ofString "low") _) _ _ _); (rename OffAll _ _ => hU9); (refine' storeX_D ?F ?N ?c ?m ?U ?S ?d ?_ ?a ?b; (case a => rfl); (case b => rfl); (case F => k_asm); (case N => k_asm); (case c => rfl); (case m => k_mem); (case U => exact hU9); (case S => kcf_all); (case d => k_asm)); k_whole; intro h' o' F' N' d'; clear hU9; (try dsimp only at N'); (try k_sweep)))
local macro_rules | `(tactic| walk_at "storeName") => `(tactic| ((with_reducible show wpAny _ _ (storeName _ (Str.ofString "high") _) _ _ _); (rename OffOne _ _ => hU9); (rename Obj => o9); (refine' storeX_D ?F ?N ?c ?m ?U ?S ?d ?_ ?a ?b; (case a => rfl); (case b => rfl); (case F => k_asm); (case N => k_asm); (case c => rfl); (case m => k_mem); (case U => exact hU9 o9); (case S => kcf_all); (case d => k_asm)); k_whole; intro h' o' F' N' d'; clear hU9; (try dsimp only at N'); (try k_sweep)))
def lowS (r : Int) : Str := if r = 0 then Str.ofString "a" else if r = 1 then Str.ofString "\n" else Str.ofString "["
def highS (r : Int) : Str := if r = 0 then Str.ofString "b" else if r = 1 then Str.ofString "*" else Str.ofString " "
theorem lowS0 : lowS 0 = Str.ofString "a" := rfl
theorem lowS1 : lowS 1 = Str.ofString "\n" := rfl
theorem lowS2 : lowS 2 = Str.ofString "[" := rfl
theorem highS0 : highS 0 = Str.ofString "b" := rfl
theorem highS1 : highS 1 = Str.ofString "*" := rfl
theorem highS2 : highS 2 = Str.ofString " " := rfl
theorem lowS_len (r : Int) : (lowS r).length = 1 := by unfold lowS; split <;> (try split) <;> decide +kernel
theorem highS_len (r : Int) : (highS r).length = 1 := by unfold highS; split <;> (try split) <;> decide +kernel
section
variable {w : World} {mean : ExcName → Option Value} {mg mb : Str → Option Value} {rest : List (Addr × Obj)} {dp un : Nat} {gd : Option (List Code)} {fa : Addr} {cdv : Value} {outer : List Env} {A₀ : Around} {base h₀ : Heap} {L : Addr} {m : Str → Option Value} {s : Shared} {E : Value → Shared → Prop} {Q : Flow → Shared → Prop}
theorem j3 {Dn : Addr} {oLo oHi oPr oS oB oT oR : Obj} {vsN : List Value} {ns : List Int} {kN n : Nat} {t1 t2 : Tok} {tot : Int} (B : Below A₀ base outer h₀)
    (F₀ : Fr h₀ L s.heap m) (hm1 : m (Str.ofString "numbers") = some (.ref Dn)) (hm2 : m (Str.ofString "size") = some (.int (n : Int) t1)) (hm3 : m (Str.ofString "total") = some (.int tot t2)) (X : (hd.heap_39 w.params).In h₀)
    (N : News h₀ L s.heap ((L + 1, oLo) :: (L + 1 + 1, oHi) :: (L + 1 + 1 + 1, oPr) :: (L + 1 + 1 + 1 + 1, oS) :: (L + 1 + 1 + 1 + 1 + 1, oB) :: (L + 1 + 1 + 1 + 1 + 1 + 1, oT) :: (L + 1 + 1 + 1 + 1 + 1 + 1 + 1, oR) :: (Dn, listOf vsN.toArray kN) :: [])) (T : Top hd.view_39 Lo1 mean mg mb h₀) (hd1 : dp + 3 < recursionLimit) (hu : un + 100 < cLine)
    (hLo : ∃ v, oLo.data = .cell v) (hHi : ∃ v, oHi.data = .cell v) (hP0 : ∃ v, oPr.data = .cell v) (hS0 : ∃ v, oS.data = .cell v) (hB0 : ∃ v, oB.data = .cell v) (hT0 : ∃ v, oT.data = .cell v) (hR0 : ∃ v, oR.data = .cell v)
    (hI : IntsAre vsN ns) (hN7 : ns.length = 7) (hNb : ∀ x ∈ ns, 0 ≤ x ∧ x < 1000000) (hn : 3 ≤ n ∧ n ≤ 5) (htot : 0 ≤ tot ∧ tot ≤ 10000000)
    (ok : AllOk (lowS ((tot.fdiv 3).fmod 3)) (highS ((tot.fdiv 3).fmod 3)) tot n (255 - (ns.getD 6 0).fmod 255) (256 + ns.getD 6 0) (halvesL ns n) (wholesL ns n)) (hE : PassesOwn (model Pr1 w) (lawA dp un gd L fa cdv outer) (lawEnv L fa cdv) E) :
    wpAny (model Pr1 w) (lawA dp un gd L fa cdv outer) (execs (lawBody.drop 3) (lawEnv L fa cdv)) (RT h₀ L s) E s := by
  have F := fr_put F₀ (put_at hm3 rfl)
  obtain ⟨vLo, hLo1⟩ := hLo
  obtain ⟨vHi, hHi1⟩ := hHi
  have U1 : OffAll (L + 1) ((L + 1 + 1, oHi) :: (L + 1 + 1 + 1, oPr) :: (L + 1 + 1 + 1 + 1, oS) :: (L + 1 + 1 + 1 + 1 + 1, oB) :: (L + 1 + 1 + 1 + 1 + 1 + 1, oT) :: (L + 1 + 1 + 1 + 1 + 1 + 1 + 1, oR) :: (Dn, listOf vsN.toArray kN) :: []) := by
    intro p hp
    simp only [List.mem_cons, List.not_mem_nil, or_false] at hp
    rcases hp with rfl | rfl | rfl | rfl | rfl | rfl | rfl
    · exact Nat.ne_of_gt (Nat.lt_succ_self _)
    · exact Nat.ne_of_gt (Nat.lt_of_lt_of_le (Nat.lt_succ_self _) (by simp [Nat.add_assoc]))
    · exact Nat.ne_of_gt (Nat.lt_of_lt_of_le (Nat.lt_succ_self _) (by simp [Nat.add_assoc]))
    · exact Nat.ne_of_gt (Nat.lt_of_lt_of_le (Nat.lt_succ_self _) (by simp [Nat.add_assoc]))
    · exact Nat.ne_of_gt (Nat.lt_of_lt_of_le (Nat.lt_succ_self _) (by simp [Nat.add_assoc]))
    · exact Nat.ne_of_gt (Nat.lt_of_lt_of_le (Nat.lt_succ_self _) (by simp [Nat.add_assoc]))
    · exact cell_off N (.head _) hLo1 (by simp) ⟨_, _, rfl⟩
  have U2 : OffOne (L + 1 + 1) (fun o => (L + 1, o) :: (L + 1 + 1 + 1, oPr) :: (L + 1 + 1 + 1 + 1, oS) :: (L + 1 + 1 + 1 + 1 + 1, oB) :: (L + 1 + 1 + 1 + 1 + 1 + 1, oT) :: (L + 1 + 1 + 1 + 1 + 1 + 1 + 1, oR) :: (Dn, listOf vsN.toArray kN) :: []) := by
    intro o p hp
    simp only [List.mem_cons, List.not_mem_nil, or_false] at hp
    rcases hp with rfl | rfl | rfl | rfl | rfl | rfl | rfl
    · exact Nat.ne_of_lt (Nat.lt_succ_self _)
    · exact Nat.ne_of_gt (Nat.lt_succ_self _)
    · exact Nat.ne_of_gt (Nat.lt_of_lt_of_le (Nat.lt_succ_self _) (by simp [Nat.add_assoc]))
    · exact Nat.ne_of_gt (Nat.lt_of_lt_of_le (Nat.lt_succ_self _) (by simp [Nat.add_assoc]))
    · exact Nat.ne_of_gt (Nat.lt_of_lt_of_le (Nat.lt_succ_self _) (by simp [Nat.add_assoc]))
    · exact Nat.ne_of_gt (Nat.lt_of_lt_of_le (Nat.lt_succ_self _) (by simp [Nat.add_assoc]))
    · exact cell_off N (.tail _ (.head _)) hHi1 (by simp) ⟨_, _, rfl⟩
  w_on
  have hbrk : Brake [14] := trivial
  show wpAny _ _ (execs (_ :: _ :: _ :: _) _) _ _ _
  repeat' (walk_at "go")
  all_goals
    unfold Hold
    rename_i oL dL hC oH FC NC dH
    (rename Fr h₀ L _ _ => lF9)
    (rename News h₀ L _ _ => lN9)
    (rename Int.fmod _ 3 = _ => hj9)
    rw [hj9] at ok
    first
      | rw [lowS0, highS0] at ok
      | rw [lowS1, highS1] at ok
      | rw [lowS2, highS2] at ok
    have F9 := frEq lF9 (m' := m) (by
      funext z
      by_cases e : z = Str.ofString "total"
      · subst e; simp [hm3]
      · simp [e])
    refine wpAny_mono (j4 (Dn := Dn) (kN := kN) (oLo := oL) (oHi := oH) (oPr := oPr) (oS := oS) (oB := oB) (oT := oT) (oR := oR) (ns := ns) (n := n) (tot := tot) B F9 hm1 hm2 hm3 X (cb_drop lN9 ?hsub) T hd1 hu dL dH hP0 hS0 hB0 hT0 hR0 ?hlo ?hhi hI hN7 hNb hn htot ok hE) (fun fl s' r => RT.up r) fun _ _ e => e
    case hsub => kcf_all
    case hlo => decide +kernel
    case hhi => decide +kernel
end
end
section
open PySem PySem.W PyProof.Rows PySem.Builtin PySem.Builtin.Str PySem.StrLaws
set_option maxRecDepth 100000
theorem slice_past {x : Str} {j : Int} (h : (x.length : Int) ≤ j) : Txt.slice x none (some j) = Txt.slice x none (some (x.length : Int)) := by
  have e : strSliceIndices none (some j) 1 x.length = strSliceIndices none (some (x.length : Int)) 1 x.length := by
    unfold strSliceIndices
    have h1 : ¬ j < 0 := Int.not_lt.mpr (Int.le_trans (Int.natCast_nonneg _) h)
    have h2 : ¬ (x.length : Int) < 0 := Int.not_lt.mpr (Int.natCast_nonneg _)
    have h3 : max 0 (min j (x.length : Int)) = max 0 (min (x.length : Int) (x.length : Int)) := by rw [Int.min_eq_right h, Int.min_self]
    simp only [h1, h2, if_false, show (1 : Int) > 0 by decide, if_true, h3]
  unfold Txt.slice
  rw [e]
theorem take_B' (f : Bool → Nat) (l : List Bool) {k : Int} (h0 : 0 ≤ k) : Txt.slice (enc f l) none (some k) = enc f (l.take k.toNat) := by
  rcases Int.le_total k (l.length : Int) with h | h
  · exact take_B f l h0 h
  · rw [slice_past (by rw [enc_len]; exact h), enc_len, take_B f l (by omega) (by omega), List.take_of_length_le (by omega), List.take_of_length_le (by omega)]
theorem mail_ok {j : Nat} (hj : j < 3) {w : List Bool} (hw : w.length ≤ 6) : (mlB j w).length ≤ 500 ∧ (dt true (crlf (mlB j w))).length ≤ 500 ∧ (mlB j w).count 46 = dotsB w ∧ dt true (crlf (mlB j w)) = (rowsL w).flatten := by
  have h1 := List.all_eq_true.mp mails j (List.mem_range.mpr hj)
  have h2 := List.all_eq_true.mp h1 w.length (List.mem_range.mpr (by omega))
  have h3 := List.all_eq_true.mp h2 w (mem_words _ w rfl)
  unfold mailChk at h3
  simp only [Bool.and_eq_true, decide_eq_true_eq, beq_iff_eq] at h3
  exact ⟨h3.1.1.1, h3.1.1.2, h3.1.2, h3.2⟩
theorem sing_len (w : List Bool) : (sing w).length = w.length := by simp [sing]
theorem one_sum (f : Bool → Nat) : ∀ w : List Bool, (w.map (((fun x : Str => x.length) ∘ enc f) ∘ fun b => [b])).sum = w.length
  | [] => rfl
  | b :: r => by
    rw [List.map_cons, List.sum_cons, one_sum f r]
    show 1 + r.length = r.length + 1
    omega
theorem sing_last : ∀ {r : List Bool}, r ≠ [] → (sing r).dropLast ++ [[r.getD (r.length - 1) false]] = sing r
  | [], h => absurd rfl h
  | [a], _ => rfl
  | a :: b :: r, _ => by
    have h := sing_last (r := b :: r) (by simp)
    have e1 : (sing (a :: b :: r)).dropLast = [a] :: (sing (b :: r)).dropLast := rfl
    have e2 : (a :: b :: r).getD ((a :: b :: r).length - 1) false = (b :: r).getD ((b :: r).length - 1) false := rfl
    rw [e1, e2, List.cons_append, h]
    rfl
theorem join_len (f : Bool → Nat) (w : List Bool) (h : w.length ≤ 10) : (Txt.join (Str.ofString "...") (PyProof.Rows.signs (enc f w))).length ≤ 100 := by
  have e : Txt.join (Str.ofString "...") (PyProof.Rows.signs (enc f w)) = PySem.Str.join (Str.ofString "...") (PyProof.Rows.signs (enc f w)) := glued_eq_join _ _
  have h1 := join_length_le (Str.ofString "...") (PyProof.Rows.signs (enc f w))
  have h2 : ((PyProof.Rows.signs (enc f w)).map (·.length)).sum = w.length := by
    rw [signs_B]
    unfold sing
    rw [List.map_map, List.map_map]
    exact one_sum f w
  have h3 : (PyProof.Rows.signs (enc f w)).length = w.length := by rw [signs_B, List.length_map, sing_len]
  have h4 : (Str.ofString "...").length = 3 := by decide +kernel
  rw [e]
  rw [h2, h3, h4] at h1
  omega
theorem em_all {f : Bool → Nat} (hf : f false ≠ f true) (h46 : ∀ b, f b ≠ 46) (s w : List Bool) (hs : 1 ≤ s.length) :
    emS (Str.ofString "..." ++ Txt.join (Str.ofString "...") (PyProof.Rows.signs (enc f s)) ++ Str.ofString "...") (enc f w) = emBL [] (sing s) [] w := by
  have h := emS_J hf h46 [] (sing s) [] w
  have e : Txt.join (Str.ofString "...") (([] :: (sing s ++ [[]])).map (enc f)) = Str.ofString "..." ++ Txt.join (Str.ofString "...") (PyProof.Rows.signs (enc f s)) ++ Str.ofString "..." := by
    have e1 : ([] :: (sing s ++ [[]])).map (enc f) = (([] : List Nat) :: ((sing s).map (fun l => l.map f) ++ [[]])).map S := by
      simp only [List.map_cons, List.map_append, List.map_map, List.map_nil]
      rfl
    have e2 : (sing s).map (enc f) = ((sing s).map fun l => l.map f).map S := by rw [List.map_map]; rfl
    rw [signs_B, e1, e2, dots_S, join_S, join_S, S_app, S_app]
    congr 1
    have key : ∀ ps : List (List Nat), ps ≠ [] → jnL [46, 46, 46] ([] :: (ps ++ [[]])) = [46, 46, 46] ++ jnL [46, 46, 46] ps ++ [46, 46, 46] := by
      intro ps hps
      have k2 : ∀ ps : List (List Nat), ps ≠ [] → jnL [46, 46, 46] (ps ++ [[]]) = jnL [46, 46, 46] ps ++ [46, 46, 46] := by
        intro ps
        induction ps with
        | nil => intro h; exact absurd rfl h
        | cons p r ih =>
          intro _
          cases r with
          | nil => simp [jnL]
          | cons q r =>
            have h3 := ih (by simp)
            simp only [List.cons_append] at h3 ⊢
            simp only [jnL]
            rw [h3]
            simp [List.append_assoc]
      cases ps with
      | nil => exact absurd rfl hps
      | cons p r =>
        have h3 := k2 (p :: r) hps
        simp only [List.cons_append] at h3 ⊢
        simp only [jnL, List.nil_append]
        rw [h3]
        simp [List.append_assoc]
    apply key
    intro h0
    have h1 := congrArg List.length h0
    simp [sing_len] at h1
    rw [h1] at hs
    simp at hs
  rw [e] at h
  exact h
theorem em_bare {f : Bool → Nat} (hf : f false ≠ f true) (h46 : ∀ b, f b ≠ 46) (s w : List Bool) (hs : 2 ≤ s.length) :
    emS (Txt.join (Str.ofString "...") (PyProof.Rows.signs (enc f s))) (enc f w) = emBL [s.getD 0 false] ((sing s).drop 1).dropLast [s.getD (s.length - 1) false] w := by
  have h := emS_J hf h46 [s.getD 0 false] ((sing s).drop 1).dropLast [s.getD (s.length - 1) false] w
  have e : ([s.getD 0 false] :: (((sing s).drop 1).dropLast ++ [[s.getD (s.length - 1) false]])) = sing s := by
    cases s with
    | nil => simp at hs
    | cons a r =>
      have hr : r ≠ [] := by rintro rfl; simp at hs
      have e1 : (sing (a :: r)).drop 1 = sing r := rfl
      have e3 : (a :: r).getD ((a :: r).length - 1) false = r.getD (r.length - 1) false := by
        cases r with
        | nil => exact absurd rfl hr
        | cons b q => rfl
      rw [e1, e3, sing_last hr]
      rfl
  rw [e, ← signs_B] at h
  exact h
end
section
open PySem PySem.W PyProof.Rows PySem.Builtin PySem.Builtin.Str PySem.StrLaws
set_option maxRecDepth 100000
theorem count_mail {j : Nat} (hj : j < 3) {w : List Bool} (hw : w.length ≤ 6) : Txt.count (S (mlB j w)) (Str.ofString ".") = (dotsB w : Int) := by
  rw [dot_S, count_S, (mail_ok hj hw).2.2.1]
theorem dots_le {j : Nat} (hj : j < 3) {w : List Bool} (hw : w.length ≤ 6) : dotsB w ≤ 500 := by
  have h := mail_ok hj hw
  have h2 := List.count_le_length (a := 46) (l := mlB j w)
  omega
theorem text_ok {f : Bool → Nat} (hf : f false ≠ f true) (h46 : ∀ b, f b ≠ 46) {j n : Nat} (hj : j < 3) (hn : 3 ≤ n ∧ n ≤ 5) {s l w : List Bool} (hs : s.length = n - 1) (hl : l.length = n + 1) (hw : w ∈ wordsN n) (cS : chkS n s = true) (cL : chkL n l = true) :
    TextOk (enc f s) (enc f l) (bareS (enc f s)) n (Txt.count (S (mlB j s)) (Str.ofString ".")) (Txt.count (S (mlB j l)) (Str.ofString ".")) (putF (enc f s) (enc f [false]) (enc f [true])) (putD (putF (enc f s) (enc f [false]) (enc f [true]))) (leftN (enc f l) (enc f [false]) (enc f [true]) (enc f l).length) (enc f w) (S (mlB j w)) := by
  have hwl := words_len n w hw
  have sl : 2 ≤ s.length ∧ s.length ≤ 4 := by rw [hs]; exact ⟨Nat.le_sub_of_add_le hn.1, Nat.sub_le_of_le_add hn.2⟩
  have sl2 : 2 ≤ s.length := sl.1
  have sl1 : 1 ≤ s.length := Nat.le_trans (by decide) sl2
  have sl0 : 0 < s.length := sl1
  have sl6 : s.length ≤ 6 := Nat.le_trans sl.2 (by decide)
  have wl6 : w.length ≤ 6 := by rw [hwl]; exact Nat.le_trans hn.2 (by decide)
  have wl1 : 1 ≤ w.length := by rw [hwl]; exact Nat.le_trans (by decide) hn.1
  have wl0 : 0 < w.length := wl1
  have ll6 : l.length ≤ 6 := by rw [hl]; exact Nat.succ_le_succ hn.2
  have c1 := List.all_eq_true.mp cS w hw
  unfold chkL at cL
  rw [Bool.and_eq_true] at cL
  have c2 := eq_of_beq (List.all_eq_true.mp cL.1 w hw)
  simp only [Bool.and_eq_true] at c1
  obtain ⟨⟨c3, c4⟩, c5⟩ := c1
  have c3 := eq_of_beq c3
  have c4 := eq_of_beq c4
  have mw := mail_ok hj (w := w) (by first | assumption | omega)
  have hd1 := dots_le hj (w := w) (by first | assumption | omega)
  have e1 : emS (Str.ofString "..." ++ bareS (enc f s) ++ Str.ofString "...") (enc f w) = emBL [] (sing s) [] w := em_all hf h46 s w (by first | assumption | omega)
  refine ⟨by rw [enc_len]; omega, by rw [S_len]; omega, ?_, join_len f w (by first | assumption | omega), ?_, ?_, ?_, ?_⟩
  · rw [count_mail hj (by first | assumption | omega)]
    omega
  · rw [e1, count_mail hj (by first | assumption | omega), count_mail hj (by first | assumption | omega), putF_B hf, putD_B, lookS_B hf]
    exact c3
  · rw [e1]
    have e2 : emS (bareS (enc f s)) (enc f w) = _ := em_bare hf h46 s w (by first | assumption | omega)
    have i1 := item_B f s (k := 0) (by first | assumption | omega)
    have i2 := item_B f w (k := 0) (by first | assumption | omega)
    have e3 : ((0 : Nat) : Int) = 0 := rfl
    rw [e3] at i1 i2
    rw [e2, i1, i2, item_last f s (by first | assumption | omega), item_last f w (by first | assumption | omega), app_B, app_B, beq_B hf]
    exact c4
  · rw [e1]
    intro h
    rw [h] at c5
    simp only [Bool.not_true, Bool.false_or] at c5
    have c5 := eq_of_beq c5
    rw [count_mail hj (by first | assumption | omega), count_mail hj (by first | assumption | omega), putF_B hf, List.filter_map, List.map_map]
    have e4 : ((rangeKs 0 n).filter fun k => emS (Txt.slice (enc f s) none (some k) ++ Str.ofString "..." ++ Txt.slice (enc f s) (some k) none) (enc f w)) = (rangeKs 0 n).filter fun k => emBL (s.take k.toNat) [] (s.drop k.toNat) w := by
      apply List.filter_congr
      intro k hk
      have hb := mem_rangeKs hk
      rw [take_B f s (by first | assumption | omega) (by first | assumption | omega), drop_B f s (by first | assumption | omega) (by first | assumption | omega), em_two hf h46]
    rw [e4]
    exact c5
  · have e5 : emS (Str.ofString "..." ++ Txt.join (Str.ofString "...") (PyProof.Rows.signs (enc f w)) ++ Str.ofString "...") (enc f l) = emBL [] (sing w) [] l := em_all hf h46 w l (by first | assumption | omega)
    rw [e5, count_mail hj (by first | assumption | omega), count_mail hj (by first | assumption | omega), enc_len, leftN_B hf l _ (Nat.le_refl _), lookS_B hf, hl]
    exact c2
theorem long_ok {f : Bool → Nat} (hf : f false ≠ f true) (h46 : ∀ b, f b ≠ 46) {n : Nat} {l : List Bool} (hl : l.length = n + 1) (cL : chkL n l = true) : LongOk (enc f l) n := by
  unfold chkL at cL
  rw [Bool.and_eq_true] at cL
  have c := List.all_eq_true.mp cL.2
  have get : ∀ k : Int, 0 ≤ k → k < n + 2 → ((l.take k.toNat == l) = decide (k > (n : Int)) ∧ emBL (l.take k.toNat) [] (l.drop k.toNat) l = true ∧ emBL (l.take (k.toNat + 1)) [] (l.drop k.toNat) l = decide (k > (n : Int))) := by
    intro k h0 h1
    have h2 := c k.toNat (List.mem_range.mpr (by omega))
    simp only [Bool.and_eq_true] at h2
    obtain ⟨⟨h3, h4⟩, h5⟩ := h2
    have e : decide (k.toNat > n) = decide (k > (n : Int)) := by
      by_cases h : k.toNat > n
      · rw [decide_eq_true h, decide_eq_true (show k > (n : Int) by omega)]
      · rw [decide_eq_false h, decide_eq_false (show ¬ k > (n : Int) by omega)]
    rw [← e]
    exact ⟨eq_of_beq h3, h4, eq_of_beq h5⟩
  refine ⟨by rw [enc_len]; exact hl, fun k h0 h1 => ?_, fun k h0 h1 => ?_, fun k h0 h1 => ?_⟩
  · rw [take_B' f l h0, em_one hf h46]
    exact (get k h0 h1).1
  · rw [take_B' f l h0, drop_B f l h0 (by omega), em_two hf h46]
    exact (get k h0 h1).2.1
  · have e : (k + 1).toNat = k.toNat + 1 := Int.toNat_add h0 (by decide)
    rw [take_B' f l (by omega), drop_B f l h0 (by omega), em_two hf h46, e]
    exact (get k h0 h1).2.2
theorem flat_S (ps : List (List Nat)) : Txt.join (Str.ofString "") (ps.map S) = S ps.flatten := by
  rw [empty_S, join_S, jn_nil]
theorem rows_len : ∀ w : List Bool, (rowsL w).length = w.length
  | [] => rfl
  | b :: r => by simp [rowsL, rows_len r]
theorem mul_one (n : Int) : Txt.mul (S [46]) n = S (List.replicate n.toNat 46) := by
  unfold Txt.mul
  by_cases h : n < 1
  · rw [if_pos h]
    have e : n.toNat = 0 := by omega
    rw [e]; rfl
  · rw [if_neg h]
    have hl : (S [46]).length = 1 := rfl
    by_cases h1 : n = 1
    · subst h1; rfl
    · rw [if_neg (by simp [hl, h1])]
      show (⟨(List.replicate n.toNat (#[46] : Array Nat)).foldl (· ++ ·) #[]⟩ : Str) = _
      have rep : ∀ (n : Nat) (acc : Array Nat), (List.replicate n (#[46] : Array Nat)).foldl (· ++ ·) acc = acc ++ (List.replicate n 46).toArray := by
        intro n
        induction n with
        | zero => intro acc; simp
        | succ n ih =>
          intro acc
          rw [List.replicate_succ, List.foldl_cons, ih, List.replicate_succ]
          apply Array.toList_inj.mp
          simp
      rw [rep]
      simp [S]
def rowOf (w : List Bool) (k : Nat) : List Nat := if w.getD k false then List.replicate (w.length + 1 - k) 46 else [97]
theorem rows_get : ∀ (w : List Bool), rowsL w = (List.range w.length).map fun k => rowOf w k ++ [13, 10]
  | [] => rfl
  | b :: r => by
    rw [rowsL, rows_get r, List.length_cons, List.range_succ_eq_map, List.map_cons, List.map_map]
    have e0 : rowOf (b :: r) 0 = (if b then List.replicate (r.length + 2) 46 else [97]) := rfl
    rw [e0]
    congr 1
    apply List.map_congr_left
    intro k _
    show rowOf r k ++ [13, 10] = rowOf (b :: r) (k + 1) ++ [13, 10]
    unfold rowOf
    have e1 : (b :: r).getD (k + 1) false = r.getD k false := rfl
    have e2 : (b :: r).length + 1 - (k + 1) = r.length + 1 - k := by simp
    rw [e1, e2]
theorem told_B (bs : List Int) {k : Nat} (hk : k < bs.length) : toldS bs ((0 : Int) + (k : Int)) = S (rowOf (bs.map bitI) k) := by
  unfold toldS rowOf
  have e1 : ((0 : Int) + (k : Int)).toNat = k := by rw [Int.zero_add, Int.toNat_natCast]
  have e2 : (bs.map bitI).getD k false = bitI (bs.getD k 0) := by
    rw [List.getD_eq_getElem?_getD, List.getD_eq_getElem?_getD, List.getElem?_map, List.getElem?_eq_getElem hk]
    rfl
  rw [e1, e2, List.length_map]
  unfold bitI
  by_cases h : bs.getD k 0 = 0
  · rw [if_pos h, h, a_S]; rfl
  · rw [if_neg h, dot_S, mul_one]
    have e3 : ((bs.length : Int) + 1 - (0 + (k : Int))).toNat = bs.length + 1 - k := by rw [Int.zero_add]; exact Int.toNat_sub (bs.length + 1) k
    rw [e3, decide_eq_false h]
    rfl
theorem told_map (bs : List Int) : (rangeKs 0 bs.length).map (toldS bs) = (List.range bs.length).map fun k => S (rowOf (bs.map bitI) k) := by
  unfold rangeKs
  rw [List.map_map]
  apply List.map_congr_left
  intro k hk
  exact told_B bs (List.mem_range.mp hk)
theorem told_rows (bs : List Int) : ((rangeKs 0 bs.length).map (toldS bs)).map (fun row => row ++ Str.ofString "\r\n") = (rowsL (bs.map bitI)).map S := by
  rw [told_map, rows_get, List.map_map, List.map_map, List.length_map]
  apply List.map_congr_left
  intro k _
  show S (rowOf (bs.map bitI) k) ++ Str.ofString "\r\n" = S (rowOf (bs.map bitI) k ++ [13, 10])
  rw [crlf_S, S_app]
theorem bit_sing (f : Bool → Nat) (bs : List Int) : bs.map (bitS (enc f [false]) (enc f [true])) = (sing (bs.map bitI)).map (enc f) := by
  unfold sing
  rw [List.map_map, List.map_map]
  apply List.map_congr_left
  intro x _
  show bitS _ _ x = enc f [bitI x]
  unfold bitS bitI
  by_cases h : x = 0 <;> simp [h]
theorem sum_S (ps : List (List Nat)) : ((ps.map S).map (·.length)).sum = ps.flatten.length := by
  induction ps with
  | nil => rfl
  | cons p r ih =>
    rw [List.map_cons, List.map_cons, List.sum_cons, ih, List.flatten_cons, List.length_append]
    show (S p).length + _ = _
    rw [S_len]
theorem sent_ok {f : Bool → Nat} {j : Nat} (hj : j < 3) {bs : List Int} (hb : bs.length ≤ 6) : SentOk (enc f [false]) (enc f [true]) (enc f (bs.map bitI)) (S (mlB j (bs.map bitI))) bs := by
  have m := mail_ok hj (w := bs.map bitI) (by rw [List.length_map]; exact hb)
  have hj1 : ((bs.map (bitS (enc f [false]) (enc f [true]))).map (·.length)).sum = bs.length := by
    rw [bit_sing]
    unfold sing
    rw [List.map_map, List.map_map, one_sum f, List.length_map]
  refine ⟨by rw [S_len]; omega, by rw [qd_S, S_len]; omega, ?_, ?_, ?_, ?_, ?_⟩
  · rw [bit_sing]
    have e : (sing (bs.map bitI)).map (enc f) = (((bs.map bitI).map f).map fun c => [c]).map S := by
      unfold sing
      simp only [List.map_map]
      rfl
    rw [e, flat_S, flat_one]
    rfl
  · rw [told_rows, flat_S, qd_S, m.2.2.2]
  · intro row hrow
    rw [told_map] at hrow
    obtain ⟨k, _, rfl⟩ := List.mem_map.mp hrow
    rw [S_len]
    unfold rowOf
    split
    · rw [List.length_replicate, List.length_map]; omega
    · decide
  · rw [hj1, List.length_map]
    omega
  · rw [told_rows, sum_S, ← m.2.2.2, List.length_map, rows_len, List.length_map]
    omega
theorem all_ok {f : Bool → Nat} (hf : f false ≠ f true) (h46 : ∀ b, f b ≠ 46) {tot p0 p1 : Int} {n : Nat} {hs ws : List Int} (hn : 3 ≤ n ∧ n ≤ 5) (hp0 : p0 < 256) (hp1 : p1 ≥ 256) (hhs : hs.length = n - 1) (hws : ws.length = n + 1) (cS : chkS n (hs.map bitI) = true) (cL : chkL n (ws.map bitI) = true) :
    AllOk (enc f [false]) (enc f [true]) tot n p0 p1 hs ws := by
  have hj : (tot.fmod 3).toNat < 3 := by have := fmod3 tot; omega
  have bd : ∀ (l : List Int), l.length ≤ 6 → ∀ i, i ≤ l.length → (sentF (enc f [false]) (enc f [true]) tot ((l.map fun x => if x = 0 then p0 else p1).take i)).1.length ≤ 100 ∧ (sentF (enc f [false]) (enc f [true]) tot ((l.map fun x => if x = 0 then p0 else p1).take i)).2.length ≤ 1000 ∧ (qdT (sentF (enc f [false]) (enc f [true]) tot ((l.map fun x => if x = 0 then p0 else p1).take i)).2).length ≤ 1000 := by
    intro l hl i hi
    rw [← List.map_take, sent_B f hp0 hp1]
    have m := mail_ok hj (w := (l.take i).map bitI) (by rw [List.length_map, List.length_take]; omega)
    refine ⟨?_, ?_, ?_⟩
    · show (enc f ((l.take i).map bitI)).length ≤ 100
      rw [enc_len, List.length_map, List.length_take]; omega
    · show (S (mlB _ ((l.take i).map bitI))).length ≤ 1000
      rw [S_len]; omega
    · show (qdT (S (mlB _ ((l.take i).map bitI)))).length ≤ 1000
      rw [qd_S, S_len]; omega
  have e1 := sent_B f (tot := tot) hp0 hp1 hs
  have e2 := sent_B f (tot := tot) hp0 hp1 ws
  have hs2 : (hs.map bitI).length = n - 1 := by rw [List.length_map]; exact hhs
  have hw2 : (ws.map bitI).length = n + 1 := by rw [List.length_map]; exact hws
  have h6 : hs.length ≤ 6 := by rw [hhs]; exact Nat.le_trans (Nat.sub_le _ _) (Nat.le_trans hn.2 (by decide))
  have w6 : ws.length ≤ 6 := by rw [hws]; exact Nat.succ_le_succ hn.2
  have h62 : (hs.map bitI).length ≤ 6 := by rw [List.length_map]; exact h6
  have w62 : (ws.map bitI).length ≤ 6 := by rw [List.length_map]; exact w6
  have n6 : n ≤ 6 := Nat.le_succ_of_le hn.2
  have m1 := mail_ok hj (w := hs.map bitI) (by first | assumption | omega)
  have m2 := mail_ok hj (w := ws.map bitI) (by first | assumption | omega)
  refine ⟨bd hs (by first | assumption | omega), bd ws (by first | assumption | omega), ?_, ?_, ?_, ?_⟩
  · rw [e1]
    exact sent_ok hj (by first | assumption | omega)
  · rw [e2]
    exact sent_ok hj (by first | assumption | omega)
  · intro i hi x hx
    rw [tab_B] at hx
    obtain ⟨w, hw, rfl⟩ := List.mem_map.mp hx
    have hwl := words_len i w hw
    have wl6 : w.length ≤ 6 := by rw [hwl]; exact Nat.le_trans (Nat.le_of_lt hi) n6
    have m := mail_ok hj (w := w) (by first | assumption | omega)
    refine ⟨?_, ?_, ?_⟩
    · show (enc f w).length ≤ 10
      rw [enc_len]; omega
    · show (S (mlB _ w)).length ≤ 1000
      rw [S_len]; omega
    · show (qdT (S (mlB _ w))).length ≤ 1000
      rw [qd_S, S_len]; omega
  · rw [e1, e2, tab_B]
    have d1 := dots_le hj (w := hs.map bitI) (by first | assumption | omega)
    have d2 := dots_le hj (w := ws.map bitI) (by first | assumption | omega)
    refine ⟨?_, ?_, ?_, ?_, ?_, ?_, ?_, ?_⟩
    · show 1 ≤ (enc f (hs.map bitI)).length ∧ (enc f (hs.map bitI)).length ≤ 8
      rw [enc_len, hs2]; exact ⟨Nat.le_sub_of_add_le (Nat.le_trans (by decide) hn.1), Nat.le_trans (Nat.sub_le _ _) (Nat.le_trans hn.2 (by decide))⟩
    · show (S _).length ≤ 1000
      rw [S_len]; omega
    · show (S _).length ≤ 1000
      rw [S_len]; omega
    · exact join_len f (hs.map bitI) (by first | assumption | omega)
    · show 0 ≤ Txt.count (S (mlB _ (hs.map bitI))) _ ∧ Txt.count (S (mlB _ (hs.map bitI))) _ ≤ 1000
      rw [count_mail hj (by first | assumption | omega)]; omega
    · show 0 ≤ Txt.count (S (mlB _ (ws.map bitI))) _ ∧ Txt.count (S (mlB _ (ws.map bitI))) _ ≤ 1000
      rw [count_mail hj (by first | assumption | omega)]; omega
    · exact long_ok hf h46 hw2 cL
    · intro x hx
      obtain ⟨w, hw, rfl⟩ := List.mem_map.mp hx
      exact text_ok hf h46 hj hn hs2 hw2 hw cS cL
def fR (lo hi : Nat) (b : Bool) : Nat := if b then hi else lo
theorem chk_all {n : Nat} (hn : 3 ≤ n ∧ n ≤ 5) : (∀ s : List Bool, s.length = n - 1 → chkS n s = true) ∧ ∀ l : List Bool, l.length = n + 1 → chkL n l = true := by
  have h : n = 3 ∨ n = 4 ∨ n = 5 := (by decide : ∀ n, n < 6 → 3 ≤ n → n = 3 ∨ n = 4 ∨ n = 5) n (Nat.lt_succ_of_le hn.2) hn.1
  rcases h with rfl | rfl | rfl
  · exact ⟨fun s h => List.all_eq_true.mp s3 s (mem_words _ s h), fun l h => List.all_eq_true.mp l3 l (mem_words _ l h)⟩
  · exact ⟨fun s h => List.all_eq_true.mp s4' s (mem_words _ s h), fun l h => List.all_eq_true.mp l4 l (mem_words _ l h)⟩
  · exact ⟨fun s h => List.all_eq_true.mp s5' s (mem_words _ s h), fun l h => List.all_eq_true.mp l5 l (mem_words _ l h)⟩
theorem plain {ks : List Int} {n : Nat} (h7 : ks.length = 7) (hk : ∀ k ∈ ks, 0 ≤ k ∧ k < 1000000) (hn : (n : Int) = 3 + ks.sum.fmod 3) : AllOk (lowS ((ks.sum.fdiv 3).fmod 3)) (highS ((ks.sum.fdiv 3).fmod 3)) ks.sum n (255 - (ks.getD 6 0).fmod 255) (256 + ks.getD 6 0) (halvesL ks n) (wholesL ks n) := by
  have h3 := fmod3 ks.sum
  have hn2 : 3 ≤ n ∧ n ≤ 5 := by omega
  have h6 : 0 ≤ ks.getD 6 0 := by
    rw [List.getD_eq_getElem?_getD, List.getElem?_eq_getElem (by omega)]
    exact (hk _ (List.getElem_mem _)).1
  have h6m := fmod255 (ks.getD 6 0)
  have hh : (halvesL ks n).length = n - 1 := by unfold halvesL; rw [List.length_map, List.length_take, h7]; exact Nat.min_eq_left (Nat.le_trans (Nat.sub_le _ _) (Nat.le_trans hn2.2 (by decide)))
  have hw : (wholesL ks n).length = n + 1 := by unfold wholesL; rw [List.length_map, List.length_take, h7]; exact Nat.min_eq_left (Nat.succ_le_succ (Nat.le_trans hn2.2 (by decide)))
  obtain ⟨cS, cL⟩ := chk_all hn2
  have cS1 := cS ((halvesL ks n).map bitI) (by rw [List.length_map]; exact hh)
  have cL1 := cL ((wholesL ks n).map bitI) (by rw [List.length_map]; exact hw)
  have hr := fmod3 (ks.sum.fdiv 3)
  have hr3 := three_int hr.1 hr.2
  rcases hr3 with e | e | e
  · rw [e, show lowS 0 = enc (fR 97 98) [false] from by decide +kernel, show highS 0 = enc (fR 97 98) [true] from by decide +kernel]
    exact all_ok (by decide) (by intro b; cases b <;> decide) hn2 (by omega) (by omega) hh hw cS1 cL1
  · rw [e, show lowS 1 = enc (fR 10 42) [false] from by decide +kernel, show highS 1 = enc (fR 10 42) [true] from by decide +kernel]
    exact all_ok (by decide) (by intro b; cases b <;> decide) hn2 (by omega) (by omega) hh hw cS1 cL1
  · rw [e, show lowS 2 = enc (fR 91 32) [false] from by decide +kernel, show highS 2 = enc (fR 91 32) [true] from by decide +kernel]
    exact all_ok (by decide) (by intro b; cases b <;> decide) hn2 (by omega) (by omega) hh hw cS1 cL1
end
local macro_rules | `(tactic| walk_at "pad11") => `(tactic| skip)
section
open PySem PySem.W PyProof.Rows PySem.Builtin PySem.Builtin.Str PySem.Calls
set_option maxRecDepth 100000
set_option maxHeartbeats 8000000
local macro_rules | `(tactic| walk_at "call ref") => `(tactic| ((with_reducible show wpAny _ _ (call (Value.ref 81) [Value.ref _, Value.ref _]) _ _ _); (k_dflt (refine' num_call ?k1 ?k2 ?k3 ?k4 ?k5 ?kK ?kl ?ki ?kn ?ko ?k6 ?kd ?ku ?_; (case k2 => k_asm); (case k4 => k_asm); (case k1 => k_asm); (case k3 => k_asm); (case k5 => k_asm); (case kK => exact rfl); (case kl => k_asm); (case ki => k_asm); (case kn => (rw [IntsAre.length (by assumption)]; omega)); (case k6 => rfl); (case ko => exact .cons _ _ (.cons _ _ (.cons _ _ (.cons _ _ (.cons _ _ (.cons _ _ (.cons _ _ .nil))))))); (case kd => decide +kernel); (case ku => decide +kernel))); intro D' ws' ks' h' tk' hw1' hw2' hw3' F' N' ne'; (try k_fold)))
local macro_rules | `(tactic| walk_at "execs cons Assign cons") => `(tactic| (walk_at "brk"))
theorem sum_b : ∀ {ks : List Int}, (∀ k ∈ ks, 0 ≤ k ∧ k < 1000000) → 0 ≤ ks.sum ∧ ks.sum ≤ 1000000 * (ks.length : Int)
  | [], _ => by simp
  | k :: r, h => by
    have h1 := sum_b (ks := r) fun x hx => h x (.tail _ hx)
    have h2 := h k (.head _)
    simp only [List.sum_cons, List.length_cons]
    push_cast
    omega
theorem nat_of {ks : List Int} (_h : ∀ k ∈ ks, 0 ≤ k ∧ k < 1000000) : ∃ n : Nat, (n : Int) = 3 + ks.sum.fmod 3 ∧ 3 ≤ n ∧ n ≤ 5 := by
  have h1 := Int.fmod_nonneg_of_pos ks.sum (b := 3) (by omega)
  have h2 := Int.fmod_lt_of_pos ks.sum (b := 3) (by omega)
  exact ⟨(3 + ks.sum.fmod 3).toNat, by omega, by omega, by omega⟩
theorem law_try : PySem.Challenge.rw_rw0014_02.Holds := by
  refine hd ?_
  k_fill
  w_on
  k_go0
  all_goals (try k_fold)
  all_goals (have hbrk : Brake [15] := trivial)
  repeat' (walk_at "go")
  unfold Hold
  (rename Fr _ _ _ _ => lF9)
  (rename News _ _ _ _ => lN9)
  (rename IntsAre _ _ => hI9)
  (rename ∀ k ∈ _, 0 ≤ k ∧ k < 1000000 => hb9)
  (rename List.length _ = 7 => h79)
  have h7 := hI9.length.symm.trans h79
  have hsb := sum_b hb9
  obtain ⟨n, hn, hn3⟩ := nat_of hb9
  have hpl := plain h7 hb9 hn
  rw [← hn] at lF9
  show wpAny _ _ (execs (_ :: _ :: _) _) _ _ _
  refine wpAny_mono (j3 (n := n) (ns := _) (vsN := _) (kN := _) (tot := _) (by k_asm) lF9 (by with_unfolding_all rfl) (by with_unfolding_all rfl) (by with_unfolding_all rfl) (by k_asm) (cb_drop lN9 (by kcf_all)) (by k_asm) ?hd1 ?hu ⟨_, by assumption⟩ ⟨_, by assumption⟩ ⟨_, by assumption⟩ ⟨_, by assumption⟩ ⟨_, by assumption⟩ ⟨_, by assumption⟩ ⟨_, by assumption⟩ hI9 h7 hb9 hn3 ?htot hpl ?hE) (fun fl s' h => ?_) (fun _ _ e => e)
  case hd1 => decide +kernel
  case hu => decide +kernel
  case htot => omega
  case hE => passes_own
  obtain ⟨rfl, h', tk, m', nw, rfl, F, N⟩ := h
  repeat' (first | (k_unfold; (try dsimp only)) | (k_end; wrow_close) | walk1)
end
end Mine
end
theorem PySem.Challenge.cw_rw0014_02_holds : PySem.Challenge.rw_rw0014_02.Holds :=
  Mine.law_try
