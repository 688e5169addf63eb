import PyProof.Rows.All
import Wide.All
import OpenK.AllK
import Wide.FinOn
import PySem.Challenge.RW_rw0014_01

set_option Elab.async false
section
open PySem PySem.W PyProof.Rows
set_option maxRecDepth 100000
set_option maxHeartbeats 8000000
open_top Mine.hd for PySem.Challenge.rw_rw0014_01
end
section
open PySem PySem.W PyProof.Rows PySem.Builtin PySem.Builtin.Str
set_option maxRecDepth 100000
set_option maxHeartbeats 4000000
namespace Mine
section
variable {prog : Program} {w : World} {A : Around} {E : Value → Shared → Prop} {s : Shared} {h₀ : Heap} {L : Addr} {m : Str → Option Value} {news news' : List (Addr × Obj)} {x y : Str} {t u : Tok}

/-- str.find with both bounds -/
def find4 (x y : Str) (i j : Int) : Int := match occurrences x y (fromIndex x.length i) (min (fromIndex x.length j) x.length) 1 with | k :: _ => (k : Int) | [] => -1
theorem gives_find4 (x y : Str) (i j : Int) (t u v v' : Tok) : Gives («str.find» ⟨[.str x t, .str y u, .int i v, .int j v'], []⟩) (.int (find4 x y i j)) := by
  show Gives (match occurrences x y (fromIndex x.length i) (min (fromIndex x.length j) x.length) 1 with | k :: _ => retInt k | [] => (do rule "str.find.not-found"; retInt (-1))) _
  unfold find4
  cases occurrences x y (fromIndex x.length i) (min (fromIndex x.length j) x.length) 1 with
  | nil => exact .rule (.of_eq rfl)
  | cons k _ => exact .of_eq rfl
theorem find4_rule {i j : Int} {v v' : Tok} {Q : Value → Shared → Prop} (hq : Q (.int (find4 x y i j) s.toks) { s with toks := s.toks + 1 }) : wpAny (model prog w) A (call (.builtin "str.find") [.str x t, .str y u, .int i v, .int j v']) Q E s :=
  call_gives F.slot_str_find (typeIs_str _ _ _) F.entry_str_find (F.args_str_find_4 _ _ _ _) (gives_find4 x y i j t u v v') hq

/-- split, its list with plain facts -/
theorem split_rule {Q : Value → Shared → Prop} (hF : Fr h₀ L s.heap m) (hN : News h₀ L s.heap news) (hy : (y.length == 0) = false)
    (h : ∀ D vs h' k, StrsAre vs (Txt.split x y) → Fr h₀ L h' m → News h₀ L h' ((D, listOf vs.toArray 0) :: news) → (∀ p ∈ news, p.1 < D) → Q (.ref D) { s with heap := h', toks := k }) (hsz : x.length + 2 ≤ sizeLine) :
    wpAny (model prog w) A (call (.builtin "str.split") [.str x t, .str y u]) Q E s :=
  KSpl.split1 hF hN hy (fun D l h' k e a F N lt => h D _ h' k (by rw [← e]; exact a) F N lt) hsz

/-- del of an item of a made list -/
theorem del_K {D : Addr} {its its' : Array Value} {n k : Nat} {i : Int} {v : Tok} {Q : Unit → Shared → Prop} (F : Fr h₀ L s.heap m) (N : News h₀ L s.heap news) (U : Upd D (listOf its n) (listOf its' (if its'.size == its.size then n else n + 1)) news news') (hfit : Builtin.List.listFitsIndex i = true) (hk : seqIndex? i its.size = some k) (he : its.eraseIdxIfInBounds k = its')
    (h : ∀ h', Fr h₀ L h' m → News h₀ L h' news' → Q () { s with heap := h' }) (hsz : its.size ≤ sizeLine := by size_fits) :
    wpAny (model prog w) A (delItem (.ref D) (.int i v)) Q E s := by
  obtain ⟨pre, post, rfl, rfl, a, b⟩ := U.split
  have z := N (D, listOf its n) (List.mem_append.mpr (.inr (.head _)))
  subst he
  refine P.delItem_list (n := n) z.1 hfit hk ?_ hsz
  obtain ⟨F', N'⟩ := news_upd (f := Obj.mapSeq fun xs => xs.eraseIdxIfInBounds k) F N a b rfl rfl
  exact h _ F' N'
theorem erase_first {vs : List Value} (_h : 1 ≤ vs.length) : vs.toArray.eraseIdxIfInBounds 0 = (vs.drop 1).toArray := by
  cases vs with
  | nil => simp
  | cons a r => simp [Array.eraseIdxIfInBounds]
theorem erase_last {vs : List Value} (h : 1 ≤ vs.length) : vs.toArray.eraseIdxIfInBounds (vs.length - 1) = vs.dropLast.toArray := by
  have : vs.length - 1 < vs.length := by omega
  simp [Array.eraseIdxIfInBounds, this, List.eraseIdx_length_sub_one]
theorem del_first {D : Addr} {vs : List Value} {n : Nat} {v : Tok} {Q : Unit → Shared → Prop} (F : Fr h₀ L s.heap m) (N : News h₀ L s.heap news) (U : Upd D (listOf vs.toArray n) (listOf (vs.drop 1).toArray (n + 1)) news news') (h1 : 1 ≤ vs.length) (h2 : vs.length ≤ 16777216)
    (h : ∀ h', Fr h₀ L h' m → News h₀ L h' news' → Q () { s with heap := h' }) : wpAny (model prog w) A (delItem (.ref D) (.int 0 v)) Q E s :=
  del_K F N (by rw [if_neg (by simp; omega)]; exact U) (by decide) (by rw [StrLaws.seqIndex_nonneg (by omega) (by simp; omega)]; rfl) (erase_first h1) h (by rw [sizeLine_eq]; simpa using h2)
theorem del_last {D : Addr} {vs : List Value} {n : Nat} {v : Tok} {Q : Unit → Shared → Prop} (F : Fr h₀ L s.heap m) (N : News h₀ L s.heap news) (U : Upd D (listOf vs.toArray n) (listOf vs.dropLast.toArray (n + 1)) news news') (h1 : 1 ≤ vs.length) (h2 : vs.length ≤ 16777216)
    (h : ∀ h', Fr h₀ L h' m → News h₀ L h' news' → Q () { s with heap := h' }) : wpAny (model prog w) A (delItem (.ref D) (.int (-1) v)) Q E s :=
  del_K (its' := vs.dropLast.toArray) (k := vs.length - 1) F N (by rw [if_neg (by simp; omega)]; exact U) (by decide) (by rw [StrLaws.seqIndex_neg (by omega) (by simp; omega)]; congr 1; simp; omega) (erase_last h1) h (by rw [sizeLine_eq]; simpa using h2)
end
section
variable {prog : Program} {w : World} {A : Around} {E : Value → Shared → Prop} {s : Shared} {env : Env} {h₀ : Heap} {x : Str} {body : List Stmt} {Q : Flow → Shared → Prop}
/-- a loop over a made list of texts that turns one int -/
theorem iter_strs1 {l : Addr} {vs : List Value} {xs : List Str} {nn : Nat} {m₀ : Str → Option Value} {news : List (Addr × Obj)} {y : Str} {a₀ : Int} {t₀ : Tok} (P : List Str → Int → Prop)
    (hh : A.handled = none) (hl : (l, listOf vs.toArray nn) ∈ news) (hs : StrsAre vs xs) (F : Fr h₀ env.locals s.heap m₀) (N : News h₀ env.locals s.heap news) (hy : m₀ y = some (.int a₀ t₀)) (hP : P xs a₀)
    (turn : ∀ wd rest t a ta h tk own, P (wd :: rest) a → wd ∈ xs → OwnOff own (news.map (·.1)) → Fr h₀ env.locals h (fun z => if z = x then some (.str wd t) else if z = y then some (.int a ta) else m₀ z) → News h₀ env.locals h (news ++ own) →
      wpAny (model prog w) A (execs body env) (InvPostG h₀ env.locals (fun m' nx => nx = news ∧ (∃ a' t', m' y = some (.int a' t') ∧ P rest a') ∧ ∀ z, z ≠ x → z ≠ y → m' z = m₀ z) own { s with heap := h, toks := tk } Q) E { s with heap := h, toks := tk })
    (done : ∀ (u : Str → Option Value) t a h tk, P [] a → Fr h₀ env.locals h (fun z => if z = x then u z else if z = y then some (.int a t) else m₀ z) → News h₀ env.locals h news → Q .next { s with heap := h, toks := tk }) :
    wpAny (model prog w) A (pyIter (.ref l)) (fun it s₂ => LoopAtV prog w A h₀ env x body Q E it s₂) E s := by
  refine kdl_iter (fun i m nx => nx = news ∧ (∃ a t, m y = some (.int a t) ∧ P (xs.drop i) a) ∧ ∀ z, z ≠ x → z ≠ y → m z = m₀ z) hh hl F N ⟨rfl, ⟨a₀, t₀, hy, by simpa using hP⟩, fun _ _ _ => rfl⟩ ?_ ?_
  · rintro i v m₁ news₁ h tk own hv hoff _ ⟨rfl, ⟨a, ta, ha, hp⟩, hm⟩ F₁ N₁
    obtain ⟨wd, t, rfl, hx⟩ := hs.item i v hv
    have hi : i < xs.length := (List.getElem?_eq_some_iff.mp hx).1
    have hd : xs.drop i = wd :: xs.drop (i + 1) := by
      rw [List.drop_eq_getElem_cons hi]
      congr 1
      exact (List.getElem?_eq_some_iff.mp hx).2
    rw [hd] at hp
    rw [map_one ha hm] at F₁
    refine wpAny_mono (turn wd _ t a ta h tk own hp (List.mem_of_getElem? hx) hoff F₁ N₁) (fun f s₂ p => ?_) fun _ _ e => e
    have up : ∀ {s₁ s₂}, InvEndG h₀ env.locals (fun m' nx => nx = news₁ ∧ (∃ a' t', m' y = some (.int a' t') ∧ P (xs.drop (i + 1)) a') ∧ ∀ z, z ≠ x → z ≠ y → m' z = m₀ z) own s₁ s₂ →
        InvEndG h₀ env.locals (fun m' nx => (l, listOf vs.toArray nn) ∈ nx ∧ nx = news₁ ∧ (∃ a t, m' y = some (.int a t) ∧ P (xs.drop (i + 1)) a) ∧ ∀ z, z ≠ x → z ≠ y → m' z = m₀ z) own s₁ s₂ := by
      rintro s₁ s₂ ⟨h', tk, m', news', nx, e, F', N', hn, ho, ha, hj⟩
      exact ⟨h', tk, m', news', nx, e, F', N', hn, ho, ha, by rw [hj.1]; exact hl, hj⟩
    cases f with
    | ret v => exact p
    | brk => exact p
    | next => exact up p
    | cont => exact up p
  · rintro m₁ news₁ h tk ⟨rfl, ⟨a, ta, ha, hp⟩, hm⟩ F₁ N₁
    have e : xs.drop vs.length = [] := by rw [hs.len_eq]; simp
    rw [e] at hp
    refine done m₁ ta a h tk hp ?_ N₁
    rw [done_one ha hm]; exact F₁
end
section
variable {prog : Program} {w : World} {A : Around} {E : Value → Shared → Prop} {s : Shared} {h₀ : Heap} {L : Addr} {m : Str → Option Value} {news news' : List (Addr × Obj)}
/-- an item of a made list, from the front and from the end -/
theorem item_at {value slice : PySem.Expr} {D : Addr} {vs : List Value} {n : Nat} {k : Int} {u : Tok} {v : Value} {Q : Value → Shared → Prop} (N : News h₀ L s.heap news) (hm : (D, listOf vs.toArray n) ∈ news) (h0 : 0 ≤ k) (hfit : k < 2 ^ 63) (hv : vs[k.toNat]? = some v) (h : Q v s)
    (hs : subscripted slice false (.ref D) (.int k u) = operate [.ref D, .int k u] (getItem (.ref D) (.int k u)) := by with_unfolding_all rfl) :
    wpAny (model prog w) A (subscriptTail value slice (.ref D) (.int k u)) Q E s := by
  have hl : s.heap.IsList D vs.toArray := ⟨_, (N _ hm).1, rfl, n, rfl⟩
  exact tail_any hl.typeIs slot_list_getitem.lookup (wpAny_getItem_list hl h0 hfit (by simpa using hv) h) hs
theorem item_neg {value slice : PySem.Expr} {D : Addr} {vs : List Value} {n : Nat} {k : Int} {u : Tok} {v : Value} {Q : Value → Shared → Prop} (N : News h₀ L s.heap news) (hm : (D, listOf vs.toArray n) ∈ news) (h0 : k < 0) (h1 : -(vs.length : Int) ≤ k) (hfit : -(2 ^ 63) ≤ k) (hv : vs[(k + vs.length).toNat]? = some v) (h : Q v s)
    (hs : subscripted slice false (.ref D) (.int k u) = operate [.ref D, .int k u] (getItem (.ref D) (.int k u)) := by with_unfolding_all rfl) :
    wpAny (model prog w) A (subscriptTail value slice (.ref D) (.int k u)) Q E s := by
  have hl : s.heap.IsList D vs.toArray := ⟨_, (N _ hm).1, rfl, n, rfl⟩
  exact tail_any hl.typeIs slot_list_getitem.lookup (wpAny_getItem_list_neg hl h0 (by simpa using h1) hfit (by simpa using hv) h) hs
theorem item_lastOf {value slice : PySem.Expr} {D : Addr} {vs r : List Value} {n : Nat} {u : Tok} {v : Value} {Q : Value → Shared → Prop} (N : News h₀ L s.heap news) (hm : (D, listOf vs.toArray n) ∈ news) (hv : vs = r ++ [v]) (h : Q v s)
    (hs : subscripted slice false (.ref D) (.int (-1) u) = operate [.ref D, .int (-1) u] (getItem (.ref D) (.int (-1) u)) := by with_unfolding_all rfl) :
    wpAny (model prog w) A (subscriptTail value slice (.ref D) (.int (-1) u)) Q E s := by
  subst hv
  refine item_neg N hm (by omega) (by simp; omega) (by decide) ?_ h hs
  have e : (-1 + ((r ++ [v]).length : Int)).toNat = r.length := by simp; omega
  rw [e]; simp
end
/-- a text cut by three dots that stand in it has a first and a last part -/
theorem split_ends {x y : Str} (hk : Str.strKind y = 1) (h : (occurrences x y 0 x.length 1).isEmpty = false) : ∃ a mid b, Txt.split x y = a :: (mid ++ [b]) := by
  have h2 : 2 ≤ (Txt.split x y).length := by
    have h1 : ∃ i, i + y.length ≤ x.length ∧ subAt x y i = true := (StrLaws.found_iff x y).mp (by rw [h]; rfl)
    obtain ⟨i, hi, hs⟩ := h1
    unfold Txt.split
    rw [if_neg, if_neg]
    · rw [len_partsBetween]
      rcases StrLaws.occ_head x y (x.length + 1) (by omega) with ⟨_, hn⟩ | ⟨j, r, e, _⟩
      · exact absurd ⟨hi, hs⟩ (hn i)
      · rw [e]; simp
    · rcases StrLaws.occ_head x y (x.length + 1) (by omega) with ⟨_, hn⟩ | ⟨j, r, e, _⟩
      · exact absurd ⟨hi, hs⟩ (hn i)
      · rw [e]; simp
    · have : 1 ≤ Str.strKind x := by unfold Str.strKind; split <;> (try split) <;> omega
      simp only [Bool.or_eq_true, decide_eq_true_eq]; omega
  generalize Txt.split x y = l at h2
  cases l with
  | nil => simp at h2
  | cons a r =>
    have hne : r ≠ [] := by rintro rfl; simp at h2
    exact ⟨a, r.dropLast, r.getLast hne, by rw [List.dropLast_concat_getLast]⟩
section
variable {prog : Program} {w : World} {A : Around} {E : Value → Shared → Prop} {s : Shared} {h₀ : Heap} {L : Addr} {m : Str → Option Value} {news news' : List (Addr × Obj)} {x y : Str} {t u : Tok}
theorem split_em {Q : Value → Shared → Prop} (hF : Fr h₀ L s.heap m) (hN : News h₀ L s.heap news) (hk : Str.strKind y = 1) (hy : (y.length == 0) = false) (hf : (occurrences x y 0 x.length 1).isEmpty = false)
    (h : ∀ D t0 tl w0 mid wl vm h' k, Txt.split x y = w0 :: (mid ++ [wl]) → StrsAre vm mid → w0.length ≤ x.length → wl.length ≤ x.length → mid.length ≤ x.length → Fr h₀ L h' m →
      News h₀ L h' ((D, listOf (Value.str w0 t0 :: (vm ++ [Value.str wl tl])).toArray 0) :: news) → (∀ p ∈ news, p.1 < D) → Q (.ref D) { s with heap := h', toks := k }) (hsz : x.length + 2 ≤ sizeLine) :
    wpAny (model prog w) A (call (.builtin "str.split") [.str x t, .str y u]) Q E s := by
  refine split_rule hF hN hy (fun D vs h' k hs F N lt => ?_) hsz
  obtain ⟨w0, mid, wl, e⟩ := split_ends hk hf
  have hlen := split_le x y
  have b0 : w0.length ≤ x.length := part_short (y := y) (by rw [e]; exact List.mem_cons_self)
  have bl : wl.length ≤ x.length := part_short (y := y) (by rw [e]; simp)
  rw [e] at hs
  obtain ⟨t0, vr, rfl, hr⟩ := hs.cons_inv
  have hsp : ∃ vm tl, vr = vm ++ [Value.str wl tl] ∧ StrsAre vm mid := by
    have h1 := hr.take' mid.length
    have h2 := hr.drop' mid.length
    rw [List.take_left'] at h1
    · rw [List.drop_left'] at h2
      · obtain ⟨tl, v2, e2, h3⟩ := h2.cons_inv
        cases h3
        exact ⟨_, tl, by rw [← e2]; exact (List.take_append_drop _ _).symm, h1⟩
      · rfl
    · rfl
  obtain ⟨vm, tl, rfl, hm⟩ := hsp
  exact h D t0 tl w0 mid wl vm h' k e hm b0 bl (by rw [e] at hlen; simp at hlen; omega) F N lt
theorem del_first' {D : Addr} {v0 : Value} {r : List Value} {n : Nat} {v : Tok} {Q : Unit → Shared → Prop} (F : Fr h₀ L s.heap m) (N : News h₀ L s.heap news) (U : Upd D (listOf (v0 :: r).toArray n) (listOf r.toArray (n + 1)) news news') (h2 : r.length ≤ 16777215)
    (h : ∀ h', Fr h₀ L h' m → News h₀ L h' news' → Q () { s with heap := h' }) : wpAny (model prog w) A (delItem (.ref D) (.int 0 v)) Q E s :=
  del_first F N U (by simp) (by simp; omega) h
theorem del_last' {D : Addr} {v0 : Value} {r : List Value} {n : Nat} {v : Tok} {Q : Unit → Shared → Prop} (F : Fr h₀ L s.heap m) (N : News h₀ L s.heap news) (U : Upd D (listOf (r ++ [v0]).toArray n) (listOf r.toArray (n + 1)) news news') (h2 : r.length ≤ 16777215)
    (h : ∀ h', Fr h₀ L h' m → News h₀ L h' news' → Q () { s with heap := h' }) : wpAny (model prog w) A (delItem (.ref D) (.int (-1) v)) Q E s :=
  del_last F N (by rw [List.dropLast_concat]; exact U) (by simp) (by simp; omega) h
theorem del_last2 {D : Addr} {v0 v1 : Value} {r : List Value} {n : Nat} {v : Tok} {Q : Unit → Shared → Prop} (F : Fr h₀ L s.heap m) (N : News h₀ L s.heap news) (U : Upd D (listOf (v1 :: (r ++ [v0])).toArray n) (listOf (v1 :: r).toArray (n + 1)) news news') (h2 : r.length ≤ 16777214)
    (h : ∀ h', Fr h₀ L h' m → News h₀ L h' news' → Q () { s with heap := h' }) : wpAny (model prog w) A (delItem (.ref D) (.int (-1) v)) Q E s :=
  del_last' (r := v1 :: r) F N U (by simp; omega) h
end
end Mine
end
section
open PySem PySem.W PyProof.Rows PySem.Builtin PySem.Builtin.Str
set_option maxRecDepth 100000
set_option maxHeartbeats 8000000
namespace Mine
theorem fill : PySem.Challenge.rw_rw0014_01 = PySem.Challenge.rw_rw0014_01 ∧ hd.heap_39 = hd.heap_39 := by k_fill; exact ⟨rfl, rfl⟩


def dots : Str := Str.ofString "..."
def emLoop (got : Str) (hi : Int) : List Str → Int → Bool
  | [], _ => true
  | w :: r, a => if find4 got w a hi < 0 then false else emLoop got hi r (find4 got w a hi + w.length)
def emB (w0 : Str) (mid : List Str) (wl got : Str) : Bool :=
  if w0.length != 0 && !(Txt.startswith got w0) then false
  else if wl.length != 0 && !(Txt.endswith got wl) then false
  else if (got.length : Int) - wl.length < w0.length then false
  else emLoop got ((got.length : Int) - wl.length) ((if w0.length = 0 then [w0] else []) ++ (mid ++ if wl.length = 0 then [wl] else [])) w0.length
def emS (want got : Str) : Bool :=
  if (occurrences want (Str.ofString "...") 0 want.length 1).isEmpty then want == got else
  emB ((Txt.split want (Str.ofString "...")).headD Str.empty) (Txt.split want (Str.ofString "...")).tail.dropLast ((Txt.split want (Str.ofString "...")).getLastD Str.empty) got
theorem emS_of {want got w0 wl : Str} {mid : List Str} (h : (occurrences want (Str.ofString "...") 0 want.length 1).isEmpty = false) (e : Txt.split want (Str.ofString "...") = w0 :: (mid ++ [wl])) : emS want got = emB w0 mid wl got := by
  unfold emS
  rw [h, e]
  have h1 : (w0 :: (mid ++ [wl])).getLastD Str.empty = wl := by
    rw [← List.cons_append, List.getLastD_concat]
  rw [h1]; simp
theorem emS_no {want got : Str} (h : ¬ (occurrences want (Str.ofString "...") 0 want.length 1).isEmpty = false) : (want == got) = emS want got := by
  unfold emS
  simp only [Bool.not_eq_false] at h
  rw [h]; rfl
theorem emS_no' {want got : Str} (h : (occurrences want (Str.ofString "...") 0 want.length 1).isEmpty = true) : (want == got) = emS want got := by
  unfold emS
  rw [h]; rfl
theorem emLoop_start {want got w0 wl : Str} {mid xs : List Str} {a : Int} (h : (occurrences want (Str.ofString "...") 0 want.length 1).isEmpty = false) (e : Txt.split want (Str.ofString "...") = w0 :: (mid ++ [wl]))
    (h1 : w0.length ≠ 0 → Txt.startswith got w0 = true) (h2 : wl.length ≠ 0 → Txt.endswith got wl = true) (h3 : ¬ ((got.length : Int) - wl.length < w0.length))
    (hx : xs = (if w0.length = 0 then [w0] else []) ++ (mid ++ if wl.length = 0 then [wl] else [])) (ha : a = w0.length) {hi : Int} (hh : hi = (got.length : Int) - wl.length) : emLoop got hi xs a = emS want got := by
  subst hx ha hh
  rw [emS_of h e]
  unfold emB
  have q1 : (w0.length != 0 && !(Txt.startswith got w0)) = false := by
    by_cases k : w0.length = 0
    · simp [k]
    · simp [h1 k]
  have q2 : (wl.length != 0 && !(Txt.endswith got wl)) = false := by
    by_cases k : wl.length = 0
    · simp [k]
    · simp [h2 k]
  rw [q1, q2, if_neg Bool.false_ne_true, if_neg Bool.false_ne_true, if_neg h3]
structure emP (want got : Str) (hi : Int) (rest : List Str) (a : Int) : Prop where
  short : ∀ r ∈ rest, r.length ≤ want.length
  val : emLoop got hi rest a = emS want got
theorem emP.start {want got w0 wl : Str} {mid xs : List Str} {a : Int} (h : (occurrences want (Str.ofString "...") 0 want.length 1).isEmpty = false) (e : Txt.split want (Str.ofString "...") = w0 :: (mid ++ [wl]))
    (h1 : w0.length ≠ 0 → Txt.startswith got w0 = true) (h2 : wl.length ≠ 0 → Txt.endswith got wl = true) (h3 : ¬ ((got.length : Int) - wl.length < w0.length))
    (hx : xs = (if w0.length = 0 then [w0] else []) ++ (mid ++ if wl.length = 0 then [wl] else [])) (ha : a = w0.length) {hi : Int} (hh : hi = (got.length : Int) - wl.length) : emP want got hi xs a := by
  refine ⟨?_, emLoop_start h e h1 h2 h3 hx ha hh⟩
  intro r hr
  refine part_short (y := Str.ofString "...") ?_
  rw [e]
  subst hx
  simp only [List.mem_append, List.mem_cons, List.not_mem_nil, or_false] at hr ⊢
  rcases hr with hr | hr | hr
  · split at hr
    · exact .inl (by simpa using hr)
    · simp at hr
  · exact .inr (.inl hr)
  · split at hr
    · exact .inr (.inr (by simpa using hr))
    · simp at hr
theorem emP.go {want got wd : Str} {hi a : Int} {rest : List Str} (h : emP want got hi (wd :: rest) a) (k : ¬ find4 got wd a hi < 0) : emP want got hi rest (find4 got wd a hi + wd.length) := by
  refine ⟨fun r hr => h.short r (.tail _ hr), ?_⟩
  rw [← h.val]; simp [emLoop, k]
theorem emP.out {want got wd : Str} {hi a : Int} {rest : List Str} (h : emP want got hi (wd :: rest) a) (k : find4 got wd a hi < 0) : false = emS want got := by
  rw [← h.val]; simp [emLoop, k]
theorem emP.fin {want got : Str} {hi a : Int} (h : emP want got hi [] a) : true = emS want got := h.val
local macro_rules | `(tactic| walk_at "em_eq") => `(tactic| first
  | exact emP.out (by assumption) (by assumption)
  | exact emP.fin (by assumption)
  | exact emS_no (by assumption) | exact emS_no' (by assumption)
  | (rw [emS_of (by assumption) (by assumption)]; simp_all [emB]; done)
  | (rw [emS_of (by assumption) (by assumption)]; simp_all [emB]; omega))
section
variable {prog : Program} {w : World} {A : Around} {E : Value → Shared → Prop} {s : Shared} {env : Env} {h₀ : Heap} {x : Str} {body : List Stmt} {Q : Flow → Shared → Prop}
theorem em_iter {want got : Str} {l : Addr} {vs : List Value} {xs : List Str} {nn : Nat} {m₀ : Str → Option Value} {news : List (Addr × Obj)} {a₀ hi : Int} {t₀ tz : Tok}
    (hh : A.handled = none) (hl : (l, listOf vs.toArray nn) ∈ news) (hs : StrsAre vs xs) (F : Fr h₀ env.locals s.heap m₀) (N : News h₀ env.locals s.heap news) (hy : m₀ (Str.ofString "startpos") = some (.int a₀ t₀)) (_hz : m₀ (Str.ofString "endpos") = some (.int hi tz)) (hP : emP want got hi xs a₀)
    (turn : ∀ wd rest t a ta h tk own, emP want got hi (wd :: rest) a → wd.length ≤ want.length → OwnOff own (news.map (·.1)) → Fr h₀ env.locals h (fun z => if z = x then some (.str wd t) else if z = Str.ofString "startpos" then some (.int a ta) else m₀ z) → News h₀ env.locals h (news ++ own) →
      wpAny (model prog w) A (execs body env) (InvPostG h₀ env.locals (fun m' nx => nx = news ∧ (∃ a' t', m' (Str.ofString "startpos") = some (.int a' t') ∧ emP want got hi rest a') ∧ ∀ z, z ≠ x → z ≠ Str.ofString "startpos" → m' z = m₀ z) own { s with heap := h, toks := tk } Q) E { s with heap := h, toks := tk })
    (done : ∀ (u : Str → Option Value) t a h tk, emP want got hi [] a → Fr h₀ env.locals h (fun z => if z = x then u z else if z = Str.ofString "startpos" then some (.int a t) else m₀ z) → News h₀ env.locals h news → Q .next { s with heap := h, toks := tk }) :
    wpAny (model prog w) A (pyIter (.ref l)) (fun it s₂ => LoopAtV prog w A h₀ env x body Q E it s₂) E s :=
  iter_strs1 (y := Str.ofString "startpos") (emP want got hi) hh hl hs F N hy hP (fun wd rest t a ta h tk own hp _ => turn wd rest t a ta h tk own hp (hp.short _ (.head _))) done
end
section
variable {prog : Program} {w : World} {A : Around} {E : Value → Shared → Prop} {s : Shared} {h₀ : Heap} {L : Addr} {m : Str → Option Value} {news news' : List (Addr × Obj)}
theorem item_lastOf2 {value slice : PySem.Expr} {D : Addr} {v0 : Value} {r : List Value} {n : Nat} {u : Tok} {v : Value} {Q : Value → Shared → Prop} (N : News h₀ L s.heap news) (hm : (D, listOf (v0 :: (r ++ [v])).toArray n) ∈ news) (h : Q v s)
    (hs : subscripted slice false (.ref D) (.int (-1) u) = operate [.ref D, .int (-1) u] (getItem (.ref D) (.int (-1) u)) := by with_unfolding_all rfl) :
    wpAny (model prog w) A (subscriptTail value slice (.ref D) (.int (-1) u)) Q E s := item_lastOf (r := v0 :: r) N hm rfl h hs
end
local macro_rules | `(tactic| walk_at "call builtin:str.split") => `(tactic| ((with_reducible show wpAny _ _ (call (Value.builtin "str.split") _) _ _ _); (refine split_em (by k_asm) (by k_asm) (by decide +kernel) (by decide +kernel) (by assumption) ?_ (by rw [sizeLine_eq]; omega)); intro D' t0' tl' w0' mid' wl' vm' h' k' e1' e2' b1' b2' b3' F' N' l1; (try k_lt l1); (have e3' := StrsAre.len_eq e2')))
local macro_rules | `(tactic| walk_at "subscriptTail Name Constant ref int") => `(tactic| ((with_reducible show wpAny _ _ (subscriptTail _ _ (Value.ref _) (Value.int 0 _)) _ _ _); (with_unfolding_all refine item_at (by k_asm) (by k_mem) (by decide) (by decide) rfl ?_)))
local macro_rules | `(tactic| walk_at "subscriptTail") => `(tactic| ((with_reducible show wpAny _ _ (subscriptTail _ _ (Value.ref _) (Value.int (-1) _)) _ _ _); first | (with_unfolding_all refine item_lastOf (by k_asm) (by k_mem) (rfl : _ :: (_ ++ [_]) = (_ :: _) ++ [_]) ?_) | (with_unfolding_all refine item_lastOf (by k_asm) (by k_mem) rfl ?_)))
local macro_rules | `(tactic| walk_at "subscriptTail") => `(tactic| ((with_reducible show wpAny _ _ (subscriptTail _ _ (Value.ref _) (Value.int (-1) _)) _ _ _); (with_unfolding_all refine item_lastOf2 (by k_asm) (by k_mem) ?_)))
local macro_rules | `(tactic| walk_at "call builtin:len") => `(tactic| ((with_reducible show wpAny _ _ (call (Value.builtin "len") [Value.ref _]) _ _ _); (with_unfolding_all refine kst_len (by k_asm) (by k_mem) (by simp; rfl) (by omega) ?_)))
local macro_rules | `(tactic| walk_at "delete Subscript") => `(tactic| refine wpAny_delete_Subscript ?_)
local macro_rules | `(tactic| walk_at "delItem ref int") => `(tactic| ((with_reducible show wpAny _ _ (delItem (Value.ref _) (Value.int 0 _)) _ _ _); (with_reducible refine' del_first' (by k_asm) (by k_asm) ?k3 ?k4 ?_); (case k3 => k_upd); (case k4 => (simp; omega)); intro h' F' N'))
local macro_rules | `(tactic| walk_at "delItem ref int") => `(tactic| ((with_reducible show wpAny _ _ (delItem (Value.ref _) (Value.int (-1) _)) _ _ _); (with_reducible refine' del_last2 (by k_asm) (by k_asm) ?k3 ?k4 ?_); (case k3 => with_reducible k_upd); (case k4 => omega); intro h' F' N'))
local macro_rules | `(tactic| walk_at "delItem ref int") => `(tactic| ((with_reducible show wpAny _ _ (delItem (Value.ref _) (Value.int (-1) _)) _ _ _); (with_reducible refine' del_last' (by k_asm) (by k_asm) ?k3 ?k4 ?_); (case k3 => with_reducible k_upd); (case k4 => omega); intro h' F' N'))
local macro_rules | `(tactic| walk_at "InvEndG") => `(tactic| (refine InvEndG.intro (by assumption) (by assumption) ⟨rfl, ⟨_, _, by with_unfolding_all rfl, emP.go (by assumption) (by assumption)⟩, by k_same2⟩ (by assumption) (by kcf_all) (by kcf_all)))
local macro_rules | `(tactic| walk_at "call builtin:str.find") => `(tactic| ((show wpAny _ _ (call (Value.builtin "str.find") [Value.str _ _, Value.str _ _, Value.int _ _, Value.int _ _]) _ _ _); refine find4_rule ?_))

theorem em (w : World) (mean : ExcName → Option Value) (mg mb : Str → Option Value) (news : List (Addr × Obj)) (want got : Str) (t1 t2 : Tok) :
  CbClaim PySem.Challenge.rw_rw0014_01.row.prog w (hd.heap_39 w.params) hd.view_39 (looseW hd.view_39 [Str.ofString "_twin_re_1", Str.ofString "_twin_re_2"]) mean mg mb 55 news [] (want.length ≤ 1000000 ∧ got.length ≤ 1000000) [.str want t1, .str got t2] (fun _ => .bool (emS want got)) := by
  w_on
  k_with "tree" => walk_at "em_eq"
  dsimp only [CbClaim, CbLists, CbRet]; intros; rename_i hret
  refine wpAny_call ?_
  k_dflt cell_enter
  k_steps
  all_goals first
    | ((with_reducible show wpAny _ _ _ _ _ _); (rename Fr _ _ _ _ => lF'); (with_unfolding_all refine' For_invVF lF' ?k1 ?k2 ?_); (case k1 => exact rfl); (case k2 => exact rfl); k_whole; walk1)
    | (cb_end hret)
  all_goals ((rename Fr _ _ _ _ => lF'); (rename News _ _ _ _ => lN'); (with_unfolding_all refine' em_iter (want := want) (got := got) (by rfl) (by k_mem) (by first | assumption | exact kct_snoc (by assumption) | exact .cons _ _ (kct_snoc (by assumption)) | exact .cons _ _ (by assumption)) lF' lN' (by rfl) (by rfl) ?_ (fun wd' rest' t' a' ta' h' tk' own' hP' hmem' hoff' F' N' => ?_) (fun u' t' a' h' tk' hP' F' N' => ?_)); clear lF' lN'; kcf_last)
  all_goals first
    | (refine emP.start (by assumption) (by assumption) (by intro hz; first | assumption | (exfalso; omega)) (by intro hz; first | assumption | (exfalso; omega)) (by first | assumption | omega) (by first | (rw [if_pos (by omega), if_pos (by omega)]; simp; done) | (rw [if_pos (by omega), if_neg (by omega)]; simp; done) | (rw [if_neg (by omega), if_pos (by omega)]; simp; done) | (rw [if_neg (by omega), if_neg (by omega)]; simp; done)) (by omega) (by omega))
    | ((with_reducible show wpAny _ _ _ _ _ _); (try simp only [List.cons_append] at N'); k_steps)
    | k_steps
  all_goals (try (cb_end hret))


end Mine
end
section
open PySem PySem.W PyProof.Rows PySem.Builtin
set_option maxRecDepth 100000
set_option maxHeartbeats 4000000
namespace Mine
open PySem.Sre PySem.Builtin.Re

theorem runFor_done {m : Sre.M} (h : m.outcome.isSome = true) : ∀ n, m.runFor n = m
  | 0 => rfl
  | n + 1 => by unfold M.runFor; rw [if_pos h]
theorem runFor_succ (m : Sre.M) (n : Nat) : m.runFor (n + 1) = if m.outcome.isSome then m else m.step.runFor n := rfl
theorem runFor_add : ∀ (a b : Nat) (m : Sre.M), m.runFor (a + b) = (m.runFor a).runFor b
  | 0, b, m => by rw [Nat.zero_add]; rfl
  | a + 1, b, m => by
    rw [Nat.add_right_comm, runFor_succ, runFor_succ]
    by_cases h : m.outcome.isSome = true
    · rw [if_pos h, if_pos h, runFor_done h]
    · rw [if_neg h, if_neg h]
      exact runFor_add a b m.step
structure Runs (m m' : Sre.M) (n : Nat) : Prop where
  eq : m.runFor n = m'
theorem Runs.trans {m m' m'' : Sre.M} {a b : Nat} (h : Runs m m' a) (k : Runs m' m'' b) : Runs m m'' (a + b) := ⟨by rw [runFor_add, h.eq, k.eq]⟩
theorem Runs.refl (m : Sre.M) : Runs m m 0 := ⟨rfl⟩
theorem Runs.one {m m' : Sre.M} (h : m.outcome = none) (e : m.step = m') : Runs m m' 1 := ⟨by
  unfold M.runFor; rw [h, if_neg (by simp)]; rw [e]; rfl⟩

section
variable {M : Model} {A : Around} {E : Value → Shared → Prop} {s : Shared}
theorem drive_ok {m' : Sre.M} {Q : Sre.M → Shared → Prop} (ho : m'.outcome.isSome = true) (hq : Q m' s) : ∀ (turns n : Nat) (m : Sre.M), n < 4 * turns → Runs m m' n → wpAny M A (reDrive turns m) Q E s
  | 0, n, m, hn, _ => absurd hn (by omega)
  | t + 1, n, m, hn, hr => by
    unfold reDrive
    by_cases h4 : (m.runFor reTurnSteps).outcome.isSome = true
    · have e : m.runFor 4 = m' := by
        rcases Nat.le_total n 4 with h | h
        · have := hr.eq
          obtain ⟨k, hk⟩ := Nat.exists_eq_add_of_le h
          rw [hk, runFor_add, this, runFor_done ho]
        · obtain ⟨k, rfl⟩ := Nat.exists_eq_add_of_le h
          have := hr.eq
          rw [runFor_add, runFor_done (m := m.runFor 4) h4] at this
          exact this
      show wpAny M A (if (m.runFor reTurnSteps).outcome.isSome then pure (m.runFor reTurnSteps) else _) Q E s
      rw [if_pos h4]
      refine wpAny_pure ?_
      show Q (m.runFor 4) s
      rw [e]; exact hq
    · show wpAny M A (if (m.runFor reTurnSteps).outcome.isSome then pure (m.runFor reTurnSteps) else _) Q E s
      rw [if_neg h4]
      refine wpAny_bind (wpAny_rule ?_)
      rcases Nat.lt_or_ge n 4 with h | h
      · exfalso
        obtain ⟨k, hk⟩ := Nat.exists_eq_add_of_le (Nat.le_of_lt h)
        apply h4
        show (m.runFor 4).outcome.isSome = true
        rw [hk, runFor_add, hr.eq, runFor_done ho]; exact ho
      · obtain ⟨k, rfl⟩ := Nat.exists_eq_add_of_le h
        refine drive_ok ho hq t k _ (by omega) ⟨?_⟩
        have := hr.eq
        rw [runFor_add] at this
        exact this
theorem rules_ok {Q : PUnit → Shared → Prop} (f : Nat → Bool) (g : Nat → String) (hq : Q ⟨⟩ s) : ∀ l : List Nat,
    wpAny M A (forIn l PUnit.unit fun i _ => do
      if f i then rule (g i)
      pure (ForInStep.yield PUnit.unit)) Q E s
  | [] => wpAny_pure hq
  | i :: r => by
    rw [List.forIn_cons]
    refine wpAny_bind ?_
    by_cases h : f i = true
    · simp only [h, if_true]
      refine wpAny_bind (wpAny_rule (wpAny_pure ?_))
      exact rules_ok f g hq r
    · simp only [h]
      refine wpAny_bind (wpAny_pure (wpAny_pure ?_))
      exact rules_ok f g hq r
theorem toEnd_ok {m m' : Sre.M} {n : Nat} {Q : Option Sre.M → Shared → Prop} (hr : Runs m m' n) (hn : n < 2 ^ 60) (ho : m'.outcome = some .matched ∨ m'.outcome = some .failed)
    (h1 : m'.outcome = some .matched → Q (some m') s) (h2 : m'.outcome = some .failed → Q none s) : wpAny M A (reRunToEnd m) Q E s := by
  unfold reRunToEnd
  refine wpAny_bind (drive_ok (m' := m') (by rcases ho with h | h <;> rw [h] <;> rfl) ?_ _ n m (by omega) hr)
  refine wpAny_bind (rules_ok _ _ ?_ _)
  rcases ho with h | h
  · rw [h]; exact wpAny_pure (h1 h)
  · rw [h]; exact wpAny_pure (h2 h)
end
end Mine
end
section
open PySem PySem.W PySem.Builtin
set_option maxRecDepth 100000
set_option maxHeartbeats 4000000
namespace Mine
open PySem.Builtin.Re
def C1 : Array Nat := #[14,4,0,1,1,6,1,16,46,1]
def C2 : Array Nat := #[14,9,4,1,2,16,10,16,13,0,7,7,16,13,16,10,15,18,5,16,10,15,13,11,16,13,5,5,0,16,10,1,15,2,0,1]
def bs (c T : Array Nat) (start : Nat) (must om : Bool) (pc pos handed : Nat) (fs : List Sre.Frame) (weight : Nat) (ans : Option Bool) (seen : Sre.Seen) : Sre.M :=
  { code := c, text := T, lim := T.size, start, lastStart := T.size, wholeText := false, mustAdvance := must, pc, pos, handed, outermost := om, marks := #[], lastmark := -1, lastindex := -1, loops := #[], inner := none, frames := fs, weight, answer := ans, seen, outcome := none }
def fin (m : Sre.M) (o : Sre.Outcome) : Sre.M := { m with outcome := some o }
def ns (pc s : Nat) (om : Bool) : Sre.Frame := { wait := .nextStart, pc, pos := s, outermost := om }
section
variable {T : Array Nat} {s h w p st : Nat} {must om om' : Bool} {seen : Sre.Seen} {fs : List Sre.Frame}
theorem a_at : (bs C1 T s must om 5 s h fs w none seen).step = if (s == 0 || T.getD (s - 1) 0 == 10) = true then bs C1 T s must om 7 s h fs w none ((seen.add 6).add 44) else bs C1 T s must om 5 s h fs w (some false) ((seen.add 6).add 44) := rfl
theorem a_lit : (bs C1 T s must om 7 s h fs w none seen).step = if s ≥ T.size then bs C1 T s must om 7 s h fs w (some false) (seen.add 16) else if (T.getD s 0 == 46) = true then bs C1 T s must om 9 (s + 1) h fs w none (seen.add 16) else bs C1 T s must om 7 s h fs w (some false) (seen.add 16) := by
  show (if s ≥ T.size then _ else match (Except.ok (T.getD s 0 == 46, seen.add 16) : Except String (Bool × Sre.Seen)) with
    | .error why => _
    | .ok (false, sn) => _
    | .ok (true, sn) => _) = _
  by_cases h0 : s ≥ T.size
  · rw [if_pos h0, if_pos h0]; rfl
  · rw [if_neg h0, if_neg h0]
    cases T.getD s 0 == 46 <;> rfl
theorem a_suc : (bs C1 T s must om 9 (s + 1) h fs w none seen).step = bs C1 T s must om 9 (s + 1) (s + 1) fs w (some true) (seen.add 1) := by
  show (if (om && ((false && _) || (must && (s + 1 == s)))) = true then _ else _) = _
  have e : (s + 1 == s) = false := by simp
  rw [e]; simp only [Bool.false_and, Bool.and_false, Bool.or_false]; rfl
theorem a_yes : (bs C1 T s must om p st h [ns 5 s om'] 1 (some true) seen).step = bs C1 T s must om' 5 s h [] 0 (some true) seen := rfl
theorem a_no (hs : s < T.size) : (bs C1 T s must om p st h [ns 5 s om'] 1 (some false) seen).step = bs C1 T (s + 1) false false 5 (s + 1) (s + 1) [ns 5 (s + 1) false] 1 none seen := by
  show (if s < T.size then _ else _) = _
  rw [if_pos hs]; rfl
theorem a_no_end (hs : ¬ s < T.size) : (bs C1 T s must om p st h [ns 5 s om'] 1 (some false) seen).step = bs C1 T s must om' 5 s h [] 0 (some false) seen := by
  show (if s < T.size then _ else _) = _
  rw [if_neg hs]; rfl
theorem g_end {c : Array Nat} {b : Bool} : (bs c T s must om p st h [] w (some b) seen).step = fin (bs c T s must om p st h [] w (some b) seen) (if b then .matched else .failed) := rfl
def bol (T : Array Nat) (s : Nat) : Bool := s == 0 || T.getD (s - 1) 0 == 10
def hitA (T : Array Nat) (s : Nat) : Bool := bol T s && decide (s < T.size) && T.getD s 0 == 46
def nfA (T : Array Nat) : Nat → Nat → Option Nat
  | 0, _ => none
  | k + 1, s => if hitA T s then some s else nfA T k (s + 1)
structure Ends (m : Sre.M) (r : Option (Nat × Nat)) (n : Nat) : Prop where
  ends : ∃ m', Runs m m' n ∧ match r with
    | some (b, e) => m'.outcome = some .matched ∧ m'.start = b ∧ m'.handed = e
    | none => m'.outcome = some .failed
theorem Ends.step {m m' : Sre.M} {r : Option (Nat × Nat)} {n : Nat} (h : m.outcome = none) (e : m.step = m') (k : Ends m' r n) : Ends m r (1 + n) := by
  obtain ⟨m'', h1, h2⟩ := k.ends
  exact ⟨m'', (Runs.one h e).trans h1, h2⟩
theorem Ends.of {m : Sre.M} {r : Option (Nat × Nat)} (h : match r with
    | some (b, e) => m.outcome = some .matched ∧ m.start = b ∧ m.handed = e
    | none => m.outcome = some .failed) : Ends m r 0 := ⟨m, .refl m, h⟩
theorem Ends.hit {m : Sre.M} {b e : Nat} (h1 : m.outcome = some .matched) (h2 : m.start = b) (h3 : m.handed = e) : Ends m (some (b, e)) 0 := ⟨m, .refl m, h1, h2, h3⟩
theorem Ends.le {m : Sre.M} {r : Option (Nat × Nat)} {n k : Nat} (h : Ends m r n) (e : n ≤ k) : Ends m r k := by
  obtain ⟨m', h1, h2⟩ := h.ends
  refine ⟨m', ?_, h2⟩
  obtain ⟨d, rfl⟩ := Nat.exists_eq_add_of_le e
  refine h1.trans ⟨runFor_done ?_ d⟩
  cases r with
  | none => rw [h2]; rfl
  | some p => rw [h2.1]; rfl
theorem endsA : ∀ (k s : Nat) (must om : Bool) (seen : Sre.Seen), s + k = T.size → Ends (bs C1 T s must om 5 s s [ns 5 s om] 1 none seen) ((nfA T (k + 1) s).map fun b => (b, b + 1)) (10 * (k + 1)) := by
  intro k
  induction k with
  | zero =>
    intro s must om seen hk
    have hit : hitA T s = false := by unfold hitA; simp; intro _ h; omega
    have e : (nfA T 1 s) = none := by unfold nfA; rw [hit]; rfl
    rw [e]
    have key : ∀ p sn, Ends (bs C1 T s must om p s s [ns 5 s om] 1 (some false) sn) none 2 := fun p sn => .step rfl (a_no_end (by omega)) (.step rfl g_end (.of rfl))
    by_cases hb : (s == 0 || T.getD (s - 1) 0 == 10) = true
    · exact (Ends.step rfl (by rw [a_at, if_pos hb]) (Ends.step rfl (by rw [a_lit, if_pos (by omega)]) (key _ _))).le (by omega)
    · exact (Ends.step rfl (by rw [a_at, if_neg hb]) (key _ _)).le (by omega)
  | succ k ih =>
    intro s must om seen hk
    have hlt : s < T.size := by omega
    have key : ∀ p sn, hitA T s = false → Ends (bs C1 T s must om p s s [ns 5 s om] 1 (some false) sn) ((nfA T (k + 1 + 1) s).map fun b => (b, b + 1)) (1 + 10 * (k + 1)) := fun p sn hh => by
      have e : nfA T (k + 1 + 1) s = nfA T (k + 1) (s + 1) := by rw [nfA, hh]; rfl
      rw [e]
      exact .step rfl (a_no hlt) (ih (s + 1) false false sn (by omega))
    by_cases hb : (s == 0 || T.getD (s - 1) 0 == 10) = true
    · by_cases hc : (T.getD s 0 == 46) = true
      · have hit : hitA T s = true := by unfold hitA bol; rw [hb, hc]; simp [hlt]
        have e : nfA T (k + 1 + 1) s = some s := by rw [nfA, hit]; rfl
        rw [e]
        exact (Ends.step rfl (by rw [a_at, if_pos hb]) (Ends.step rfl (by rw [a_lit, if_neg (by omega), if_pos hc]) (Ends.step rfl a_suc (Ends.step rfl a_yes (Ends.step rfl g_end (.hit rfl rfl rfl)))))).le (by omega)
      · have hit : hitA T s = false := by unfold hitA; rw [(Bool.not_eq_true _).mp hc, Bool.and_false]
        exact (Ends.step rfl (by rw [a_at, if_pos hb]) (Ends.step rfl (by rw [a_lit, if_neg (by omega), if_neg hc]) (key _ _ hit))).le (by omega)
    · have hit : hitA T s = false := by unfold hitA bol; rw [(Bool.not_eq_true _).mp hb, Bool.false_and, Bool.false_and]
      exact (Ends.step rfl (by rw [a_at, if_neg hb]) (key _ _ hit)).le (by omega)
def findA (T : Array Nat) (s : Nat) : Option (Nat × Nat) := if s < T.size then (nfA T (T.size - s + 1) s).map fun b => (b, b + 1) else none
theorem searchA (s : Nat) (hs : s ≤ T.size) (must : Bool) : Ends (Sre.forSearch C1 T 0 s T.size must) (findA T s) (10 * (T.size + 2)) := by
  by_cases h : s < T.size
  · have c : (decide (s > T.size) || decide (T.size - s < 1)) = false := by simp; omega
    have e : Sre.forSearch C1 T 0 s T.size must = bs C1 T s must true 5 s s [ns 5 s true] 1 none ((({} : Sre.Seen)).add 14) := by
      show (if (decide (s > T.size) || decide (T.size - s < 1)) = true then _ else _) = _
      rw [c]; rfl
    rw [e]
    unfold findA
    rw [if_pos h]
    exact (endsA (T.size - s) s must true _ (by omega)).le (by omega)
  · have c : (decide (s > T.size) || decide (T.size - s < 1)) = true := by simp; omega
    unfold findA
    rw [if_neg h]
    show Ends (if (decide (s > T.size) || decide (T.size - s < 1)) = true then _ else _) none _
    rw [c]
    exact (Ends.step rfl rfl (.of (by exact rfl))).le (by omega)

def kp : Sre.Kept := { lastmark := -1, lastindex := -1, whole := false, marks := #[] }
def nb (pc s : Nat) (om : Bool) : Sre.Frame := { wait := .nextBranch, pc, pos := s, outermost := om, kept := kp }
def lk (s : Nat) (om : Bool) : Sre.Frame := { wait := .lookNot, pc := 26, pos := s, outermost := om, kept := kp }
theorem b_br : (bs C2 T s must om 10 s h [ns 10 s om'] 1 none seen).step = bs C2 T s must om 12 s s [nb 11 s om, ns 10 s om'] 2 none (seen.add 7) := rfl
theorem lit_yes {pc c : Nat} (hp : (pc, c) ∈ [(12, 13), (14, 10), (19, 10), (24, 13), (29, 10)]) (hs : p < T.size) (hc : T.getD p 0 = c) : (bs C2 T s must om pc p h fs w none seen).step = bs C2 T s must om (pc + 2) (p + 1) h fs w none (seen.add 16) := by
  have key : ∀ (a : Bool), a = true → (if p ≥ T.size then (bs C2 T s must om pc p h fs w none (seen.add 16)).say false else match (Except.ok (a, seen.add 16) : Except String (Bool × Sre.Seen)) with
    | .error why => (bs C2 T s must om pc p h fs w none (seen.add 16)).stick why
    | .ok (false, sn) => ({ bs C2 T s must om pc p h fs w none (seen.add 16) with seen := sn }).say false
    | .ok (true, sn) => { bs C2 T s must om pc p h fs w none (seen.add 16) with seen := sn, pc := pc + 2, pos := p + 1 }) = bs C2 T s must om (pc + 2) (p + 1) h fs w none (seen.add 16) := by
    rintro a rfl
    rw [if_neg (by omega)]; rfl
  have k2 := key (T.getD p 0 == c) (by simpa using hc)
  simp only [List.mem_cons, Prod.mk.injEq, List.not_mem_nil, or_false] at hp
  rcases hp with ⟨rfl, rfl⟩ | ⟨rfl, rfl⟩ | ⟨rfl, rfl⟩ | ⟨rfl, rfl⟩ | ⟨rfl, rfl⟩ <;> exact k2
theorem lit_no {pc c : Nat} (hp : (pc, c) ∈ [(12, 13), (14, 10), (19, 10), (24, 13), (29, 10)]) (hs : ¬ (p < T.size ∧ T.getD p 0 = c)) : (bs C2 T s must om pc p h fs w none seen).step = bs C2 T s must om pc p h fs w (some false) (seen.add 16) := by
  have key : ∀ (a : Bool), ¬ (p < T.size ∧ a = true) → (if p ≥ T.size then (bs C2 T s must om pc p h fs w none (seen.add 16)).say false else match (Except.ok (a, seen.add 16) : Except String (Bool × Sre.Seen)) with
    | .error why => (bs C2 T s must om pc p h fs w none (seen.add 16)).stick why
    | .ok (false, sn) => ({ bs C2 T s must om pc p h fs w none (seen.add 16) with seen := sn }).say false
    | .ok (true, sn) => { bs C2 T s must om pc p h fs w none (seen.add 16) with seen := sn, pc := pc + 2, pos := p + 1 }) = bs C2 T s must om pc p h fs w (some false) (seen.add 16) := by
    intro a ha
    by_cases h : p ≥ T.size
    · rw [if_pos h]; rfl
    · rw [if_neg h]
      cases a with
      | true => exact absurd ⟨by omega, rfl⟩ ha
      | false => rfl
  have k2 := key (T.getD p 0 == c) (by rintro ⟨h1, h2⟩; exact hs ⟨h1, by simpa using h2⟩)
  simp only [List.mem_cons, Prod.mk.injEq, List.not_mem_nil, or_false] at hp
  rcases hp with ⟨rfl, rfl⟩ | ⟨rfl, rfl⟩ | ⟨rfl, rfl⟩ | ⟨rfl, rfl⟩ | ⟨rfl, rfl⟩ <;> exact k2
theorem b_jump {pc : Nat} (hp : pc ∈ [16, 21, 32]) : (bs C2 T s must om pc p h fs w none seen).step = bs C2 T s must om 35 p h fs w none (seen.add 15) := by
  simp only [List.mem_cons, List.not_mem_nil, or_false] at hp
  rcases hp with rfl | rfl | rfl <;> rfl
theorem b_suc : (bs C2 T s false om 35 p h fs w none seen).step = bs C2 T s false om 35 p p fs w (some true) (seen.add 1) := by
  cases om <;> rfl
theorem b_nb_yes {q x : Nat} : (bs C2 T s must om p st h [nb q x om', ns 10 s om'] 2 (some true) seen).step = bs C2 T s must om' q x h [ns 10 s om'] 1 (some true) seen := rfl
theorem b_ns_yes : (bs C2 T s must om p st h [ns 10 s om'] 1 (some true) seen).step = bs C2 T s must om' 10 s h [] 0 (some true) seen := rfl
theorem b_nb_no {q r x : Nat} (hq : (q, r) ∈ [(11, 18), (18, 23)]) : (bs C2 T s must om p st h [nb q x om', ns 10 s om'] 2 (some false) seen).step = bs C2 T s must om' (r + 1) x x [nb r x om', ns 10 s om'] 2 none seen := by
  simp only [List.mem_cons, Prod.mk.injEq, List.not_mem_nil, or_false] at hq
  rcases hq with ⟨rfl, rfl⟩ | ⟨rfl, rfl⟩ <;> rfl
theorem b_look {x : Nat} : (bs C2 T s must om 26 p h [nb 23 x om', ns 10 s om'] 2 none seen).step = bs C2 T s must false 29 p p [lk p om, nb 23 x om', ns 10 s om'] 3 none (seen.add 5) := rfl
theorem b_lk_no {x : Nat} : (bs C2 T s must false 29 p h [lk p om, nb 23 x om', ns 10 s om'] 3 (some false) seen).step = bs C2 T s must om 32 p h [nb 23 x om', ns 10 s om'] 2 none seen := rfl
def wid (T : Array Nat) (s : Nat) : Nat := if T.getD s 0 = 13 ∧ s + 1 < T.size ∧ T.getD (s + 1) 0 = 10 then 2 else 1
theorem endsB (hs : s < T.size) (hc : T.getD s 0 = 10 ∨ T.getD s 0 = 13) : Ends (bs C2 T s false om 10 s s [ns 10 s om] 1 none seen) (some (s, s + wid T s)) 20 := by
  by_cases h13 : T.getD s 0 = 13
  · by_cases h2 : s + 1 < T.size ∧ T.getD (s + 1) 0 = 10
    · have e : wid T s = 2 := if_pos ⟨h13, h2⟩
      rw [e]
      exact (Ends.step rfl b_br <| .step rfl (lit_yes (c := 13) (by decide) hs h13) <| .step rfl (lit_yes (c := 10) (by decide) h2.1 h2.2) <| .step rfl (b_jump (by decide)) <| .step rfl b_suc <|
        .step rfl b_nb_yes <| .step rfl b_ns_yes <| .step rfl g_end <| .hit rfl rfl rfl).le (by omega)
    · have e : wid T s = 1 := if_neg fun h => h2 h.2
      rw [e]
      exact (Ends.step rfl b_br <| .step rfl (lit_yes (c := 13) (by decide) hs h13) <| .step rfl (lit_no (c := 10) (by decide) h2) <| .step rfl (b_nb_no (r := 18) (by decide)) <|
        .step rfl (lit_no (c := 10) (by decide) (fun h => by omega)) <| .step rfl (b_nb_no (r := 23) (by decide)) <| .step rfl (lit_yes (c := 13) (by decide) hs h13) <| .step rfl b_look <|
        .step rfl (lit_no (c := 10) (by decide) h2) <| .step rfl b_lk_no <| .step rfl (b_jump (by decide)) <| .step rfl b_suc <|
        .step rfl b_nb_yes <| .step rfl b_ns_yes <| .step rfl g_end <| .hit rfl rfl rfl).le (by omega)
  · have h10 : T.getD s 0 = 10 := by omega
    have e : wid T s = 1 := if_neg fun h => h13 h.1
    rw [e]
    exact (Ends.step rfl b_br <| .step rfl (lit_no (c := 13) (by decide) (fun h => h13 h.2)) <| .step rfl (b_nb_no (r := 18) (by decide)) <|
        .step rfl (lit_yes (c := 10) (by decide) hs h10) <| .step rfl (b_jump (by decide)) <| .step rfl b_suc <|
        .step rfl b_nb_yes <| .step rfl b_ns_yes <| .step rfl g_end <| .hit rfl rfl rfl).le (by omega)
def hitB (T : Array Nat) (s : Nat) : Bool := T.getD s 0 == 10 || T.getD s 0 == 13
def nfB (T : Array Nat) : Nat → Nat → Option Nat
  | 0, _ => none
  | k + 1, s => if s < T.size then (if hitB T s then some s else nfB T k (s + 1)) else none
theorem nfB_spec : ∀ (k s b : Nat), nfB T k s = some b → b < T.size ∧ hitB T b = true
  | 0, _, _, h => nomatch h
  | k + 1, s, b, h => by
    rw [nfB] at h
    split at h
    · rename_i hs
      split at h
      · rename_i hh; cases h; exact ⟨hs, hh⟩
      · exact nfB_spec k _ _ h
    · cases h
theorem inSetB (c : Nat) (sn : Sre.Seen) : ∃ sn', Sre.inSet C2 c C2.size 5 true sn = .ok (c == 10 || c == 13, sn') := by
  have e : Sre.inSet C2 c C2.size 5 true sn = if (c == 10) = true then .ok (true, sn.add 16) else if (c == 13) = true then .ok (true, (sn.add 16).add 16) else .ok (false, ((sn.add 16).add 16).add 0) := rfl
  rw [e]
  by_cases h1 : (c == 10) = true
  · rw [if_pos h1]; exact ⟨_, by rw [h1]; rfl⟩
  · rw [if_neg h1]
    by_cases h2 : (c == 13) = true
    · rw [if_pos h2]; exact ⟨_, by rw [h2, Bool.or_true]⟩
    · rw [if_neg h2]; exact ⟨_, by rw [(Bool.not_eq_true _).mp h1, (Bool.not_eq_true _).mp h2]; rfl⟩
theorem admB (m : Sre.M) (hc : m.code = C2) (ht : m.text = T) (hl : m.lim = T.size) : ∀ (k s : Nat) (sn : Sre.Seen), ∃ sn', Sre.M.admitted m k s sn = .ok (nfB T k s, sn')
  | 0, s, sn => ⟨sn, rfl⟩
  | k + 1, s, sn => by
    rw [Sre.M.admitted, nfB, hl, hc, ht]
    by_cases h : s ≥ T.size
    · rw [if_pos h, if_neg (by omega)]; exact ⟨_, rfl⟩
    · rw [if_neg h, if_pos (by omega)]
      obtain ⟨sn', e⟩ := inSetB (T.getD s 0) sn
      rw [e]
      unfold hitB
      cases T.getD s 0 == 10 || T.getD s 0 == 13 with
      | true => exact ⟨_, rfl⟩
      | false => exact admB m hc ht hl k (s + 1) sn'
def findB (T : Array Nat) (s : Nat) : Option (Nat × Nat) := if s < T.size then (nfB T (T.size + 1 - s) s).map fun b => (b, b + wid T b) else none
theorem searchB (s : Nat) (hs : s ≤ T.size) (must : Bool) : Ends (Sre.forSearch C2 T 0 s T.size must) (findB T s) 20 := by
  by_cases h : s < T.size
  · have c : (decide (s > T.size) || decide (T.size - s < 1)) = false := by simp; omega
    have e : Sre.forSearch C2 T 0 s T.size must = (match Sre.M.admitted (bs C2 T s must true 10 s s [] 0 none ((({} : Sre.Seen)).add 14)) (T.size + 1 - s) s ((({} : Sre.Seen)).add 14) with
      | .ok (some b, sn) => bs C2 T b false true 10 b b [ns 10 b true] 1 none sn
      | .ok (none, sn) => bs C2 T s must true 10 s s [] 0 (some false) sn
      | .error why => (bs C2 T s must true 10 s s [] 0 none ((({} : Sre.Seen)).add 14)).stick why) := by
      show (if (decide (s > T.size) || decide (T.size - s < 1)) = true then _ else _) = _
      rw [c]; rfl
    obtain ⟨sn, e2⟩ := admB (T := T) (bs C2 T s must true 10 s s [] 0 none ((({} : Sre.Seen)).add 14)) rfl rfl rfl (T.size + 1 - s) s ((({} : Sre.Seen)).add 14)
    rw [e, e2]
    unfold findB
    rw [if_pos h]
    cases hb : nfB T (T.size + 1 - s) s with
    | none => exact (Ends.step rfl g_end (.of (by exact rfl))).le (by omega)
    | some b =>
      obtain ⟨q1, q2⟩ := nfB_spec _ _ _ hb
      exact endsB q1 (by unfold hitB at q2; simpa using q2)
  · have c : (decide (s > T.size) || decide (T.size - s < 1)) = true := by simp; omega
    unfold findB
    rw [if_neg h]
    show Ends (if (decide (s > T.size) || decide (T.size - s < 1)) = true then _ else _) none _
    rw [c]
    exact (Ends.step rfl rfl (.of (by exact rfl))).le (by omega)
end
end Mine
end
section
open PySem PySem.W PyProof.Rows PySem.Builtin
set_option maxRecDepth 100000
set_option maxHeartbeats 4000000
namespace Mine
open PySem.Builtin.Re
structure PatAt (h : Heap) (P : Addr) (code : Array Nat) : Prop where
  ex : ∃ (fs : Array Value) (T : Addr) (ws : Array Value) (n : Nat), h.get? P = some { cls := .type "re.Pattern", data := .fields fs } ∧ fs.getD 5 .none = .ref T ∧ reRawNat (fs.getD 2 .none) = 0 ∧ reRawNat (fs.getD 6 .none) = 0 ∧
    h.get? T = some { cls := .type "tuple", data := .seq ws n } ∧ (ws.map reRawOf).map (·.toNat) = code
theorem PatAt.keeps {h h' : Heap} {P : Addr} {code : Array Nat} (x : PatAt h P code) (hk : ∀ b o, h.get? b = some o → h'.get? b = some o) : PatAt h' P code := by
  obtain ⟨fs, T, ws, n, h1, h2, h3, h4, h5, h6⟩ := x.ex
  exact ⟨fs, T, ws, n, hk _ _ h1, h2, h3, h4, hk _ _ h5, h6⟩
theorem PatAt.keeps' {h h' : Heap} {P l : Addr} {code : Array Nat} {items : Array Value} {c : Nat} (x : PatAt h P code) (hl : h.get? l = some { cls := .type "list", data := .seq items c }) (hk : ∀ b o, b ≠ l → h.get? b = some o → h'.get? b = some o) : PatAt h' P code := by
  obtain ⟨fs, T, ws, n, h1, h2, h3, h4, h5, h6⟩ := x.ex
  refine ⟨fs, T, ws, n, hk _ _ ?_ h1, h2, h3, h4, hk _ _ ?_ h5, h6⟩
  · rintro rfl; rw [hl] at h1; simp at h1
  · rintro rfl; rw [hl] at h5; simp at h5
section
variable {M : Model} {A : Around} {E : Value → Shared → Prop} {s : Shared} {P l : Addr} {code : Array Nat} {x : PySem.Str} {t : Tok}
def tgt (P : Addr) (code : Array Nat) (x : PySem.Str) (t : Tok) : ReTarget := { pattern := .ref P, string := .str x t, code, text := x.cps, kind := 0, groups := 0, pos := 0, lim := x.cps.size }
theorem whole_ok {Q : ReTarget → Shared → Prop} (hp : PatAt s.heap P code) (h : Q (tgt P code x t) s) : wpAny M A (reWholeTarget (.ref P) (.str x t)) Q E s := by
  obtain ⟨fs, T, ws, n, h1, h2, h3, h4, h5, h6⟩ := hp.ex
  obtain ⟨hp, g, d, tk, os⟩ := s
  unfold reWholeTarget
  wp_walk
  rw [h4]
  wp_walk
  rw [h2]
  wp_walk
  rw [h3]
  show Q { pattern := .ref P, string := .str x t, code := (ws.map reRawOf).map (·.toNat), text := x.cps, kind := 0, groups := 0, pos := 0, lim := x.cps.size } _
  rw [h6]
  exact h
theorem lit_ok {r : PySem.Str} {Q : Unit → Shared → Prop} (h : Q () s) : wpAny M A (reLiteralCannotBeTurned (.str r t)) Q E s := by
  unfold reLiteralCannotBeTurned
  wp_walk
  exact h
theorem found_ok {Q : Option Sre.M → Shared → Prop} {d : Nat} {must : Bool} {r : Option (Nat × Nat)} {n : Nat} (hn : n < 2 ^ 60) (he : Ends (Sre.forSearch code x.cps 0 d x.cps.size must) r n)
    (h1 : ∀ b e m, r = some (b, e) → m.start = b → m.handed = e → Q (some m) s) (h2 : r = none → Q none s) : wpAny M A (reNextFound (tgt P code x t) d must) Q E s := by
  obtain ⟨m', hr, hm⟩ := he.ends
  cases r with
  | none => exact toEnd_ok hr hn (.inr hm) (fun e => by rw [hm] at e; cases e) (fun _ => h2 rfl)
  | some p =>
    obtain ⟨b, e⟩ := p
    exact toEnd_ok hr hn (.inl hm.1) (fun _ => h1 b e m' rfl hm.2.1 hm.2.2) (fun e => by rw [hm.1] at e; cases e)
end
section
variable {M : Model} {A : Around} {E : Value → Shared → Prop} {s : Shared} {l : Addr} {items : Array Value} {c : Nat}
theorem push_ok {v : Value} {Q : Unit → Shared → Prop} (hl : s.heap.get? l = some { cls := .type "list", data := .seq items c }) (hz : items.size ≤ 1048576)
    (h : ∀ h', h'.get? l = some { cls := .type "list", data := .seq (items.push v) (c + 1) } → (∀ b, b ≠ l → h'.get? b = s.heap.get? b) → Q () { s with heap := h' }) : wpAny M A (updateSeq l fun x => x.push v) Q E s := by
  refine wpAny_updateSeq hl rfl (h _ ?_ fun b hb => Heap.get?_update_other _ _ (Ne.symm hb)) (by rw [sizeLine_eq]; omega) (by rw [sizeLine_eq, Array.size_push]; omega)
  rw [Heap.get?_update_self _ hl rfl]
  simp [Obj.mapSeq]
theorem slice_ok {x : PySem.Str} {d b : Nat} {Q : Value → Shared → Prop} (hb : b ≤ x.cps.size) (hz : x.cps.size ≤ 1048576) (h : ∀ t' k, Q (.str ⟨x.cps.extract d b⟩ t') { s with toks := k }) : wpAny M A (reSlice x.cps 0 d b) Q E s := by
  unfold reSlice
  rw [if_pos (by rfl)]
  exact wpAny_mkStr (h _ _) (by rw [sizeLine_eq]; show (x.cps.extract d b).size ≤ _; rw [Array.size_extract]; omega)
end
theorem strs_push {vs : Array Value} {ys : List PySem.Str} {y : PySem.Str} {t : Tok} (h : StrsAre vs.toList ys) : StrsAre (vs.push (.str y t)).toList (ys ++ [y]) := by
  rw [Array.toList_push]; exact kct_snoc h
section
variable {x r : PySem.Str} {P l : Addr} {code : Array Nat} {t tr : Tok}
theorem plain_loop : plainId "re.Pattern.sub.loop" = true := by decide +kernel
theorem entry_loop : entryFor table "re.Pattern.sub.loop" = some Builtin.«re.Pattern.sub.loop» := entryFor_of_fast (by kernel_rfl)
def subL (find : Nat → Option (Nat × Nat)) (x r : PySem.Str) : Nat → Nat → List PySem.Str
  | 0, _ => []
  | k + 1, d => match find d with
    | some (b, e) => (if d < b then [⟨x.cps.extract d b⟩] else []) ++ (r :: subL find x r k e)
    | none => if d < x.cps.size then [⟨x.cps.extract d x.cps.size⟩] else []
theorem loop_ok {prog : Program} {w : World} {A : Around} {R : Result → Shared → Prop} (find : Nat → Option (Nat × Nat)) (nf : Nat) (hnf : nf < 2 ^ 60) (hfind : ∀ d must, d ≤ x.cps.size → Ends (Sre.forSearch code x.cps 0 d x.cps.size must) (find d) nf)
    (hgo : ∀ d b e, find d = some (b, e) → d ≤ b ∧ b < e ∧ e ≤ x.cps.size) (hr : r.length ≤ 2) (hx : x.cps.size ≤ 100000) : ∀ (k d n : Nat) (must : Bool) (items : Array Value) (c : Nat) (ys : List PySem.Str) (s : Shared), x.cps.size - d < k → d ≤ x.cps.size → PatAt s.heap P code →
      s.heap.get? l = some { cls := .type "list", data := .seq items c } → StrsAre items.toList ys → (ys.map (·.length)).sum + ys.length + 6 * (x.cps.size - d) + 10 ≤ 1048576 →
      (∀ h' tk t', (∀ b, b ≠ l → h'.get? b = s.heap.get? b) → R (.ok (.ret (.str (Txt.join PySem.Str.empty (ys ++ subL find x r k d)) t'))) { s with heap := h', toks := tk }) →
      wpAny (model prog w) A.in1 (Builtin.«re.Pattern.sub.loop» ⟨[.ref P, .str x t, .str r tr, rawInt 0, rawInt 0, rawInt n, rawInt d, rawInt d, .bool must, .ref l, .bool false], []⟩) (fun fin s' => match fin with | .done f => R (.ok f) s' | .again c' => c'.quiet = true ∧ codeAny (model prog w) A c' R s') (fun e s' => R (.error e) s') s := by
  intro k
  induction k with
  | zero => intro d _ _ _ _ _ _ h; omega
  | succ k ih =>
    intro d n must items c ys s hk hd hp hl hi hw hR
    refine wpAny_bind (whole_ok hp ?_)
    wp_step
    refine wpAny_bind (lit_ok ?_)
    dsimp only
    refine wpAny_bind ?_
    rw [if_neg (by simp)]
    rw [Int.toNat_natCast]
    refine found_ok (r := find d) hnf (hfind d must hd) ?_ ?_
    · intro b e m hf hb he
      obtain ⟨g1, g2, g3⟩ := hgo d b e hf
      dsimp only
      rw [hb, he]
      have hu : subL find x r (k + 1) d = (if d < b then [⟨x.cps.extract d b⟩] else []) ++ (r :: subL find x r k e) := by rw [subL, hf]
      rw [hu] at hR
      have hlen : items.size = ys.length := by rw [← hi.length]; simp
      have tail : ∀ (items' : Array Value) (c' : Nat) (ys' : List PySem.Str) (h₁ : Heap) (tk₁ : Nat), h₁.get? l = some { cls := .type "list", data := .seq items' c' } → (∀ b, b ≠ l → h₁.get? b = s.heap.get? b) → StrsAre items'.toList ys' →
          (ys'.map (·.length)).sum + ys'.length + 5 + 6 * (x.cps.size - e) + 10 ≤ 1048576 → (∀ q, ys' ++ (r :: q) = ys ++ ((if d < b then [⟨x.cps.extract d b⟩] else []) ++ r :: q)) →
          wpAny (model prog w) A.in1 (do
            updateSeq l fun x => x.push (Value.str r tr)
            again (Code.builtin "re.Pattern.sub.loop" { pos := [Value.ref P, Value.str x t, Value.str r tr, rawInt 0, rawInt 0, rawInt (↑n + 1), rawInt ↑e, rawInt ↑e, Value.bool (e == b), Value.ref l, Value.bool false] }))
            (fun fin s' => match fin with | .done f => R (.ok f) s' | .again c' => c'.quiet = true ∧ codeAny (model prog w) A c' R s') (fun e s' => R (.error e) s') { s with heap := h₁, toks := tk₁ } := by
        intro items' c' ys' h₁ tk₁ hl' hk' hi' hw' hys
        have hlen' : items'.size = ys'.length := by rw [← hi'.length]; simp
        refine wpAny_bind (push_ok hl' (by omega) fun h₂ hl₂ hk₂ => ?_)
        refine wpAny_pure ⟨plainId_quiet plain_loop _, codeAny_builtin entry_loop ?_⟩
        rw [Around.under_plainId plain_loop _]
        have hn : ((n : Int) + 1) = ((n + 1 : Nat) : Int) := by push_cast; rfl
        rw [hn]
        refine ih e (n + 1) (e == b) _ _ (ys' ++ [r]) _ (by omega) g3 ?_ hl₂ (strs_push hi') ?_ ?_
        · refine PatAt.keeps' hp hl fun b o hb hbo => ?_
          rw [hk₂ b hb, hk' b hb]; exact hbo
        · simp only [List.map_append, List.sum_append, List.map_cons, List.map_nil, List.sum_cons, List.sum_nil, List.length_append, List.length_cons, List.length_nil]
          omega
        · intro h₃ tk₃ t' hk₃
          have := hR h₃ tk₃ t' fun b hb => by rw [hk₃ b hb, hk₂ b hb, hk' b hb]
          rw [List.append_assoc, List.singleton_append, hys]
          exact this
      by_cases hdb : d < b
      · rw [if_pos hdb]
        refine wpAny_bind (slice_ok (x := x) (by omega) (by omega) fun t' k' => ?_)
        refine wpAny_bind (push_ok hl (by omega) fun h₁ hl₁ hk₁ => ?_)
        refine tail _ _ (ys ++ [⟨x.cps.extract d b⟩]) _ _ hl₁ hk₁ (strs_push hi) ?_ ?_
        · simp only [List.map_append, List.sum_append, List.map_cons, List.map_nil, List.sum_cons, List.sum_nil, List.length_append, List.length_cons, List.length_nil]
          have : (PySem.Str.mk (x.cps.extract d b)).length ≤ b - d := by show (x.cps.extract d b).size ≤ _; rw [Array.size_extract]; omega
          omega
        · intro q; rw [if_pos hdb]; simp
      · rw [if_neg hdb]
        refine tail _ _ ys _ _ hl (fun _ _ => rfl) hi (by omega) ?_
        intro q; rw [if_neg hdb]; simp
    · intro hf
      dsimp only
      have hu : subL find x r (k + 1) d = if d < x.cps.size then [⟨x.cps.extract d x.cps.size⟩] else [] := by rw [subL, hf]
      rw [hu] at hR
      have hlen : items.size = ys.length := by rw [← hi.length]; simp
      have tail : ∀ (items' : Array Value) (c' : Nat) (ys' : List PySem.Str) (h₁ : Heap) (tk₁ : Nat), h₁.get? l = some { cls := .type "list", data := .seq items' c' } → (∀ b, b ≠ l → h₁.get? b = s.heap.get? b) → StrsAre items'.toList ys' →
          (ys'.map (·.length)).sum + ys'.length ≤ 1048576 → ys' = ys ++ (if d < x.cps.size then [⟨x.cps.extract d x.cps.size⟩] else []) →
          wpAny (model prog w) A.in1 (do
            let joiner ← reSlice (tgt P code x t).text (tgt P code x t).kind 0 0
            let text ← if ((← seqItems? (.ref l)).getD #[]).isEmpty then pure joiner
              else call (.builtin (if (tgt P code x t).kind == 0 then "str.join" else "bytes.join")) [joiner, .ref l]
            if false then ret (← holding [text] do newTuple [text, ← mkInt n]) else ret text)
            (fun fin s' => match fin with | .done f => R (.ok f) s' | .again c' => c'.quiet = true ∧ codeAny (model prog w) A c' R s') (fun e s' => R (.error e) s') { s with heap := h₁, toks := tk₁ } := by
        intro items' c' ys' h₁ tk₁ hl' hk' hi' hw' hys
        refine wpAny_bind (slice_ok (x := x) (by omega) (by omega) fun t' k' => ?_)
        rw [show (tgt P code x t).kind = 0 from rfl]
        have hfin : ∀ t₂ k₂, wpAny (model prog w) A.in1 (ret (.str (Txt.join PySem.Str.empty ys') t₂)) (fun fin s' => match fin with | .done f => R (.ok f) s' | .again c' => c'.quiet = true ∧ codeAny (model prog w) A c' R s') (fun e s' => R (.error e) s') { s with heap := h₁, toks := k₂ } := by
          intro t₂ k₂
          refine wpAny_pure ?_
          have := hR h₁ k₂ t₂ hk'
          rw [← hys] at this
          exact this
        have hsq : ∀ {Q : Option (Array Value) → Shared → Prop} {E : Value → Shared → Prop} {B : Around} {tk₂ : Nat}, Q (some items') { s with heap := h₁, toks := tk₂ } → wpAny (model prog w) B (seqItems? (.ref l)) Q E { s with heap := h₁, toks := tk₂ } := by
          intro Q E B tk₂ hq
          unfold seqItems?
          refine wpAny_bind (wpAny_load hl' ?_)
          exact wpAny_pure hq
        refine wpAny_bind (hsq ?_)
        simp only [Option.getD_some, Bool.false_eq_true, if_false]
        by_cases hemp : items'.isEmpty = true
        · rw [if_pos hemp]
          refine wpAny_bind (wpAny_pure ?_)
          have h0 : ys' = [] := by
            have := hi'.length
            rw [Array.isEmpty_iff.mp hemp] at this
            simpa using this.symm
          have := hfin t' k'
          rw [h0] at this
          have e0 : (PySem.Str.mk (x.cps.extract 0 0)) = Txt.join PySem.Str.empty [] := by
            show PySem.Str.mk _ = PySem.Str.mk #[]
            simp
          rw [e0]; exact this
        · rw [if_neg hemp]
          have e0 : (PySem.Str.mk (x.cps.extract 0 0)) = PySem.Str.empty := by
            show PySem.Str.mk _ = PySem.Str.mk #[]
            simp
          rw [e0, if_pos (by rfl)]
          refine wpAny_bind (join_listW ⟨_, hl', rfl, _, rfl⟩ hi' (by decide) hw' fun t₂ k₂ => ?_)
          exact hfin t₂ k₂
      by_cases hdb : d < x.cps.size
      · rw [show (tgt P code x t).lim = x.cps.size from rfl, if_pos hdb]
        refine wpAny_bind (slice_ok (x := x) (by omega) (by omega) fun t' k' => ?_)
        refine wpAny_bind (push_ok hl (by omega) fun h₁ hl₁ hk₁ => ?_)
        refine tail _ _ (ys ++ [⟨x.cps.extract d x.cps.size⟩]) _ _ hl₁ hk₁ (strs_push hi) ?_ ?_
        · simp only [List.map_append, List.sum_append, List.map_cons, List.map_nil, List.sum_cons, List.sum_nil, List.length_append, List.length_cons, List.length_nil]
          have : (PySem.Str.mk (x.cps.extract d x.cps.size)).length ≤ x.cps.size - d := by show (x.cps.extract d x.cps.size).size ≤ _; rw [Array.size_extract]; omega
          omega
        · rw [if_pos hdb]
      · rw [show (tgt P code x t).lim = x.cps.size from rfl, if_neg hdb]
        refine tail _ _ ys _ _ hl (fun _ _ => rfl) hi (by omega) ?_
        rw [if_neg hdb]; simp
end
end Mine
end
section
open PySem PySem.W PyProof.Rows PySem.Builtin
set_option maxRecDepth 100000
set_option maxHeartbeats 4000000
namespace Mine
open PySem.Builtin.Re
theorem plainAttrs_pat : PlainAttrs "re.Pattern" :=
  ⟨⟨"object.__getattribute__", by rw [typeLookup_type, builtinLookup_eq_fast]; kernel_rfl, by decide +kernel⟩, by rw [typeLookup_type, builtinLookup_eq_fast]; kernel_rfl⟩
theorem slot_sub : Slot "re.Pattern" "sub" "re.Pattern.sub" :=
  .of (owner := "re.Pattern") (n := "sub") (by rw [typeLookup_type, builtinLookup_eq_fast]; kernel_rfl) (by decide +kernel) (by decide +kernel) (by decide +kernel)
    (by first | exact .inl (by decide +kernel) | exact .inr (by decide +kernel)) (by rw [isSubtype_type]; kernel_rfl)
theorem type_sub : typeOf (.builtin "re.Pattern.sub") = pure (.type "method_descriptor") := by show builtinType _ = _; rw [builtinType_eq_fast]; kernel_rfl
theorem entry_sub : entryFor table "re.Pattern.sub" = some Builtin.«re.Pattern.sub» := entryFor_of_tree (by kernel_rfl)
theorem args_sub (a b c : Value) : argsOk "re.Pattern.sub" ⟨[a, b, c], []⟩ := by unfold argsOk; kernel_rfl
theorem noCall : typeLookup (.type "str") "__call__" = pure none := by rw [typeLookup_type, builtinLookup_eq_fast]; kernel_rfl
theorem named_eq (a b : Value) : reNamed "re.Pattern.sub" "sub" ["repl", "string", "count"] 2 [a, b] [] = pure [some a, some b, none] := by rfl

section
variable {prog : Program} {w : World} {A : Around} {E : Value → Shared → Prop} {s : Shared} {P : Addr} {code : Array Nat} {x r : PySem.Str} {t tr : Tok} {Q : Value → Shared → Prop}
theorem sub_call (find : Nat → Option (Nat × Nat)) (nf : Nat) (hnf : nf < 2 ^ 60) (hp : PatAt s.heap P code) (hfind : ∀ d must, d ≤ x.cps.size → Ends (Sre.forSearch code x.cps 0 d x.cps.size must) (find d) nf)
    (hgo : ∀ d b e, find d = some (b, e) → d ≤ b ∧ b < e ∧ e ≤ x.cps.size) (hr : r.length ≤ 2) (hb : r.cps.contains 92 = false) (hx : x.cps.size ≤ 100000)
    (h : ∀ h' tk t', (∀ b o, s.heap.get? b = some o → h'.get? b = some o) → Q (.str (Txt.join PySem.Str.empty (subL find x r (x.cps.size + 1) 0)) t') { s with heap := h', toks := tk }) :
    wpAny (model prog w) A (call (.builtin "re.Pattern.sub") [.ref P, .str r tr, .str x t]) Q E s := by
  have hT : s.TypeIs (.ref P) "re.Pattern" := by
    obtain ⟨fs, T, ws, n, h1, _⟩ := hp.ex
    exact ⟨_, h1, rfl⟩
  refine wpAny_call (codeAny_call_builtin slot_sub.plain entry_sub (slot_sub.check _ _ _ _ _ _ _ _ hT (args_sub _ _ _) ?_))
  have hS : s.TypeIs (.str r tr) "str" := typeIs_str _ _ _
  obtain ⟨hp0, g, dr, tk, os⟩ := s
  have hnc := noCall
  show wpAny (model prog w) A.in1 (reSubstitute "re.Pattern.sub" "sub" false ⟨[.ref P, .str r tr, .str x t], []⟩) _ _ _
  unfold reSubstitute
  dsimp only
  rw [named_eq]
  refine wpAny_bind (wpAny_pure ?_)
  dsimp only
  refine wpAny_bind (wpAny_pure ?_)
  refine wpAny_bind (wpAny_specialOf hS hnc ?_)
  simp only [Option.isSome_none, Bool.false_eq_true, if_false, asStr?, hb, Bool.not_false, if_true]
  refine wpAny_bind (wpAny_pure ?_)
  dsimp only
  refine wpAny_bind (wpAny_pure ?_)
  rw [if_pos (by rw [hb]; rfl)]
  refine wpAny_bind (wpAny_pure ?_)
  dsimp only
  refine wpAny_bind (wpAny_holding (whole_ok hp ?_))
  rw [if_neg (by decide)]
  refine wpAny_bind ?_
  wp_walk
  refine ⟨plainId_quiet plain_loop _, codeAny_builtin entry_loop ?_⟩
  rw [Around.under_plainId plain_loop _]
  exact loop_ok (R := fun r s' => match r with | .ok (.ret v) => Q v s' | .ok _ => False | .error e => E e s') find nf hnf hfind hgo hr hx (x.cps.size + 1) 0 0 false #[] 0 [] _ (by omega) (by omega) (hp.keeps fun b o e => Heap.get?_push_of_some _ e) (Heap.get?_push_size _ rfl) .nil (by simp; omega)
    (fun h' tk t' hk => h h' tk t' fun b o e => by rw [hk b (Nat.ne_of_lt (Heap.lt_size e))]; exact Heap.get?_push_of_some _ e)
end

def flat (ys : List PySem.Str) : List Nat := ys.flatMap fun y => y.cps.toList
theorem join_flat (ys : List PySem.Str) : Txt.join PySem.Str.empty ys = ⟨(flat ys).toArray⟩ := by
  show PySem.Builtin.Str.glued PySem.Str.empty ys = _
  rw [StrLaws.glued_eq_join]
  have key : ∀ ys : List PySem.Str, (PySem.Str.join PySem.Str.empty ys).cps = (flat ys).toArray := by
    intro ys
    induction ys with
    | nil => rfl
    | cons y r ih =>
      cases r with
      | nil => simp [PySem.Str.join, flat]
      | cons z r =>
        show (y ++ PySem.Str.empty ++ PySem.Str.join PySem.Str.empty (z :: r)).cps = _
        rw [PySem.Str.cps_append, PySem.Str.cps_append, ih]
        show y.cps ++ #[] ++ _ = _
        simp [flat]
  have := key ys
  cases h : PySem.Str.join PySem.Str.empty ys
  rw [h] at this
  exact congrArg _ this

def crlf : List Nat → List Nat
  | [] => []
  | [c] => if c == 10 || c == 13 then [13, 10] else [c]
  | c :: d :: r => if c == 13 && d == 10 then 13 :: 10 :: crlf r else if c == 10 || c == 13 then 13 :: 10 :: crlf (d :: r) else c :: crlf (d :: r)
def dt : Bool → List Nat → List Nat
  | _, [] => []
  | b, c :: r => if b && c == 46 then 46 :: 46 :: dt false r else c :: dt (c == 10) r
def sl (l : List Nat) (a b : Nat) : List Nat := (l.drop a).take (b - a)
theorem crlf_plain {c : Nat} {r : List Nat} (h : (c == 10 || c == 13) = false) : crlf (c :: r) = c :: crlf r := by
  have h13 : (c == 13) = false := by simp at h ⊢; exact h.2
  cases r with
  | nil => simp only [crlf, h]; rfl
  | cons d r => simp only [crlf, h13, h, Bool.false_and, Bool.false_eq_true, if_false]; rw [show (c == 10 || false) = false by rw [h13] at h; exact h]; rfl
theorem getD_list {T : Array Nat} {s : Nat} (h : s < T.size) : T.toList.drop s = T.getD s 0 :: T.toList.drop (s + 1) := by
  rw [List.drop_eq_getElem_cons (by simpa using h)]
  congr 1
  simp [Array.getD, h]
theorem nfB_some {T : Array Nat} : ∀ (k s b : Nat), nfB T k s = some b → s ≤ b ∧ crlf (T.toList.drop s) = sl T.toList s b ++ (13 :: 10 :: crlf (T.toList.drop (b + wid T b))) := by
  intro k
  induction k with
  | zero => intro s b h; exact nomatch h
  | succ k ih =>
    intro s b h
    rw [nfB] at h
    by_cases hs : s < T.size
    · rw [if_pos hs] at h
      by_cases hh : hitB T s = true
      · rw [if_pos hh] at h
        cases h
        refine ⟨Nat.le_refl _, ?_⟩
        have e0 : sl T.toList s s = [] := by simp [sl]
        rw [e0, List.nil_append, getD_list hs]
        unfold hitB at hh
        unfold wid
        by_cases h2 : s + 1 < T.size
        · rw [getD_list h2, crlf]
          by_cases h3 : T.getD s 0 = 13 ∧ T.getD (s + 1) 0 = 10
          · rw [if_pos (by simpa using h3), if_pos ⟨h3.1, h2, h3.2⟩]
          · rw [if_neg (by simpa using h3), if_pos hh, if_neg (fun q => h3 ⟨q.1, q.2.2⟩), ← getD_list h2]
        · have e1 : T.toList.drop (s + 1) = [] := by simp; omega
          rw [e1, crlf, if_pos hh, if_neg (fun q => h2 q.2.1), e1]
          rfl
      · rw [if_neg hh] at h
        obtain ⟨h1, h2⟩ := ih _ _ h
        refine ⟨by omega, ?_⟩
        have e0 : sl T.toList s b = T.getD s 0 :: sl T.toList (s + 1) b := by
          unfold sl
          rw [getD_list hs, show b - s = (b - (s + 1)) + 1 by omega, List.take_succ_cons]
        rw [e0, List.cons_append, ← h2, getD_list hs]
        exact crlf_plain (by unfold hitB at hh; simpa using hh)
    · rw [if_neg hs] at h; cases h
theorem nfB_none {T : Array Nat} : ∀ (k s : Nat), T.size < s + k → nfB T k s = none → crlf (T.toList.drop s) = T.toList.drop s := by
  intro k
  induction k with
  | zero => intro s hk _; have e1 : T.toList.drop s = [] := by simp; omega
            rw [e1]; rfl
  | succ k ih =>
    intro s hk h
    rw [nfB] at h
    by_cases hs : s < T.size
    · rw [if_pos hs] at h
      by_cases hh : hitB T s = true
      · rw [if_pos hh] at h; cases h
      · rw [if_neg hh] at h
        rw [getD_list hs, crlf_plain (by unfold hitB at hh; simpa using hh), ih _ (by omega) h]
    · have e1 : T.toList.drop s = [] := by simp; omega
      rw [e1]; rfl
theorem bol_next {T : Array Nat} {s : Nat} : bol T (s + 1) = (T.getD s 0 == 10) := by simp [bol]
theorem nfA_some {T : Array Nat} : ∀ (k s b : Nat), nfA T k s = some b → s ≤ b ∧ b < T.size ∧ dt (bol T s) (T.toList.drop s) = sl T.toList s b ++ (46 :: 46 :: dt (bol T (b + 1)) (T.toList.drop (b + 1))) := by
  intro k
  induction k with
  | zero => intro s b h; exact nomatch h
  | succ k ih =>
    intro s b h
    rw [nfA] at h
    by_cases hh : hitA T s = true
    · rw [if_pos hh] at h
      cases h
      unfold hitA at hh
      simp only [Bool.and_eq_true, decide_eq_true_eq] at hh
      obtain ⟨⟨h1, h2⟩, h3⟩ := hh
      refine ⟨Nat.le_refl _, h2, ?_⟩
      have e0 : sl T.toList s s = [] := by simp [sl]
      rw [e0, List.nil_append, getD_list h2, dt, h1, h3, if_pos (by rfl), bol_next]
      have : T.getD s 0 = 46 := by simpa using h3
      rw [this]; rfl
    · rw [if_neg hh] at h
      obtain ⟨h1, hb, h2⟩ := ih _ _ h
      have hs : s < T.size := by omega
      refine ⟨by omega, hb, ?_⟩
      have e0 : sl T.toList s b = T.getD s 0 :: sl T.toList (s + 1) b := by
        unfold sl
        rw [getD_list hs, show b - s = (b - (s + 1)) + 1 by omega, List.take_succ_cons]
      rw [e0, List.cons_append, ← h2, getD_list hs, dt, if_neg, bol_next]
      intro q
      simp only [Bool.and_eq_true] at q
      exact hh (by unfold hitA; simp only [Bool.and_eq_true, decide_eq_true_eq]; exact ⟨⟨q.1, hs⟩, q.2⟩)
theorem nfA_none {T : Array Nat} : ∀ (k s : Nat), T.size < s + k → nfA T k s = none → dt (bol T s) (T.toList.drop s) = T.toList.drop s := by
  intro k
  induction k with
  | zero => intro s hk _; have e1 : T.toList.drop s = [] := by simp; omega
            rw [e1]; rfl
  | succ k ih =>
    intro s hk h
    rw [nfA] at h
    by_cases hs : s < T.size
    · by_cases hh : hitA T s = true
      · rw [if_pos hh] at h; cases h
      · rw [if_neg hh] at h
        have := ih _ (by omega) h
        rw [getD_list hs, dt, if_neg, ← bol_next, this]
        intro q
        simp only [Bool.and_eq_true] at q
        exact hh (by unfold hitA; simp only [Bool.and_eq_true, decide_eq_true_eq]; exact ⟨⟨q.1, hs⟩, q.2⟩)
    · have e1 : T.toList.drop s = [] := by simp; omega
      rw [e1]; rfl
theorem extract_sl (T : Array Nat) (a b : Nat) : (T.extract a b).toList = sl T.toList a b := by
  simp [sl]
theorem flat_cons (y : PySem.Str) (r : List PySem.Str) : flat (y :: r) = y.cps.toList ++ flat r := by simp [flat]
theorem flat_opt {c : Prop} [Decidable c] (T : Array Nat) (a b : Nat) (h : c ↔ a < b) (r : List PySem.Str) : flat ((if c then [⟨T.extract a b⟩] else []) ++ r) = sl T.toList a b ++ flat r := by
  by_cases hc : c
  · rw [if_pos hc, List.singleton_append, flat_cons, extract_sl]
  · rw [if_neg hc, List.nil_append]
    have : b - a = 0 := by have := mt h.mpr hc; omega
    simp [sl, this]
theorem sl_all (T : Array Nat) (a : Nat) : sl T.toList a T.size = T.toList.drop a := by
  simp [sl, List.take_of_length_le]
theorem wid_pos (T : Array Nat) (b : Nat) : 1 ≤ wid T b ∧ wid T b ≤ 2 := by unfold wid; split <;> omega
theorem wid_le {T : Array Nat} {b : Nat} (h : b < T.size) : b + wid T b ≤ T.size := by
  by_cases q : T.getD b 0 = 13 ∧ b + 1 < T.size ∧ T.getD (b + 1) 0 = 10
  · have : wid T b = 2 := if_pos q
    have := q.2.1
    omega
  · have : wid T b = 1 := if_neg q
    omega
def crlfS : PySem.Str := ⟨#[13, 10]⟩
def dotS : PySem.Str := ⟨#[46, 46]⟩
theorem subB_flat (x : PySem.Str) : ∀ (k d : Nat), x.cps.size < d + k → flat (subL (findB x.cps) x crlfS k d) = crlf (x.cps.toList.drop d) := by
  intro k
  induction k with
  | zero => intro d h; have e1 : x.cps.toList.drop d = [] := by simp; omega
            rw [e1]; rfl
  | succ k ih =>
    intro d h
    rw [subL]
    cases hf : findB x.cps d with
    | none =>
      dsimp only
      have e : crlf (x.cps.toList.drop d) = x.cps.toList.drop d := by
        unfold findB at hf
        split at hf
        · refine nfB_none (x.cps.size + 1 - d) d (by omega) ?_
          cases hn : nfB x.cps (x.cps.size + 1 - d) d with
          | none => rfl
          | some b => rw [hn] at hf; cases hf
        · have e1 : x.cps.toList.drop d = [] := by simp; omega
          rw [e1]; rfl
      rw [e]
      have := flat_opt (c := d < x.cps.size) x.cps d x.cps.size Iff.rfl []
      rw [List.append_nil] at this
      rw [this, sl_all]; simp [flat]
    | some p =>
      obtain ⟨b, e⟩ := p
      dsimp only
      unfold findB at hf
      split at hf
      · rename_i hd
        cases hn : nfB x.cps (x.cps.size + 1 - d) d with
        | none => rw [hn] at hf; cases hf
        | some b' =>
          rw [hn] at hf
          cases hf
          obtain ⟨h1, h2⟩ := nfB_some _ _ _ hn
          have hw := wid_pos x.cps b
          rw [flat_opt x.cps d b Iff.rfl, flat_cons, ih _ (by omega), h2]
          rfl
      · cases hf
theorem subA_flat (x : PySem.Str) : ∀ (k d : Nat), x.cps.size < d + k → flat (subL (findA x.cps) x dotS k d) = dt (bol x.cps d) (x.cps.toList.drop d) := by
  intro k
  induction k with
  | zero => intro d h; have e1 : x.cps.toList.drop d = [] := by simp; omega
            rw [e1]; rfl
  | succ k ih =>
    intro d h
    rw [subL]
    cases hf : findA x.cps d with
    | none =>
      dsimp only
      have e : dt (bol x.cps d) (x.cps.toList.drop d) = x.cps.toList.drop d := by
        unfold findA at hf
        split at hf
        · refine nfA_none (x.cps.size - d + 1) d (by omega) ?_
          cases hn : nfA x.cps (x.cps.size - d + 1) d with
          | none => rfl
          | some b => rw [hn] at hf; cases hf
        · have e1 : x.cps.toList.drop d = [] := by simp; omega
          rw [e1]; rfl
      rw [e]
      have := flat_opt (c := d < x.cps.size) x.cps d x.cps.size Iff.rfl []
      rw [List.append_nil] at this
      rw [this, sl_all]; simp [flat]
    | some p =>
      obtain ⟨b, e⟩ := p
      dsimp only
      unfold findA at hf
      split at hf
      · rename_i hd
        cases hn : nfA x.cps (x.cps.size - d + 1) d with
        | none => rw [hn] at hf; cases hf
        | some b' =>
          rw [hn] at hf
          cases hf
          obtain ⟨h1, hb, h2⟩ := nfA_some _ _ _ hn
          rw [flat_opt x.cps d b Iff.rfl, flat_cons, ih _ (by omega), h2]
          rfl
      · cases hf
def crlfT (x : PySem.Str) : PySem.Str := ⟨(crlf x.cps.toList).toArray⟩
def stuffT (x : PySem.Str) : PySem.Str := ⟨(dt true x.cps.toList).toArray⟩
section
variable {prog : Program} {w : World} {A : Around} {E : Value → Shared → Prop} {s : Shared} {P : Addr} {x : PySem.Str} {t tr : Tok} {Q : Value → Shared → Prop}
theorem sub_crlf (hp : PatAt s.heap P C2) (hx : x.cps.size ≤ 100000) (h : ∀ h' tk t', (∀ b o, s.heap.get? b = some o → h'.get? b = some o) → Q (.str (crlfT x) t') { s with heap := h', toks := tk }) :
    wpAny (model prog w) A (call (.builtin "re.Pattern.sub") [.ref P, .str crlfS tr, .str x t]) Q E s := by
  refine sub_call (findB x.cps) 20 (by decide) hp (fun d must hd => searchB d hd must) ?_ (by decide) (by decide +kernel) hx ?_
  · intro d b e hf
    unfold findB at hf
    split at hf
    · cases hn : nfB x.cps (x.cps.size + 1 - d) d with
      | none => rw [hn] at hf; cases hf
      | some b' =>
        rw [hn] at hf
        cases hf
        obtain ⟨h1, _⟩ := nfB_some _ _ _ hn
        have hs := (nfB_spec _ _ _ hn).1
        have hw := wid_pos x.cps b
        exact ⟨h1, by omega, wid_le hs⟩
    · cases hf
  · intro h' tk t' hk
    have e : Txt.join PySem.Str.empty (subL (findB x.cps) x crlfS (x.cps.size + 1) 0) = crlfT x := by
      rw [join_flat, subB_flat x _ _ (by omega)]; rfl
    rw [e]; exact h h' tk t' hk
theorem sub_stuff (hp : PatAt s.heap P C1) (hx : x.cps.size ≤ 100000) (h : ∀ h' tk t', (∀ b o, s.heap.get? b = some o → h'.get? b = some o) → Q (.str (stuffT x) t') { s with heap := h', toks := tk }) :
    wpAny (model prog w) A (call (.builtin "re.Pattern.sub") [.ref P, .str dotS tr, .str x t]) Q E s := by
  refine sub_call (findA x.cps) (10 * (x.cps.size + 2)) (by omega) hp (fun d must hd => searchA d hd must) ?_ (by decide) (by decide +kernel) hx ?_
  · intro d b e hf
    unfold findA at hf
    split at hf
    · cases hn : nfA x.cps (x.cps.size - d + 1) d with
      | none => rw [hn] at hf; cases hf
      | some b' =>
        rw [hn] at hf
        cases hf
        obtain ⟨h1, hb, _⟩ := nfA_some _ _ _ hn
        exact ⟨h1, by omega, by omega⟩
    · cases hf
  · intro h' tk t' hk
    have e : Txt.join PySem.Str.empty (subL (findA x.cps) x dotS (x.cps.size + 1) 0) = stuffT x := by
      rw [join_flat, subA_flat x _ _ (by omega)]; rfl
    rw [e]; exact h h' tk t' hk
end
end Mine
end
section
open PySem PySem.W PyProof.Rows PySem.Builtin PySem.Builtin.Str
set_option maxRecDepth 100000
set_option maxHeartbeats 8000000
namespace Mine
theorem fillQ : PySem.Challenge.rw_rw0014_01 = PySem.Challenge.rw_rw0014_01 ∧ hd.heap_39 = hd.heap_39 := by k_fill; exact ⟨rfl, rfl⟩
theorem pat1 {P : Params} {h : Heap} (X : (hd.heap_39 P).In h) : PatAt h 36 C1 :=
  ⟨_, _, _, _, X 36 _ rfl, rfl, rfl, rfl, X 35 _ rfl, by decide +kernel⟩
theorem pat2 {P : Params} {h : Heap} (X : (hd.heap_39 P).In h) : PatAt h 41 C2 :=
  ⟨_, _, _, _, X 41 _ rfl, rfl, rfl, rfl, X 40 _ rfl, by decide +kernel⟩
section
variable {prog : Program} {w : World} {A : Around} {E : Value → Shared → Prop} {s : Shared} {h₀ : Heap} {L P : Addr} {m : Str → Option Value} {news : List (Addr × Obj)} {x : PySem.Str} {t tr : Tok} {code : Array Nat}
theorem sub_get {pl : Sem Bool} {Q : Value × List Value → Shared → Prop} (hp : PatAt h₀ P code) (F : Fr h₀ L s.heap m) (h : Q (.builtin "re.Pattern.sub", [.ref P]) s) : wpAny (model prog w) A (getMethod (.ref P) (Str.ofString "sub") pl) Q E s := by
  obtain ⟨fs, T, ws, n, h1, _⟩ := (hp.keeps F.keep).ex
  exact getMethod_builtin ⟨_, h1, rfl⟩ plainAttrs_pat slot_sub type_sub (fun a e => by cases e; exact ⟨_, h1, rfl⟩) h
theorem sub_crlfN {Q : Value → Shared → Prop} (hp : PatAt h₀ P C2) (F : Fr h₀ L s.heap m) (N : News h₀ L s.heap news) (hx : x.length ≤ 100000) (h : ∀ h' tk t', Fr h₀ L h' m → News h₀ L h' news → Q (.str (crlfT x) t') { s with heap := h', toks := tk }) :
    wpAny (model prog w) A (call (.builtin "re.Pattern.sub") [.ref P, .str (Str.ofString "\r\n") tr, .str x t]) Q E s := by
  rw [show Str.ofString "\r\n" = crlfS from by decide +kernel]
  exact sub_crlf (hp.keeps F.keep) hx fun h' tk t' hk => h h' tk t' (F.keeps hk) (N.grown hk)
theorem sub_stuffN {Q : Value → Shared → Prop} (hp : PatAt h₀ P C1) (F : Fr h₀ L s.heap m) (N : News h₀ L s.heap news) (hx : x.length ≤ 100000) (h : ∀ h' tk t', Fr h₀ L h' m → News h₀ L h' news → Q (.str (stuffT x) t') { s with heap := h', toks := tk }) :
    wpAny (model prog w) A (call (.builtin "re.Pattern.sub") [.ref P, .str (Str.ofString "..") tr, .str x t]) Q E s := by
  rw [show Str.ofString ".." = dotS from by decide +kernel]
  exact sub_stuff (hp.keeps F.keep) hx fun h' tk t' hk => h h' tk t' (F.keeps hk) (N.grown hk)
end
def qdT (x : Str) : Str := stuffT (crlfT x)
theorem crlf_len : ∀ l : List Nat, (crlf l).length ≤ 2 * l.length
  | [] => by simp [crlf]
  | [c] => by simp only [crlf]; split <;> simp
  | c :: d :: r => by
    have h1 := crlf_len r
    have h2 := crlf_len (d :: r)
    rw [crlf]
    simp only [List.length_cons] at *
    split
    · simp only [List.length_cons]; omega
    · split <;> simp only [List.length_cons] <;> omega
theorem crlfT_len (x : Str) : (crlfT x).length ≤ 2 * x.length := by
  have := crlf_len x.cps.toList
  simpa [crlfT, Str.length] using this
local macro_rules | `(tactic| walk_at "getMethod ref") => `(tactic| ((with_reducible show wpAny _ _ (getMethod (Value.ref _) _ _) _ _ _); refine sub_get (by first | exact pat1 (by assumption) | exact pat2 (by assumption)) (by k_asm) ?_))
local macro_rules | `(tactic| walk_at "call builtin:re.Pattern.sub") => `(tactic| ((show wpAny _ _ (call (Value.builtin "re.Pattern.sub") [Value.ref _, Value.str _ _, Value.str _ _]) _ _ _); first | (refine sub_crlfN (pat2 (by assumption)) (by k_asm) (by k_asm) (by omega) ?_) | (refine sub_stuffN (pat1 (by assumption)) (by k_asm) (by k_asm) (by (refine Nat.le_trans (crlfT_len _) ?_); omega) ?_)); intro h' tk' t' F' N')
theorem qd (w : World) (mean : ExcName → Option Value) (mg mb : Str → Option Value) (news : List (Addr × Obj)) (x : Str) (t1 : Tok) :
  CbClaim PySem.Challenge.rw_rw0014_01.row.prog w (hd.heap_39 w.params) hd.view_39 (looseW hd.view_39 [Str.ofString "_twin_re_1", Str.ofString "_twin_re_2"]) mean mg mb 48 news [] (x.length ≤ 20000) [.str x t1] (fun t => .str (qdT x) t) := by
  w_on
  dsimp only [CbClaim, CbLists, CbRet]; intros; rename_i hret
  refine wpAny_call ?_
  k_dflt cell_enter
  k_steps
  all_goals (try (cb_end hret))


end Mine
end
section
open PySem PySem.W PyProof.Rows PySem.Builtin PySem.Spec PySem.Calls
set_option maxRecDepth 100000
set_option maxHeartbeats 4000000
namespace Mine
open LCg
def one (c : Nat) : PySem.Str := ⟨#[c]⟩
section
variable {prog : Program} {w : World} {A : Around} {E : Value → Shared → Prop} {s : Shared} {h₀ : Heap} {L : Addr} {m : Str → Option Value} {env : Env}
theorem iterS {z : Str} {t : Tok} {Q : Value → Shared → Prop} (hh : A.handled = none) (h : ∀ (o : Obj) (St : Nat → Heap → Prop), Walks prog w A s.heap.objs.size [s.heap.objs.size] [s.heap.objs.size] z.cps.size (SignAt z) St → (∀ i h, St i h → ∃ o, h.get? s.heap.objs.size = some o) →
    St 0 (s.heap.push o) → Q (.ref s.heap.objs.size) { s with heap := s.heap.push o }) : wpAny (model prog w) A (pyIter (.str z t)) Q E s := by
  cases ha : z.cps.all (· < 128)
  · exact wpAny_pyIter_wide ha (h _ _ (Walks.strWide hh _ z t) (fun i h st => let ⟨o, e, _⟩ := st; ⟨o, e⟩) ⟨_, Heap.get?_push_size _ rfl, rfl, rfl⟩)
  · exact wpAny_pyIter_ascii ha (h _ _ (Walks.strAscii hh _ z t) (fun i h st => let ⟨o, e, _⟩ := st; ⟨o, e⟩) ⟨_, Heap.get?_push_size _ rfl, rfl, rfl⟩)
theorem strs_snoc {y : PySem.Str} {t : Tok} {vs : List Value} {ys : List PySem.Str} (h : StrsAre vs ys) : StrsAre (vs ++ [.str y t]) (ys ++ [y]) := kct_snoc h
/-- a comprehension whose element gives a text: over any items -/
theorem crest_S {α : Type} {elt : Expr} {x : Str} {scope : Scope} {cl : List (Str × Addr)} {S : List (Addr × Obj) → Prop} {P : Nat → Value → Prop} {Fin : List Value → List (Addr × Obj) → Prop} {news : List (Addr × Obj)} {n : Nat} (xs : List α) (g : α → PySem.Str) (V : α → Value → Prop) (hn : xs.length = n)
    (hP : ∀ i v, i < n → P i v → ∃ a, xs[i]? = some a ∧ V a v)
    (turn : ∀ a v I oI C oC D m₂ ys h tk (E' : Value → Shared → Prop), a ∈ xs → V a v → NsObj oC m₂ → m₂ x = some v → Fr h₀ L h m → News h₀ L h ((I, oI) :: (C, oC) :: (D, lst ys) :: news) → Off3 I C D news → ((@Ne Nat I C) ∧ (@Ne Nat I D) ∧ (@Ne Nat C D)) →
      wpAny (model prog w) A (eval elt (compEnvC scope cl C env)) (CompEnd h₀ L m { s with heap := h, toks := tk } I oI C oC D (lst ys) S (fun y news' => KCtEl news (g a) y news')) E' { s with heap := h, toks := tk })
    (fin : ∀ ys, StrsAre ys (xs.map g) → Fin ys news) : CompRest prog w A h₀ L m env elt x scope cl s S P Fin n 0 [] news := by
  have key : ∀ (j i : Nat) (ys : List Value), i + j = n → StrsAre ys ((xs.take i).map g) → CompRest prog w A h₀ L m env elt x scope cl s S P Fin j i ys news := by
    intro j
    induction j with
    | zero =>
      intro i ys hi hy
      have e : i = xs.length := by omega
      subst e
      rw [List.take_length] at hy
      exact CompRest.zero (fin ys hy)
    | succ j ih =>
      intro i ys hi hy
      refine CompRest.succ ?_
      intro v I oI C oC D m₂ h tk E' hv hC hx F N off ne
      obtain ⟨a, ha, hv'⟩ := hP i v (by omega) hv
      refine wpAny_mono (turn a v I oI C oC D m₂ ys h tk E' (List.mem_of_getElem? ha) hv' hC hx F N off ne) (fun y s₂ hq => ?_) fun _ _ e => e
      obtain ⟨h', tk', nw, e, F', N', off', hS, hn', t', rfl⟩ := hq
      rw [hn'] at N' off' hS
      refine ⟨h', tk', news, e, F', N', off', hS, ih (i + 1) _ (by omega) ?_⟩
      rw [List.take_add_one, ha]
      simpa using strs_snoc hy
  exact key n 0 [] (by omega) (by simp only [List.take_zero, List.map_nil]; exact .nil)
theorem sign_item {z : PySem.Str} {i : Nat} {v : Value} (h : SignAt z i v) : ∃ c, z.cps.toList[i]? = some c ∧ ∃ u, v = .str ⟨#[c]⟩ u := by
  obtain ⟨c, u, h1, h2⟩ := h
  exact ⟨c, by simpa using h1, u, h2⟩
end
section
variable {prog : Program} {w : World} {A : Around} {E : Value → Shared → Prop} {s : Shared} {x : PySem.Str} {t : Tok} {Q : Value → Shared → Prop}
theorem join_B {D : Addr} {items : Array Value} {ys : List PySem.Str} (B : Nat) (hl : s.heap.IsList D items) (hi : StrsAre items.toList ys) (hw : (ys.map (·.length)).sum + ys.length ≤ B) (hB : B ≤ 100000) (hsep : x.length ≤ 3)
    (h : ∀ t' k, (Txt.join x ys).length ≤ 3 * B → Q (.str (Txt.join x ys) t') { s with toks := k }) : wpAny (model prog w) A (call (.builtin "str.join") [.str x t, .ref D]) Q E s := by
  refine join_listW hl hi (by omega) (by omega) fun t' k => h t' k ?_
  have h1 := StrLaws.join_length_le x ys
  have h2 : ys.length * x.length ≤ ys.length * 3 := Nat.mul_le_mul_left _ hsep
  have e : Txt.join x ys = PySem.Str.join x ys := StrLaws.glued_eq_join x ys
  rw [e]
  omega
end
end Mine
end
section
open PySem PySem.W PyProof.Rows PySem.Builtin PySem.Spec PySem.Calls
set_option maxRecDepth 100000
set_option maxHeartbeats 4000000
namespace Mine
open LCg
def Hold (P : Prop) : Prop := P
theorem Hold.out {P : Prop} (h : Hold P) : P := h
section
variable {prog : Program} {w : World} {A : Around} {E : Value → Shared → Prop} {s : Shared} {env : Env} {h₀ : Heap} {x : Str} {body : List Stmt} {Q : Flow → Shared → Prop}
/-- a loop over a range, its state by an invariant over names and ledger -/
theorem for_range {r : Addr} {a b c : Int} {t u v : Tok} {n : Nat} {m₀ : Str → Option Value} {news : List (Addr × Obj)} (J : Nat → (Str → Option Value) → List (Addr × Obj) → Prop)
    (hh : A.handled = none) (hr : IsRange s.heap r a b c t u v) (hsmall : Builtin.Range.small a b c = true) (hsz : Builtin.Range.rangeSize a b c = (n : Int)) (F : Fr h₀ env.locals s.heap m₀) (N : News h₀ env.locals s.heap news) (hj : J 0 m₀ news)
    (turn : ∀ i k t m₁ nx h tk own, i < n → k = a + (i : Int) * c → OwnOff own (nx.map (·.1)) → J i m₁ nx → Fr h₀ env.locals h (fun y => if y = x then some (.int k t) else m₁ y) → News h₀ env.locals h (nx ++ own) →
      wpAny (model prog w) A (execs body env) (InvPostG h₀ env.locals (J (i + 1)) own { s with heap := h, toks := tk } Q) E { s with heap := h, toks := tk })
    (done : ∀ m₁ nx h tk, J n m₁ nx → Fr h₀ env.locals h m₁ → News h₀ env.locals h nx → Q .next { s with heap := h, toks := tk }) :
    wpAny (model prog w) A (pyIter (.ref r)) (fun it s₂ => LoopAtV prog w A h₀ env x body Q E it s₂) E s := by
  refine wpAny_pyIter_range hr hsmall ?_
  have W : Walks prog w A s.heap.objs.size [s.heap.objs.size] [s.heap.objs.size] n (fun i v => i < n ∧ ∃ t, v = .int (a + i * c) t)
      (fun i h => IsRangeIter h s.heap.objs.size (a + (i : Nat) * c) ((n : Int) - (i : Nat)) c) := (Walks.range hh _ a c n).bound
  refine kdr_loop J W (fun _ h => h) (fun _ h => h) ?_ ?_ ?_ ?_ (by show IsRangeIter _ _ _ _ _; rw [hsz]; simpa using Heap.get?_push_size _ rfl) (F.push _) (fun p hp => ⟨Heap.get?_push_of_some _ (N p hp).1, (N p hp).2⟩) hj ?_ ?_
  · intro i h hi b hb
    rw [List.mem_singleton.mp hb]
    exact ⟨_, hi⟩
  · intro hm
    exact absurd F.ns.lt ((List.mem_singleton.mp hm) ▸ Nat.lt_irrefl _)
  · intro b hb
    rw [List.mem_singleton.mp hb]
    exact next_is_new F
  · intro p hp hI
    exact absurd (Heap.lt_size (N p hp).1) ((List.mem_singleton.mp hI) ▸ Nat.lt_irrefl _)
  · rintro i v m₁ nx h tk own hi ⟨_, t, rfl⟩ hoff hJ F₁ N₁
    exact turn i _ t m₁ nx h tk own hi rfl hoff hJ F₁ N₁
  · exact done
/-- a loop over the signs of a text -/
theorem for_signs {z : Str} {t : Tok} {m₀ : Str → Option Value} {news : List (Addr × Obj)} (J : Nat → (Str → Option Value) → List (Addr × Obj) → Prop)
    (hh : A.handled = none) (F : Fr h₀ env.locals s.heap m₀) (N : News h₀ env.locals s.heap news) (hj : J 0 m₀ news)
    (turn : ∀ i c t m₁ nx h tk own, z.cps.toList[i]? = some c → OwnOff own (nx.map (·.1)) → J i m₁ nx → Fr h₀ env.locals h (fun y => if y = x then some (.str ⟨#[c]⟩ t) else m₁ y) → News h₀ env.locals h (nx ++ own) →
      wpAny (model prog w) A (execs body env) (InvPostG h₀ env.locals (J (i + 1)) own { s with heap := h, toks := tk } Q) E { s with heap := h, toks := tk })
    (done : ∀ m₁ nx h tk, J z.cps.size m₁ nx → Fr h₀ env.locals h m₁ → News h₀ env.locals h nx → Q .next { s with heap := h, toks := tk }) :
    wpAny (model prog w) A (pyIter (.str z t)) (fun it s₂ => LoopAtV prog w A h₀ env x body Q E it s₂) E s := by
  refine iterS hh fun o St W hIo st0 => ?_
  refine kdr_loop J W (fun _ h => h) (fun _ h => h) ?_ ?_ ?_ ?_ st0 (F.push _) (fun p hp => ⟨Heap.get?_push_of_some _ (N p hp).1, (N p hp).2⟩) hj ?_ ?_
  · intro i h hi b hb
    rw [List.mem_singleton.mp hb]
    exact hIo i h hi
  · intro hm
    exact absurd F.ns.lt ((List.mem_singleton.mp hm) ▸ Nat.lt_irrefl _)
  · intro b hb
    rw [List.mem_singleton.mp hb]
    exact next_is_new F
  · intro p hp hI
    exact absurd (Heap.lt_size (N p hp).1) ((List.mem_singleton.mp hI) ▸ Nat.lt_irrefl _)
  · rintro i v m₁ nx h tk own hi hv hoff hJ F₁ N₁
    obtain ⟨c, hc, u, rfl⟩ := sign_item hv
    exact turn i c u m₁ nx h tk own hc hoff hJ F₁ N₁
  · exact done
theorem keep_fr {m₁ m₀ : Str → Option Value} {v : Value} {h : Heap} {L : Addr} (hm : ∀ z, z ≠ x → m₁ z = m₀ z) (F : Fr h₀ L h (fun y => if y = x then some v else m₁ y)) : Fr h₀ L h (fun y => if y = x then some v else m₀ y) := by
  have e : (fun y => if y = x then some v else m₁ y) = fun y => if y = x then some v else m₀ y := by
    funext z
    by_cases h1 : z = x
    · simp [h1]
    · simp only [if_neg h1]; exact hm z h1
  rw [e] at F; exact F
theorem keep_frU {m₁ m₀ : Str → Option Value} {h : Heap} {L : Addr} (hm : ∀ z, z ≠ x → m₁ z = m₀ z) (F : Fr h₀ L h m₁) : Fr h₀ L h (fun y => if y = x then m₁ y else m₀ y) := by
  have e : m₁ = fun y => if y = x then m₁ y else m₀ y := by
    funext z
    by_cases h1 : z = x
    · simp [h1]
    · simp only [if_neg h1]; exact hm z h1
  rw [e] at F; exact F
/-- a loop over a range that stores nothing but its own name -/
theorem for_rangeP {r : Addr} {a b c : Int} {t u v : Tok} {n : Nat} {m₀ : Str → Option Value} {news : List (Addr × Obj)} (P : Nat → Prop)
    (hh : A.handled = none) (hr : IsRange s.heap r a b c t u v) (hsmall : Builtin.Range.small a b c = true) (hsz : Builtin.Range.rangeSize a b c = (n : Int)) (F : Fr h₀ env.locals s.heap m₀) (N : News h₀ env.locals s.heap news) (hj : P 0)
    (turn : ∀ i k t h tk own, i < n → k = a + (i : Int) * c → OwnOff own (news.map (·.1)) → P i → Fr h₀ env.locals h (fun y => if y = x then some (.int k t) else m₀ y) → News h₀ env.locals h (news ++ own) →
      wpAny (model prog w) A (execs body env) (InvPostG h₀ env.locals (fun m' nx => nx = news ∧ (∀ z, z ≠ x → m' z = m₀ z) ∧ P (i + 1)) own { s with heap := h, toks := tk } Q) E { s with heap := h, toks := tk })
    (done : ∀ (u : Str → Option Value) h tk, P n → Fr h₀ env.locals h (fun y => if y = x then u y else m₀ y) → News h₀ env.locals h news → Q .next { s with heap := h, toks := tk }) :
    wpAny (model prog w) A (pyIter (.ref r)) (fun it s₂ => LoopAtV prog w A h₀ env x body Q E it s₂) E s := by
  refine for_range (fun i m' nx => nx = news ∧ (∀ z, z ≠ x → m' z = m₀ z) ∧ P i) hh hr hsmall hsz F N ⟨rfl, fun _ _ => rfl, hj⟩ ?_ ?_
  · rintro i k t m₁ nx h tk own hi hk hoff ⟨rfl, hm, hp⟩ F₁ N₁
    exact turn i k t h tk own hi hk hoff hp (keep_fr hm F₁) N₁
  · rintro m₁ nx h tk ⟨rfl, hm, hp⟩ F₁ N₁
    exact done m₁ h tk hp (keep_frU hm F₁) N₁
end
section
variable {prog : Program} {w : World} {A : Around} {E : Value → Shared → Prop} {s : Shared} {h₀ : Heap} {L : Addr} {m : Str → Option Value} {env : Env}
/-- whatever can be gone through: its iterator is one new object -/
def IterOk (prog : Program) (w : World) (A : Around) (s : Shared) (xv : Value) (n : Nat) (P : Nat → Value → Prop) : Prop :=
  ∀ (E : Value → Shared → Prop) (Q : Value → Shared → Prop), (∀ (o : Obj) (St : Nat → Heap → Prop), Walks prog w A s.heap.objs.size [s.heap.objs.size] [s.heap.objs.size] n P St → (∀ i h, St i h → ∃ o, h.get? s.heap.objs.size = some o) →
    St 0 (s.heap.push o) → Q (.ref s.heap.objs.size) { s with heap := s.heap.push o }) → wpAny (model prog w) A (pyIter xv) Q E s
theorem IterOk.text {z : Str} {t : Tok} (hh : A.handled = none) : IterOk prog w A s (.str z t) z.cps.size (SignAt z) := fun _ _ h => iterS hh h
theorem IterOk.range {r : Addr} {a b c : Int} {t u v : Tok} {n : Nat} (hh : A.handled = none) (hr : IsRange s.heap r a b c t u v) (hsmall : Builtin.Range.small a b c = true) (hsz : Builtin.Range.rangeSize a b c = (n : Int)) :
    IterOk prog w A s (.ref r) n (fun i v => i < n ∧ ∃ t, v = .int (a + i * c) t) := fun E Q h => by
  refine wpAny_pyIter_range hr hsmall ?_
  have W : Walks prog w A s.heap.objs.size [s.heap.objs.size] [s.heap.objs.size] n (fun i v => i < n ∧ ∃ t, v = .int (a + i * c) t)
      (fun i h => IsRangeIter h s.heap.objs.size (a + (i : Nat) * c) ((n : Int) - (i : Nat)) c) := (Walks.range hh _ a c n).bound
  exact h _ _ W (fun i h st => ⟨_, st⟩) (by show IsRangeIter _ _ _ _ _; rw [hsz]; simpa using Heap.get?_push_size _ rfl)
def SrcG (prog : Program) (w : World) (A : Around) (h₀ : Heap) (L : Addr) (m : Str → Option Value) (env : Env) (elt : Expr) (x : Str) (scope : Scope) (cl : List (Str × Addr)) (Fin : Shared → List Value → List (Addr × Obj) → Prop) (xv : Value) (s₁ : Shared) : Prop :=
  ∃ n P news, IterOk prog w A s₁ xv n P ∧ Fr h₀ L s₁.heap m ∧ News h₀ L s₁.heap news ∧ n ≤ sizeLine ∧
    ∀ s₂ : Shared, (∃ h, s₂ = { s₁ with heap := h }) → CompRest prog w A h₀ L m env elt x scope cl s₂ (fun _ => True) P (Fin s₂) n 0 [] news
/-- where the block's frame C and its list D stand: apart from all else -/
structure Away (h₀ : Heap) (L C D : Addr) (nw : List (Addr × Obj)) : Prop where
  oldC : h₀.get? C = none
  oldD : h₀.get? D = none
  cl : C ≠ L
  dl : D ≠ L
  cd : C ≠ D
  off : ∀ p ∈ nw, p.1 ≠ C
/-- a source whose iterator is one new object, and the block behind it -/
theorem comp_go {elt iter : Expr} {x : Str} {px : Pos} {scope : Scope} {cl : List (Str × Addr)} {pos : Pos} {Fin : Shared → List Value → List (Addr × Obj) → Prop} {RR : Value → Addr → Result → Shared → Prop} {xv : Value} {s₁ : Shared}
    (src : SrcG prog w A h₀ L m env elt x scope cl Fin xv s₁) (hcell : ∀ y ∈ scope.names, y.2 ≠ .cell) (hkind : scope.kind = .function) (hx : scope.names.lookup x = some .local)
    (back : ∀ s₂ : Shared, (∃ g, s₂ = { s₁ with heap := g }) → ∀ D C h tk m' ys nw, Fr h₀ L h m → News h₀ L h ((D, lst ys) :: nw) → Off1 D nw → h.Ns C m' → Away h₀ L C D nw → Fin s₂ ys nw → RR (.ref D) C (.ok .next) { s₂ with heap := h, toks := tk }) :
    wpAny (model prog w) A (pyIter xv) (fun it s₂ => wpAny (model prog w) A (newList []) (fun acc s₃ => wpAny (model prog w) A (newFunctionEnv scope env.globals cl [] env.qual none .none (some env)) (fun cenv s₄ =>
      codeAny (model prog w) A (.compStart (.ListComp elt [⟨.Name x px, iter, [], 0⟩] scope pos) 0 it acc { cenv with scope := relabel scope env }) (RR acc cenv.locals) s₄) E s₃) E s₂) E s₁ := by
  obtain ⟨n, P, news, hit, F, N, hsz, R⟩ := src
  apply hit
  intro o St W hIo st0
  have grown : ∀ b ob, s₁.heap.get? b = some ob → (s₁.heap.push o).get? b = some ob := by
    intro b ob e
    exact Heap.get?_push_of_some o e
  have small : ∀ p ∈ news, p.1 < s₁.heap.objs.size := by
    intro p hp
    exact Heap.lt_size (N p hp).1
  have stays : ∀ i (h h' : Heap) (ob : Obj) (nw : List (Addr × Obj)), St i h → h.get? s₁.heap.objs.size = some ob → h'.get? s₁.heap.objs.size = some ob → (∀ b ob', h₀.get? b = some ob' → h'.get? b = some ob') → News h₀ L h' nw → True → St i h' := by
    intro i h h' ob nw st e1 e2 _ _ _
    apply W.frame i h h' st
    intro b hb ob' e3
    have hb' : b = s₁.heap.objs.size := by simpa using hb
    subst hb'
    have : ob = ob' := by rw [e1] at e3; simpa using e3
    rw [← this]; exact e2
  apply block_U W hsz hIo stays hcell hkind hx st0 (S := fun _ => True) (news := news)
  · intro b hb
    have hb' : b = s₁.heap.objs.size := by simpa using hb
    subst hb'
    simp [Heap.size_push]
  · exact F.keeps grown
  · exact N.grown grown
  · exact Nat.ne_of_lt F.ns.lt
  · exact next_is_new F
  · intro p hp
    exact Nat.ne_of_lt (small p hp)
  · trivial
  · exact R _ ⟨_, rfl⟩
  · intro D C h tk m' ys nw F' N' o1 hn q1 q2 q3 q4 q5 q6 fin
    exact back _ ⟨_, rfl⟩ D C h tk m' ys nw F' N' o1 hn ⟨q1, q2, q3, q4, q5, q6⟩ fin
theorem Away.led {C D : Addr} {o : Obj} {nw : List (Addr × Obj)} {h g : Heap} (a : Away h₀ L C D nw) (N : News h₀ L h ((D, o) :: nw)) (hs : ∀ b ob, b ≠ C → h.get? b = some ob → g.get? b = some ob) : News h₀ L g ((D, o) :: nw) := by
  intro p hp
  refine ⟨hs p.1 p.2 ?_ (N p hp).1, (N p hp).2⟩
  cases hp with
  | head => exact a.cd.symm
  | tail _ hp => exact a.off p hp
theorem ListComp_G {elt iter : Expr} {x : Str} {px : Pos} {scope : Scope} {cl : List (Str × Addr)} {pos : Pos} {Q : Value → Shared → Prop} (_F₀ : Fr h₀ L s.heap m)
    (hclos : closureFor scope env = pure cl) (hcell : ∀ y ∈ scope.names, y.2 ≠ .cell) (hkind : scope.kind = .function)
    (hnames : ∀ y ∈ scope.names, y.2 = .local → scope.names.lookup y.1 = some .local) (hx : scope.names.lookup x = some .local)
    (h : wpAny (model prog w) A (eval iter env) (SrcG prog w A h₀ L m env elt x scope cl (fun s₂ => FinE h₀ L m s₂ Q)) E s)
    (hs : ∀ x, foldedSetIterable iter env x = pure x := by intro _; rfl) :
    wpAny (model prog w) A (eval (.ListComp elt [⟨.Name x px, iter, [], 0⟩] scope pos) env) Q E s := by
  rw [eval_ListComp]
  apply wpAny_comprehension_free (use := none) rfl hs hclos hkind hnames
  refine wpAny_mono h (fun xv s₁ src => comp_go src hcell hkind hx ?_) (fun _ _ e => e)
  intro s₂ _ D C h tk m' ys nw F' N' o1 hn a fin
  exact ⟨m', hn, fun g hg => fin D g tk (F'.change hg a.cl a.oldC) (a.led N' fun b ob hb e => hg.extBut b ob hb e) o1⟩
theorem Assign_ListComp_G {elt iter : Expr} {x y : Str} {px py : Pos} {scope : Scope} {cl : List (Str × Addr)} {pos spos : Pos} {Q : Flow → Shared → Prop} (_F₀ : Fr h₀ L s.heap m) (hLe : env.locals = L)
    (hsw : swapsWith (.ListComp elt [⟨.Name x px, iter, [], 0⟩] scope pos) (some (.Name y py)) spos.line env = pure true)
    (hclos : closureFor scope env = pure cl) (hcell : ∀ z ∈ scope.names, z.2 ≠ .cell) (hkind : scope.kind = .function)
    (hnames : ∀ z ∈ scope.names, z.2 = .local → scope.names.lookup z.1 = some .local) (hx : scope.names.lookup x = some .local)
    (hy : env.kindOf y = some .local) (hp : (env.scope.kind == .class || (env.scope.kind == .module && env.locals != env.globals)) = false)
    (h : wpAny (model prog w) A (eval iter env) (SrcG prog w A h₀ L m env elt x scope cl (fun s₂ => FinA h₀ L m s₂ y Q)) E s)
    (hs : ∀ x, foldedSetIterable iter env x = pure x := by intro _; rfl) :
    wpAny (model prog w) A (exec (.Assign [.Name y py] (.ListComp elt [⟨.Name x px, iter, [], 0⟩] scope pos) spos) env) Q E s := by
  have run : ∀ p' : Pos, wpAny (model prog w) A (comprehension (.ListComp elt [⟨.Name x px, iter, [], 0⟩] scope pos) scope env p' (newList []) false (eval iter env) (some (assign (.Name y py) env))) (fun _ s' => Q .next s') E s := by
    intro p'
    apply wpAny_comprehension_free (use := some (assign (.Name y py) env)) rfl hs hclos hkind hnames
    refine wpAny_mono h (fun xv s₁ src => comp_go src hcell hkind hx ?_) (fun _ _ e => e)
    intro s₂ _ D C h tk m' ys nw F' N' o1 hn a fin
    have hL : h₀.get? L = none := Heap.get?_none_of_le F'.above
    apply wpAny_assign_Name
    subst hLe
    refine wpAny_storeName_local hy F'.ns (fun g hg hb => ?_) hp
    have F'' : Fr h₀ env.locals g (fun z => if z = y then some (.ref D) else m z) := F'.set hg hb
    have N'' : News h₀ env.locals g ((D, lst ys) :: nw) := N'.set hb
    exact ⟨m', hn.sameBut hb a.cl, fun g' hg' => fin D g' _ (F''.change hg' a.cl a.oldC) (a.led N'' fun b ob hb e => hg'.extBut b ob hb e) o1⟩
  rw [exec_Assign_Name_used _ _ _ _ hsw]
  apply wpAny_bind
  apply wpAny_standAt
  apply wpAny_bind
  apply wpAny_bind
  exact wpAny_mono (run _) (fun _ s' hq => wpAny_pure (wpAny_pure hq)) (fun _ _ e => e)
def AllEl (news : List (Addr × Obj)) (Y : Value → Prop) (y : Value) (news' : List (Addr × Obj)) : Prop := news' = news ∧ Y y
/-- a comprehension of whose elements one thing is asked -/
theorem crest_P {α : Type} {elt : Expr} {x : Str} {scope : Scope} {cl : List (Str × Addr)} {S : List (Addr × Obj) → Prop} {P : Nat → Value → Prop} {Fin : List Value → List (Addr × Obj) → Prop} {news : List (Addr × Obj)} {n : Nat} (V : Nat → α → Value → Prop) (Y : Value → Prop)
    (hP : ∀ i v, i < n → P i v → ∃ a, V i a v)
    (turn : ∀ i a v I oI C oC D m₂ ys h tk (E' : Value → Shared → Prop), i < n → V i a v → NsObj oC m₂ → m₂ x = some v → Fr h₀ L h m → News h₀ L h ((I, oI) :: (C, oC) :: (D, lst ys) :: news) → Off3 I C D news → ((@Ne Nat I C) ∧ (@Ne Nat I D) ∧ (@Ne Nat C D)) →
      wpAny (model prog w) A (eval elt (compEnvC scope cl C env)) (CompEnd h₀ L m { s with heap := h, toks := tk } I oI C oC D (lst ys) S (fun y news' => AllEl news Y y news')) E' { s with heap := h, toks := tk })
    (fin : ∀ ys, ys.length = n → (∀ y ∈ ys, Y y) → Fin ys news) : CompRest prog w A h₀ L m env elt x scope cl s S P Fin n 0 [] news := by
  have key : ∀ (j i : Nat) (ys : List Value), i + j = n → ys.length = i → (∀ y ∈ ys, Y y) → CompRest prog w A h₀ L m env elt x scope cl s S P Fin j i ys news := by
    intro j
    induction j with
    | zero =>
      intro i ys hi hl hy
      exact CompRest.zero (fin ys (by omega) hy)
    | succ j ih =>
      intro i ys hi hl hy
      refine CompRest.succ ?_
      intro v I oI C oC D m₂ h tk E' hv hC hx F N off ne
      obtain ⟨a, hv'⟩ := hP i v (by omega) hv
      refine wpAny_mono (turn i a v I oI C oC D m₂ ys h tk E' (by omega) hv' hC hx F N off ne) (fun y s₂ hq => ?_) fun _ _ e => e
      obtain ⟨h', tk', nw, e, F', N', off', hS, hn', hY⟩ := hq
      rw [hn'] at N' off' hS
      refine ⟨h', tk', news, e, F', N', off', hS, ih (i + 1) _ (by omega) (by simp [hl]) ?_⟩
      intro z hz
      rcases List.mem_append.mp hz with hz | hz
      · exact hy z hz
      · rw [List.mem_singleton.mp hz]; exact hY
  exact key n 0 [] (by omega) rfl (fun _ h => nomatch h)
theorem ints_of {P : Int → Prop} : ∀ {ys : List Value}, (∀ y ∈ ys, ∃ r t, y = .int r t ∧ P r) → ∃ ns, IntsAre ys ns ∧ ∀ r ∈ ns, P r
  | [], _ => ⟨[], .nil, fun _ h => nomatch h⟩
  | y :: r, h => by
    obtain ⟨ns, h1, h2⟩ := ints_of (ys := r) fun z hz => h z (.tail _ hz)
    obtain ⟨k, t, rfl, hk⟩ := h y (.head _)
    refine ⟨k :: ns, .cons k t h1, fun z hz => ?_⟩
    rcases List.mem_cons.mp hz with rfl | hz
    · exact hk
    · exact h2 z hz
end
theorem step_in {a b c : Int} {i : Nat} (hc : 0 < c) (ha : 0 ≤ a) (h : i < (Builtin.Range.rangeSize a b c).toNat) : 0 ≤ a + (i : Int) * c ∧ a + (i : Int) * c < b := by
  unfold Builtin.Range.rangeSize at h
  rw [if_pos hc] at h
  split at h
  · have h1 : (i : Int) ≤ (b - a - 1) / c := by omega
    have h2 : (i : Int) * c ≤ (b - a - 1) / c * c := Int.mul_le_mul_of_nonneg_right h1 (by omega)
    have h3 : (b - a - 1) / c * c ≤ b - a - 1 := Int.ediv_mul_le _ (by omega)
    have h4 : 0 ≤ (i : Int) * c := Int.mul_nonneg (by omega) (by omega)
    omega
  · omega
theorem small_step {a b c : Int} (hc : 1 ≤ c) (hc' : c ≤ 100) (ha : 0 ≤ a) (ha' : a ≤ 1000) (hb : 0 ≤ b) (hb' : b ≤ 1000) : Builtin.Range.small a b c = true := by
  have h1 := rangeSize_toNat_le a b c
  have h2 := rangeSize_toNat a b c
  unfold Builtin.Range.small
  generalize Builtin.Range.rangeSize a b c = n at h1 h2 ⊢
  simp only [Builtin.Range.rangeFitsLong, Bool.and_eq_true, Bool.or_eq_true, decide_eq_true_eq, beq_iff_eq]
  refine ⟨by omega, .inr ?_⟩
  rw [if_pos (by omega)]
  simp only [Bool.and_eq_true, decide_eq_true_eq]
  omega
end Mine
end
section
open PySem PySem.W PyProof.Rows PySem.Builtin PySem.Builtin.Str
set_option maxRecDepth 100000
set_option maxHeartbeats 8000000
namespace Mine
theorem fillM : PySem.Challenge.rw_rw0014_01 = PySem.Challenge.rw_rw0014_01 ∧ hd.heap_39 = hd.heap_39 := by k_fill; exact ⟨rfl, rfl⟩
def signs (word kept e : Str) : List Str := word.cps.toList.map fun c => if one c == kept then Str.ofString "." else e ++ Str.ofString "."
def mailS (word kept e tail : Str) : Str := Str.ofString "." ++ Txt.join (Str.ofString "") (signs word kept e) ++ e ++ tail
local macro_rules | `(tactic| walk_at "enterC") => `(tactic| (refine' code_defC ?k1 ?k2 ?k3 ?k4 ?k5 ?kA ?kF ?kK ?k6 ?k7 ?k8 ?k9 ?kB ?kD ?_ ?c2 ?c3 ?c4; (case kA => exact rfl); (case kF => exact rfl); (case kK => assumption); (case k1 => k_asm); (case k2 => k_asm); (case k3 => k_asm); (case k4 => k_asm); (case k5 => k_asm); (case k6 => k_is); (case k7 => k_is); (case k8 => ktr_room); (case k9 => exact BindsTo.of_eq rfl); (case kB => exact rfl); (case kD => decide +kernel); (case c2 => exact rfl); (case c3 => exact rfl); (case c4 => exact rfl); k_whole; intro g' L' h' tk' cells' FG' F' N' Y' B' X' T' l1; (try k_lt l1); k_cells Y'; (try simp only [List.cons_append, List.nil_append] at N'); (try dsimp only); (try k_lift B'); (try k_fold)))
local macro_rules | `(tactic| walk_at "CompEnd") => `(tactic| ((refine LCg.CompEnd.intro (by k_asm) (by k_asm) _ ?hs ?ho ?hS (kct_el ?he rfl rfl)); (case he => first | (rw [if_pos (by assumption)]; done) | (rw [if_neg (by simp [*])]; done) | (simp [*]; done)); (case hs => kcf_all); (case ho => first | assumption | trivial | (simp only [LCg.Off3, and_true]; first | assumption | done)); (case hS => first | trivial | lcg_src | assumption)))
local macro_rules | `(tactic| walk_at "call builtin:str.join") => `(tactic| ((show wpAny _ _ (call (Value.builtin "str.join") [Value.str _ _, Value.ref _]) _ _ _); (refine join_B _ (News.isList (by k_asm) (by k_mem)) (by assumption) (by walk_at "join_w") (by omega) (by decide +kernel) ?_); intro t' k' hlen'))
theorem signs_w (word kept e : Str) (hk : e.length ≤ 2) : ((signs word kept e).map (·.length)).sum + (signs word kept e).length ≤ 4 * word.length := by
  unfold signs
  have key : ∀ l : List Nat, ((l.map fun c => if one c == kept then Str.ofString "." else e ++ Str.ofString ".").map (·.length)).sum + (l.map fun c => if one c == kept then Str.ofString "." else e ++ Str.ofString ".").length ≤ 4 * l.length := by
    intro l
    induction l with
    | nil => simp
    | cons a r ih =>
      simp only [List.map_cons, List.sum_cons, List.length_cons] at ih ⊢
      have h1 : (Str.ofString ".").length = 1 := by decide +kernel
      have : (if one a == kept then Str.ofString "." else e ++ Str.ofString ".").length ≤ 3 := by
        split
        · omega
        · rw [Str.length_append]; omega
      omega
  have h := key word.cps.toList
  have e1 : word.cps.toList.length = word.length := by simp [Str.length]
  rw [e1] at h; exact h
local macro_rules | `(tactic| walk_at "join_w") => `(tactic| exact signs_w _ _ _ (by omega))
local macro_rules | `(tactic| walk_at "ml_eq") => `(tactic| rfl)
local macro_rules | `(tactic| walk_at "exec Assign cons ListComp") => `(tactic| (k_here; k_dflt (refine Assign_ListComp_G (by k_asm) (by rfl) (by with_unfolding_all rfl) (by with_unfolding_all rfl) (by decide) (by rfl) (by decide) (by rfl) (by rfl) (by rfl) ?_)))
theorem ml (w : World) (mean : ExcName → Option Value) (mg mb : Str → Option Value) (news : List (Addr × Obj)) (word kept e tail : Str) (t1 t2 t3 t4 : Tok) :
  CbClaim PySem.Challenge.rw_rw0014_01.row.prog w (hd.heap_39 w.params) hd.view_39 (looseW hd.view_39 [Str.ofString "_twin_re_1", Str.ofString "_twin_re_2"]) mean mg mb 91 news [] (word.length ≤ 1000 ∧ kept.length = 1 ∧ e.length ≤ 2 ∧ tail.length ≤ 20) [.str word t1, .str kept t2, .str e t3, .str tail t4] (fun t => .str (mailS word kept e tail) t) := by
  w_on
  k_with "tree" => walk_at "ml_eq"
  dsimp only [CbClaim, CbLists, CbRet]; intros; rename_i hret
  refine wpAny_call ?_
  k_dflt (walk_at "enterC")
  k_steps
  refine ⟨_, _, _, IterOk.text (by rfl), by k_asm, by k_asm, by (rw [sizeLine_eq]; show Str.length _ ≤ _; omega), ?_⟩
  rintro _ ⟨g9, rfl⟩
  refine crest_S word.cps.toList (fun c => if one c == kept then Str.ofString "." else e ++ Str.ofString ".") (fun c v => ∃ u, v = .str (one c) u) (by simp) (fun i v _ h => sign_item h) ?_ ?_
  · rintro c _ I' oI' C' oC' D' m' ys' h' tk' E' hk' ⟨u', rfl⟩ hC' hx' F' N' off' ne'
    (try simp only [LCg.Off3, and_true] at off')
    k_fold
    k_steps
  · intro ys' hys' D' h' tk' F' N' off'
    have hw' := signs_w word kept e (by omega)
    have hys' : StrsAre ys' (signs word kept e) := hys'
    k_steps

    all_goals (cb_end hret)
end Mine
end
section
open PySem PySem.W PyProof.Rows PySem.Builtin PySem.Builtin.Str
set_option maxRecDepth 100000
set_option maxHeartbeats 8000000
namespace Mine
local macro_rules | `(tactic| walk_at "pad0") => `(tactic| skip)
theorem fillC : PySem.Challenge.rw_rw0014_01 = PySem.Challenge.rw_rw0014_01 ∧ hd.heap_39 = hd.heap_39 := by k_fill; exact ⟨rfl, rfl⟩
noncomputable abbrev Pr1 : Program := PySem.Challenge.rw_rw0014_01.row.prog
noncomputable abbrev Lo1 : List Str := looseW hd.view_39 [Str.ofString "_twin_re_1", Str.ofString "_twin_re_2"]
section
variable {w : World} {mean : ExcName → Option Value} {mg mb : Str → Option Value} {news : List (Addr × Obj)} {dp un : Nat} {gd : Option (List Code)} {cn : Str} {cs : Scope} {a : Addr} {ccd : Value} {cl : List (Str × Addr)} {outer : List Env} {A₀ : Around} {base h₀ : Heap} {L : Addr} {m : Str → Option Value} {s : Shared} {Q E : Value → Shared → Prop}
theorem em_call {want got : Str} {t1 t2 : Tok} (B : Below A₀ base outer h₀) (F : Fr h₀ L s.heap m) (X : (hd.heap_39 w.params).In h₀) (N : News h₀ L s.heap news) (T : Top hd.view_39 Lo1 mean mg mb h₀) (hk : cs.kind = .function) (hp : want.length ≤ 1000000 ∧ got.length ≤ 1000000) (hd1 : dp + 1 < recursionLimit) (hu : un + 8 < cLine)
    (h : ∀ (h' : Heap) (tk' : Nat), Fr h₀ L h' m → News h₀ L h' news → Q (.bool (emS want got)) { s with heap := h', toks := tk' }) :
    wpAny (model Pr1 w) (ktrTop dp un gd cn cs L a ccd cl outer) (call (.ref 55) [.str want t1, .str got t2]) Q E s :=
  em w mean mg mb news want got t1 t2 dp un gd cn cs a ccd cl outer A₀ base h₀ L m s Q E B F X N T hk hp hd1 hu fun _ h' tk' => h h' tk'
end
local macro_rules | `(tactic| walk_at "enterC") => `(tactic| (refine' code_defC ?k1 ?k2 ?k3 ?k4 ?k5 ?kA ?kF ?kK ?k6 ?k7 ?k8 ?k9 ?kB ?kD ?_ ?c2 ?c3 ?c4; (case kA => exact rfl); (case kF => exact rfl); (case kK => assumption); (case k1 => k_asm); (case k2 => k_asm); (case k3 => k_asm); (case k4 => k_asm); (case k5 => k_asm); (case k6 => k_is); (case k7 => k_is); (case k8 => ktr_room); (case k9 => exact BindsTo.of_eq rfl); (case kB => exact rfl); (case kD => decide +kernel); (case c2 => exact rfl); (case c3 => exact rfl); (case c4 => exact rfl); k_whole; intro g' L' h' tk' cells' FG' F' N' Y' B' X' T' l1; (try k_lt l1); k_cells Y'; (try simp only [List.cons_append, List.nil_append] at N'); (try dsimp only); (try k_lift B'); (try k_fold)))
local macro_rules | `(tactic| walk_at "call ref") => `(tactic| ((with_reducible show wpAny _ _ (call (Value.ref 55) [Value.str _ _, Value.str _ _]) _ _ _); (refine' em_call ?k1 ?k2 ?k3 ?k4 ?k5 ?kK ?kp ?kd ?ku ?_; (case k1 => k_asm); (case k2 => k_asm); (case k3 => k_asm); (case k4 => k_asm); (case k5 => k_asm); (case kK => first | exact rfl | assumption); (case kp => constructor <;> first | omega | (walk_at "em_size")); (case kd => first | omega | ktr_room); (case ku => first | omega | ktr_units)); intro h' tk' F' N'; (try k_fold)))
section
variable {w : World} {mean : ExcName → Option Value} {mg mb : Str → Option Value} {news : List (Addr × Obj)} {dp un : Nat} {gd : Option (List Code)} {cn : Str} {cs : Scope} {a : Addr} {ccd : Value} {cl : List (Str × Addr)} {outer : List Env} {A₀ : Around} {base h₀ : Heap} {L : Addr} {m : Str → Option Value} {s : Shared} {Q E : Value → Shared → Prop}
def revS (text : Str) : Str := Txt.join (Str.ofString "") ((rangeKs 1 text.length).map fun k => Txt.item text (-k))
def clLoop (back text : Str) : Nat → Str
  | 0 => text
  | k + 1 => if emS (Str.ofString "..." ++ Txt.slice back none (some ((k : Int) + 1))) text then text ++ Txt.slice back (some ((k : Int) + 1)) none else clLoop back text k
def closedS (text : Str) : Str := clLoop (revS text) text text.length
theorem cl_hit {back text r : Str} {N i : Nat} {k : Int} (h : clLoop back text (N - i) = r) (hi : i < N) (hk : k = (N : Int) + (i : Int) * (-1)) (hc : emS (Str.ofString "..." ++ Txt.slice back none (some k)) text = true) : text ++ Txt.slice back (some k) none = r := by
  obtain ⟨j, hj⟩ : ∃ j, N - i = j + 1 := ⟨N - i - 1, by omega⟩
  have e : k = (j : Int) + 1 := by omega
  rw [hj, clLoop, ← e, if_pos hc] at h
  exact h
theorem cl_go {back text r : Str} {N i : Nat} {k : Int} (h : clLoop back text (N - i) = r) (hi : i < N) (hk : k = (N : Int) + (i : Int) * (-1)) (hc : emS (Str.ofString "..." ++ Txt.slice back none (some k)) text = false) : clLoop back text (N - (i + 1)) = r := by
  obtain ⟨j, hj⟩ : ∃ j, N - i = j + 1 := ⟨N - i - 1, by omega⟩
  have e : k = (j : Int) + 1 := by omega
  rw [hj, clLoop, ← e, if_neg (by rw [hc]; decide)] at h
  rw [show N - (i + 1) = j by omega]
  exact h
theorem cl_end {back text r : Str} {N n : Nat} (h : clLoop back text (N - n) = r) (hn : N ≤ n) : text = r := by
  rw [show N - n = 0 by omega] at h; exact h
local macro_rules | `(tactic| walk_at "cl_eq") => `(tactic| first | exact cl_hit (by assumption) (by omega) (by assumption) (by assumption) | exact cl_end (by assumption) (by omega))
theorem dots3 : (Str.ofString "...").length ≤ 3 := by decide +kernel
theorem len_app {x y : Str} {a b n : Nat} (h1 : x.length ≤ a) (h2 : y.length ≤ b) (h : a + b ≤ n) : (x ++ y).length ≤ n := by rw [Str.length_append]; omega
theorem len_app2 {x y : Str} {a b : Nat} (h1 : x.length ≤ a) (h2 : y.length ≤ b) : (x ++ y).length ≤ a + b := by rw [Str.length_append]; omega
local macro_rules | `(tactic| walk_at "em_size") => `(tactic| first | omega | (refine Nat.le_trans (by walk_at "len_up") (by omega)))
local macro_rules | `(tactic| walk_at "len_up") => `(tactic| first | (with_reducible exact Txt.slice_le _ _ _) | (with_reducible exact dots3) | (with_reducible refine len_app2 (by walk_at "len_up") (by walk_at "len_up")) | (with_reducible exact Nat.le_refl _))
theorem rk_get {a : Int} {n i : Nat} (h : i < n) : (rangeKs a n)[i]? = some (a + (i : Int)) := by simp [rangeKs, h]
theorem ones_w (text : Str) (l : List Int) : ((l.map fun k => Txt.item text (-k)).map (·.length)).sum + (l.map fun k => Txt.item text (-k)).length ≤ 2 * l.length := by
  induction l with
  | nil => simp
  | cons a r ih =>
    simp only [List.map_cons, List.sum_cons, List.length_cons] at ih ⊢
    have : (Txt.item text (-a)).length = 1 := rfl
    omega
local macro_rules | `(tactic| walk_at "CompSrc") => `(tactic| (apply Hold.out))
local macro_rules | `(tactic| walk_at "pyIter ref") => `(tactic| ((with_reducible show wpAny _ _ (pyIter (Value.ref _)) (fun it s₂ => LoopAtV _ _ _ _ _ _ _ _ _ it s₂) _ _); apply Hold.out))
local macro_rules | `(tactic| walk_at "exec For Name Call cons nil") => `(tactic| (k_here; (rename Fr _ _ _ _ => lF'); (with_unfolding_all refine' For_invVF lF' ?k1 ?k2 ?_; (case k1 => exact rfl); (case k2 => exact rfl); k_whole)))
local macro_rules | `(tactic| walk_at "exec For Name Name cons nil") => `(tactic| (k_here; (rename Fr _ _ _ _ => lF'); (with_unfolding_all refine' For_invVF lF' ?k1 ?k2 ?_; (case k1 => exact rfl); (case k2 => exact rfl); k_whole)))
local macro_rules | `(tactic| walk_at "CompEnd") => `(tactic| ((refine LCg.CompEnd.intro (by k_asm) (by k_asm) _ ?hs ?ho ?hS (kct_el ?he rfl rfl)); (case he => first | rfl | (rw [if_pos (by assumption)]; done) | (rw [if_neg (by simp [*])]; done) | (simp [*]; done)); (case hs => kcf_all); (case ho => first | assumption | trivial | (simp only [LCg.Off3, and_true]; first | assumption | done)); (case hS => first | trivial | lcg_src | assumption)))
local macro_rules | `(tactic| walk_at "call builtin:str.join") => `(tactic| ((show wpAny _ _ (call (Value.builtin "str.join") [Value.str _ _, Value.ref _]) _ _ _); (refine join_B _ (News.isList (by k_asm) (by k_mem)) (by assumption) (by walk_at "join_w") (by first | omega | assumption) (by decide +kernel) ?_); intro t' k' hlen'))
local macro_rules | `(tactic| walk_at "join_w") => `(tactic| (refine Nat.le_trans (ones_w _ _) (Nat.le_of_eq rfl)))
theorem closed_call {text : Str} {t1 : Tok} (B : Below A₀ base outer h₀) (F : Fr h₀ L s.heap m) (X : (hd.heap_39 w.params).In h₀) (N : News h₀ L s.heap news) (T : Top hd.view_39 Lo1 mean mg mb h₀) (hk : cs.kind = .function) (hp : text.length ≤ 1000) (hd1 : dp + 2 < recursionLimit) (hu : un + 16 < cLine)
    (hret : ∀ (t : Tok) (h' : Heap) (tk' : Nat), Fr h₀ L h' m → News h₀ L h' news → Q (.str (closedS text) t) { s with heap := h', toks := tk' }) :
    wpAny (model Pr1 w) (ktrTop dp un gd cn cs L a ccd cl outer) (call (.ref 86) [.str text t1]) Q E s := by
  w_on
  k_with "tree" => walk_at "cl_eq"
  refine wpAny_call ?_
  k_dflt (walk_at "enterC")
  k_steps
  unfold Hold
  refine LCg.CompSrc.range (by rfl) (by k_asm) (by k_asm) (by assumption) (small_one (by omega) (by omega) (by omega) (by omega)) (rangeSize_nat _ _) (by rw [sizeLine_eq]; omega) ?_
  intro g'
  refine crest_S (rangeKs 1 text.length) (fun k => Txt.item text (-k)) (fun k v => ∃ t, v = .int k t) (by rw [rangeKs_length]; omega) ?_ ?_ ?_
  · rintro i v hi ⟨t, rfl⟩
    exact ⟨1 + (i : Int), rk_get (by omega), t, rfl⟩
  · rintro k _ I' oI' C' oC' D' m' ys' h' tk' E' hk' ⟨u', rfl⟩ hC' hx' F' N' off' ne'
    have hb' := mem_rangeKs hk'
    (try simp only [LCg.Off3, and_true] at off')
    k_unmd
    k_fold
    k_steps
  · intro ys' hys' D' h' tk' F' N' off'
    have hkl : (rangeKs 1 text.length).length = text.length := rangeKs_length _ _
    have hB : 2 * (rangeKs 1 text.length).length ≤ 100000 := by omega
    k_steps
    unfold Hold
    refine for_rangeP (fun i => clLoop (revS text) text (text.length - i) = closedS text) (by rfl) (by assumption) (small_down (by omega) (by omega) (by omega) (by omega)) (rangeSize_downNat _ _) (by k_asm) (by k_asm) rfl (fun i' k' t' h' tk' own' hi' hk' hoff' hP' F' N' => ?_) (fun u' h' tk' hP' F' N' => ?_)
    · (try simp only [List.cons_append] at N')
      (try k_unmd)
      (try k_fold)
      k_steps
      · cb_end hret
      · refine InvEndG.intro (by k_asm) (by k_asm) ⟨rfl, ?_, cl_go hP' (by omega) hk' (by assumption)⟩ hoff' (by kcf_all) (by kcf_all)
        intro z h1; first | rfl | (simp [h1]; done)
    · (try k_unmd)
      (try k_fold)
      k_steps
      cb_end hret
end
end Mine
end
section
open PySem PySem.W PyProof.Rows PySem.Builtin PySem.Builtin.Str
set_option maxRecDepth 100000
set_option maxHeartbeats 8000000
namespace Mine
theorem fillN : PySem.Challenge.rw_rw0014_01 = PySem.Challenge.rw_rw0014_01 ∧ hd.heap_39 = hd.heap_39 := by k_fill; exact ⟨rfl, rfl⟩
local macro_rules | `(tactic| walk_at "enterC") => `(tactic| (refine' code_defC ?k1 ?k2 ?k3 ?k4 ?k5 ?kA ?kF ?kK ?k6 ?k7 ?k8 ?k9 ?kB ?kD ?_ ?c2 ?c3 ?c4; (case kA => exact rfl); (case kF => exact rfl); (case kK => assumption); (case k1 => k_asm); (case k2 => k_asm); (case k3 => k_asm); (case k4 => k_asm); (case k5 => k_asm); (case k6 => k_is); (case k7 => k_is); (case k8 => ktr_room); (case k9 => exact BindsTo.of_eq rfl); (case kB => exact rfl); (case kD => decide +kernel); (case c2 => exact rfl); (case c3 => exact rfl); (case c4 => exact rfl); k_whole; intro g' L' h' tk' cells' FG' F' N' Y' B' X' T' l1; (try k_lt l1); k_cells Y'; (try simp only [List.cons_append, List.nil_append] at N'); (try dsimp only); (try k_lift B'); (try k_fold)))
theorem SrcG.hold {prog : Program} {w : World} {A : Around} {h₀ : Heap} {L : Addr} {m : Str → Option Value} {env : Env} {elt : Expr} {x : Str} {scope : Scope} {cl : List (Str × Addr)} {Fin : Shared → List Value → List (Addr × Obj) → Prop} {xv : Value} {s₁ : Shared} (h : Hold (SrcG prog w A h₀ L m env elt x scope cl Fin xv s₁)) : SrcG prog w A h₀ L m env elt x scope cl Fin xv s₁ := h
local macro_rules | `(tactic| walk_at "eval ListComp") => `(tactic| (k_here; k_dflt (refine ListComp_G (by k_asm) (by with_unfolding_all rfl) (by decide) (by rfl) (by decide) (by rfl) ?_)))
theorem len_base {prog : Program} {w : World} {A : Around} {E : Value → Shared → Prop} {s : Shared} {h₀ : Heap} {L : Addr} {m : Str → Option Value} {D : Addr} {vs : List Value} {Q : Value → Shared → Prop} (hl : h₀.IsList D vs.toArray) (F : Fr h₀ L s.heap m) (hn : vs.length ≤ 63) (h : Q (.int (vs.length : Int) (s.toks + 1)) { s with toks := s.toks + 1 + 1 }) : wpAny (model prog w) A (call (.builtin "len") [.ref D]) Q E s := by
  have hl := hl.at fun o e => F.keep D o e
  exact len_list hl (by simp; omega) (by simpa using h)
local macro_rules | `(tactic| walk_at "call builtin:len") => `(tactic| ((with_reducible show wpAny _ _ (call (Value.builtin "len") [Value.ref _]) _ _ _); first | refine kst_len (by k_asm) (by k_mem) (by assumption) (by decide) ?_ | refine len_base (by k_asm) (by k_asm) (by assumption) ?_))
theorem fmod_mil (x : Int) : 0 ≤ x.fmod (10 ^ Int.toNat 6) ∧ x.fmod (10 ^ Int.toNat 6) < 1000000 := by
  have e : ((10 : Int) ^ Int.toNat 6) = 1000000 := by decide
  rw [e]
  exact ⟨Int.fmod_nonneg_of_pos _ (by omega), Int.fmod_lt_of_pos _ (by omega)⟩
theorem off1_mem {D : Addr} : ∀ {l : List (Addr × Obj)}, LCg.Off1 D l → ∀ p ∈ l, p.1 ≠ D
  | [], _, _, h => nomatch h
  | _ :: _, x, p, h => by
    rcases List.mem_cons.mp h with rfl | h
    · exact x.1
    · exact off1_mem x.2 p h
theorem int_at {vs : List Value} {ns : List Int} (h : IntsAre vs ns) {i : Nat} (hi : i < vs.length) : ∃ r t, vs[i]? = some (.int r t) := by
  have hl := h.length
  obtain ⟨t, ht⟩ := h.get i (ns[i]'(by omega)) (by simp [show i < ns.length by omega])
  exact ⟨_, t, ht⟩
theorem item_base {prog : Program} {w : World} {A : Around} {E : Value → Shared → Prop} {s : Shared} {h₀ : Heap} {L : Addr} {m : Str → Option Value} {value slice : PySem.Expr} {D : Addr} {vs : List Value} {k : Int} {u : Tok} {v : Value} {Q : Value → Shared → Prop} (hl : h₀.IsList D vs.toArray) (F : Fr h₀ L s.heap m) (h0 : 0 ≤ k) (hfit : k < 2 ^ 63) (hv : vs[k.toNat]? = some v) (h : Q v s)
    (hs : subscripted slice false (.ref D) (.int k u) = operate [.ref D, .int k u] (getItem (.ref D) (.int k u)) := by with_unfolding_all rfl) :
    wpAny (model prog w) A (subscriptTail value slice (.ref D) (.int k u)) Q E s := by
  have hl := hl.at fun o e => F.keep D o e
  exact tail_any hl.typeIs slot_list_getitem.lookup (wpAny_getItem_list hl h0 hfit (by simpa using hv) h) hs
local macro_rules | `(tactic| walk_at "subscriptTail") => `(tactic| ((with_reducible show wpAny _ _ (subscriptTail _ _ (Value.ref _) (Value.int _ _)) _ _ _); first | (with_unfolding_all refine item_at (by k_asm) (by k_mem) (by omega) (by omega) (by assumption) ?_) | (with_unfolding_all refine item_base (by k_asm) (by k_asm) (by omega) (by omega) (by assumption) ?_)))
local macro_rules | `(tactic| walk_at "SrcG") => `(tactic| (apply SrcG.hold))
section
variable {w : World} {mean : ExcName → Option Value} {mg mb : Str → Option Value} {news : List (Addr × Obj)} {dp un : Nat} {gd : Option (List Code)} {cn : Str} {cs : Scope} {a : Addr} {ccd : Value} {cl : List (Str × Addr)} {outer : List Env} {A₀ : Around} {base h₀ : Heap} {L : Addr} {m : Str → Option Value} {s : Shared} {Q E : Value → Shared → Prop}
theorem num_call {l Do : Addr} {vs ovs : List Value} {ns ons : List Int} {oo : Nat} (B : Below A₀ base outer h₀) (F : Fr h₀ L s.heap m) (X : (hd.heap_39 w.params).In h₀) (N : News h₀ L s.heap ((Do, listOf ovs.toArray oo) :: news)) (T : Top hd.view_39 (looseW hd.view_39 [Str.ofString "_twin_re_1", Str.ofString "_twin_re_2"]) mean mg mb h₀) (hk : cs.kind = .function)
    (hScL : h₀.IsList l vs.toArray) (hScI : IntsAre vs ns) (hScN : vs.length ≤ 63) (hOwn : IntsAre ovs ons) (h6 : ovs.length = 6) (hd1 : dp + 1 < recursionLimit) (hu : un + 8 < cLine)
    (hret : ∀ (D : Addr) (ws : List Value) (ks : List Int) (h' : Heap) (tk' : Nat), IntsAre ws ks → ws.length = 6 → (∀ k ∈ ks, 0 ≤ k ∧ k < 1000000) → Fr h₀ L h' m → News h₀ L h' ((D, LCg.lst ws) :: (Do, listOf ovs.toArray oo) :: news) → (∀ p ∈ (Do, listOf ovs.toArray oo) :: news, p.1 ≠ D) → Q (.ref D) { s with heap := h', toks := tk' }) :
    wpAny (model PySem.Challenge.rw_rw0014_01.row.prog w) (ktrTop dp un gd cn cs L a ccd cl outer) (call (.ref 81) [.ref l, .ref Do]) Q E s := by
  w_on
  refine wpAny_call ?_
  k_dflt (walk_at "enterC")
  (rename Fr h₀ L _ m => hFG9)
  have hSc9 := hScL.at (fun o e => hFG9.keep _ o e)
  k_steps
  unfold Hold
  refine ⟨6, _, _, IterOk.range (by rfl) (by assumption) (by decide +kernel) (by decide +kernel), by k_asm, by k_asm, by decide +kernel, ?_⟩
  rintro _ ⟨g9, rfl⟩
  refine crest_P (fun i (_ : Unit) v => ∃ t, v = .int (0 + i * 1) t) (fun y => ∃ r t, y = .int r t ∧ (0 ≤ r ∧ r < 1000000)) (fun i v hi h => ⟨(), h.2⟩) ?_ ?_
  · rintro i _ _ I' oI' C' oC' D' m' ys' h' tk' E' hi' ⟨u', rfl⟩ hC' hx' F' N' off' ne'
    (rename IntsAre ovs ons => hOwn)
    obtain ⟨r', t', hr'⟩ := int_at hOwn (show ((0 : Int) + (i : Int) * 1).toNat < ovs.length by omega)
    (try simp only [LCg.Off3, and_true] at off')
    k_unmd
    k_fold
    k_steps
    unfold Hold
    (rename IsRange _ _ _ (vs.length : Int) _ _ _ _ => hR9)
    have h6i : (ons.length : Int) = 6 := by rw [← hOwn.length, h6]; rfl
    rw [h6i] at hR9
    have hsz9 := rangeSize_toNat_le (0 + (i : Int) * 1) (vs.length : Int) 6
    refine ⟨(Builtin.Range.rangeSize (0 + (i : Int) * 1) (vs.length : Int) 6).toNat, _, _, IterOk.range (by rfl) hR9 (small_step (by omega) (by omega) (by omega) (by omega) (by omega) (by omega)) (rangeSize_toNat _ _ _), by k_asm, by k_asm, by (rw [sizeLine_eq]; omega), ?_⟩
    rintro _ ⟨g9, rfl⟩
    refine crest_P (fun i2 (_ : Unit) v => ∃ t, v = .int ((0 + (i : Int) * 1) + i2 * 6) t) (fun y => ∃ r t, y = .int r t ∧ True) (fun i v hi h => ⟨(), h.2⟩) ?_ ?_
    · rintro i2 _ _ I2' oI2' C2' oC2' D2' m2' ys2' h2' tk2' E2' hi2' ⟨u2', rfl⟩ hC2' hx2' F2' N2' off2' ne2'
      have hin := step_in (by omega) (by omega) hi2'
      obtain ⟨r2', t2', hr2'⟩ := int_at hScI (show ((0 + (i : Int) * 1) + i2 * 6 : Int).toNat < vs.length by omega)
      (try simp only [LCg.Off3, and_true] at off2')
      k_unmd
      k_fold
      k_steps
      refine LCg.CompEnd.intro (by k_asm) (by k_asm) _ ?hs ?ho ?hS ⟨rfl, _, _, rfl, trivial⟩
      case hs => kcf_all
      case ho => (simp only [LCg.Off3, and_true]; assumption)
      case hS => trivial
    · intro ys2' hlen2' hys2' D2' h2' tk2' F2' N2' off2'
      obtain ⟨ks2, hk21, hk22⟩ := ints_of hys2'
      (try k_unmd)
      (try k_fold)
      k_steps
      refine LCg.CompEnd.intro (by k_asm) (by k_asm) _ ?hs ?ho ?hS ⟨rfl, _, _, rfl, fmod_mil _⟩
      case hs => kcf_all
      case ho => (simp only [LCg.Off3, and_true]; assumption)
      case hS => trivial
  · intro ys' hlen' hys' D' h' tk' F' N' off'
    k_steps
    obtain ⟨ks, hk1, hk2⟩ := ints_of hys'
    exact hret D' ys' ks h' tk' hk1 hlen' hk2 (by k_asm) (cb_drop (by assumption) (by kcf_all)) (by
      have h1 := off1_mem off'
      intro p hp; exact h1 p (by first | exact .tail _ (.tail _ hp)))
end
end Mine
end
section
open PySem PySem.W PyProof.Rows PySem.Builtin PySem.Spec PySem.Calls
set_option maxRecDepth 100000
set_option maxHeartbeats 4000000
namespace Mine
section
variable {M : Model} {A : Around} {E : Value → Shared → Prop} {s : Shared} {h₀ : Heap} {L : Addr} {m : Str → Option Value} {news : List (Addr × Obj)}
/-- what a statement leaves: two names stored, the ledger as it was -/
def J2 (h₀ : Heap) (L : Addr) (m : Str → Option Value) (news : List (Addr × Obj)) (x y : Str) (P : Value → Value → Prop) (s : Shared) (f : Flow) (s' : Shared) : Prop :=
  f = .next ∧ ∃ (h' : Heap) (tk : Nat) (v1 v2 : Value), s' = { s with heap := h', toks := tk } ∧ Fr h₀ L h' (fun z => if z = y then some v2 else if z = x then some v1 else m z) ∧ News h₀ L h' news ∧ P v1 v2
theorem J2.intro {x y : Str} {P : Value → Value → Prop} {v1 v2 : Value} {h' : Heap} {tk : Nat} {all : List (Addr × Obj)} (F : Fr h₀ L h' (fun z => if z = y then some v2 else if z = x then some v1 else m z)) (N : News h₀ L h' all) (hs : ∀ p ∈ news, p ∈ all) (hp : P v1 v2) :
    J2 h₀ L m news x y P s .next { s with heap := h', toks := tk } := ⟨rfl, h', tk, v1, v2, rfl, F, fun p hp => N p (hs p hp), hp⟩
theorem join2 {st : Stmt} {env : Env} {K : Flow → Shared → Prop} (x y : Str) (P : Value → Value → Prop) (_F : Fr h₀ L s.heap m) (_N : News h₀ L s.heap news) (h1 : wpAny M A (exec st env) (J2 h₀ L m news x y P s) E s)
    (h2 : ∀ h' tk v1 v2, P v1 v2 → Fr h₀ L h' (fun z => if z = y then some v2 else if z = x then some v1 else m z) → News h₀ L h' news → K .next { s with heap := h', toks := tk }) : wpAny M A (exec st env) K E s := by
  refine wpAny_mono h1 (fun f s' hj => ?_) fun _ _ e => e
  obtain ⟨rfl, h', tk, v1, v2, rfl, F', N', hp⟩ := hj
  exact h2 h' tk v1 v2 hp F' N'
/-- what a statement leaves: one name stored -/
def J1 (h₀ : Heap) (L : Addr) (m : Str → Option Value) (news : List (Addr × Obj)) (x : Str) (P : Value → Prop) (s : Shared) (f : Flow) (s' : Shared) : Prop :=
  f = .next ∧ ∃ (h' : Heap) (tk : Nat) (v1 : Value), s' = { s with heap := h', toks := tk } ∧ Fr h₀ L h' (fun z => if z = x then some v1 else m z) ∧ News h₀ L h' news ∧ P v1
/-- what a loop leaves: names forgotten, one object of the ledger turned -/
def JL (h₀ : Heap) (L : Addr) (m : Str → Option Value) (news : List (Addr × Obj)) (x : Str) (d : Addr) (P : Obj → Prop) (s : Shared) (f : Flow) (s' : Shared) : Prop :=
  f = .next ∧ ∃ (h' : Heap) (tk : Nat) (u : Str → Option Value) (o : Obj), s' = { s with heap := h', toks := tk } ∧ Fr h₀ L h' (fun z => if z = x then u z else m z) ∧ News h₀ L h' ((d, o) :: news) ∧ P o
theorem JL.intro {x : Str} {d : Addr} {P : Obj → Prop} {u : Str → Option Value} {h' : Heap} {tk : Nat} {o : Obj} {all : List (Addr × Obj)} (F : Fr h₀ L h' (fun z => if z = x then u z else m z)) (N : News h₀ L h' all) (hs : ∀ p ∈ (d, o) :: news, p ∈ all) (hp : P o) :
    JL h₀ L m news x d P s .next { s with heap := h', toks := tk } := ⟨rfl, h', tk, u, o, rfl, F, fun p hp => N p (hs p hp), hp⟩
theorem joinL {st : Stmt} {env : Env} {K : Flow → Shared → Prop} {d : Addr} {o : Obj} (x : Str) (P : Obj → Prop) (_F : Fr h₀ L s.heap m) (_N : News h₀ L s.heap ((d, o) :: news)) (h1 : wpAny M A (exec st env) (JL h₀ L m news x d P s) E s)
    (h2 : ∀ h' tk (u : Str → Option Value) o', P o' → Fr h₀ L h' (fun z => if z = x then u z else m z) → News h₀ L h' ((d, o') :: news) → K .next { s with heap := h', toks := tk }) : wpAny M A (exec st env) K E s := by
  refine wpAny_mono h1 (fun f s' hj => ?_) fun _ _ e => e
  obtain ⟨rfl, h', tk, u, o', rfl, F', N', hp⟩ := hj
  exact h2 h' tk u o' hp F' N'
end
theorem Hold.wp {M : Model} {α : Type} {A : Around} {t : Sem α} {Q : α → Shared → Prop} {E : Value → Shared → Prop} {s : Shared} (h : Hold (wpAny M A t Q E s)) : wpAny M A t Q E s := h
end Mine
end
section
open PySem PySem.W PyProof.Rows PySem.Builtin PySem.Spec PySem.Calls
set_option maxRecDepth 100000
set_option maxHeartbeats 4000000
namespace Mine
open LCg
section
variable {prog : Program} {w : World} {A : Around} {E : Value → Shared → Prop} {s : Shared} {h₀ : Heap} {L : Addr} {m : Str → Option Value} {env : Env}
/-- a comprehension whose element gives an int: over any items -/
theorem crest_I {α : Type} {elt : Expr} {x : Str} {scope : Scope} {cl : List (Str × Addr)} {S : List (Addr × Obj) → Prop} {P : Nat → Value → Prop} {Fin : List Value → List (Addr × Obj) → Prop} {news : List (Addr × Obj)} {n : Nat} (xs : List α) (g : α → Int) (V : α → Value → Prop) (hn : xs.length = n)
    (hP : ∀ i v, i < n → P i v → ∃ a, xs[i]? = some a ∧ V a v)
    (turn : ∀ a v I oI C oC D m₂ ys h tk (E' : Value → Shared → Prop), a ∈ xs → V a v → NsObj oC m₂ → m₂ x = some v → Fr h₀ L h m → News h₀ L h ((I, oI) :: (C, oC) :: (D, lst ys) :: news) → Off3 I C D news → ((@Ne Nat I C) ∧ (@Ne Nat I D) ∧ (@Ne Nat C D)) →
      wpAny (model prog w) A (eval elt (compEnvC scope cl C env)) (CompEnd h₀ L m { s with heap := h, toks := tk } I oI C oC D (lst ys) S (fun y news' => KCfEl news (g a) y news')) E' { s with heap := h, toks := tk })
    (fin : ∀ ys, IntsAre ys (xs.map g) → Fin ys news) : CompRest prog w A h₀ L m env elt x scope cl s S P Fin n 0 [] news := by
  have key : ∀ (j i : Nat) (ys : List Value), i + j = n → IntsAre ys ((xs.take i).map g) → CompRest prog w A h₀ L m env elt x scope cl s S P Fin j i ys news := by
    intro j
    induction j with
    | zero =>
      intro i ys hi hy
      have e : i = xs.length := by omega
      subst e
      rw [List.take_length] at hy
      exact CompRest.zero (fin ys hy)
    | succ j ih =>
      intro i ys hi hy
      refine CompRest.succ ?_
      intro v I oI C oC D m₂ h tk E' hv hC hx F N off ne
      obtain ⟨a, ha, hv'⟩ := hP i v (by omega) hv
      refine wpAny_mono (turn a v I oI C oC D m₂ ys h tk E' (List.mem_of_getElem? ha) hv' hC hx F N off ne) (fun y s₂ hq => ?_) fun _ _ e => e
      obtain ⟨h', tk', nw, e, F', N', off', hS, hn', t', rfl⟩ := hq
      rw [hn'] at N' off' hS
      refine ⟨h', tk', news, e, F', N', off', hS, ih (i + 1) _ (by omega) ?_⟩
      rw [List.take_add_one, ha]
      simpa using IntsAre.append hy (.cons (g a) t' .nil)
  exact key n 0 [] (by omega) (by simp only [List.take_zero, List.map_nil]; exact .nil)
theorem str_item {vs : List Value} {xs : List PySem.Str} (h : StrsAre vs xs) {i : Nat} {v : Value} (hv : vs.toArray[i]? = some v) : ∃ a, xs[i]? = some a ∧ ∃ t, v = .str a t := by
  obtain ⟨wd, t, rfl, hx⟩ := h.item i v (by simpa using hv)
  exact ⟨wd, hx, t, rfl⟩
theorem int_item {vs : List Value} {xs : List Int} (h : IntsAre vs xs) {i : Nat} {v : Value} (hv : vs.toArray[i]? = some v) : ∃ a, xs[i]? = some a ∧ ∃ t, v = .int a t := by
  obtain ⟨k, t, e, hk⟩ := IntsAre.at h i v (by simpa using hv)
  exact ⟨k, hk, t, e⟩
end
section
variable {prog : Program} {w : World} {A : Around} {E : Value → Shared → Prop} {s : Shared} {env : Env} {h₀ : Heap} {x : Str} {body : List Stmt} {Q : Flow → Shared → Prop}
theorem keepS_fr {m₁ m₀ : Str → Option Value} {stored : List Str} {v : Value} {h : Heap} {L : Addr} (hm : ∀ z, z ≠ x → stored.contains z = false → m₁ z = m₀ z) (F : Fr h₀ L h (fun y => if y = x then some v else m₁ y)) : Fr h₀ L h (fun y => if y = x then some v else if stored.contains y then m₁ y else m₀ y) := by
  have e : (fun y => if y = x then some v else m₁ y) = fun y => if y = x then some v else if stored.contains y then m₁ y else m₀ y := by
    funext z
    by_cases h1 : z = x
    · simp [h1]
    · simp only [if_neg h1]
      cases h2 : stored.contains z with
      | true => rfl
      | false => simpa using hm z h1 h2
  rw [e] at F; exact F
theorem keepS_frU {m₁ m₀ : Str → Option Value} {stored : List Str} {h : Heap} {L : Addr} (hm : ∀ z, z ≠ x → stored.contains z = false → m₁ z = m₀ z) (F : Fr h₀ L h m₁) : Fr h₀ L h (fun y => if y = x then m₁ y else if stored.contains y then m₁ y else m₀ y) := by
  have e : m₁ = fun y => if y = x then m₁ y else if stored.contains y then m₁ y else m₀ y := by
    funext z
    by_cases h1 : z = x
    · simp [h1]
    · simp only [if_neg h1]
      cases h2 : stored.contains z with
      | true => rfl
      | false => simpa using hm z h1 h2
  rw [e] at F; exact F
/-- a loop over a range that stores names that nothing behind asks -/
theorem for_rangeS {r : Addr} {a b c : Int} {t u v : Tok} {n : Nat} {m₀ : Str → Option Value} {news : List (Addr × Obj)} (stored : List Str) (P : Nat → Prop)
    (hh : A.handled = none) (hr : IsRange s.heap r a b c t u v) (hsmall : Builtin.Range.small a b c = true) (hsz : Builtin.Range.rangeSize a b c = (n : Int)) (F : Fr h₀ env.locals s.heap m₀) (N : News h₀ env.locals s.heap news) (hj : P 0)
    (turn : ∀ i k t h tk own (u : Str → Option Value), i < n → k = a + (i : Int) * c → OwnOff own (news.map (·.1)) → P i → Fr h₀ env.locals h (fun y => if y = x then some (.int k t) else if stored.contains y then u y else m₀ y) → News h₀ env.locals h (news ++ own) →
      wpAny (model prog w) A (execs body env) (InvPostG h₀ env.locals (fun m' nx => nx = news ∧ (∀ z, z ≠ x → stored.contains z = false → m' z = m₀ z) ∧ P (i + 1)) own { s with heap := h, toks := tk } Q) E { s with heap := h, toks := tk })
    (done : ∀ (u : Str → Option Value) h tk, P n → Fr h₀ env.locals h (fun y => if y = x then u y else if stored.contains y then u y else m₀ y) → News h₀ env.locals h news → Q .next { s with heap := h, toks := tk }) :
    wpAny (model prog w) A (pyIter (.ref r)) (fun it s₂ => LoopAtV prog w A h₀ env x body Q E it s₂) E s := by
  refine for_range (fun i m' nx => nx = news ∧ (∀ z, z ≠ x → stored.contains z = false → m' z = m₀ z) ∧ P i) hh hr hsmall hsz F N ⟨rfl, fun _ _ _ => rfl, hj⟩ ?_ ?_
  · rintro i k t m₁ nx h tk own hi hk hoff ⟨rfl, hm, hp⟩ F₁ N₁
    exact turn i k t h tk own m₁ hi hk hoff hp (keepS_fr hm F₁) N₁
  · rintro m₁ nx h tk ⟨rfl, hm, hp⟩ F₁ N₁
    exact done m₁ h tk hp (keepS_frU hm F₁) N₁
theorem over2 {m₁ m₀ : Str → Option Value} {y1 y2 : Str} {v v1 v2 : Value} {h : Heap} {L : Addr} (h1 : m₁ y1 = some v1) (h2 : m₁ y2 = some v2) (hm : ∀ z, z ≠ x → z ≠ y1 → z ≠ y2 → m₁ z = m₀ z) (F : Fr h₀ L h (fun y => if y = x then some v else m₁ y)) :
    Fr h₀ L h (fun y => if y = x then some v else if y = y1 then some v1 else if y = y2 then some v2 else m₀ y) := by
  have e : (fun y => if y = x then some v else m₁ y) = fun y => if y = x then some v else if y = y1 then some v1 else if y = y2 then some v2 else m₀ y := by
    funext z
    by_cases e0 : z = x
    · simp [e0]
    · by_cases e1 : z = y1
      · subst e1; simp [e0, h1]
      · by_cases e2 : z = y2
        · subst e2; simp [e0, e1, h2]
        · simp only [if_neg e0, if_neg e1, if_neg e2]; exact hm z e0 e1 e2
  rw [e] at F; exact F
theorem over2U {m₁ m₀ : Str → Option Value} {y1 y2 : Str} {v1 v2 : Value} {h : Heap} {L : Addr} (h1 : m₁ y1 = some v1) (h2 : m₁ y2 = some v2) (hm : ∀ z, z ≠ x → z ≠ y1 → z ≠ y2 → m₁ z = m₀ z) (F : Fr h₀ L h m₁) :
    Fr h₀ L h (fun y => if y = y1 then some v1 else if y = y2 then some v2 else if y = x then m₁ y else m₀ y) := by
  have e : m₁ = fun y => if y = y1 then some v1 else if y = y2 then some v2 else if y = x then m₁ y else m₀ y := by
    funext z
    by_cases e1 : z = y1
    · subst e1; simp [h1]
    · by_cases e2 : z = y2
      · subst e2; simp [e1, h2]
      · by_cases e0 : z = x
        · subst e0; simp [e1, e2]
        · simp only [if_neg e0, if_neg e1, if_neg e2]; exact hm z e0 e1 e2
  rw [e] at F; exact F
/-- a loop over a made list of ints that turns two ints -/
theorem for_ints2 {l : Addr} {vs : List Value} {ns : List Int} {nn : Nat} {m₀ : Str → Option Value} {news : List (Addr × Obj)} {a₀ b₀ : Int} {t₀ u₀ : Tok} (y1 y2 : Str) (g : Int × Int → Int → Int × Int)
    (hh : A.handled = none) (hl : (l, listOf vs.toArray nn) ∈ news) (hi : IntsAre vs ns) (F : Fr h₀ env.locals s.heap m₀) (N : News h₀ env.locals s.heap news) (e1 : m₀ y1 = some (.int a₀ t₀)) (e2 : m₀ y2 = some (.int b₀ u₀))
    (turn : ∀ i n t a b ta tb h tk own, ns[i]? = some n → (a, b) = (ns.take i).foldl g (a₀, b₀) → OwnOff own (news.map (·.1)) → Fr h₀ env.locals h (fun y => if y = x then some (.int n t) else if y = y1 then some (.int a ta) else if y = y2 then some (.int b tb) else m₀ y) → News h₀ env.locals h (news ++ own) →
      wpAny (model prog w) A (execs body env) (InvPostG h₀ env.locals (fun m' nx => nx = news ∧ (∃ ta tb, m' y1 = some (.int (g (a, b) n).1 ta) ∧ m' y2 = some (.int (g (a, b) n).2 tb)) ∧ ∀ z, z ≠ x → z ≠ y1 → z ≠ y2 → m' z = m₀ z) own { s with heap := h, toks := tk } Q) E { s with heap := h, toks := tk })
    (done : ∀ (u : Str → Option Value) ta tb h tk, Fr h₀ env.locals h (fun y => if y = y1 then some (.int (ns.foldl g (a₀, b₀)).1 ta) else if y = y2 then some (.int (ns.foldl g (a₀, b₀)).2 tb) else if y = x then u y else m₀ y) → News h₀ env.locals h news → Q .next { s with heap := h, toks := tk }) :
    wpAny (model prog w) A (pyIter (.ref l)) (fun it s₂ => LoopAtV prog w A h₀ env x body Q E it s₂) E s := by
  refine kdl_iter (fun i m nx => nx = news ∧ (∃ ta tb, m y1 = some (.int ((ns.take i).foldl g (a₀, b₀)).1 ta) ∧ m y2 = some (.int ((ns.take i).foldl g (a₀, b₀)).2 tb)) ∧ ∀ z, z ≠ x → z ≠ y1 → z ≠ y2 → m z = m₀ z) hh hl F N ⟨rfl, ⟨t₀, u₀, by simpa using e1, by simpa using e2⟩, fun _ _ _ _ => rfl⟩ ?_ ?_
  · rintro i v m₁ news₁ h tk own hv hoff _ ⟨rfl, ⟨ta, tb, h1, h2⟩, hm⟩ F₁ N₁
    obtain ⟨n, hn, t, rfl⟩ := int_item hi (i := i) (by simpa using hv)
    have hs : (ns.take (i + 1)).foldl g (a₀, b₀) = g ((ns.take i).foldl g (a₀, b₀)) n := by rw [List.take_add_one, hn]; simp
    refine wpAny_mono (turn i n t _ _ ta tb h tk own hn rfl hoff (over2 h1 h2 hm F₁) N₁) (fun f s₂ p => ?_) fun _ _ e => e
    have up : ∀ {s₁ s₂}, InvEndG h₀ env.locals (fun m' nx => nx = news₁ ∧ (∃ ta tb, m' y1 = some (.int (g ((ns.take i).foldl g (a₀, b₀)) n).1 ta) ∧ m' y2 = some (.int (g ((ns.take i).foldl g (a₀, b₀)) n).2 tb)) ∧ ∀ z, z ≠ x → z ≠ y1 → z ≠ y2 → m' z = m₀ z) own s₁ s₂ →
        InvEndG h₀ env.locals (fun m' nx => (l, listOf vs.toArray nn) ∈ nx ∧ nx = news₁ ∧ (∃ ta tb, m' y1 = some (.int ((ns.take (i + 1)).foldl g (a₀, b₀)).1 ta) ∧ m' y2 = some (.int ((ns.take (i + 1)).foldl g (a₀, b₀)).2 tb)) ∧ ∀ z, z ≠ x → z ≠ y1 → z ≠ y2 → m' z = m₀ z) own s₁ s₂ := by
      rintro s₁ s₂ ⟨h', tk, m', news', nx, e, F', N', hn', ho, ha, hj⟩
      rw [hs]
      exact ⟨h', tk, m', news', nx, e, F', N', hn', ho, ha, by rw [hj.1]; exact hl, hj⟩
    cases f with
    | ret v => exact p
    | brk => exact p
    | next => exact up p
    | cont => exact up p
  · rintro m₁ news₁ h tk ⟨rfl, ⟨ta, tb, h1, h2⟩, hm⟩ F₁ N₁
    have e : ns.take vs.length = ns := by rw [hi.length]; simp
    rw [e] at h1 h2
    exact done m₁ ta tb h tk (over2U h1 h2 hm F₁) N₁
end
end Mine
end
section
open PySem PySem.W PyProof.Rows PySem.Builtin PySem.Spec PySem.Calls
set_option maxRecDepth 100000
set_option maxHeartbeats 4000000
namespace Mine
section
variable {prog : Program} {w : World} {A : Around} {E : Value → Shared → Prop} {s : Shared} {h₀ : Heap} {L : Addr} {m : Str → Option Value} {news : List (Addr × Obj)}
theorem rep_one {l : Addr} {v : Value} {k : Nat} {x : Int} {u : Tok} {Q : Value → Shared → Prop} (F : Fr h₀ L s.heap m) (N : News h₀ L s.heap news) (hm : (l, listOf [v].toArray k) ∈ news) (h0 : 0 ≤ x) (hx : x ≤ 1000)
    (h : ∀ D h', Fr h₀ L h' m → News h₀ L h' ((D, listOf (List.replicate x.toNat v).toArray 0) :: news) → (∀ p ∈ news, p.1 < D) → Q (.ref D) { s with heap := h' }) :
    wpAny (model prog w) A (binaryOp .Mult (.ref l) (.int x u)) Q E s := by
  refine mul_list F N (N _ hm).1 (by omega) (by omega) (by simp; omega) fun h' F' N' => ?_
  refine h _ h' F' ?_ (fun p hp => Heap.lt_size (N p hp).1)
  have e : (List.foldl (fun x1 x2 => x1 ++ x2) #[] (List.replicate (if ([v].toArray : Array Value).isEmpty = true then 0 else x.toNat) [v].toArray) : Array Value) = (List.replicate x.toNat v).toArray := by
    rw [if_neg (by simp), listMul_foldl]
    congr 1
    generalize x.toNat = n
    induction n with
    | zero => rfl
    | succ n ih => simp [List.replicate_succ]
  rw [e] at N'
  exact N'
end
theorem strs_rep (p : PySem.Str) (t : Tok) : ∀ n : Nat, StrsAre (List.replicate n (.str p t)) (List.replicate n p)
  | 0 => .nil
  | n + 1 => .cons p t (strs_rep p t n)
theorem rep_w {p : PySem.Str} {n : Nat} (hn : n ≤ 52) (hp : p.length ≤ 1000) : ((List.replicate n p).map (·.length)).sum + (List.replicate n p).length ≤ 60000 := by
  have e : ∀ n : Nat, ((List.replicate n p).map (·.length)).sum = n * p.length := by
    intro n
    induction n with
    | zero => simp
    | succ n ih => rw [List.replicate_succ, List.map_cons, List.sum_cons, ih, Nat.succ_mul]; omega
  rw [e n, List.length_replicate]
  have : n * p.length ≤ 52 * 1000 := Nat.mul_le_mul hn hp
  omega
end Mine
end
section
open PySem PySem.W PyProof.Rows PySem.Builtin PySem.Spec PySem.Calls
set_option maxRecDepth 100000
set_option maxHeartbeats 4000000
namespace Mine
open LCg LCt
section
variable {prog : Program} {w : World} {A : Around} {E : Value → Shared → Prop} {s : Shared} {h₀ : Heap} {L : Addr} {m : Str → Option Value} {env : Env}
def TestEnd (b : Bool) (P N : Prop) (ok : Bool) : Prop := ok = b ∧ if ok = true then P else N
/-- a comprehension over ints with one test, its items kept as they are -/
theorem crest_T {ct elt : Expr} {x : Str} {scope : Scope} {cl : List (Str × Addr)} {S : List (Addr × Obj) → Prop} {P : Nat → Value → Prop} {Fin : List Value → List (Addr × Obj) → Prop} {news : List (Addr × Obj)} {n : Nat} (xs : List Int) (c : Int → Bool) (hn : xs.length = n)
    (hP : ∀ i v, i < n → P i v → ∃ a, xs[i]? = some a ∧ ∃ t, v = .int a t)
    (turn : ∀ a t I oI C oC D m₂ ys h tk (E' : Value → Shared → Prop), a ∈ xs → NsObj oC m₂ → m₂ x = some (.int a t) → Fr h₀ L h m → News h₀ L h ((I, oI) :: (C, oC) :: (D, lst ys) :: news) → Off3 I C D news → ((@Ne Nat I C) ∧ (@Ne Nat I D) ∧ (@Ne Nat C D)) →
      wpAny (model prog w) A (isTrue ct (compEnvC scope cl C env) (eval ct (compEnvC scope cl C env))) (fun ok s' => TestEnd (c a)
        (wpAny (model prog w) A (eval elt (compEnvC scope cl C env)) (CompEnd h₀ L m { s with heap := h, toks := tk } I oI C oC D (lst ys) S (fun y news' => KCfEl news a y news')) E' s')
        (CompEnd h₀ L m { s with heap := h, toks := tk } I oI C oC D (lst ys) S (fun _ news' => news' = news) Value.none s') ok) E' { s with heap := h, toks := tk })
    (fin : ∀ ys, IntsAre ys (xs.filter c) → Fin ys news) : CompRestT prog w A h₀ L m env ct elt x scope cl s S P Fin n 0 [] news := by
  have key : ∀ (j i : Nat) (ys : List Value), i + j = n → IntsAre ys ((xs.take i).filter c) → CompRestT prog w A h₀ L m env ct elt x scope cl s S P Fin j i ys news := by
    intro j
    induction j with
    | zero =>
      intro i ys hi hy
      have e : i = xs.length := by omega
      subst e
      rw [List.take_length] at hy
      exact CompRestT.zero (fin ys hy)
    | succ j ih =>
      intro i ys hi hy
      refine CompRestT.succ ?_
      intro v I oI C oC D m₂ h tk E' hv hC hx F N off ne
      obtain ⟨a, ha, t, rfl⟩ := hP i v (by omega) hv
      have hs : (xs.take (i + 1)).filter c = (xs.take i).filter c ++ if c a then [a] else [] := by
        rw [List.take_add_one, ha, List.filter_append]
        cases hc : c a <;> simp [hc]
      refine wpAny_mono (turn a t I oI C oC D m₂ ys h tk E' (List.mem_of_getElem? ha) hC hx F N off ne) (fun ok s₂ hq => ?_) fun _ _ e => e
      obtain ⟨rfl, hq⟩ := hq
      cases hc : c a with
      | true =>
        rw [hc] at hq hs
        simp only [if_true] at hq hs ⊢
        refine wpAny_mono hq (fun y s₃ hq => ?_) fun _ _ e => e
        obtain ⟨h', tk', nw, e, F', N', off', hS, hn', t', rfl⟩ := hq
        rw [hn'] at N' off' hS
        refine ⟨h', tk', news, e, F', N', off', hS, ih (i + 1) _ (by omega) ?_⟩
        rw [hs]
        exact IntsAre.append hy (.cons a t' .nil)
      | false =>
        rw [hc] at hq hs
        simp only [Bool.false_eq_true, if_false] at hq hs ⊢
        obtain ⟨h', tk', nw, e, F', N', off', hS, hn'⟩ := hq
        rw [hn'] at N' off' hS
        refine ⟨h', tk', news, e, F', N', off', hS, ih (i + 1) _ (by omega) ?_⟩
        rw [hs, List.append_nil]
        exact hy
  exact key n 0 [] (by omega) (by simp only [List.take_zero, List.filter_nil]; exact .nil)
theorem TestEnd.tt {b : Bool} {P N : Prop} (e : b = true) (h : P) : TestEnd b P N true := ⟨e.symm, by simpa using h⟩
theorem TestEnd.ff {b : Bool} {P N : Prop} (e : b = false) (h : N) : TestEnd b P N false := ⟨e.symm, by simpa using h⟩
theorem TestEnd.of {b : Bool} {P N : Prop} (h1 : b = true → P) (h2 : b = false → N) : TestEnd b P N b := ⟨rfl, by cases b with | true => simpa using h1 rfl | false => simpa using h2 rfl⟩
end
end Mine
end
section
open PySem PySem.W PyProof.Rows PySem.Builtin PySem.Spec PySem.Calls
set_option maxRecDepth 100000
set_option maxHeartbeats 4000000
namespace Mine
section
variable {prog : Program} {w : World} {A : Around} {E : Value → Shared → Prop} {s : Shared} {env : Env} {h₀ : Heap} {X : Str} {body : List Stmt} {Q : Flow → Shared → Prop}
/-- a loop over the signs of a text that grows one list of ints -/
theorem for_signsL {z : Str} {t : Tok} {D : Addr} {x₀ : Int} {t₀ : Tok} {k₀ : Nat} {m₀ : Str → Option Value} {rest : List (Addr × Obj)} (g : List Int × Int → Nat → List Int × Int)
    (hh : A.handled = none) (F : Fr h₀ env.locals s.heap m₀) (N : News h₀ env.locals s.heap ((D, listOf [Value.int x₀ t₀].toArray k₀) :: rest))
    (turn : ∀ i c t l x r tx kk h tk own, z.cps.toList[i]? = some c → (l, x) = (z.cps.toList.take i).foldl g ([], x₀) → IntsAre r l → l.length ≤ z.cps.size → OwnOff own (D :: rest.map (·.1)) → Fr h₀ env.locals h (fun y => if y = X then some (.str (one c) t) else m₀ y) → News h₀ env.locals h ((D, listOf (r ++ [Value.int x tx]).toArray kk) :: (rest ++ own)) →
      wpAny (model prog w) A (execs body env) (InvPostG h₀ env.locals (fun m' nx => (∃ r' tx' kk', nx = (D, listOf (r' ++ [Value.int (g (l, x) c).2 tx']).toArray kk') :: rest ∧ IntsAre r' (g (l, x) c).1) ∧ ∀ y, y ≠ X → m' y = m₀ y) own { s with heap := h, toks := tk } Q) E { s with heap := h, toks := tk })
    (glen : ∀ a c, (g a c).1.length ≤ a.1.length + 1)
    (done : ∀ (u : Str → Option Value) r tx kk h tk, IntsAre r (z.cps.toList.foldl g ([], x₀)).1 → Fr h₀ env.locals h (fun y => if y = X then u y else m₀ y) → News h₀ env.locals h ((D, listOf (r ++ [Value.int (z.cps.toList.foldl g ([], x₀)).2 tx]).toArray kk) :: rest) → Q .next { s with heap := h, toks := tk }) :
    wpAny (model prog w) A (pyIter (.str z t)) (fun it s₂ => LoopAtV prog w A h₀ env X body Q E it s₂) E s := by
  have hlen : ∀ (cs : List Nat) (a : List Int × Int), (cs.foldl g a).1.length ≤ a.1.length + cs.length := by
    intro cs
    induction cs with
    | nil => intro a; simp
    | cons c r ih =>
      intro a
      have h1 := ih (g a c)
      have h2 := glen a c
      simp only [List.foldl_cons, List.length_cons]
      omega
  refine for_signs (fun i m nx => (∃ r tx kk, nx = (D, listOf (r ++ [Value.int ((z.cps.toList.take i).foldl g ([], x₀)).2 tx]).toArray kk) :: rest ∧ IntsAre r ((z.cps.toList.take i).foldl g ([], x₀)).1) ∧ ∀ y, y ≠ X → m y = m₀ y) hh F N ⟨⟨[], t₀, k₀, by simp, by simpa using IntsAre.nil⟩, fun _ _ => rfl⟩ ?_ ?_
  · rintro i c u m₁ nx h tk own hc hoff ⟨⟨r, tx, kk, rfl, hr⟩, hm⟩ F₁ N₁
    have hs : (z.cps.toList.take (i + 1)).foldl g ([], x₀) = g ((z.cps.toList.take i).foldl g ([], x₀)) c := by rw [List.take_add_one, hc]; simp
    rw [hs]
    have hl := hlen (z.cps.toList.take i) ([], x₀)
    simp only [List.length_nil, List.length_take, Array.length_toList] at hl
    exact turn i c u _ _ r tx kk h tk own hc rfl hr (by omega) (by simpa using hoff) (keep_fr hm F₁) (by simpa using N₁)
  · rintro m₁ nx h tk ⟨⟨r, tx, kk, rfl, hr⟩, hm⟩ F₁ N₁
    have e : z.cps.toList.take z.cps.size = z.cps.toList := by rw [← Array.length_toList, List.take_length]
    rw [e] at hr N₁
    exact done m₁ r tx kk h tk hr (keep_frU hm F₁) N₁
end
theorem allLt_ne {d : Addr} : ∀ {l : List (Addr × Obj)}, AllLt d l → ∀ p ∈ l, p.1 ≠ d
  | [], _, _, h => nomatch h
  | _ :: _, x, p, h => by
    rcases List.mem_cons.mp h with rfl | h
    · exact Nat.ne_of_lt x.1
    · exact allLt_ne x.2 p h
section
variable {prog : Program} {w : World} {A : Around} {E : Value → Shared → Prop} {s : Shared} {h₀ : Heap} {L : Addr} {m : Str → Option Value} {rest : List (Addr × Obj)}
theorem app_head {D : Addr} {vs : List Value} {k : Nat} {v : Value} {Q : Value → Shared → Prop} (F : Fr h₀ L s.heap m) (N : News h₀ L s.heap ((D, listOf vs.toArray k) :: rest)) (hne : ∀ p ∈ rest, p.1 ≠ D) (hsz : vs.length ≤ 100000)
    (h : ∀ h', Fr h₀ L h' m → News h₀ L h' ((D, listOf (vs ++ [v]).toArray (k + 1)) :: rest) → Q .none { s with heap := h' }) : wpAny (model prog w) A (call (.builtin "list.append") [.ref D, v]) Q E s := by
  refine append_K F N (.head hne) (fun h' F' N' => h h' F' ?_) (by rw [sizeLine_eq, List.size_toArray]; omega)
  have e : vs.toArray.push v = (vs ++ [v]).toArray := by simp
  rw [← e]; exact N'
end
theorem end_L {h₀ h' : Heap} {L D : Addr} {m' m₀ : Str → Option Value} {X : Str} {vs : List Value} {l : List Int} {y : Int} {ty : Tok} {k tk : Nat} {rest own : List (Addr × Obj)} {s₁ : Shared} {g : List Int × Int → Nat → List Int × Int} {a : List Int × Int} {c : Nat}
    (F : Fr h₀ L h' m') (N : News h₀ L h' ((D, listOf (vs ++ [Value.int y ty]).toArray k) :: (rest ++ own))) (hI : IntsAre vs l) (e : g a c = (l, y)) (ho : OwnOff own (D :: rest.map (·.1))) (hm : ∀ z, z ≠ X → m' z = m₀ z) :
    InvEndG h₀ L (fun m' nx => (∃ r' tx' kk', nx = (D, listOf (r' ++ [Value.int (g a c).2 tx']).toArray kk') :: rest ∧ IntsAre r' (g a c).1) ∧ ∀ z, z ≠ X → m' z = m₀ z) own s₁ { s₁ with heap := h', toks := tk } := by
  refine ⟨h', tk, m', _, (D, listOf (vs ++ [Value.int y ty]).toArray k) :: rest, rfl, F, N, ?_, ?_, by simpa using ho, ⟨vs, ty, k, by rw [e], by rw [e]; exact hI⟩, hm⟩
  · intro p hp
    rcases List.mem_cons.mp hp with rfl | hp
    · exact .head _
    · exact .tail _ (List.mem_append.mpr (.inl hp))
  · intro p hp
    exact .tail _ (List.mem_append.mpr (.inr hp))
end Mine
end
section
open PySem PySem.W PyProof.Rows PySem.Builtin PySem.Spec PySem.Calls
set_option maxRecDepth 100000
set_option maxHeartbeats 4000000
namespace Mine
section
variable {prog : Program} {w : World} {A : Around} {E : Value → Shared → Prop} {s : Shared} {h₀ : Heap} {L : Addr} {m : Str → Option Value} {news : List (Addr × Obj)}
theorem ne_N {a b : Addr} {vs us : List Value} {ns ms : List Int} {k j : Nat} {Q : Value → Shared → Prop} (N : News h₀ L s.heap news) (h1 : (a, listOf vs.toArray k) ∈ news) (h2 : (b, listOf us.toArray j) ∈ news) (hi : IntsAre vs ns) (hi' : IntsAre us ms) (hu : A.units + 64 < cLine)
    (h : Q (.bool (!decide (ns = ms))) s) : wpAny (model prog w) A (compareOp .NotEq (.ref a) (.ref b)) Q E s :=
  ne_intsK (News.isList N h1) hi (News.isList N h2) hi' hu h
end
def Keep (l : List Str) (m m' : Str → Option Value) : Prop := ∀ z, l.contains z = false → m' z = m z
theorem fr_at1 {h₀ h : Heap} {L : Addr} {m : Str → Option Value} {x : Str} {v : Value} (F : Fr h₀ L h m) (e : m x = some v) : Fr h₀ L h (fun z => if z = x then some v else m z) := by
  have : m = fun z => if z = x then some v else m z := by
    funext z
    by_cases h1 : z = x
    · simp [h1, e]
    · simp [h1]
  rwa [this] at F
theorem fr_at2 {h₀ h : Heap} {L : Addr} {m : Str → Option Value} {x y : Str} {v u : Value} (F : Fr h₀ L h m) (e : m x = some v) (e2 : m y = some u) : Fr h₀ L h (fun z => if z = x then some v else if z = y then some u else m z) := by
  have : m = fun z => if z = x then some v else if z = y then some u else m z := by
    funext z
    by_cases h1 : z = x
    · simp [h1, e]
    · by_cases h2 : z = y
      · subst h2; simp [h1, e2]
      · simp [h1, h2]
  rwa [this] at F
theorem fr_put {h₀ h : Heap} {L : Addr} {m m' : Str → Option Value} (F : Fr h₀ L h m) (e : m = m') : Fr h₀ L h m' := e ▸ F
theorem put_at {m : Str → Option Value} {x : Str} {v : Value} {f : Str → Option Value} (e : m x = some v) (hf : m = f) : m = fun z => if z = x then some v else f z := by
  funext z
  by_cases h1 : z = x
  · simp [h1, e]
  · simp [h1, hf]
end Mine
end
section
open PySem PySem.W PyProof.Rows PySem.Builtin PySem.Builtin.Str PySem.Calls
set_option maxRecDepth 100000
set_option maxHeartbeats 8000000
namespace Mine
section
variable {prog : Program} {A : Around} {w : World} {mean : ExcName → Option Value} {mg mb : Str → Option Value} {news : List (Addr × Obj)} {dp un : Nat} {gd : Option (List Code)} {cn : Str} {cs : Scope} {a : Addr} {ccd : Value} {cl : List (Str × Addr)} {outer : List Env} {A₀ : Around} {base h₀ : Heap} {L : Addr} {m : Str → Option Value} {s : Shared} {Q E : Value → Shared → Prop}
theorem qd_call {x : Str} {t1 : Tok} (B : Below A₀ base outer h₀) (F : Fr h₀ L s.heap m) (X : (hd.heap_39 w.params).In h₀) (N : News h₀ L s.heap news) (T : Top hd.view_39 Lo1 mean mg mb h₀) (hk : cs.kind = .function) (hp : x.length ≤ 20000) (hd1 : dp + 1 < recursionLimit) (hu : un + 8 < cLine)
    (h : ∀ (t : Tok) (h' : Heap) (tk' : Nat), Fr h₀ L h' m → News h₀ L h' news → Q (.str (qdT x) t) { s with heap := h', toks := tk' }) :
    wpAny (model Pr1 w) (ktrTop dp un gd cn cs L a ccd cl outer) (call (.ref 48) [.str x t1]) Q E s :=
  qd w mean mg mb news x t1 dp un gd cn cs a ccd cl outer A₀ base h₀ L m s Q E B F X N T hk hp hd1 hu h
theorem ml_call {word kept e tail : Str} {t1 t2 t3 t4 : Tok} (B : Below A₀ base outer h₀) (F : Fr h₀ L s.heap m) (X : (hd.heap_39 w.params).In h₀) (N : News h₀ L s.heap news) (T : Top hd.view_39 Lo1 mean mg mb h₀) (hk : cs.kind = .function) (hp : word.length ≤ 1000 ∧ kept.length = 1 ∧ e.length ≤ 2 ∧ tail.length ≤ 20) (hd1 : dp + 1 < recursionLimit) (hu : un + 8 < cLine)
    (h : ∀ (t : Tok) (h' : Heap) (tk' : Nat), Fr h₀ L h' m → News h₀ L h' news → Q (.str (mailS word kept e tail) t) { s with heap := h', toks := tk' }) :
    wpAny (model Pr1 w) (ktrTop dp un gd cn cs L a ccd cl outer) (call (.ref 91) [.str word t1, .str kept t2, .str e t3, .str tail t4]) Q E s :=
  ml w mean mg mb news word kept e tail t1 t2 t3 t4 dp un gd cn cs a ccd cl outer A₀ base h₀ L m s Q E B F X N T hk hp hd1 hu h
theorem app_drop {D : Addr} {vs : List Value} {k : Nat} {v : Value} {all rest : List (Addr × Obj)} {Q : Value → Shared → Prop} (F : Fr h₀ L s.heap m) (N : News h₀ L s.heap all) (hm : (D, listOf vs.toArray k) ∈ all) (hne : ∀ p ∈ rest, p.1 ≠ D) (hs : ∀ p ∈ rest, p ∈ all) (hsz : vs.length ≤ 100000)
    (h : ∀ h', Fr h₀ L h' m → News h₀ L h' ((D, listOf (vs ++ [v]).toArray (k + 1)) :: rest) → Q .none { s with heap := h' }) : wpAny (model prog w) A (call (.builtin "list.append") [.ref D, v]) Q E s :=
  app_head F (fun p hp => N p ((List.mem_cons.mp hp).elim (fun e => e ▸ hm) (hs p))) hne hsz h
theorem mul1 {x : Str} {t u : Tok} {i : Int} {Q : Value → Shared → Prop} (hx : x.length = 1) (h0 : -10 ≤ i) (h1 : i ≤ 2000) (h : ∀ t' k, Q (.str (Txt.mul x i) t') { s with toks := k }) : wpAny (model prog w) A (binaryOp .Mult (.str x t) (.int i u)) Q E s :=
  SB.mul (mulOk_of 16 1048576 (by omega) (by omega) (by omega) (by decide) (by decide)) h
end
theorem pick3 (vs : List Value) : slicePick vs.toArray none (some (-3)) none = (vs.take (vs.length - 3)).toArray := by
  have e : sliceBounds none (some (-3)) none vs.toArray.size = (((0 : Nat) : Int), ((vs.toArray.size - 3 : Nat) : Int), 1) := by
    simp only [sliceBounds, Option.getD_none, show (1 : Int) > 0 by decide, if_true, if_pos (show (-3 : Int) < 0 by decide)]
    congr 1
    congr 1
    omega
  rw [kmk_pick_nat _ e]
  simp
/-- the lines of a mail but its last three -/
def cutP (sent : Str) : List Str := (Txt.split sent (Str.ofString "\r\n")).take ((Txt.split sent (Str.ofString "\r\n")).length - 3)
def nextR (kept other sent : Str) : Str := Txt.join other ((cutP sent).map fun p => Txt.mul kept ((p.length : Int) - 1))
structure TurnR (word kept other e tail nx : Str) : Prop where
  wl : word.length ≤ 1000
  k1 : kept.length = 1
  o1 : other.length = 1
  e2 : e.length ≤ 2
  t20 : tail.length ≤ 20
  ml : (mailS word kept e tail).length ≤ 1000
  ql : (qdT (mailS word kept e tail)).length ≤ 1000
  jw : (((cutP (qdT (mailS word kept e tail))).map fun p => Txt.mul kept ((p.length : Int) - 1)).map (·.length)).sum + ((cutP (qdT (mailS word kept e tail))).map fun p => Txt.mul kept ((p.length : Int) - 1)).length ≤ 10000
  nxe : nextR kept other (qdT (mailS word kept e tail)) = nx
  nl : nx.length ≤ 1000
  same : qdT (mailS word kept e tail) = mailS nx kept (Str.ofString "\r\n") (Str.ofString "\r\n..a.\r\na.")
theorem cut_item {x : Str} {l : List (Str × Tok)} (e : l.map (fun p => p.1) = Txt.split x (Str.ofString "\r\n")) (h : StrsAre (strValues l) (l.map fun p => p.1)) : StrsAre ((strValues l).take ((strValues l).length - 3)) (cutP x) := by
  have e1 : (strValues l).length = (Txt.split x (Str.ofString "\r\n")).length := by rw [h.len_eq, e]
  rw [e1]
  unfold cutP
  rw [← e]
  exact h.take' _
end Mine
end
section
open PySem PySem.W PyProof.Rows PySem.Builtin PySem.Builtin.Str
set_option maxRecDepth 100000
set_option maxHeartbeats 8000000
namespace Mine
theorem fillI : PySem.Challenge.rw_rw0014_01 = PySem.Challenge.rw_rw0014_01 ∧ hd.heap_39 = hd.heap_39 := by k_fill; exact ⟨rfl, rfl⟩
theorem ist (w : World) (mean : ExcName → Option Value) (mg mb : Str → Option Value) (news : List (Addr × Obj)) (x : Int) (t1 : Tok) :
  CbClaim PySem.Challenge.rw_rw0014_01.row.prog w (hd.heap_39 w.params) hd.view_39 (looseW hd.view_39 [Str.ofString "_twin_re_1", Str.ofString "_twin_re_2"]) mean mg mb 62 news [] True [.int x t1] (fun _ => .bool (decide (x < 256))) := by
  w_on
  dsimp only [CbClaim, CbLists, CbRet]; intros; rename_i hret
  refine wpAny_call ?_
  k_dflt cell_enter
  k_steps
  all_goals (try (cb_end hret))
theorem isn (w : World) (mean : ExcName → Option Value) (mg mb : Str → Option Value) (news : List (Addr × Obj)) (x : Int) (t1 : Tok) :
  CbClaim PySem.Challenge.rw_rw0014_01.row.prog w (hd.heap_39 w.params) hd.view_39 (looseW hd.view_39 [Str.ofString "_twin_re_1", Str.ofString "_twin_re_2"]) mean mg mb 69 news [] True [.int x t1] (fun _ => .bool (decide (x ≥ 256))) := by
  w_on
  dsimp only [CbClaim, CbLists, CbRet]; intros; rename_i hret
  refine wpAny_call ?_
  k_dflt cell_enter
  k_steps
  all_goals (try (cb_end hret))
theorem ise (w : World) (mean : ExcName → Option Value) (mg mb : Str → Option Value) (news : List (Addr × Obj)) (x : Int) (t1 : Tok) :
  CbClaim PySem.Challenge.rw_rw0014_01.row.prog w (hd.heap_39 w.params) hd.view_39 (looseW hd.view_39 [Str.ofString "_twin_re_1", Str.ofString "_twin_re_2"]) mean mg mb 76 news [] True [.int x t1] (fun _ => .bool (decide (x = 0))) := by
  w_on
  dsimp only [CbClaim, CbLists, CbRet]; intros; rename_i hret
  refine wpAny_call ?_
  k_dflt cell_enter
  k_steps
  all_goals (try (cb_end hret))
section
variable {w : World} {mean : ExcName → Option Value} {mg mb : Str → Option Value} {news : List (Addr × Obj)} {dp un : Nat} {gd : Option (List Code)} {cn : Str} {cs : Scope} {a : Addr} {ccd : Value} {cl : List (Str × Addr)} {outer : List Env} {A₀ : Around} {base h₀ : Heap} {L : Addr} {m : Str → Option Value} {s : Shared} {Q E : Value → Shared → Prop}
theorem ist_call {x : Int} {t1 : Tok} (B : Below A₀ base outer h₀) (F : Fr h₀ L s.heap m) (X : (hd.heap_39 w.params).In h₀) (N : News h₀ L s.heap news) (T : Top hd.view_39 Lo1 mean mg mb h₀) (hk : cs.kind = .function) (hd1 : dp + 1 < recursionLimit) (hu : un + 8 < cLine)
    (h : ∀ (h' : Heap) (tk' : Nat), Fr h₀ L h' m → News h₀ L h' news → Q (.bool (decide (x < 256))) { s with heap := h', toks := tk' }) :
    wpAny (model Pr1 w) (ktrTop dp un gd cn cs L a ccd cl outer) (call (.ref 62) [.int x t1]) Q E s :=
  ist w mean mg mb news x t1 dp un gd cn cs a ccd cl outer A₀ base h₀ L m s Q E B F X N T hk trivial hd1 hu fun _ h' tk' => h h' tk'
theorem isn_call {x : Int} {t1 : Tok} (B : Below A₀ base outer h₀) (F : Fr h₀ L s.heap m) (X : (hd.heap_39 w.params).In h₀) (N : News h₀ L s.heap news) (T : Top hd.view_39 Lo1 mean mg mb h₀) (hk : cs.kind = .function) (hd1 : dp + 1 < recursionLimit) (hu : un + 8 < cLine)
    (h : ∀ (h' : Heap) (tk' : Nat), Fr h₀ L h' m → News h₀ L h' news → Q (.bool (decide (x ≥ 256))) { s with heap := h', toks := tk' }) :
    wpAny (model Pr1 w) (ktrTop dp un gd cn cs L a ccd cl outer) (call (.ref 69) [.int x t1]) Q E s :=
  isn w mean mg mb news x t1 dp un gd cn cs a ccd cl outer A₀ base h₀ L m s Q E B F X N T hk trivial hd1 hu fun _ h' tk' => h h' tk'
theorem ise_call {x : Int} {t1 : Tok} (B : Below A₀ base outer h₀) (F : Fr h₀ L s.heap m) (X : (hd.heap_39 w.params).In h₀) (N : News h₀ L s.heap news) (T : Top hd.view_39 Lo1 mean mg mb h₀) (hk : cs.kind = .function) (hd1 : dp + 1 < recursionLimit) (hu : un + 8 < cLine)
    (h : ∀ (h' : Heap) (tk' : Nat), Fr h₀ L h' m → News h₀ L h' news → Q (.bool (decide (x = 0))) { s with heap := h', toks := tk' }) :
    wpAny (model Pr1 w) (ktrTop dp un gd cn cs L a ccd cl outer) (call (.ref 76) [.int x t1]) Q E s :=
  ise w mean mg mb news x t1 dp un gd cn cs a ccd cl outer A₀ base h₀ L m s Q E B F X N T hk trivial hd1 hu fun _ h' tk' => h h' tk'
end
end Mine
namespace Mine
section
variable {M : Model} {A : Around} {E : Value → Shared → Prop} {s : Shared} {h₀ : Heap} {L a : Addr} {m : Str → Option Value} {cn : Str} {cs : Scope} {ccd : Value} {cl : List (Str × Addr)}
  {x : Str} {v : Value} {Q : Unit → Shared → Prop} {all rest : List (Addr × Obj)} {c : Addr} {o : Obj} {v₀ : Option Value}
theorem storeX_D (F : Fr h₀ L s.heap m) (N : News h₀ L s.heap all) (hc : cl.lookup x = some c) (hm : (c, o) ∈ all) (hne : ∀ p ∈ rest, p.1 ≠ c) (hs : ∀ p ∈ rest, p ∈ all) (hd : o.data = .cell v₀)
    (h : ∀ h' o', Fr h₀ L h' m → News h₀ L h' ((c, o') :: rest) → o'.data = .cell (some v) → Q () { s with heap := h' })
    (hk : cs.kind = .function := by rfl) (hx : (envX cn cs L a ccd cl).kindOf x = some .cell := by rfl) : wpAny M A (storeName (envX cn cs L a ccd cl) x v) Q E s :=
  storeX_C F (fun p hp => N p ((List.mem_cons.mp hp).elim (fun e => e ▸ hm) (hs p))) hc (UpdF.head hne) hd h hk hx
end
end Mine
namespace Mine
section
variable {prog : Program} {w : World} {A : Around} {E : Value → Shared → Prop} {s : Shared} {h₀ : Heap} {L : Addr} {m : Str → Option Value} {news news' : List (Addr × Obj)}
theorem item_menu3 {value slice : PySem.Expr} {D : Addr} {v0 v1 v2 : Value} {n : Nat} {k : Int} {u : Tok} {Q : Value → Shared → Prop} (N : News h₀ L s.heap news) (hm : (D, listOf [v0, v1, v2].toArray n) ∈ news) (h0 : 0 ≤ k) (h3 : k < 3) (c0 : k = 0 → Q v0 s) (c1 : k = 1 → Q v1 s) (c2 : k = 2 → Q v2 s)
    (hs : subscripted slice false (.ref D) (.int k u) = operate [.ref D, .int k u] (getItem (.ref D) (.int k u)) := by with_unfolding_all rfl) :
    wpAny (model prog w) A (subscriptTail value slice (.ref D) (.int k u)) Q E s := by
  have hk : k = 0 ∨ k = 1 ∨ k = 2 := by omega
  rcases hk with rfl | rfl | rfl
  · exact item_at N hm (by omega) (by decide) rfl (c0 rfl) hs
  · exact item_at N hm (by omega) (by decide) rfl (c1 rfl) hs
  · exact item_at N hm (by omega) (by decide) rfl (c2 rfl) hs
theorem fmod3 (x : Int) : 0 ≤ x.fmod 3 ∧ x.fmod 3 < 3 := ⟨Int.fmod_nonneg_of_pos _ (by omega), Int.fmod_lt_of_pos _ (by omega)⟩
end
end Mine
end
section
open PySem PySem.W PyProof.Rows PySem.Builtin PySem.Builtin.Str PySem.Calls
set_option maxRecDepth 100000
set_option maxHeartbeats 8000000
namespace Mine
noncomputable def lawDef : Stmt := PySem.Challenge.pw_rw0014_01.main.body.getLast?.getD (.Pass ⟨0, 0, 0, 0⟩)
noncomputable def lawBody : List Stmt := match lawDef with | .FunctionDef _ _ b _ _ _ _ _ _ _ => b | _ => []
noncomputable def lawStmt (n : Nat) : Stmt := lawBody.getD n (.Pass ⟨0, 0, 0, 0⟩)
noncomputable def lawScope : Scope := match lawDef with | .FunctionDef _ _ _ _ _ _ sc _ _ _ => sc | _ => { kind := .function, names := [], isGenerator := false, isCoroutine := false }
noncomputable abbrev lawEnv (L fa : Addr) (cdv : Value) : Env := envOfC (Str.ofString "law") lawScope L fa cdv
noncomputable abbrev lawA (dp un : Nat) (gd : Option (List Code)) (L fa : Addr) (cdv : Value) (outer : List Env) : Around := ktrTop dp un gd (Str.ofString "law") lawScope L fa cdv (cellsFrom (L + 1) lawScope.names []) outer
/-- the law came back and said True -/
def RT (h₀ : Heap) (L : Addr) (s : Shared) (fl : Flow) (s' : Shared) : Prop := fl = .ret (.bool true) ∧ ∃ h' tk m' nw, s' = { s with heap := h', toks := tk } ∧ Fr h₀ L h' m' ∧ News h₀ L h' nw
theorem fillD : PySem.Challenge.rw_rw0014_01 = PySem.Challenge.rw_rw0014_01 ∧ hd.heap_39 = hd.heap_39 := by k_fill; exact ⟨rfl, rfl⟩

end Mine
end
section
open PySem PySem.W PyProof.Rows PySem.Builtin PySem.Builtin.Str PySem.Calls
set_option maxRecDepth 100000
set_option maxHeartbeats 8000000
namespace Mine
theorem fill1 : PySem.Challenge.rw_rw0014_01 = PySem.Challenge.rw_rw0014_01 ∧ hd.heap_39 = hd.heap_39 := by k_fill; exact ⟨rfl, rfl⟩
local macro_rules | `(tactic| walk_at "go") => `(tactic| (first | (k_unfold; (try dsimp only)) | walk1 | (dsimp only; walk1)))
local macro_rules | `(tactic| walk_at "exec Assign cons ListComp") => `(tactic| (k_here; k_dflt (refine LCg.Assign_ListComp_U (F₀ := by k_asm) (by rfl) (by with_unfolding_all rfl) (by with_unfolding_all rfl) (by decide) (by rfl) (by decide) (by rfl) (by rfl) (by rfl) ?_)))
local macro_rules | `(tactic| walk_at "eval ListComp") => `(tactic| (k_here; k_dflt (refine LCg.ListComp_U (F₀ := by k_asm) (by with_unfolding_all rfl) (by decide) (by rfl) (by decide) (by rfl) ?_)))
local macro_rules | `(tactic| walk_at "CompSrc") => `(tactic| (apply Hold.out))
local macro_rules | `(tactic| walk_at "pyIter ref") => `(tactic| ((with_reducible show wpAny _ _ (pyIter (Value.ref _)) (fun it s₂ => LoopAtV _ _ _ _ _ _ _ _ _ it s₂) _ _); apply Hold.out))
local macro_rules | `(tactic| walk_at "exec For Name Call cons nil") => `(tactic| (k_here; (rename Fr _ _ _ _ => lF'); (with_unfolding_all refine' For_invVF (hE := ?k3) lF' ?k1 ?k2 ?_; (case k1 => exact rfl); (case k2 => exact rfl); (case k3 => assumption); k_whole)))
local macro_rules | `(tactic| walk_at "exec For Name Name cons nil") => `(tactic| (k_here; (rename Fr _ _ _ _ => lF'); (with_unfolding_all refine' For_invVF (hE := ?k3) lF' ?k1 ?k2 ?_; (case k1 => exact rfl); (case k2 => exact rfl); (case k3 => assumption); k_whole)))
local macro_rules | `(tactic| walk_at "CompEnd") => `(tactic| ((refine LCg.CompEnd.intro (by k_asm) (by k_asm) _ ?hs ?ho ?hS (kcf_el ?he rfl rfl)); (case he => first | rfl | (rw [if_pos (by assumption)]; done) | (rw [if_neg (by simp [*])]; done) | (simp [*]; done)); (case hs => kcf_all); (case ho => first | assumption | trivial | (simp only [LCg.Off3, and_true]; first | assumption | done)); (case hS => first | trivial | lcg_src | assumption)))
local macro_rules | `(tactic| walk_at "call ref") => `(tactic| ((with_reducible show wpAny _ _ (call (Value.ref 55) [Value.str _ _, Value.str _ _]) _ _ _); (k_dflt (refine' em_call ?k1 ?k2 ?k3 ?k4 ?k5 ?kK ?kp ?kd ?ku ?_; (case k2 => k_asm); (case k4 => k_asm); (case k1 => k_asm); (case k3 => k_asm); (case k5 => k_asm); (case kK => first | exact rfl | assumption); (case kp => constructor <;> first | omega | (walk_at "em_size")); (case kd => first | omega | ktr_room); (case ku => first | omega | ktr_units))); intro h' tk' F' N'; (try k_fold)))
local macro_rules | `(tactic| walk_at "em_size") => `(tactic| first | omega | exact Nat.le_trans (Txt.slice_le _ _ _) (by omega) | (refine len_app (by first | exact dots3 | exact Txt.slice_le _ _ _ | exact Nat.le_refl _) (by first | exact dots3 | exact Txt.slice_le _ _ _ | exact Nat.le_refl _) (by omega)) | (refine len_app (len_app (Txt.slice_le _ _ _) dots3 (Nat.le_refl _)) (Txt.slice_le _ _ _) (by omega)))
local macro_rules | `(tactic| walk_at "same") => `(tactic| (intro z h1 h2; first | rfl | (simp [h1]; done) | ((simp only [List.contains_cons, List.contains_nil, Bool.or_false, Bool.or_eq_false_iff, beq_eq_false_iff_ne, ne_eq] at h2); (simp [h1, h2]; done))))
section
variable {w : World} {mean : ExcName → Option Value} {mg mb : Str → Option Value} {rest : List (Addr × Obj)} {dp un : Nat} {gd : Option (List Code)} {fa : Addr} {cdv : Value} {outer : List Env} {A₀ : Around} {base h₀ : Heap} {L : Addr} {m : Str → Option Value} {s : Shared} {E : Value → Shared → Prop}
theorem tail14 {Df : Addr} {vsF : List Value} {fr : List Str} {kF : Nat} {oW oK oP : Obj} {W : Str} {tW : Tok} (B : Below A₀ base outer h₀) (F : Fr h₀ L s.heap (fun z => if z = Str.ofString "fronts" then some (.ref Df) else m z)) (X : (hd.heap_39 w.params).In h₀)
    (N : News h₀ L s.heap ((Df, listOf vsF.toArray kF) :: (L + 1 + 1 + 1, oW) :: (L + 1 + 1, oP) :: (L + 1, oK) :: rest)) (T : Top hd.view_39 Lo1 mean mg mb h₀) (hd1 : dp + 3 < recursionLimit) (hu : un + 24 < cLine)
    (hF : StrsAre vsF fr) (hF6 : fr.length = 7) (hW : oW.data = .cell (some (.str W tW))) (hWl : W.length ≤ 1000) (hFl : ∀ x ∈ fr, x.length ≤ 1000) (hLast : ∀ k : Int, 0 ≤ k → k ≤ W.length → emS (Txt.slice W none (some k) ++ Str.ofString "..." ++ Txt.slice W none (some k)) W = ((fr.map fun x => (x.length : Int)).any (fun x => x == k) && decide (2 * k ≤ (W.length : Int)))) (hE : PassesOwn (model Pr1 w) (lawA dp un gd L fa cdv outer) (lawEnv L fa cdv) E) :
    wpAny (model Pr1 w) (lawA dp un gd L fa cdv outer) (execs (lawBody.drop 14) (lawEnv L fa cdv)) (RT h₀ L s) E s := by
  w_on
  show wpAny _ _ (execs [_, _, _] _) _ _ _
  k_steps
  unfold Hold
  refine LCg.CompSrc.ledger (by rfl) (by k_asm) (by k_asm) (by k_mem) (by rw [sizeLine_eq, List.size_toArray, hF.len_eq]; omega) ?_
  intro g'
  refine crest_I fr (fun x => (x.length : Int)) (fun x v => ∃ t, v = .str x t) (by rw [List.size_toArray, hF.len_eq]) (fun i v _ h => str_item hF h) ?_ ?_
  · rintro x _ I' oI' C' oC' D' m' ys' h' tk' E' hx' ⟨u', rfl⟩ hC' hxx' F' N' off' ne'
    have hxl := hFl x hx'
    (try simp only [LCg.Off3, and_true] at off')
    (try k_unmd)
    (try k_fold)
    k_steps
  · intro ys' hys' D' h' tk' F' N' off'
    k_steps
    unfold Hold
    refine for_rangeS [Str.ofString "want"] (fun i => True) (by rfl) (by assumption) (small_one (by omega) (by omega) (by omega) (by omega)) (rangeSize_nat _ _) (by k_asm) (by k_asm) trivial (fun i' k' t' h' tk' own' u' hi' hk' hoff' hP' F' N' => ?_) (fun u' h' tk' hP' F' N' => ?_)
    · (try simp only [List.cons_append] at N')
      (try k_unmd)
      (try k_fold)
      repeat' (walk_at "go")
      all_goals first
        | ((with_reducible show InvEndG _ _ _ _ _ _); (refine InvEndG.intro (by k_asm) (by k_asm) ⟨rfl, ?_, trivial⟩ hoff' (by kcf_all) (by kcf_all)); walk_at "same")
        | (exfalso; (have h9 := hLast k' (by omega) (by omega)); simp_all; done)
    · (try k_unmd)
      (try k_fold)
      k_steps
      exact ⟨rfl, _, _, _, _, rfl, by k_asm, by k_asm⟩
end
end Mine
end
section
open PySem PySem.W PyProof.Rows PySem.Builtin PySem.Builtin.Str PySem.Calls
set_option maxRecDepth 100000
set_option maxHeartbeats 8000000
namespace Mine
theorem fill_TB6 : PySem.Challenge.rw_rw0014_01 = PySem.Challenge.rw_rw0014_01 ∧ hd.heap_39 = hd.heap_39 := by k_fill; exact ⟨rfl, rfl⟩
local macro_rules | `(tactic| walk_at "go") => `(tactic| (first | (k_unfold; (try dsimp only)) | walk1 | (dsimp only; walk1)))
local macro_rules | `(tactic| walk_at "exec Assign cons ListComp") => `(tactic| (k_here; k_dflt (refine LCg.Assign_ListComp_U (F₀ := by k_asm) (by rfl) (by with_unfolding_all rfl) (by with_unfolding_all rfl) (by decide) (by rfl) (by decide) (by rfl) (by rfl) (by rfl) ?_)))
local macro_rules | `(tactic| walk_at "eval ListComp") => `(tactic| (k_here; k_dflt (refine LCg.ListComp_U (F₀ := by k_asm) (by with_unfolding_all rfl) (by decide) (by rfl) (by decide) (by rfl) ?_)))
local macro_rules | `(tactic| walk_at "CompSrc") => `(tactic| (apply Hold.out))
local macro_rules | `(tactic| walk_at "pyIter ref") => `(tactic| ((with_reducible show wpAny _ _ (pyIter (Value.ref _)) (fun it s₂ => LoopAtV _ _ _ _ _ _ _ _ _ it s₂) _ _); apply Hold.out))
local macro_rules | `(tactic| walk_at "exec For Name Call cons nil") => `(tactic| (k_here; (rename Fr _ _ _ _ => lF'); (with_unfolding_all refine' For_invVF (hE := ?k3) lF' ?k1 ?k2 ?_; (case k1 => exact rfl); (case k2 => exact rfl); (case k3 => assumption); k_whole)))
local macro_rules | `(tactic| walk_at "exec For Name Name cons nil") => `(tactic| (k_here; (rename Fr _ _ _ _ => lF'); (with_unfolding_all refine' For_invVF (hE := ?k3) lF' ?k1 ?k2 ?_; (case k1 => exact rfl); (case k2 => exact rfl); (case k3 => assumption); k_whole)))
local macro_rules | `(tactic| walk_at "CompEnd") => `(tactic| ((refine LCg.CompEnd.intro (by k_asm) (by k_asm) _ ?hs ?ho ?hS (kcf_el ?he rfl rfl)); (case he => first | rfl | (rw [if_pos (by assumption)]; done) | (rw [if_neg (by simp [*])]; done) | (simp [*]; done)); (case hs => kcf_all); (case ho => first | assumption | trivial | (simp only [LCg.Off3, and_true]; first | assumption | done)); (case hS => first | trivial | lcg_src | assumption)))
local macro_rules | `(tactic| walk_at "call ref") => `(tactic| ((with_reducible show wpAny _ _ (call (Value.ref 55) [Value.str _ _, Value.str _ _]) _ _ _); (k_dflt (refine' em_call ?k1 ?k2 ?k3 ?k4 ?k5 ?kK ?kp ?kd ?ku ?_; (case k2 => k_asm); (case k4 => k_asm); (case k1 => k_asm); (case k3 => k_asm); (case k5 => k_asm); (case kK => first | exact rfl | assumption); (case kp => constructor <;> first | omega | (walk_at "em_size")); (case kd => first | omega | ktr_room); (case ku => first | omega | ktr_units))); intro h' tk' F' N'; (try k_fold)))
local macro_rules | `(tactic| walk_at "same") => `(tactic| (intro z h1 h2; first | rfl | (simp [h1]; done) | ((simp only [List.contains_cons, List.contains_nil, Bool.or_false, Bool.or_eq_false_iff, beq_eq_false_iff_ne, ne_eq] at h2); (simp [h1, h2]; done))))
local macro_rules | `(tactic| walk_at "em_size") => `(tactic| first | omega | (refine Nat.le_trans (by walk_at "len_up") (by omega)))
local macro_rules | `(tactic| walk_at "len_up") => `(tactic| first | (with_reducible exact Txt.slice_le _ _ _) | (with_reducible exact dots3) | (with_reducible refine len_app2 (by walk_at "len_up") (by walk_at "len_up")) | (with_reducible exact Nat.le_refl _))
local macro_rules | `(tactic| walk_at "binaryOp Mult ref int") => `(tactic| ((with_reducible show wpAny _ _ (binaryOp Operator.Mult (Value.ref _) (Value.int _ _)) _ _ _); (k_dflt (refine' rep_one ?k1 ?k2 ?k3 ?k4 ?k5 ?_; (case k1 => k_asm); (case k2 => k_asm); (case k3 => exact List.Mem.head _); (case k4 => omega); (case k5 => omega))); intro D' h' F' N' l1'; (try k_lt l1')))
local macro_rules | `(tactic| walk_at "call builtin:str.join") => `(tactic| ((show wpAny _ _ (call (Value.builtin "str.join") [Value.str _ _, Value.ref _]) _ _ _); (refine join_B _ (News.isList (by k_asm) (List.Mem.head _)) (by walk_at "join_s") (by walk_at "join_w") (by first | omega | assumption) (by decide +kernel) ?_); intro t' k' hlen'))
local macro_rules | `(tactic| walk_at "join_s") => `(tactic| first | assumption | exact strs_rep _ _ _)
local macro_rules | `(tactic| walk_at "join_w") => `(tactic| exact rep_w (by omega) (by omega))
local macro_rules | `(tactic| walk_at "pyIter str") => `(tactic| ((with_reducible show wpAny _ _ (pyIter (Value.str _ _)) (fun it s₂ => LoopAtV _ _ _ _ _ _ _ _ _ it s₂) _ _); apply Hold.out))
local macro_rules | `(tactic| walk_at "exec For Name Subscript cons nil") => `(tactic| (k_here; (rename Fr _ _ _ _ => lF'); (with_unfolding_all refine' For_invVF (hE := ?k3) lF' ?k1 ?k2 ?_; (case k1 => exact rfl); (case k2 => exact rfl); (case k3 => assumption); k_whole)))
local macro_rules | `(tactic| walk_at "call builtin:list.append") => `(tactic| ((show wpAny _ _ (call (Value.builtin "list.append") [Value.ref _, _]) _ _ _); (k_dflt (refine' app_head ?k1 ?k2 ?k3 ?z ?_; (case k1 => k_asm); (case k2 => k_asm); (case k3 => walk_at "ne_all"); (case z => walk_at "sz"))); intro h' F' N'))
local macro_rules | `(tactic| walk_at "sz") => `(tactic| first | ((simp only [List.length_append, List.length_cons, List.length_nil]); (have hl9 := IntsAre.length (by assumption)); omega) | ((simp only [List.length_append, List.length_cons, List.length_nil]); (have hl9 := StrsAre.len_eq (by assumption)); omega))
local macro_rules | `(tactic| walk_at "ne_all") => `(tactic| first | exact List.forall_mem_nil _ | (refine List.forall_mem_cons.mpr ⟨?_, ?_⟩; (focus (first | (exact Nat.ne_of_lt (by assumption)) | k_ne)); walk_at "ne_all") | (refine List.forall_mem_append.mpr ⟨?_, ?_⟩; (focus walk_at "ne_all"); walk_at "ne_all") | exact OwnOff.ne (by assumption) (List.Mem.head _) | exact allLt_ne (by assumption))
local macro_rules | `(tactic| walk_at "eval ListComp") => `(tactic| ((with_reducible show wpAny _ _ (eval (Expr.ListComp _ [⟨_, _, [_], _⟩] _ _) _) _ _ _); k_dflt (refine LCt.ListComp_T (F₀ := by k_asm) (by with_unfolding_all rfl) (by decide) (by rfl) (by decide) (by rfl) ?_)))
local macro_rules | `(tactic| walk_at "CompSrcT") => `(tactic| (apply Hold.out))
local macro_rules | `(tactic| walk_at "compareOp NotEq ref ref") => `(tactic| ((with_reducible show wpAny _ _ (compareOp CmpOp.NotEq (Value.ref _) (Value.ref _)) _ _ _); refine ne_N (by k_asm) (by walk_at "mem1") (by walk_at "mem1") (by assumption) (by assumption) (by (have hcL9 := cLine_is; (try dsimp only); omega)) ?_))
local macro_rules | `(tactic| walk_at "mem1") => `(tactic| first | exact List.Mem.head _ | exact List.Mem.tail _ (List.Mem.head _) | exact List.Mem.tail _ (List.Mem.tail _ (List.Mem.head _)) | k_mem)
local macro_rules | `(tactic| walk_at "keep") => `(tactic| (intro z h1; (simp only [List.contains_cons, List.contains_nil, Bool.or_false, Bool.or_eq_false_iff, beq_eq_false_iff_ne, ne_eq] at h1); first | rfl | (simp [h1]; done) | (simp [h1]; intro h2; subst h2; symm; assumption)))
noncomputable def forBody (n : Nat) : List Stmt := match lawStmt n with | .For _ _ b _ _ => b | _ => []
def layStep (pl : Int) (a : Int × Int) (x : Int) : Int × Int := if x - pl ≥ a.2 then (a.1 + 1, x) else a
def lay (pl : Int) (st : List Int) : Int × Int := st.foldl (layStep pl) (0, 0)
theorem lay_le (pl : Int) : ∀ (st : List Int) (a : Int × Int), a.1 ≤ (st.foldl (layStep pl) a).1 ∧ (st.foldl (layStep pl) a).1 ≤ a.1 + st.length
  | [], a => by simp
  | x :: r, a => by
    have h := lay_le pl r (layStep pl a x)
    have h2 : a.1 ≤ (layStep pl a x).1 ∧ (layStep pl a x).1 ≤ a.1 + 1 := by unfold layStep; split <;> (constructor <;> omega)
    simp only [List.foldl_cons, List.length_cons]
    push_cast
    omega
section
variable {w : World} {mean : ExcName → Option Value} {mg mb : Str → Option Value} {rest : List (Addr × Obj)} {dp un : Nat} {gd : Option (List Code)} {fa : Addr} {cdv : Value} {outer : List Env} {A₀ : Around} {base h₀ : Heap} {L : Addr} {m : Str → Option Value} {s : Shared} {E : Value → Shared → Prop} {Q : Flow → Shared → Prop}
theorem tb6 {Ds : Addr} {vsS : List Value} {st : List Int} {kS : Nat} {oW oK oP : Obj} {W p : Str} {tW tp : Tok} (B : Below A₀ base outer h₀) (F₀ : Fr h₀ L s.heap m) (hm1 : m (Str.ofString "stops") = some (.ref Ds)) (X : (hd.heap_39 w.params).In h₀)
    (N : News h₀ L s.heap ((Ds, listOf vsS.toArray kS) :: (L + 1 + 1 + 1, oW) :: (L + 1 + 1, oP) :: (L + 1, oK) :: rest)) (T : Top hd.view_39 Lo1 mean mg mb h₀) (hd1 : dp + 3 < recursionLimit) (hu : un + 100 < cLine)
    (hS : IntsAre vsS st) (hS6 : st.length ≤ 50) (hW : oW.data = .cell (some (.str W tW))) (hP : oP.data = .cell (some (.str p tp))) (hWl : W.length ≤ 1000) (hpl : p.length ≤ 1000) (hE : PassesOwn (model Pr1 w) (lawA dp un gd L fa cdv outer) (lawEnv L fa cdv) E)
    (hE1 : emS (Txt.join (Str.ofString "...") (List.replicate ((lay (p.length : Int) st).1).toNat p)) W = (decide ((lay (p.length : Int) st).1 > 1) || p == W))
    (hE2 : emS (Txt.join (Str.ofString "...") (List.replicate ((lay (p.length : Int) st).1 + 1).toNat p)) W = false)
    (hq : ∀ h' tk m', Fr h₀ L h' m' → Keep [Str.ofString "laid", Str.ofString "free", Str.ofString "stop"] m m' → News h₀ L h' ((Ds, listOf vsS.toArray kS) :: (L + 1 + 1 + 1, oW) :: (L + 1 + 1, oP) :: (L + 1, oK) :: rest) → Q .next { s with heap := h', toks := tk }) :
    wpAny (model Pr1 w) (lawA dp un gd L fa cdv outer) (execs ((forBody 13).drop 6) (lawEnv L fa cdv)) Q E s := by
  have F := fr_at1 F₀ hm1
  clear F₀
  w_on
  show wpAny _ _ (execs [_, _, _, _] _) _ _ _
  repeat' (walk_at "go")
  unfold Hold
  (rename Fr _ _ _ _ => lF9)
  (rename News _ _ _ _ => lN9)
  refine for_ints2 (Str.ofString "laid") (Str.ofString "free") (layStep (p.length : Int)) (by rfl) (by k_mem) hS lF9 lN9 (by rfl) (by rfl) (fun i' n' t' a' b' ta' tb' h' tk' own' hn' hab' hoff' F' N' => ?_) (fun u' ta' tb' h' tk' F' N' => ?_)
  · (try simp only [List.cons_append] at N')
    (try k_unmd)
    (try k_fold)
    repeat' (walk_at "go")
    all_goals first
      | ((have e9 : layStep (p.length : Int) (a', b') n' = (a' + 1, n') := if_pos (by assumption)); rw [e9])
      | ((have e9 : layStep (p.length : Int) (a', b') n' = (a', b') := if_neg (by assumption)); rw [e9])
    all_goals (refine InvEndG.intro (by k_asm) (by k_asm) ⟨rfl, ⟨_, _, by with_unfolding_all rfl, by with_unfolding_all rfl⟩, by (intro z h1 h2 h3; simp [h1, h2, h3])⟩ hoff' (by kcf_all) (by kcf_all))
  · (try k_unmd)
    (try k_fold)
    have hll := lay_le (p.length : Int) st (0, 0)
    unfold lay at hE1 hE2
    repeat' (walk_at "go")
    all_goals first
      | exact hq _ _ _ (by k_asm) (by walk_at "keep") (cb_drop (by assumption) (by kcf_all))
      | (exfalso; simp_all; done)
end

end Mine
end
section
open PySem PySem.W PyProof.Rows PySem.Builtin PySem.Builtin.Str PySem.Calls
set_option maxRecDepth 100000
set_option maxHeartbeats 8000000
namespace Mine
theorem fill_TB3 : PySem.Challenge.rw_rw0014_01 = PySem.Challenge.rw_rw0014_01 ∧ hd.heap_39 = hd.heap_39 := by k_fill; exact ⟨rfl, rfl⟩
local macro_rules | `(tactic| walk_at "go") => `(tactic| (first | (k_unfold; (try dsimp only)) | walk1 | (dsimp only; walk1)))
local macro_rules | `(tactic| walk_at "exec Assign cons ListComp") => `(tactic| (k_here; k_dflt (refine LCg.Assign_ListComp_U (F₀ := by k_asm) (by rfl) (by with_unfolding_all rfl) (by with_unfolding_all rfl) (by decide) (by rfl) (by decide) (by rfl) (by rfl) (by rfl) ?_)))
local macro_rules | `(tactic| walk_at "eval ListComp") => `(tactic| (k_here; k_dflt (refine LCg.ListComp_U (F₀ := by k_asm) (by with_unfolding_all rfl) (by decide) (by rfl) (by decide) (by rfl) ?_)))
local macro_rules | `(tactic| walk_at "CompSrc") => `(tactic| (apply Hold.out))
local macro_rules | `(tactic| walk_at "pyIter ref") => `(tactic| ((with_reducible show wpAny _ _ (pyIter (Value.ref _)) (fun it s₂ => LoopAtV _ _ _ _ _ _ _ _ _ it s₂) _ _); apply Hold.out))
local macro_rules | `(tactic| walk_at "exec For Name Call cons nil") => `(tactic| (k_here; (rename Fr _ _ _ _ => lF'); (with_unfolding_all refine' For_invVF (hE := ?k3) lF' ?k1 ?k2 ?_; (case k1 => exact rfl); (case k2 => exact rfl); (case k3 => assumption); k_whole)))
local macro_rules | `(tactic| walk_at "exec For Name Name cons nil") => `(tactic| (k_here; (rename Fr _ _ _ _ => lF'); (with_unfolding_all refine' For_invVF (hE := ?k3) lF' ?k1 ?k2 ?_; (case k1 => exact rfl); (case k2 => exact rfl); (case k3 => assumption); k_whole)))
local macro_rules | `(tactic| walk_at "CompEnd") => `(tactic| ((refine LCg.CompEnd.intro (by k_asm) (by k_asm) _ ?hs ?ho ?hS (kcf_el ?he rfl rfl)); (case he => first | rfl | (rw [if_pos (by assumption)]; done) | (rw [if_neg (by simp [*])]; done) | (simp [*]; done)); (case hs => kcf_all); (case ho => first | assumption | trivial | (simp only [LCg.Off3, and_true]; first | assumption | done)); (case hS => first | trivial | lcg_src | assumption)))
local macro_rules | `(tactic| walk_at "call ref") => `(tactic| ((with_reducible show wpAny _ _ (call (Value.ref 55) [Value.str _ _, Value.str _ _]) _ _ _); (k_dflt (refine' em_call ?k1 ?k2 ?k3 ?k4 ?k5 ?kK ?kp ?kd ?ku ?_; (case k2 => k_asm); (case k4 => k_asm); (case k1 => k_asm); (case k3 => k_asm); (case k5 => k_asm); (case kK => first | exact rfl | assumption); (case kp => constructor <;> first | omega | (walk_at "em_size")); (case kd => first | omega | ktr_room); (case ku => first | omega | ktr_units))); intro h' tk' F' N'; (try k_fold)))
local macro_rules | `(tactic| walk_at "same") => `(tactic| (intro z h1 h2; first | rfl | (simp [h1]; done) | ((simp only [List.contains_cons, List.contains_nil, Bool.or_false, Bool.or_eq_false_iff, beq_eq_false_iff_ne, ne_eq] at h2); (simp [h1, h2]; done))))
local macro_rules | `(tactic| walk_at "em_size") => `(tactic| first | omega | (refine Nat.le_trans (by walk_at "len_up") (by omega)))
local macro_rules | `(tactic| walk_at "len_up") => `(tactic| first | (with_reducible exact Txt.slice_le _ _ _) | (with_reducible exact dots3) | (with_reducible refine len_app2 (by walk_at "len_up") (by walk_at "len_up")) | (with_reducible exact Nat.le_refl _))
local macro_rules | `(tactic| walk_at "binaryOp Mult ref int") => `(tactic| ((with_reducible show wpAny _ _ (binaryOp Operator.Mult (Value.ref _) (Value.int _ _)) _ _ _); (k_dflt (refine' rep_one ?k1 ?k2 ?k3 ?k4 ?k5 ?_; (case k1 => k_asm); (case k2 => k_asm); (case k3 => exact List.Mem.head _); (case k4 => omega); (case k5 => omega))); intro D' h' F' N' l1'; (try k_lt l1')))
local macro_rules | `(tactic| walk_at "call builtin:str.join") => `(tactic| ((show wpAny _ _ (call (Value.builtin "str.join") [Value.str _ _, Value.ref _]) _ _ _); (refine join_B _ (News.isList (by k_asm) (List.Mem.head _)) (by walk_at "join_s") (by walk_at "join_w") (by first | omega | assumption) (by decide +kernel) ?_); intro t' k' hlen'))
local macro_rules | `(tactic| walk_at "join_s") => `(tactic| first | assumption | exact strs_rep _ _ _)
local macro_rules | `(tactic| walk_at "join_w") => `(tactic| exact rep_w (by omega) (by omega))
local macro_rules | `(tactic| walk_at "pyIter str") => `(tactic| ((with_reducible show wpAny _ _ (pyIter (Value.str _ _)) (fun it s₂ => LoopAtV _ _ _ _ _ _ _ _ _ it s₂) _ _); apply Hold.out))
local macro_rules | `(tactic| walk_at "exec For Name Subscript cons nil") => `(tactic| (k_here; (rename Fr _ _ _ _ => lF'); (with_unfolding_all refine' For_invVF (hE := ?k3) lF' ?k1 ?k2 ?_; (case k1 => exact rfl); (case k2 => exact rfl); (case k3 => assumption); k_whole)))
local macro_rules | `(tactic| walk_at "call builtin:list.append") => `(tactic| ((show wpAny _ _ (call (Value.builtin "list.append") [Value.ref _, _]) _ _ _); (k_dflt (refine' app_head ?k1 ?k2 ?k3 ?z ?_; (case k1 => k_asm); (case k2 => k_asm); (case k3 => walk_at "ne_all"); (case z => walk_at "sz"))); intro h' F' N'))
local macro_rules | `(tactic| walk_at "sz") => `(tactic| first | ((simp only [List.length_append, List.length_cons, List.length_nil]); (have hl9 := IntsAre.length (by assumption)); omega) | ((simp only [List.length_append, List.length_cons, List.length_nil]); (have hl9 := StrsAre.len_eq (by assumption)); omega))
local macro_rules | `(tactic| walk_at "ne_all") => `(tactic| first | exact List.forall_mem_nil _ | (refine List.forall_mem_cons.mpr ⟨?_, ?_⟩; (focus (first | (exact Nat.ne_of_lt (by assumption)) | k_ne)); walk_at "ne_all") | (refine List.forall_mem_append.mpr ⟨?_, ?_⟩; (focus walk_at "ne_all"); walk_at "ne_all") | exact OwnOff.ne (by assumption) (List.Mem.head _) | exact allLt_ne (by assumption))
local macro_rules | `(tactic| walk_at "eval ListComp") => `(tactic| ((with_reducible show wpAny _ _ (eval (Expr.ListComp _ [⟨_, _, [_], _⟩] _ _) _) _ _ _); k_dflt (refine LCt.ListComp_T (F₀ := by k_asm) (by with_unfolding_all rfl) (by decide) (by rfl) (by decide) (by rfl) ?_)))
local macro_rules | `(tactic| walk_at "CompSrcT") => `(tactic| (apply Hold.out))
local macro_rules | `(tactic| walk_at "compareOp NotEq ref ref") => `(tactic| ((with_reducible show wpAny _ _ (compareOp CmpOp.NotEq (Value.ref _) (Value.ref _)) _ _ _); refine ne_N (by k_asm) (by walk_at "mem1") (by walk_at "mem1") (by assumption) (by assumption) (by (have hcL9 := cLine_is; (try dsimp only); omega)) ?_))
local macro_rules | `(tactic| walk_at "mem1") => `(tactic| first | exact List.Mem.head _ | exact List.Mem.tail _ (List.Mem.head _) | exact List.Mem.tail _ (List.Mem.tail _ (List.Mem.head _)) | k_mem)
local macro_rules | `(tactic| walk_at "keep") => `(tactic| (intro z h1; (simp only [List.contains_cons, List.contains_nil, Bool.or_false, Bool.or_eq_false_iff, beq_eq_false_iff_ne, ne_eq] at h1); first | rfl | (simp [h1]; done) | (simp [h1]; intro h2; subst h2; symm; assumption)))
local macro_rules | `(tactic| walk_at "keep2") => `(tactic| (intro z h1; (simp only [List.contains_cons, List.contains_nil, Bool.or_false, Bool.or_eq_false_iff, beq_eq_false_iff_ne, ne_eq] at h1); (rename Keep _ _ _ => K9); refine Eq.trans (K9 z (by (simp only [List.contains_cons, List.contains_nil, Bool.or_false, Bool.or_eq_false_iff, beq_eq_false_iff_ne, ne_eq]; simp [h1]))) ?_; first | rfl | (simp [h1]; done)))
local macro_rules | `(tactic| walk_at "ifs") => `(tactic| repeat' (first | rfl | (split; (focus ((rename _ = Str.ofString _ => h9); subst h9; symm; assumption)))))
local macro_rules | `(tactic| walk_at "execs cons") => `(tactic| ((with_reducible show wpAny _ _ (execs [_, _, _, _] _) _ _ _); apply Hold.wp))
def dStep (lo : Str) (near far : Int) (a : List Int × Int) (c : Nat) : List Int × Int := (a.1 ++ [a.2], a.2 + if one c == lo then near else far)
def dStops (lo : Str) (near far pl : Int) (cs : List Nat) : List Int × Int := cs.foldl (dStep lo near far) ([], pl)
theorem dStops_len (lo : Str) (near far : Int) : ∀ (cs : List Nat) (a : List Int × Int), (cs.foldl (dStep lo near far) a).1.length = a.1.length + cs.length
  | [], a => rfl
  | c :: r, a => by
    have h := dStops_len lo near far r (dStep lo near far a c)
    rw [List.foldl_cons, h]
    simp only [List.length_cons, dStep, List.length_append, List.length_nil]
    omega
section
variable {w : World} {mean : ExcName → Option Value} {mg mb : Str → Option Value} {rest : List (Addr × Obj)} {dp un : Nat} {gd : Option (List Code)} {fa : Addr} {cdv : Value} {outer : List Env} {A₀ : Around} {base h₀ : Heap} {L : Addr} {m : Str → Option Value} {s : Shared} {E : Value → Shared → Prop} {Q : Flow → Shared → Prop}
theorem tb3 {Dr : Addr} {vsR : List Value} {rs : List Str} {kR : Nat} {oW oK oP : Obj} {W p lo : Str} {tW tp tl tn tf tk0 : Tok} {near far K : Int} (B : Below A₀ base outer h₀)
    (F₀ : Fr h₀ L s.heap m) (hm1 : m (Str.ofString "k") = some (.int K tk0)) (hm2 : m (Str.ofString "near") = some (.int near tn)) (hm3 : m (Str.ofString "far") = some (.int far tf)) (hm4 : m (Str.ofString "low") = some (.str lo tl)) (hm5 : m (Str.ofString "rests") = some (.ref Dr)) (X : (hd.heap_39 w.params).In h₀)
    (N : News h₀ L s.heap ((Dr, listOf vsR.toArray kR) :: (L + 1 + 1 + 1, oW) :: (L + 1 + 1, oP) :: (L + 1, oK) :: rest)) (T : Top hd.view_39 Lo1 mean mg mb h₀) (hd1 : dp + 3 < recursionLimit) (hu : un + 100 < cLine)
    (hR : StrsAre vsR rs) (hR7 : rs.length = 7) (hK : 1 ≤ K ∧ K ≤ 6) (hRl : ∀ x ∈ rs, x.length ≤ 40) (hlo : lo.length = 1) (hW : oW.data = .cell (some (.str W tW))) (hP : oP.data = .cell (some (.str p tp))) (hWl : W.length ≤ 1000) (hpl : p.length ≤ 1000) (hE : PassesOwn (model Pr1 w) (lawA dp un gd L fa cdv outer) (lawEnv L fa cdv) E)
    (hSt : (rangeKs (p.length : Int) ((W.length : Int) + 1 - (p.length : Int)).toNat).filter (fun i => emS (Str.ofString "..." ++ p) (Txt.slice W none (some i))) = (dStops lo near far (p.length : Int) (rs.getD (6 - K).toNat Str.empty).cps.toList).1 ++ [(dStops lo near far (p.length : Int) (rs.getD (6 - K).toNat Str.empty).cps.toList).2])
    (hE1 : emS (Txt.join (Str.ofString "...") (List.replicate ((lay (p.length : Int) ((dStops lo near far (p.length : Int) (rs.getD (6 - K).toNat Str.empty).cps.toList).1 ++ [(dStops lo near far (p.length : Int) (rs.getD (6 - K).toNat Str.empty).cps.toList).2])).1).toNat p)) W = (decide ((lay (p.length : Int) ((dStops lo near far (p.length : Int) (rs.getD (6 - K).toNat Str.empty).cps.toList).1 ++ [(dStops lo near far (p.length : Int) (rs.getD (6 - K).toNat Str.empty).cps.toList).2])).1 > 1) || p == W))
    (hE2 : emS (Txt.join (Str.ofString "...") (List.replicate ((lay (p.length : Int) ((dStops lo near far (p.length : Int) (rs.getD (6 - K).toNat Str.empty).cps.toList).1 ++ [(dStops lo near far (p.length : Int) (rs.getD (6 - K).toNat Str.empty).cps.toList).2])).1 + 1).toNat p)) W = false)
    (hq : ∀ h' tk m', Fr h₀ L h' m' → Keep [Str.ofString "laid", Str.ofString "free", Str.ofString "stop", Str.ofString "stops", Str.ofString "sign"] m m' → News h₀ L h' ((Dr, listOf vsR.toArray kR) :: (L + 1 + 1 + 1, oW) :: (L + 1 + 1, oP) :: (L + 1, oK) :: rest) → Q .next { s with heap := h', toks := tk }) :
    wpAny (model Pr1 w) (lawA dp un gd L fa cdv outer) (execs ((forBody 13).drop 3) (lawEnv L fa cdv)) Q E s := by
  have F := fr_put F₀ (put_at hm1 (put_at hm2 (put_at hm3 (put_at hm4 (put_at hm5 rfl)))))
  clear F₀
  w_on
  show wpAny _ _ (execs (_ :: _ :: _ :: _) _) _ _ _
  repeat' (walk_at "go")
  unfold Hold
  (rename Fr _ _ _ _ => lF9)
  (rename News _ _ _ _ => lN9)
  have hrl : (rs.getD (6 - K).toNat Str.empty).length ≤ 40 := by
    rw [List.getD_eq_getElem?_getD, List.getElem?_eq_getElem (by omega)]
    exact hRl _ (List.getElem_mem _)
  have hrl2 : (rs.getD (6 - K).toNat Str.empty).cps.size ≤ 40 := hrl
  (rename _ ∧ _ ∧ _ ∧ _ ∧ AllLt _ rest => hl1)
  obtain ⟨hl11, hl12, hl13, hl14, hl15⟩ := hl1
  refine for_signsL (dStep lo near far) (by rfl) lF9 lN9 (fun i' c' t' l' x' r' tx' kk' h' tk' own' hc' hlx' hr' hll' hoff' F' N' => ?_) (fun a c => by simp [dStep]) (fun u' r' tx' kk' h' tk' hr' F' N' => ?_)
  · simp only [List.cons_append] at N'
    (try k_unmd)
    (try k_fold)
    repeat' (walk_at "go")
    all_goals first
      | ((have e9 : dStep lo near far (l', x') c' = (l' ++ [x'], x' + near) := by (unfold dStep; rw [if_pos (by assumption)])); refine end_L (by k_asm) (by simp only [List.cons_append]; k_asm) (IntsAre.append hr' (.cons _ tx' .nil)) e9 hoff' (by (intro z h1; first | rfl | (simp [h1]; done))))
      | ((have e9 : dStep lo near far (l', x') c' = (l' ++ [x'], x' + far) := by (unfold dStep; rw [if_neg (by simp [*])])); refine end_L (by k_asm) (by simp only [List.cons_append]; k_asm) (IntsAre.append hr' (.cons _ tx' .nil)) e9 hoff' (by (intro z h1; first | rfl | (simp [h1]; done))))
  · (try k_unmd)
    (try k_fold)
    have hxx := IntsAre.append hr' (.cons (dStops lo near far (p.length : Int) (rs.getD (6 - K).toNat Str.empty).cps.toList).2 tx' .nil)
    repeat' (walk_at "go")
    unfold Hold
    (rename Fr _ _ _ _ => lF9)
    (rename News _ _ _ _ => lN9)
    refine LCt.CompSrcT.range (by rfl) lF9 lN9 (by assumption) (small_one (by omega) (by omega) (by omega) (by omega)) (rangeSize_nat _ _) (by rw [sizeLine_eq]; omega) ?_
    intro g'
    refine crest_T (rangeKs (p.length : Int) ((W.length : Int) + 1 - (p.length : Int)).toNat) (fun i => emS (Str.ofString "..." ++ p) (Txt.slice W none (some i))) (by rw [rangeKs_length]) ?_ ?_ ?_
    · rintro i v hi ⟨t, rfl⟩
      exact ⟨(p.length : Int) + (i : Int), rk_get (by omega), t, rfl⟩
    · rintro k t I' oI' C' oC' D' m' ys' h' tk' E' hk' hC' hx' F' N' off' ne'
      have hb' := mem_rangeKs hk'
      (try simp only [LCg.Off3, and_true] at off')
      k_unmd
      k_fold
      repeat' (walk_at "go")
      refine TestEnd.of (fun hc => ?_) (fun hc => ?_)
      · repeat' (walk_at "go")
      · refine LCg.CompEnd.intro (by k_asm) (by k_asm) _ ?hs ?ho ?hS rfl
        case hs => kcf_all
        case ho => first | assumption | (simp only [LCg.Off3, and_true]; assumption)
        case hS => trivial
    · intro ys' hys' D' h' tk' F' N' off'
      rw [hSt] at hys'
      repeat' (walk_at "go")
      · unfold Hold
        (rename Fr _ _ _ _ => lF9)
        (rename News _ _ _ _ => lN9)
        refine tb6 (kS := kk') (oW := oW) (oP := oP) (oK := oK) (rest := (Dr, listOf vsR.toArray kR) :: rest) (by k_asm) lF9 (by with_unfolding_all rfl) (by k_asm) (cb_drop lN9 (by kcf_all)) (by k_asm) (by omega) (by omega) (IntsAre.append hr' (.cons _ tx' .nil)) ?_ hW hP (by omega) (by omega) hE hE1 hE2 (fun h' tk' m' F' K' N' => ?_)
        · have h5 := dStops_len lo near far (rs.getD (6 - K).toNat Str.empty).cps.toList ([], (p.length : Int))
          simp only [List.length_nil, Array.length_toList] at h5
          rw [List.length_append]
          show (dStops lo near far (p.length : Int) (rs.getD (6 - K).toNat Str.empty).cps.toList).1.length + 1 ≤ 50
          unfold dStops
          omega
        · refine hq _ _ _ F' ?_ (cb_drop N' (by kcf_all))
          intro z h1
          simp only [List.contains_cons, List.contains_nil, Bool.or_false, Bool.or_eq_false_iff, beq_eq_false_iff_ne, ne_eq] at h1
          refine Eq.trans (K' z (by (simp only [List.contains_cons, List.contains_nil, Bool.or_false, Bool.or_eq_false_iff, beq_eq_false_iff_ne, ne_eq]; simp [h1]))) ?_
          simp [h1]
          walk_at "ifs"
      · exact absurd rfl (by assumption)
end

end Mine
end
section
open PySem PySem.W PyProof.Rows PySem.Builtin PySem.Builtin.Str PySem.Calls
set_option maxRecDepth 100000
set_option maxHeartbeats 8000000
namespace Mine
theorem fill_TB0 : PySem.Challenge.rw_rw0014_01 = PySem.Challenge.rw_rw0014_01 ∧ hd.heap_39 = hd.heap_39 := by k_fill; exact ⟨rfl, rfl⟩
local macro_rules | `(tactic| walk_at "go") => `(tactic| (first | (k_unfold; (try dsimp only)) | walk1 | (dsimp only; walk1)))
local macro_rules | `(tactic| walk_at "exec Assign cons ListComp") => `(tactic| (k_here; k_dflt (refine LCg.Assign_ListComp_U (F₀ := by k_asm) (by rfl) (by with_unfolding_all rfl) (by with_unfolding_all rfl) (by decide) (by rfl) (by decide) (by rfl) (by rfl) (by rfl) ?_)))
local macro_rules | `(tactic| walk_at "eval ListComp") => `(tactic| (k_here; k_dflt (refine LCg.ListComp_U (F₀ := by k_asm) (by with_unfolding_all rfl) (by decide) (by rfl) (by decide) (by rfl) ?_)))
local macro_rules | `(tactic| walk_at "CompSrc") => `(tactic| (apply Hold.out))
local macro_rules | `(tactic| walk_at "pyIter ref") => `(tactic| ((with_reducible show wpAny _ _ (pyIter (Value.ref _)) (fun it s₂ => LoopAtV _ _ _ _ _ _ _ _ _ it s₂) _ _); apply Hold.out))
local macro_rules | `(tactic| walk_at "exec For Name Call cons nil") => `(tactic| (k_here; (rename Fr _ _ _ _ => lF'); (with_unfolding_all refine' For_invVF (hE := ?k3) lF' ?k1 ?k2 ?_; (case k1 => exact rfl); (case k2 => exact rfl); (case k3 => assumption); k_whole)))
local macro_rules | `(tactic| walk_at "exec For Name Name cons nil") => `(tactic| (k_here; (rename Fr _ _ _ _ => lF'); (with_unfolding_all refine' For_invVF (hE := ?k3) lF' ?k1 ?k2 ?_; (case k1 => exact rfl); (case k2 => exact rfl); (case k3 => assumption); k_whole)))
local macro_rules | `(tactic| walk_at "CompEnd") => `(tactic| ((refine LCg.CompEnd.intro (by k_asm) (by k_asm) _ ?hs ?ho ?hS (kcf_el ?he rfl rfl)); (case he => first | rfl | (rw [if_pos (by assumption)]; done) | (rw [if_neg (by simp [*])]; done) | (simp [*]; done)); (case hs => kcf_all); (case ho => first | assumption | trivial | (simp only [LCg.Off3, and_true]; first | assumption | done)); (case hS => first | trivial | lcg_src | assumption)))
local macro_rules | `(tactic| walk_at "call ref") => `(tactic| ((with_reducible show wpAny _ _ (call (Value.ref 55) [Value.str _ _, Value.str _ _]) _ _ _); (k_dflt (refine' em_call ?k1 ?k2 ?k3 ?k4 ?k5 ?kK ?kp ?kd ?ku ?_; (case k2 => k_asm); (case k4 => k_asm); (case k1 => k_asm); (case k3 => k_asm); (case k5 => k_asm); (case kK => first | exact rfl | assumption); (case kp => constructor <;> first | omega | (walk_at "em_size")); (case kd => first | omega | ktr_room); (case ku => first | omega | ktr_units))); intro h' tk' F' N'; (try k_fold)))
local macro_rules | `(tactic| walk_at "same") => `(tactic| (intro z h1 h2; first | rfl | (simp [h1]; done) | ((simp only [List.contains_cons, List.contains_nil, Bool.or_false, Bool.or_eq_false_iff, beq_eq_false_iff_ne, ne_eq] at h2); (simp [h1, h2]; done))))
local macro_rules | `(tactic| walk_at "em_size") => `(tactic| first | omega | (refine Nat.le_trans (by walk_at "len_up") (by omega)))
local macro_rules | `(tactic| walk_at "len_up") => `(tactic| first | (with_reducible exact Txt.slice_le _ _ _) | (with_reducible exact dots3) | (with_reducible refine len_app2 (by walk_at "len_up") (by walk_at "len_up")) | (with_reducible exact Nat.le_refl _))
local macro_rules | `(tactic| walk_at "binaryOp Mult ref int") => `(tactic| ((with_reducible show wpAny _ _ (binaryOp Operator.Mult (Value.ref _) (Value.int _ _)) _ _ _); (k_dflt (refine' rep_one ?k1 ?k2 ?k3 ?k4 ?k5 ?_; (case k1 => k_asm); (case k2 => k_asm); (case k3 => exact List.Mem.head _); (case k4 => omega); (case k5 => omega))); intro D' h' F' N' l1'; (try k_lt l1')))
local macro_rules | `(tactic| walk_at "call builtin:str.join") => `(tactic| ((show wpAny _ _ (call (Value.builtin "str.join") [Value.str _ _, Value.ref _]) _ _ _); (refine join_B _ (News.isList (by k_asm) (List.Mem.head _)) (by walk_at "join_s") (by walk_at "join_w") (by first | omega | assumption) (by decide +kernel) ?_); intro t' k' hlen'))
local macro_rules | `(tactic| walk_at "join_s") => `(tactic| first | assumption | exact strs_rep _ _ _)
local macro_rules | `(tactic| walk_at "join_w") => `(tactic| exact rep_w (by omega) (by omega))
local macro_rules | `(tactic| walk_at "pyIter str") => `(tactic| ((with_reducible show wpAny _ _ (pyIter (Value.str _ _)) (fun it s₂ => LoopAtV _ _ _ _ _ _ _ _ _ it s₂) _ _); apply Hold.out))
local macro_rules | `(tactic| walk_at "exec For Name Subscript cons nil") => `(tactic| (k_here; (rename Fr _ _ _ _ => lF'); (with_unfolding_all refine' For_invVF (hE := ?k3) lF' ?k1 ?k2 ?_; (case k1 => exact rfl); (case k2 => exact rfl); (case k3 => assumption); k_whole)))
local macro_rules | `(tactic| walk_at "call builtin:list.append") => `(tactic| ((show wpAny _ _ (call (Value.builtin "list.append") [Value.ref _, _]) _ _ _); (k_dflt (refine' app_head ?k1 ?k2 ?k3 ?z ?_; (case k1 => k_asm); (case k2 => k_asm); (case k3 => walk_at "ne_all"); (case z => walk_at "sz"))); intro h' F' N'))
local macro_rules | `(tactic| walk_at "sz") => `(tactic| first | ((simp only [List.length_append, List.length_cons, List.length_nil]); (have hl9 := IntsAre.length (by assumption)); omega) | ((simp only [List.length_append, List.length_cons, List.length_nil]); (have hl9 := StrsAre.len_eq (by assumption)); omega))
local macro_rules | `(tactic| walk_at "ne_all") => `(tactic| first | exact List.forall_mem_nil _ | (refine List.forall_mem_cons.mpr ⟨?_, ?_⟩; (focus (first | (exact Nat.ne_of_lt (by assumption)) | k_ne)); walk_at "ne_all") | (refine List.forall_mem_append.mpr ⟨?_, ?_⟩; (focus walk_at "ne_all"); walk_at "ne_all") | exact OwnOff.ne (by assumption) (List.Mem.head _) | exact allLt_ne (by assumption))
local macro_rules | `(tactic| walk_at "eval ListComp") => `(tactic| ((with_reducible show wpAny _ _ (eval (Expr.ListComp _ [⟨_, _, [_], _⟩] _ _) _) _ _ _); k_dflt (refine LCt.ListComp_T (F₀ := by k_asm) (by with_unfolding_all rfl) (by decide) (by rfl) (by decide) (by rfl) ?_)))
local macro_rules | `(tactic| walk_at "CompSrcT") => `(tactic| (apply Hold.out))
local macro_rules | `(tactic| walk_at "compareOp NotEq ref ref") => `(tactic| ((with_reducible show wpAny _ _ (compareOp CmpOp.NotEq (Value.ref _) (Value.ref _)) _ _ _); refine ne_N (by k_asm) (by walk_at "mem1") (by walk_at "mem1") (by assumption) (by assumption) (by (have hcL9 := cLine_is; (try dsimp only); omega)) ?_))
local macro_rules | `(tactic| walk_at "mem1") => `(tactic| first | exact List.Mem.head _ | exact List.Mem.tail _ (List.Mem.head _) | exact List.Mem.tail _ (List.Mem.tail _ (List.Mem.head _)) | k_mem)
local macro_rules | `(tactic| walk_at "keep") => `(tactic| (intro z h1; (simp only [List.contains_cons, List.contains_nil, Bool.or_false, Bool.or_eq_false_iff, beq_eq_false_iff_ne, ne_eq] at h1); first | rfl | (simp [h1]; done) | (simp [h1]; intro h2; subst h2; symm; assumption)))
local macro_rules | `(tactic| walk_at "keep2") => `(tactic| (intro z h1; (simp only [List.contains_cons, List.contains_nil, Bool.or_false, Bool.or_eq_false_iff, beq_eq_false_iff_ne, ne_eq] at h1); (rename Keep _ _ _ => K9); refine Eq.trans (K9 z (by (simp only [List.contains_cons, List.contains_nil, Bool.or_false, Bool.or_eq_false_iff, beq_eq_false_iff_ne, ne_eq]; simp [h1]))) ?_; first | rfl | (simp [h1]; done)))
local macro_rules | `(tactic| walk_at "ifs") => `(tactic| repeat' (first | rfl | (split; (focus ((rename _ = Str.ofString _ => h9); subst h9; symm; assumption)))))
local macro_rules | `(tactic| walk_at "storeName") => `(tactic| ((with_reducible show wpAny _ _ (storeName _ (Str.ofString "part") _) _ _ _); (refine' storeX_C ?F ?N ?c ?U ?d ?_ ?a ?b; (case a => rfl); (case b => rfl); (case F => k_asm); (case N => k_asm); (case c => rfl); (case U => exact UpdF.head (by assumption)); (case d => k_asm)); k_whole; intro h' o' F' N' d'; (try dsimp only at N'); (try k_sweep)))
local macro_rules | `(tactic| walk_at "execs cons") => `(tactic| ((with_reducible show wpAny _ _ (execs [_, _, _, _, _, _, _] _) _ _ _); apply Hold.wp))
abbrev stopsOf (lo : Str) (near far : Int) (p r : Str) : List Int := (dStops lo near far (p.length : Int) r.cps.toList).1 ++ [(dStops lo near far (p.length : Int) r.cps.toList).2]
/-- what one turn of the big loop asks of the texts -/
structure Turn13 (W p r lo : Str) (near far : Int) : Prop where
  len : (p.length : Int) = near + far - 2
  st : (rangeKs (p.length : Int) ((W.length : Int) + 1 - (p.length : Int)).toNat).filter (fun i => emS (Str.ofString "..." ++ p) (Txt.slice W none (some i))) = stopsOf lo near far p r
  e1 : emS (Txt.join (Str.ofString "...") (List.replicate ((lay (p.length : Int) (stopsOf lo near far p r)).1).toNat p)) W = (decide ((lay (p.length : Int) (stopsOf lo near far p r)).1 > 1) || p == W)
  e2 : emS (Txt.join (Str.ofString "...") (List.replicate ((lay (p.length : Int) (stopsOf lo near far p r)).1 + 1).toNat p)) W = false
section
variable {w : World} {mean : ExcName → Option Value} {mg mb : Str → Option Value} {rest : List (Addr × Obj)} {dp un : Nat} {gd : Option (List Code)} {fa : Addr} {cdv : Value} {outer : List Env} {A₀ : Around} {base h₀ : Heap} {L : Addr} {m : Str → Option Value} {s : Shared} {E : Value → Shared → Prop} {Q : Flow → Shared → Prop}
theorem tb0 {Dn Df Dr : Addr} {vsN vsF vsR : List Value} {ns : List Int} {fr rs : List Str} {kN kF kR : Nat} {oW oK oP : Obj} {W lo : Str} {tW tl tn tf tk0 : Tok} {near far near2 far2 K : Int} (B : Below A₀ base outer h₀)
    (F₀ : Fr h₀ L s.heap m) (hm1 : m (Str.ofString "k") = some (.int K tk0)) (hm2 : m (Str.ofString "near") = some (.int near tn)) (hm3 : m (Str.ofString "far") = some (.int far tf)) (hm4 : m (Str.ofString "low") = some (.str lo tl)) (hm5 : m (Str.ofString "rests") = some (.ref Dr)) (hm6 : m (Str.ofString "numbers") = some (.ref Dn)) (hm7 : m (Str.ofString "fronts") = some (.ref Df)) (X : (hd.heap_39 w.params).In h₀)
    (N : News h₀ L s.heap ((L + 1 + 1, oP) :: (Dn, listOf vsN.toArray kN) :: (Df, listOf vsF.toArray kF) :: (Dr, listOf vsR.toArray kR) :: (L + 1 + 1 + 1, oW) :: (L + 1, oK) :: rest)) (T : Top hd.view_39 Lo1 mean mg mb h₀) (hd1 : dp + 3 < recursionLimit) (hu : un + 100 < cLine)
    (hN : IntsAre vsN ns) (hN6 : ns.length = 6) (hF : StrsAre vsF fr) (hF7 : fr.length = 7) (hR : StrsAre vsR rs) (hR7 : rs.length = 7) (hK : 1 ≤ K ∧ K ≤ 6) (hRl : ∀ x ∈ rs, x.length ≤ 40) (hlo : lo.length = 1) (hW : oW.data = .cell (some (.str W tW))) (hWl : W.length ≤ 1000) (hpl : ∀ x ∈ fr, x.length ≤ 1000) (hnf : near.natAbs ≤ 1000 ∧ far.natAbs ≤ 1000) (hE : PassesOwn (model Pr1 w) (lawA dp un gd L fa cdv outer) (lawEnv L fa cdv) E)
    (hP0 : ∃ v, oP.data = .cell v) (hne : ∀ p ∈ (Dn, listOf vsN.toArray kN) :: (Df, listOf vsF.toArray kF) :: (Dr, listOf vsR.toArray kR) :: (L + 1 + 1 + 1, oW) :: (L + 1, oK) :: rest, p.1 ≠ L + 1 + 1)
    (hst : (near2, far2) = if (ns.getD (K - 1).toNat 0).fmod 2 = 0 then (near, far + near) else (near + far, far))
    (ht : Turn13 W (fr.getD K.toNat Str.empty) (rs.getD (6 - K).toNat Str.empty) lo near2 far2)
    (hq : ∀ h' tk m' oP', Fr h₀ L h' m' → (∃ t, m' (Str.ofString "near") = some (.int near2 t)) → (∃ t, m' (Str.ofString "far") = some (.int far2 t)) → Keep [Str.ofString "laid", Str.ofString "free", Str.ofString "stop", Str.ofString "stops", Str.ofString "sign", Str.ofString "near", Str.ofString "far"] m m' → (∃ v, oP'.data = .cell v) → News h₀ L h' ((L + 1 + 1, oP') :: (Dn, listOf vsN.toArray kN) :: (Df, listOf vsF.toArray kF) :: (Dr, listOf vsR.toArray kR) :: (L + 1 + 1 + 1, oW) :: (L + 1, oK) :: rest) → Q .next { s with heap := h', toks := tk }) :
    wpAny (model Pr1 w) (lawA dp un gd L fa cdv outer) (execs (forBody 13) (lawEnv L fa cdv)) Q E s := by
  have F := fr_put F₀ (put_at hm1 (put_at hm2 (put_at hm3 (put_at hm4 (put_at hm5 (put_at hm6 (put_at hm7 rfl)))))))
  clear F₀
  obtain ⟨v0, hP0⟩ := hP0
  have hpl2 : (fr.getD K.toNat Str.empty).length ≤ 1000 := by
    rw [List.getD_eq_getElem?_getD, List.getElem?_eq_getElem (by omega)]
    exact hpl _ (List.getElem_mem _)
  have hlen := ht.len
  w_on
  show wpAny _ _ (execs (_ :: _ :: _ :: _) _) _ _ _
  repeat' (walk_at "go")
  all_goals first
    | (rw [if_pos (by assumption)] at hst)
    | (rw [if_neg (by assumption)] at hst)
  all_goals (obtain ⟨h81, h82⟩ := Prod.mk.inj hst; subst h81 h82)
  all_goals first
    | (exfalso; omega)
    | skip
  all_goals
    unfold Hold
    (rename Fr _ _ _ _ => lF9)
    (rename News _ _ _ _ => lN9)
    (rename StrsAre vsR rs => hR9)
    (rename _ = Data.cell (some (Value.str (fr.getD K.toNat Str.empty) _)) => hd9)
    refine tb3 (vsR := vsR) (rs := rs) (kR := kR) (oW := oW) (oP := _) (oK := oK) (rest := (Dn, listOf vsN.toArray kN) :: (Df, listOf vsF.toArray kF) :: rest) (by k_asm) lF9 (by with_unfolding_all rfl) (by with_unfolding_all rfl) (by with_unfolding_all rfl) (by with_unfolding_all rfl) (by with_unfolding_all rfl) (by k_asm) (cb_drop lN9 (by kcf_all)) (by k_asm) (by omega) (by omega) hR9 hR7 hK hRl hlo hW hd9 (by omega) (by omega) hE ht.st ht.e1 ht.e2 (fun h' tk' m' F' K' N' => ?_)
    refine hq _ _ _ _ F' ⟨_, Eq.trans (K' _ (by decide +kernel)) (by with_unfolding_all rfl)⟩ ⟨_, Eq.trans (K' _ (by decide +kernel)) (by with_unfolding_all rfl)⟩ ?_ ⟨_, hd9⟩ (cb_drop N' (by kcf_all))
    · intro z h1
      simp only [List.contains_cons, List.contains_nil, Bool.or_false, Bool.or_eq_false_iff, beq_eq_false_iff_ne, ne_eq] at h1
      refine Eq.trans (K' z (by (simp only [List.contains_cons, List.contains_nil, Bool.or_false, Bool.or_eq_false_iff, beq_eq_false_iff_ne, ne_eq]; simp [h1]))) ?_
      simp [h1]
      walk_at "ifs"
end

end Mine
end
section
open PySem PySem.W PyProof.Rows PySem.Builtin PySem.Builtin.Str PySem.Calls
set_option maxRecDepth 100000
set_option maxHeartbeats 8000000
namespace Mine
theorem fill_T10 : PySem.Challenge.rw_rw0014_01 = PySem.Challenge.rw_rw0014_01 ∧ hd.heap_39 = hd.heap_39 := by k_fill; exact ⟨rfl, rfl⟩
local macro_rules | `(tactic| walk_at "go") => `(tactic| (first | (k_unfold; (try dsimp only)) | walk1 | (dsimp only; walk1)))
local macro_rules | `(tactic| walk_at "exec Assign cons ListComp") => `(tactic| (k_here; k_dflt (refine LCg.Assign_ListComp_U (F₀ := by k_asm) (by rfl) (by with_unfolding_all rfl) (by with_unfolding_all rfl) (by decide) (by rfl) (by decide) (by rfl) (by rfl) (by rfl) ?_)))
local macro_rules | `(tactic| walk_at "eval ListComp") => `(tactic| (k_here; k_dflt (refine LCg.ListComp_U (F₀ := by k_asm) (by with_unfolding_all rfl) (by decide) (by rfl) (by decide) (by rfl) ?_)))
local macro_rules | `(tactic| walk_at "CompSrc") => `(tactic| (apply Hold.out))
local macro_rules | `(tactic| walk_at "pyIter ref") => `(tactic| ((with_reducible show wpAny _ _ (pyIter (Value.ref _)) (fun it s₂ => LoopAtV _ _ _ _ _ _ _ _ _ it s₂) _ _); apply Hold.out))
local macro_rules | `(tactic| walk_at "exec For Name Call cons nil") => `(tactic| (k_here; (rename Fr _ _ _ _ => lF'); (with_unfolding_all refine' For_invVF (hE := ?k3) lF' ?k1 ?k2 ?_; (case k1 => exact rfl); (case k2 => exact rfl); (case k3 => assumption); k_whole)))
local macro_rules | `(tactic| walk_at "exec For Name Name cons nil") => `(tactic| (k_here; (rename Fr _ _ _ _ => lF'); (with_unfolding_all refine' For_invVF (hE := ?k3) lF' ?k1 ?k2 ?_; (case k1 => exact rfl); (case k2 => exact rfl); (case k3 => assumption); k_whole)))
local macro_rules | `(tactic| walk_at "CompEnd") => `(tactic| ((refine LCg.CompEnd.intro (by k_asm) (by k_asm) _ ?hs ?ho ?hS (kcf_el ?he rfl rfl)); (case he => first | rfl | (rw [if_pos (by assumption)]; done) | (rw [if_neg (by simp [*])]; done) | (simp [*]; done)); (case hs => kcf_all); (case ho => first | assumption | trivial | (simp only [LCg.Off3, and_true]; first | assumption | done)); (case hS => first | trivial | lcg_src | assumption)))
local macro_rules | `(tactic| walk_at "call ref") => `(tactic| ((with_reducible show wpAny _ _ (call (Value.ref 55) [Value.str _ _, Value.str _ _]) _ _ _); (k_dflt (refine' em_call ?k1 ?k2 ?k3 ?k4 ?k5 ?kK ?kp ?kd ?ku ?_; (case k2 => k_asm); (case k4 => k_asm); (case k1 => k_asm); (case k3 => k_asm); (case k5 => k_asm); (case kK => first | exact rfl | assumption); (case kp => constructor <;> first | omega | (walk_at "em_size")); (case kd => first | omega | ktr_room); (case ku => first | omega | ktr_units))); intro h' tk' F' N'; (try k_fold)))
local macro_rules | `(tactic| walk_at "same") => `(tactic| (intro z h1 h2; first | rfl | (simp [h1]; done) | ((simp only [List.contains_cons, List.contains_nil, Bool.or_false, Bool.or_eq_false_iff, beq_eq_false_iff_ne, ne_eq] at h2); (simp [h1, h2]; done))))
local macro_rules | `(tactic| walk_at "em_size") => `(tactic| first | omega | (refine Nat.le_trans (by walk_at "len_up") (by omega)))
local macro_rules | `(tactic| walk_at "len_up") => `(tactic| first | (with_reducible exact Txt.slice_le _ _ _) | (with_reducible exact dots3) | (with_reducible refine len_app2 (by walk_at "len_up") (by walk_at "len_up")) | (with_reducible exact Nat.le_refl _))
local macro_rules | `(tactic| walk_at "binaryOp Mult ref int") => `(tactic| ((with_reducible show wpAny _ _ (binaryOp Operator.Mult (Value.ref _) (Value.int _ _)) _ _ _); (k_dflt (refine' rep_one ?k1 ?k2 ?k3 ?k4 ?k5 ?_; (case k1 => k_asm); (case k2 => k_asm); (case k3 => exact List.Mem.head _); (case k4 => omega); (case k5 => omega))); intro D' h' F' N' l1'; (try k_lt l1')))
local macro_rules | `(tactic| walk_at "call builtin:str.join") => `(tactic| ((show wpAny _ _ (call (Value.builtin "str.join") [Value.str _ _, Value.ref _]) _ _ _); (refine join_B _ (News.isList (by k_asm) (List.Mem.head _)) (by walk_at "join_s") (by walk_at "join_w") (by first | omega | assumption) (by decide +kernel) ?_); intro t' k' hlen'))
local macro_rules | `(tactic| walk_at "join_s") => `(tactic| first | assumption | exact strs_rep _ _ _)
local macro_rules | `(tactic| walk_at "join_w") => `(tactic| exact rep_w (by omega) (by omega))
local macro_rules | `(tactic| walk_at "pyIter str") => `(tactic| ((with_reducible show wpAny _ _ (pyIter (Value.str _ _)) (fun it s₂ => LoopAtV _ _ _ _ _ _ _ _ _ it s₂) _ _); apply Hold.out))
local macro_rules | `(tactic| walk_at "exec For Name Subscript cons nil") => `(tactic| (k_here; (rename Fr _ _ _ _ => lF'); (with_unfolding_all refine' For_invVF (hE := ?k3) lF' ?k1 ?k2 ?_; (case k1 => exact rfl); (case k2 => exact rfl); (case k3 => assumption); k_whole)))
local macro_rules | `(tactic| walk_at "call builtin:list.append") => `(tactic| ((show wpAny _ _ (call (Value.builtin "list.append") [Value.ref _, _]) _ _ _); (k_dflt (refine' app_head ?k1 ?k2 ?k3 ?z ?_; (case k1 => k_asm); (case k2 => k_asm); (case k3 => walk_at "ne_all"); (case z => walk_at "sz"))); intro h' F' N'))
local macro_rules | `(tactic| walk_at "sz") => `(tactic| first | ((simp only [List.length_append, List.length_cons, List.length_nil]); (have hl9 := IntsAre.length (by assumption)); omega) | ((simp only [List.length_append, List.length_cons, List.length_nil]); (have hl9 := StrsAre.len_eq (by assumption)); omega))
local macro_rules | `(tactic| walk_at "ne_all") => `(tactic| first | exact List.forall_mem_nil _ | (refine List.forall_mem_cons.mpr ⟨?_, ?_⟩; (focus (first | (exact Nat.ne_of_lt (by assumption)) | k_ne)); walk_at "ne_all") | (refine List.forall_mem_append.mpr ⟨?_, ?_⟩; (focus walk_at "ne_all"); walk_at "ne_all") | exact OwnOff.ne (by assumption) (List.Mem.head _) | exact allLt_ne (by assumption))
local macro_rules | `(tactic| walk_at "eval ListComp") => `(tactic| ((with_reducible show wpAny _ _ (eval (Expr.ListComp _ [⟨_, _, [_], _⟩] _ _) _) _ _ _); k_dflt (refine LCt.ListComp_T (F₀ := by k_asm) (by with_unfolding_all rfl) (by decide) (by rfl) (by decide) (by rfl) ?_)))
local macro_rules | `(tactic| walk_at "CompSrcT") => `(tactic| (apply Hold.out))
local macro_rules | `(tactic| walk_at "compareOp NotEq ref ref") => `(tactic| ((with_reducible show wpAny _ _ (compareOp CmpOp.NotEq (Value.ref _) (Value.ref _)) _ _ _); refine ne_N (by k_asm) (by walk_at "mem1") (by walk_at "mem1") (by assumption) (by assumption) (by (have hcL9 := cLine_is; (try dsimp only); omega)) ?_))
local macro_rules | `(tactic| walk_at "mem1") => `(tactic| first | exact List.Mem.head _ | exact List.Mem.tail _ (List.Mem.head _) | exact List.Mem.tail _ (List.Mem.tail _ (List.Mem.head _)) | k_mem)
local macro_rules | `(tactic| walk_at "keep") => `(tactic| (intro z h1; (simp only [List.contains_cons, List.contains_nil, Bool.or_false, Bool.or_eq_false_iff, beq_eq_false_iff_ne, ne_eq] at h1); first | rfl | (simp [h1]; done) | (simp [h1]; intro h2; subst h2; symm; assumption)))
local macro_rules | `(tactic| walk_at "keep2") => `(tactic| (intro z h1; (simp only [List.contains_cons, List.contains_nil, Bool.or_false, Bool.or_eq_false_iff, beq_eq_false_iff_ne, ne_eq] at h1); (rename Keep _ _ _ => K9); refine Eq.trans (K9 z (by (simp only [List.contains_cons, List.contains_nil, Bool.or_false, Bool.or_eq_false_iff, beq_eq_false_iff_ne, ne_eq]; simp [h1]))) ?_; first | rfl | (simp [h1]; done)))
local macro_rules | `(tactic| walk_at "ifs") => `(tactic| repeat' (first | rfl | (split; (focus ((rename _ = Str.ofString _ => h9); subst h9; symm; assumption)))))
local macro_rules | `(tactic| walk_at "storeName") => `(tactic| ((with_reducible show wpAny _ _ (storeName _ (Str.ofString "part") _) _ _ _); (refine' storeX_C ?F ?N ?c ?U ?d ?_ ?a ?b; (case a => rfl); (case b => rfl); (case F => k_asm); (case N => k_asm); (case c => rfl); (case U => exact UpdF.head (by assumption)); (case d => k_asm)); k_whole; intro h' o' F' N' d'; (try dsimp only at N'); (try k_sweep)))
local macro_rules | `(tactic| walk_at "execs cons") => `(tactic| ((with_reducible show wpAny _ _ (execs [_, _, _] _) _ _ _); apply Hold.wp))
local macro_rules | `(tactic| walk_at "storeName") => `(tactic| ((with_reducible show wpAny _ _ (storeName _ (Str.ofString "whole") _) _ _ _); (refine' storeX_C ?F ?N ?c ?U ?d ?_ ?a ?b; (case a => rfl); (case b => rfl); (case F => k_asm); (case N => k_asm); (case c => rfl); (case U => exact UpdF.head (by assumption)); (case d => k_asm)); k_whole; intro h' o' F' N' d'; (try dsimp only at N'); (try k_sweep)))
def nfStep (a : Int × Int) (x : Int) : Int × Int := if x.fmod 2 = 0 then (a.1, a.2 + a.1) else (a.1 + a.2, a.2)
def nf (ns : List Int) (i : Nat) : Int × Int := (ns.take i).foldl nfStep (1, 1)
theorem nf_succ {ns : List Int} {i : Nat} (h : i < ns.length) : nf ns (i + 1) = if (ns.getD i 0).fmod 2 = 0 then ((nf ns i).1, (nf ns i).2 + (nf ns i).1) else ((nf ns i).1 + (nf ns i).2, (nf ns i).2) := by
  unfold nf
  have e : ns.take (i + 1) = ns.take i ++ [ns[i]] := by rw [List.take_add_one, List.getElem?_eq_getElem h]; rfl
  rw [e, List.foldl_append, List.getD_eq_getElem?_getD, List.getElem?_eq_getElem h]
  rfl
theorem at_other {m : Str → Option Value} {x y : Str} {v : Option Value} {u : Option Value} (h : x ≠ y) (e : m x = u) : (fun z => if z = y then v else m z) x = u := by
  show (if x = y then v else m x) = u
  rw [if_neg h]; exact e
section
variable {w : World} {mean : ExcName → Option Value} {mg mb : Str → Option Value} {rest : List (Addr × Obj)} {dp un : Nat} {gd : Option (List Code)} {fa : Addr} {cdv : Value} {outer : List Env} {A₀ : Around} {base h₀ : Heap} {L : Addr} {m : Str → Option Value} {s : Shared} {E : Value → Shared → Prop} {Q : Flow → Shared → Prop}
/-- what the law's end asks of the texts -/
structure EndOk (W lo : Str) (ns : List Int) (fr rs : List Str) : Prop where
  f6 : fr.getD 6 Str.empty = W
  r6 : rs.getD 6 Str.empty = W
  turn : ∀ i, i < 6 → Turn13 W (fr.getD (i + 1) Str.empty) (rs.getD (5 - i) Str.empty) lo (nf ns (i + 1)).1 (nf ns (i + 1)).2
  small : ∀ i, i < 6 → (nf ns i).1.natAbs ≤ 1000 ∧ (nf ns i).2.natAbs ≤ 1000
  fin : ∀ k : Int, 0 ≤ k → k ≤ W.length → emS (Txt.slice W none (some k) ++ Str.ofString "..." ++ Txt.slice W none (some k)) W = ((fr.map fun x => (x.length : Int)).any (fun x => x == k) && decide (2 * k ≤ (W.length : Int)))
theorem tail10 {Dn Df Dr : Addr} {vsN vsF vsR : List Value} {ns : List Int} {fr rs : List Str} {kN kF kR : Nat} {oW oK oP : Obj} {W lo : Str} {tl : Tok} (B : Below A₀ base outer h₀)
    (F₀ : Fr h₀ L s.heap m) (hm4 : m (Str.ofString "low") = some (.str lo tl)) (hm5 : m (Str.ofString "rests") = some (.ref Dr)) (hm6 : m (Str.ofString "numbers") = some (.ref Dn)) (hm7 : m (Str.ofString "fronts") = some (.ref Df)) (X : (hd.heap_39 w.params).In h₀)
    (N : News h₀ L s.heap ((L + 1 + 1 + 1, oW) :: (L + 1 + 1, oP) :: (Dn, listOf vsN.toArray kN) :: (Df, listOf vsF.toArray kF) :: (Dr, listOf vsR.toArray kR) :: (L + 1, oK) :: rest)) (T : Top hd.view_39 Lo1 mean mg mb h₀) (hd1 : dp + 3 < recursionLimit) (hu : un + 100 < cLine)
    (hN : IntsAre vsN ns) (hN6 : ns.length = 6) (hF : StrsAre vsF fr) (hF7 : fr.length = 7) (hR : StrsAre vsR rs) (hR7 : rs.length = 7) (hRl : ∀ x ∈ rs, x.length ≤ 40) (hlo : lo.length = 1) (hpl : ∀ x ∈ fr, x.length ≤ 1000) (hE : PassesOwn (model Pr1 w) (lawA dp un gd L fa cdv outer) (lawEnv L fa cdv) E)
    (hP0 : ∃ v, oP.data = .cell v) (hW0 : ∃ v, oW.data = .cell v)
    (hneW : ∀ p ∈ (L + 1 + 1, oP) :: (Dn, listOf vsN.toArray kN) :: (Df, listOf vsF.toArray kF) :: (Dr, listOf vsR.toArray kR) :: (L + 1, oK) :: rest, p.1 ≠ L + 1 + 1 + 1)
    (hneP : ∀ p ∈ (Dn, listOf vsN.toArray kN) :: (Df, listOf vsF.toArray kF) :: (Dr, listOf vsR.toArray kR) :: (L + 1, oK) :: rest, p.1 ≠ L + 1 + 1)
    (ht : EndOk W lo ns fr rs) :
    wpAny (model Pr1 w) (lawA dp un gd L fa cdv outer) (execs (lawBody.drop 10) (lawEnv L fa cdv)) (RT h₀ L s) E s := by
  have F := fr_put F₀ (put_at hm4 (put_at hm5 (put_at hm6 (put_at hm7 rfl))))
  clear F₀
  obtain ⟨v0, hP0⟩ := hP0
  obtain ⟨v1, hW0⟩ := hW0
  have hpl2 : (fr.getD (6 : Int).toNat Str.empty).length ≤ 1000 := by
    rw [List.getD_eq_getElem?_getD, List.getElem?_eq_getElem (by rw [hF7]; decide)]
    exact hpl _ (List.getElem_mem _)
  w_on
  show wpAny _ _ (execs (_ :: _ :: _ :: _) _) _ _ _
  repeat' (walk_at "go")
  · exfalso
    have h1 := ht.f6
    have h2 := ht.r6
    simp_all
  · unfold Hold
    (rename Fr _ _ _ _ => lF9)
    (rename News _ _ _ _ => lN9)
    (rename StrsAre vsR rs => hR9)
    (rename Obj => oW9)
    (rename IntsAre vsN ns => hN9)
    (rename StrsAre vsF fr => hF9)
    (rename _ = Data.cell (some (Value.str (fr.getD (Int.toNat 6) Str.empty) _)) => hW9)
    have h61 : fr.getD (Int.toNat 6) Str.empty = W := ht.f6
    rw [h61] at hW9 hpl2
    refine for_range (n := 6) (news := (L + 1 + 1, oP) :: (Dn, listOf vsN.toArray kN) :: (Df, listOf vsF.toArray kF) :: (Dr, listOf vsR.toArray kR) :: (L + 1 + 1 + 1, oW9) :: (L + 1, oK) :: rest) (fun i m' nx => (∃ oP', nx = (L + 1 + 1, oP') :: (Dn, listOf vsN.toArray kN) :: (Df, listOf vsF.toArray kF) :: (Dr, listOf vsR.toArray kR) :: (L + 1 + 1 + 1, oW9) :: (L + 1, oK) :: rest ∧ ∃ v, oP'.data = .cell v) ∧ (∃ t, m' (Str.ofString "near") = some (.int (nf ns i).1 t)) ∧ (∃ t, m' (Str.ofString "far") = some (.int (nf ns i).2 t)) ∧ Keep [Str.ofString "k", Str.ofString "laid", Str.ofString "free", Str.ofString "stop", Str.ofString "stops", Str.ofString "sign", Str.ofString "near", Str.ofString "far"] m m') (by rfl) (by assumption) (by decide +kernel) (by decide +kernel) lF9 (cb_drop lN9 (by kcf_all)) ?_ ?_ ?_
    · refine ⟨⟨oP, rfl, v0, hP0⟩, ⟨_, by with_unfolding_all rfl⟩, ⟨_, by with_unfolding_all rfl⟩, ?_⟩
      intro z h1
      simp only [List.contains_cons, List.contains_nil, Bool.or_false, Bool.or_eq_false_iff, beq_eq_false_iff_ne, ne_eq] at h1
      simp [h1]
      walk_at "ifs"
    · rintro i k t m₁ nx h' tk' own hi hk hoff ⟨⟨oP', rfl, hP'⟩, ⟨tn', hn'⟩, ⟨tf', hf'⟩, hkeep⟩ F' N'
      simp only [List.cons_append] at N'
      have hoff' := OwnOff.ne hoff (List.mem_map.mpr ⟨(L + 1 + 1, oP'), .head _, rfl⟩)
      refine tb0 (near2 := (nf ns (i + 1)).1) (far2 := (nf ns (i + 1)).2) (rest := rest ++ own) (K := k) (tk0 := t) (tn := tn') (tf := tf') (tl := tl) (W := W) (lo := lo) (tW := _) (vsN := vsN) (vsF := vsF) (vsR := vsR) (kN := kN) (kF := kF) (kR := kR) (oW := oW9) (oK := oK) (oP := oP') (by k_asm) F' ?h1 ?h2 ?h3 ?h4 ?h5 ?h6 ?h7 (by k_asm) N' (by k_asm) hd1 hu hN9 hN6 hF9 hF7 hR9 hR7 (by omega) hRl hlo hW9 (by omega) hpl (ht.small i hi) hE hP' ?hne ?hst ?ht ?hq
      case h1 => with_unfolding_all rfl
      case h2 => exact at_other (by decide +kernel) hn'
      case h3 => exact at_other (by decide +kernel) hf'
      case h4 => exact at_other (by decide +kernel) ((hkeep _ (by decide +kernel)).trans hm4)
      case h5 => exact at_other (by decide +kernel) ((hkeep _ (by decide +kernel)).trans hm5)
      case h6 => exact at_other (by decide +kernel) ((hkeep _ (by decide +kernel)).trans hm6)
      case h7 => exact at_other (by decide +kernel) ((hkeep _ (by decide +kernel)).trans hm7)
      case hne =>
        intro p hp
        simp only [List.mem_cons, List.mem_append] at hp
        rcases hp with rfl | rfl | rfl | rfl | rfl | hp | hp
        · exact hneP _ (.head _)
        · exact hneP _ (.tail _ (.head _))
        · exact hneP _ (.tail _ (.tail _ (.head _)))
        · exact Nat.succ_ne_self _
        · exact (Nat.succ_ne_self _).symm
        · exact hneP _ (.tail _ (.tail _ (.tail _ (.tail _ hp))))
        · exact hoff' _ hp
      case hst =>
        have e9 : (k - 1).toNat = i := by omega
        rw [e9, ← nf_succ (by omega)]
      case ht =>
        have e9 : k.toNat = i + 1 := by omega
        have e8 : (6 - k).toNat = 5 - i := by omega
        rw [e9, e8]
        exact ht.turn i hi
      case hq =>
        intro h'' tk'' m'' oP'' F'' hn'' hf'' hk'' hP'' N''
        refine ⟨h'', tk'', m'', _, (L + 1 + 1, oP'') :: (Dn, listOf vsN.toArray kN) :: (Df, listOf vsF.toArray kF) :: (Dr, listOf vsR.toArray kR) :: (L + 1 + 1 + 1, oW9) :: (L + 1, oK) :: rest, rfl, F'', N'', ?_, ?_, hoff, ⟨oP'', rfl, hP''⟩, hn'', hf'', ?_⟩
        · intro p hp
          simp only [List.mem_cons, List.mem_append] at hp ⊢
          rcases hp with hp | hp | hp | hp | hp | hp | hp <;> simp [hp]
        · intro p hp
          simp only [List.mem_cons, List.mem_append]
          simp [hp]
        · intro z h1
          have h9 := h1
          simp only [List.contains_cons, List.contains_nil, Bool.or_false, Bool.or_eq_false_iff, beq_eq_false_iff_ne, ne_eq] at h1
          refine Eq.trans (hk'' z (by (simp only [List.contains_cons, List.contains_nil, Bool.or_false, Bool.or_eq_false_iff, beq_eq_false_iff_ne, ne_eq]; simp [h1]))) ?_
          refine at_other h1.1 (hkeep z h9)
    · rintro m₁ nx h' tk' ⟨⟨oP', rfl, hP'⟩, ⟨tn', hn'⟩, ⟨tf', hf'⟩, hkeep⟩ F' N'
      have hm7' := (hkeep _ (by decide +kernel)).trans hm7
      repeat' (walk_at "go")
      unfold Hold
      (rename Fr _ _ _ m₁ => lF8)
      (rename News _ _ _ _ => lN8)
      refine tail14 (vsF := vsF) (fr := fr) (kF := kF) (oW := oW9) (oK := oK) (oP := oP') (W := W) (m := m₁) (rest := (Dn, listOf vsN.toArray kN) :: (Dr, listOf vsR.toArray kR) :: rest) (by k_asm) (fr_at1 lF8 hm7') (by k_asm) (cb_drop lN8 (by kcf_all)) (by k_asm) (by omega) (by omega) hF9 hF7 hW9 (by omega) hpl ht.fin hE
end

end Mine
end
section
open PySem PySem.W PyProof.Rows PySem.Builtin PySem.Builtin.Str PySem.Calls
set_option maxRecDepth 100000
set_option maxHeartbeats 8000000
namespace Mine
theorem fill_TR2 : PySem.Challenge.rw_rw0014_01 = PySem.Challenge.rw_rw0014_01 ∧ hd.heap_39 = hd.heap_39 := by k_fill; exact ⟨rfl, rfl⟩
local macro_rules | `(tactic| walk_at "go") => `(tactic| (first | (k_unfold; (try dsimp only)) | walk1 | (dsimp only; walk1)))
local macro_rules | `(tactic| walk_at "exec Assign cons ListComp") => `(tactic| (k_here; k_dflt (refine LCg.Assign_ListComp_U (F₀ := by k_asm) (by rfl) (by with_unfolding_all rfl) (by with_unfolding_all rfl) (by decide) (by rfl) (by decide) (by rfl) (by rfl) (by rfl) ?_)))
local macro_rules | `(tactic| walk_at "eval ListComp") => `(tactic| (k_here; k_dflt (refine LCg.ListComp_U (F₀ := by k_asm) (by with_unfolding_all rfl) (by decide) (by rfl) (by decide) (by rfl) ?_)))
local macro_rules | `(tactic| walk_at "CompSrc") => `(tactic| (apply Hold.out))
local macro_rules | `(tactic| walk_at "pyIter ref") => `(tactic| ((with_reducible show wpAny _ _ (pyIter (Value.ref _)) (fun it s₂ => LoopAtV _ _ _ _ _ _ _ _ _ it s₂) _ _); apply Hold.out))
local macro_rules | `(tactic| walk_at "exec For Name Call cons nil") => `(tactic| (k_here; (rename Fr _ _ _ _ => lF'); (with_unfolding_all refine' For_invVF (hE := ?k3) lF' ?k1 ?k2 ?_; (case k1 => exact rfl); (case k2 => exact rfl); (case k3 => assumption); k_whole)))
local macro_rules | `(tactic| walk_at "exec For Name Name cons nil") => `(tactic| (k_here; (rename Fr _ _ _ _ => lF'); (with_unfolding_all refine' For_invVF (hE := ?k3) lF' ?k1 ?k2 ?_; (case k1 => exact rfl); (case k2 => exact rfl); (case k3 => assumption); k_whole)))
local macro_rules | `(tactic| walk_at "CompEnd") => `(tactic| ((refine LCg.CompEnd.intro (by k_asm) (by k_asm) _ ?hs ?ho ?hS (kcf_el ?he rfl rfl)); (case he => first | rfl | (rw [if_pos (by assumption)]; done) | (rw [if_neg (by simp [*])]; done) | (simp [*]; done)); (case hs => kcf_all); (case ho => first | assumption | trivial | (simp only [LCg.Off3, and_true]; first | assumption | done)); (case hS => first | trivial | lcg_src | assumption)))
local macro_rules | `(tactic| walk_at "call ref") => `(tactic| ((with_reducible show wpAny _ _ (call (Value.ref 55) [Value.str _ _, Value.str _ _]) _ _ _); (k_dflt (refine' em_call ?k1 ?k2 ?k3 ?k4 ?k5 ?kK ?kp ?kd ?ku ?_; (case k2 => k_asm); (case k4 => k_asm); (case k1 => k_asm); (case k3 => k_asm); (case k5 => k_asm); (case kK => first | exact rfl | assumption); (case kp => constructor <;> first | omega | (walk_at "em_size")); (case kd => first | omega | ktr_room); (case ku => first | omega | ktr_units))); intro h' tk' F' N'; (try k_fold)))
local macro_rules | `(tactic| walk_at "same") => `(tactic| (intro z h1 h2; first | rfl | (simp [h1]; done) | ((simp only [List.contains_cons, List.contains_nil, Bool.or_false, Bool.or_eq_false_iff, beq_eq_false_iff_ne, ne_eq] at h2); (simp [h1, h2]; done))))
local macro_rules | `(tactic| walk_at "em_size") => `(tactic| first | omega | (refine Nat.le_trans (by walk_at "len_up") (by omega)))
local macro_rules | `(tactic| walk_at "len_up") => `(tactic| first | (with_reducible exact Txt.slice_le _ _ _) | (with_reducible exact dots3) | (with_reducible refine len_app2 (by walk_at "len_up") (by walk_at "len_up")) | (with_reducible exact Nat.le_refl _))
local macro_rules | `(tactic| walk_at "binaryOp Mult ref int") => `(tactic| ((with_reducible show wpAny _ _ (binaryOp Operator.Mult (Value.ref _) (Value.int _ _)) _ _ _); (k_dflt (refine' rep_one ?k1 ?k2 ?k3 ?k4 ?k5 ?_; (case k1 => k_asm); (case k2 => k_asm); (case k3 => exact List.Mem.head _); (case k4 => omega); (case k5 => omega))); intro D' h' F' N' l1'; (try k_lt l1')))
local macro_rules | `(tactic| walk_at "call builtin:str.join") => `(tactic| ((show wpAny _ _ (call (Value.builtin "str.join") [Value.str _ _, Value.ref _]) _ _ _); (refine join_B _ (News.isList (by k_asm) (List.Mem.head _)) (by walk_at "join_s") (by walk_at "join_w") (by first | omega | assumption) (by decide +kernel) ?_); intro t' k' hlen'))
local macro_rules | `(tactic| walk_at "join_s") => `(tactic| first | assumption | exact strs_rep _ _ _)
local macro_rules | `(tactic| walk_at "join_w") => `(tactic| exact rep_w (by omega) (by omega))
local macro_rules | `(tactic| walk_at "pyIter str") => `(tactic| ((with_reducible show wpAny _ _ (pyIter (Value.str _ _)) (fun it s₂ => LoopAtV _ _ _ _ _ _ _ _ _ it s₂) _ _); apply Hold.out))
local macro_rules | `(tactic| walk_at "exec For Name Subscript cons nil") => `(tactic| (k_here; (rename Fr _ _ _ _ => lF'); (with_unfolding_all refine' For_invVF (hE := ?k3) lF' ?k1 ?k2 ?_; (case k1 => exact rfl); (case k2 => exact rfl); (case k3 => assumption); k_whole)))
local macro_rules | `(tactic| walk_at "call builtin:list.append") => `(tactic| ((show wpAny _ _ (call (Value.builtin "list.append") [Value.ref _, _]) _ _ _); (k_dflt (refine' app_head ?k1 ?k2 ?k3 ?z ?_; (case k1 => k_asm); (case k2 => k_asm); (case k3 => walk_at "ne_all"); (case z => walk_at "sz"))); intro h' F' N'))
local macro_rules | `(tactic| walk_at "sz") => `(tactic| first | ((simp only [List.length_append, List.length_cons, List.length_nil]); (have hl9 := IntsAre.length (by assumption)); omega) | ((simp only [List.length_append, List.length_cons, List.length_nil]); (have hl9 := StrsAre.len_eq (by assumption)); omega))
local macro_rules | `(tactic| walk_at "ne_all") => `(tactic| first | exact List.forall_mem_nil _ | (refine List.forall_mem_cons.mpr ⟨?_, ?_⟩; (focus (first | (exact Nat.ne_of_lt (by assumption)) | k_ne)); walk_at "ne_all") | (refine List.forall_mem_append.mpr ⟨?_, ?_⟩; (focus walk_at "ne_all"); walk_at "ne_all") | exact OwnOff.ne (by assumption) (List.Mem.head _) | exact allLt_ne (by assumption))
local macro_rules | `(tactic| walk_at "eval ListComp") => `(tactic| ((with_reducible show wpAny _ _ (eval (Expr.ListComp _ [⟨_, _, [_], _⟩] _ _) _) _ _ _); k_dflt (refine LCt.ListComp_T (F₀ := by k_asm) (by with_unfolding_all rfl) (by decide) (by rfl) (by decide) (by rfl) ?_)))
local macro_rules | `(tactic| walk_at "CompSrcT") => `(tactic| (apply Hold.out))
local macro_rules | `(tactic| walk_at "compareOp NotEq ref ref") => `(tactic| ((with_reducible show wpAny _ _ (compareOp CmpOp.NotEq (Value.ref _) (Value.ref _)) _ _ _); refine ne_N (by k_asm) (by walk_at "mem1") (by walk_at "mem1") (by assumption) (by assumption) (by (have hcL9 := cLine_is; (try dsimp only); omega)) ?_))
local macro_rules | `(tactic| walk_at "mem1") => `(tactic| first | exact List.Mem.head _ | exact List.Mem.tail _ (List.Mem.head _) | exact List.Mem.tail _ (List.Mem.tail _ (List.Mem.head _)) | k_mem)
local macro_rules | `(tactic| walk_at "keep") => `(tactic| (intro z h1; (simp only [List.contains_cons, List.contains_nil, Bool.or_false, Bool.or_eq_false_iff, beq_eq_false_iff_ne, ne_eq] at h1); first | rfl | (simp [h1]; done) | (simp [h1]; intro h2; subst h2; symm; assumption)))
local macro_rules | `(tactic| walk_at "keep2") => `(tactic| (intro z h1; (simp only [List.contains_cons, List.contains_nil, Bool.or_false, Bool.or_eq_false_iff, beq_eq_false_iff_ne, ne_eq] at h1); (rename Keep _ _ _ => K9); refine Eq.trans (K9 z (by (simp only [List.contains_cons, List.contains_nil, Bool.or_false, Bool.or_eq_false_iff, beq_eq_false_iff_ne, ne_eq]; simp [h1]))) ?_; first | rfl | (simp [h1]; done)))
local macro_rules | `(tactic| walk_at "ifs") => `(tactic| repeat' (first | rfl | (split; (focus ((rename _ = Str.ofString _ => h9); subst h9; symm; assumption)))))
local macro_rules | `(tactic| walk_at "storeName") => `(tactic| ((with_reducible show wpAny _ _ (storeName _ (Str.ofString "part") _) _ _ _); (refine' storeX_C ?F ?N ?c ?U ?d ?_ ?a ?b; (case a => rfl); (case b => rfl); (case F => k_asm); (case N => k_asm); (case c => rfl); (case U => exact UpdF.head (by assumption)); (case d => k_asm)); k_whole; intro h' o' F' N' d'; (try dsimp only at N'); (try k_sweep)))
local macro_rules | `(tactic| walk_at "call ref") => `(tactic| ((with_reducible show wpAny _ _ (call (Value.ref 48) [Value.str _ _]) _ _ _); (k_dflt (refine' qd_call ?k1 ?k2 ?k3 ?k4 ?k5 ?kK ?kp ?kd ?ku ?_; (case k2 => k_asm); (case k4 => k_asm); (case k1 => k_asm); (case k3 => k_asm); (case k5 => k_asm); (case kK => first | exact rfl | assumption); (case kp => omega); (case kd => first | omega | ktr_room); (case ku => first | omega | ktr_units))); intro t' h' tk' F' N'; (try k_fold)))
local macro_rules | `(tactic| walk_at "call ref") => `(tactic| ((with_reducible show wpAny _ _ (call (Value.ref 91) [Value.str _ _, Value.str _ _, Value.str _ _, Value.str _ _]) _ _ _); (k_dflt (refine' ml_call ?k1 ?k2 ?k3 ?k4 ?k5 ?kK ?kp ?kd ?ku ?_; (case k2 => k_asm); (case k4 => k_asm); (case k1 => k_asm); (case k3 => k_asm); (case k5 => k_asm); (case kK => first | exact rfl | assumption); (case kp => refine ⟨by omega, by omega, ?_, ?_⟩ <;> first | omega | decide +kernel); (case kd => first | omega | ktr_room); (case ku => first | omega | ktr_units))); intro t' h' tk' F' N'; (try k_fold)))
local macro_rules | `(tactic| walk_at "subscriptTail") => `(tactic| ((with_reducible show wpAny _ _ (subscriptTail _ _ (Value.ref _) (Value.int (-1) _)) _ _ _); (with_unfolding_all refine item_lastOf (by k_asm) (by walk_at "mem1") rfl ?_)))
local macro_rules | `(tactic| walk_at "binaryOp Mult str int") => `(tactic| ((with_reducible show wpAny _ _ (binaryOp _ (Value.str _ _) (Value.int _ _)) _ _ _); (refine mul1 (by assumption) (by omega) (by omega) ?_); intro t' k'))
local macro_rules | `(tactic| walk_at "call builtin:list.append") => `(tactic| ((show wpAny _ _ (call (Value.builtin "list.append") [Value.ref _, _]) _ _ _); (k_dflt (refine' app_drop ?k1 ?k2 ?km ?kn ?ks ?z ?_; (case k1 => k_asm); (case k2 => k_asm); (case km => walk_at "mem5"); (case kn => assumption); (case ks => kcf_all); (case z => (simp only [List.length_append, List.length_cons, List.length_nil]; omega)))); intro h' F' N'))
local macro_rules | `(tactic| walk_at "mem5") => `(tactic| first | exact List.Mem.head _ | (refine List.Mem.tail _ ?_; walk_at "mem5"))
local macro_rules | `(tactic| walk_at "call builtin:str.join") => `(tactic| ((show wpAny _ _ (call (Value.builtin "str.join") [Value.str _ _, Value.ref _]) _ _ _); (refine join_B 10000 (News.isList (by k_asm) (List.Mem.head _)) (by assumption) (by first | exact hT.jw | assumption) (by omega) (by omega) ?_); intro t' k' hlen'))
local macro_rules | `(tactic| walk_at "CompEnd") => `(tactic| ((refine LCg.CompEnd.intro (by k_asm) (by k_asm) _ ?hs ?ho ?hS (kct_el ?he rfl rfl)); (case he => first | rfl | (rw [if_pos (by assumption)]; done) | (rw [if_neg (by simp [*])]; done) | (simp [*]; done)); (case hs => kcf_all); (case ho => first | assumption | trivial | (simp only [LCg.Off3, and_true]; first | assumption | done)); (case hS => first | trivial | lcg_src | assumption)))
section
variable {w : World} {mean : ExcName → Option Value} {mg mb : Str → Option Value} {rest : List (Addr × Obj)} {dp un : Nat} {gd : Option (List Code)} {fa : Addr} {cdv : Value} {outer : List Env} {A₀ : Around} {base h₀ : Heap} {L : Addr} {m : Str → Option Value} {s : Shared} {E : Value → Shared → Prop} {Q : Flow → Shared → Prop}
theorem tr2 {Dr : Addr} {r : List Value} {kR : Nat} {oK : Obj} {word kept other e tail nx : Str} {tw t1 t2 t3 t4 : Tok} (B : Below A₀ base outer h₀)
    (F₀ : Fr h₀ L s.heap m) (hm1 : m (Str.ofString "rests") = some (.ref Dr)) (hm2 : m (Str.ofString "other") = some (.str other t2)) (hm3 : m (Str.ofString "end") = some (.str e t3)) (hm4 : m (Str.ofString "tail") = some (.str tail t4)) (X : (hd.heap_39 w.params).In h₀)
    (N : News h₀ L s.heap ((Dr, listOf (r ++ [Value.str word tw]).toArray kR) :: (L + 1, oK) :: rest)) (T : Top hd.view_39 Lo1 mean mg mb h₀) (hd1 : dp + 3 < recursionLimit) (hu : un + 100 < cLine)
    (hne : ∀ p ∈ (L + 1, oK) :: rest, p.1 ≠ Dr) (hr : r.length ≤ 10) (hK : oK.data = .cell (some (.str kept t1)))
    (hT : TurnR word kept other e tail nx) (hE : PassesOwn (model Pr1 w) (lawA dp un gd L fa cdv outer) (lawEnv L fa cdv) E)
    (hq : ∀ h' tk m' k' t', Fr h₀ L h' m' → Keep [Str.ofString "sent"] m m' → News h₀ L h' ((Dr, listOf ((r ++ [Value.str word tw]) ++ [Value.str nx t']).toArray k') :: (L + 1, oK) :: rest) → Q .next { s with heap := h', toks := tk }) :
    wpAny (model Pr1 w) (lawA dp un gd L fa cdv outer) (execs ((forBody 9).drop 2) (lawEnv L fa cdv)) Q E s := by
  have F := fr_put F₀ (put_at hm1 (put_at hm2 (put_at hm3 (put_at hm4 rfl))))
  clear F₀
  have hw := hT.wl
  have hk1 := hT.k1
  have ho1 := hT.o1
  have he2 := hT.e2
  have ht2 := hT.t20
  have hml := hT.ml
  have hql := hT.ql
  have hjw := hT.jw
  have hnl := hT.nl
  w_on
  show wpAny _ _ (execs [_, _, _] _) _ _ _
  repeat' (walk_at "go")
  unfold Hold
  (rename Fr _ _ _ _ => lF9)
  (rename News _ _ _ _ => lN9)
  (rename List.map _ _ = Txt.split _ _ => he9)
  (rename StrsAre (strValues _) _ => hs9)
  have hc9 := cut_item he9 hs9
  have hn9 : (cutP (qdT (mailS word kept e tail))).length ≤ 10000 := by
    rw [List.length_map] at hjw
    omega
  refine LCg.CompSrc.ledger (by rfl) lF9 lN9 (List.Mem.head _) (by rw [pick3, List.size_toArray, hc9.len_eq, sizeLine_eq]; omega) ?_
  intro g'
  refine crest_S (cutP (qdT (mailS word kept e tail))) (fun p => Txt.mul kept ((p.length : Int) - 1)) (fun x v => ∃ t, v = .str x t) (by rw [pick3, List.size_toArray, hc9.len_eq]) (fun i v _ h => by rw [pick3] at h; exact str_item hc9 h) ?_ ?_
  · rintro x v I' oI' C' oC' D' m' ys' h' tk' E' hx' ⟨u', rfl⟩ hC' hxx' F' N' off' ne'
    have hxl : x.length ≤ 1000 := by
      refine Nat.le_trans (part_short (y := Str.ofString "\r\n") (x := qdT (mailS word kept e tail)) ?_) hql
      exact List.mem_of_mem_take hx'
    (try simp only [LCg.Off3, and_true] at off')
    (try k_unmd)
    (try k_fold)
    repeat' (walk_at "go")
  · intro ys' hys' D' h' tk' F' N' off'
    have hnl2 : (Txt.join other (List.map (fun p => Txt.mul kept ((p.length : Int) - 1)) (cutP (qdT (mailS word kept e tail))))).length ≤ 1000 := by
      have h1 := hT.nl
      rw [← hT.nxe] at h1
      exact h1
    have hnx2 : Txt.join other (List.map (fun p => Txt.mul kept ((p.length : Int) - 1)) (cutP (qdT (mailS word kept e tail)))) = nx := hT.nxe
    have hsm := hT.same
    repeat' (walk_at "go")
    · exfalso
      (rename (_ != _) = true => hb9)
      rw [hnx2, ← hsm] at hb9
      simp at hb9
    · (rename Fr _ _ _ _ => lF9)
      (rename News _ _ _ _ => lN9)
      rw [hnx2] at lN9
      refine hq _ _ _ _ _ lF9 ?_ lN9
      intro z h1
      simp only [List.contains_cons, List.contains_nil, Bool.or_false, Bool.or_eq_false_iff, beq_eq_false_iff_ne, ne_eq] at h1
      simp [h1]
      walk_at "ifs"
end

end Mine
end
section
open PySem PySem.W PyProof.Rows PySem.Builtin PySem.Builtin.Str PySem.Calls
set_option maxRecDepth 100000
set_option maxHeartbeats 8000000
namespace Mine
theorem fill_TR0 : PySem.Challenge.rw_rw0014_01 = PySem.Challenge.rw_rw0014_01 ∧ hd.heap_39 = hd.heap_39 := by k_fill; exact ⟨rfl, rfl⟩
local macro_rules | `(tactic| walk_at "go") => `(tactic| (first | (k_unfold; (try dsimp only)) | walk1 | (dsimp only; walk1)))
local macro_rules | `(tactic| walk_at "exec Assign cons ListComp") => `(tactic| (k_here; k_dflt (refine LCg.Assign_ListComp_U (F₀ := by k_asm) (by rfl) (by with_unfolding_all rfl) (by with_unfolding_all rfl) (by decide) (by rfl) (by decide) (by rfl) (by rfl) (by rfl) ?_)))
local macro_rules | `(tactic| walk_at "eval ListComp") => `(tactic| (k_here; k_dflt (refine LCg.ListComp_U (F₀ := by k_asm) (by with_unfolding_all rfl) (by decide) (by rfl) (by decide) (by rfl) ?_)))
local macro_rules | `(tactic| walk_at "CompSrc") => `(tactic| (apply Hold.out))
local macro_rules | `(tactic| walk_at "pyIter ref") => `(tactic| ((with_reducible show wpAny _ _ (pyIter (Value.ref _)) (fun it s₂ => LoopAtV _ _ _ _ _ _ _ _ _ it s₂) _ _); apply Hold.out))
local macro_rules | `(tactic| walk_at "exec For Name Call cons nil") => `(tactic| (k_here; (rename Fr _ _ _ _ => lF'); (with_unfolding_all refine' For_invVF (hE := ?k3) lF' ?k1 ?k2 ?_; (case k1 => exact rfl); (case k2 => exact rfl); (case k3 => assumption); k_whole)))
local macro_rules | `(tactic| walk_at "exec For Name Name cons nil") => `(tactic| (k_here; (rename Fr _ _ _ _ => lF'); (with_unfolding_all refine' For_invVF (hE := ?k3) lF' ?k1 ?k2 ?_; (case k1 => exact rfl); (case k2 => exact rfl); (case k3 => assumption); k_whole)))
local macro_rules | `(tactic| walk_at "CompEnd") => `(tactic| ((refine LCg.CompEnd.intro (by k_asm) (by k_asm) _ ?hs ?ho ?hS (kcf_el ?he rfl rfl)); (case he => first | rfl | (rw [if_pos (by assumption)]; done) | (rw [if_neg (by simp [*])]; done) | (simp [*]; done)); (case hs => kcf_all); (case ho => first | assumption | trivial | (simp only [LCg.Off3, and_true]; first | assumption | done)); (case hS => first | trivial | lcg_src | assumption)))
local macro_rules | `(tactic| walk_at "call ref") => `(tactic| ((with_reducible show wpAny _ _ (call (Value.ref 55) [Value.str _ _, Value.str _ _]) _ _ _); (k_dflt (refine' em_call ?k1 ?k2 ?k3 ?k4 ?k5 ?kK ?kp ?kd ?ku ?_; (case k2 => k_asm); (case k4 => k_asm); (case k1 => k_asm); (case k3 => k_asm); (case k5 => k_asm); (case kK => first | exact rfl | assumption); (case kp => constructor <;> first | omega | (walk_at "em_size")); (case kd => first | omega | ktr_room); (case ku => first | omega | ktr_units))); intro h' tk' F' N'; (try k_fold)))
local macro_rules | `(tactic| walk_at "same") => `(tactic| (intro z h1 h2; first | rfl | (simp [h1]; done) | ((simp only [List.contains_cons, List.contains_nil, Bool.or_false, Bool.or_eq_false_iff, beq_eq_false_iff_ne, ne_eq] at h2); (simp [h1, h2]; done))))
local macro_rules | `(tactic| walk_at "em_size") => `(tactic| first | omega | (refine Nat.le_trans (by walk_at "len_up") (by omega)))
local macro_rules | `(tactic| walk_at "len_up") => `(tactic| first | (with_reducible exact Txt.slice_le _ _ _) | (with_reducible exact dots3) | (with_reducible refine len_app2 (by walk_at "len_up") (by walk_at "len_up")) | (with_reducible exact Nat.le_refl _))
local macro_rules | `(tactic| walk_at "binaryOp Mult ref int") => `(tactic| ((with_reducible show wpAny _ _ (binaryOp Operator.Mult (Value.ref _) (Value.int _ _)) _ _ _); (k_dflt (refine' rep_one ?k1 ?k2 ?k3 ?k4 ?k5 ?_; (case k1 => k_asm); (case k2 => k_asm); (case k3 => exact List.Mem.head _); (case k4 => omega); (case k5 => omega))); intro D' h' F' N' l1'; (try k_lt l1')))
local macro_rules | `(tactic| walk_at "call builtin:str.join") => `(tactic| ((show wpAny _ _ (call (Value.builtin "str.join") [Value.str _ _, Value.ref _]) _ _ _); (refine join_B _ (News.isList (by k_asm) (List.Mem.head _)) (by walk_at "join_s") (by walk_at "join_w") (by first | omega | assumption) (by decide +kernel) ?_); intro t' k' hlen'))
local macro_rules | `(tactic| walk_at "join_s") => `(tactic| first | assumption | exact strs_rep _ _ _)
local macro_rules | `(tactic| walk_at "join_w") => `(tactic| exact rep_w (by omega) (by omega))
local macro_rules | `(tactic| walk_at "pyIter str") => `(tactic| ((with_reducible show wpAny _ _ (pyIter (Value.str _ _)) (fun it s₂ => LoopAtV _ _ _ _ _ _ _ _ _ it s₂) _ _); apply Hold.out))
local macro_rules | `(tactic| walk_at "exec For Name Subscript cons nil") => `(tactic| (k_here; (rename Fr _ _ _ _ => lF'); (with_unfolding_all refine' For_invVF (hE := ?k3) lF' ?k1 ?k2 ?_; (case k1 => exact rfl); (case k2 => exact rfl); (case k3 => assumption); k_whole)))
local macro_rules | `(tactic| walk_at "call builtin:list.append") => `(tactic| ((show wpAny _ _ (call (Value.builtin "list.append") [Value.ref _, _]) _ _ _); (k_dflt (refine' app_head ?k1 ?k2 ?k3 ?z ?_; (case k1 => k_asm); (case k2 => k_asm); (case k3 => walk_at "ne_all"); (case z => walk_at "sz"))); intro h' F' N'))
local macro_rules | `(tactic| walk_at "sz") => `(tactic| first | ((simp only [List.length_append, List.length_cons, List.length_nil]); (have hl9 := IntsAre.length (by assumption)); omega) | ((simp only [List.length_append, List.length_cons, List.length_nil]); (have hl9 := StrsAre.len_eq (by assumption)); omega))
local macro_rules | `(tactic| walk_at "ne_all") => `(tactic| first | exact List.forall_mem_nil _ | (refine List.forall_mem_cons.mpr ⟨?_, ?_⟩; (focus (first | (exact Nat.ne_of_lt (by assumption)) | k_ne)); walk_at "ne_all") | (refine List.forall_mem_append.mpr ⟨?_, ?_⟩; (focus walk_at "ne_all"); walk_at "ne_all") | exact OwnOff.ne (by assumption) (List.Mem.head _) | exact allLt_ne (by assumption))
local macro_rules | `(tactic| walk_at "eval ListComp") => `(tactic| ((with_reducible show wpAny _ _ (eval (Expr.ListComp _ [⟨_, _, [_], _⟩] _ _) _) _ _ _); k_dflt (refine LCt.ListComp_T (F₀ := by k_asm) (by with_unfolding_all rfl) (by decide) (by rfl) (by decide) (by rfl) ?_)))
local macro_rules | `(tactic| walk_at "CompSrcT") => `(tactic| (apply Hold.out))
local macro_rules | `(tactic| walk_at "compareOp NotEq ref ref") => `(tactic| ((with_reducible show wpAny _ _ (compareOp CmpOp.NotEq (Value.ref _) (Value.ref _)) _ _ _); refine ne_N (by k_asm) (by walk_at "mem1") (by walk_at "mem1") (by assumption) (by assumption) (by (have hcL9 := cLine_is; (try dsimp only); omega)) ?_))
local macro_rules | `(tactic| walk_at "mem1") => `(tactic| first | exact List.Mem.head _ | exact List.Mem.tail _ (List.Mem.head _) | exact List.Mem.tail _ (List.Mem.tail _ (List.Mem.head _)) | k_mem)
local macro_rules | `(tactic| walk_at "keep") => `(tactic| (intro z h1; (simp only [List.contains_cons, List.contains_nil, Bool.or_false, Bool.or_eq_false_iff, beq_eq_false_iff_ne, ne_eq] at h1); first | rfl | (simp [h1]; done) | (simp [h1]; intro h2; subst h2; symm; assumption)))
local macro_rules | `(tactic| walk_at "keep2") => `(tactic| (intro z h1; (simp only [List.contains_cons, List.contains_nil, Bool.or_false, Bool.or_eq_false_iff, beq_eq_false_iff_ne, ne_eq] at h1); (rename Keep _ _ _ => K9); refine Eq.trans (K9 z (by (simp only [List.contains_cons, List.contains_nil, Bool.or_false, Bool.or_eq_false_iff, beq_eq_false_iff_ne, ne_eq]; simp [h1]))) ?_; first | rfl | (simp [h1]; done)))
local macro_rules | `(tactic| walk_at "ifs") => `(tactic| repeat' (first | rfl | (split; (focus ((rename _ = Str.ofString _ => h9); subst h9; symm; assumption)))))
local macro_rules | `(tactic| walk_at "storeName") => `(tactic| ((with_reducible show wpAny _ _ (storeName _ (Str.ofString "part") _) _ _ _); (refine' storeX_C ?F ?N ?c ?U ?d ?_ ?a ?b; (case a => rfl); (case b => rfl); (case F => k_asm); (case N => k_asm); (case c => rfl); (case U => exact UpdF.head (by assumption)); (case d => k_asm)); k_whole; intro h' o' F' N' d'; (try dsimp only at N'); (try k_sweep)))
local macro_rules | `(tactic| walk_at "call ref") => `(tactic| ((with_reducible show wpAny _ _ (call (Value.ref _) [Value.int _ _]) _ _ _); (k_dflt (first | (with_reducible refine' ist_call ?k1 ?k2 ?k3 ?k4 ?k5 ?kK ?kd ?ku ?_) | (with_reducible refine' isn_call ?k1 ?k2 ?k3 ?k4 ?k5 ?kK ?kd ?ku ?_) | (with_reducible refine' ise_call ?k1 ?k2 ?k3 ?k4 ?k5 ?kK ?kd ?ku ?_)); (case k2 => k_asm); (case k4 => k_asm); (case k1 => k_asm); (case k3 => k_asm); (case k5 => k_asm); (case kK => first | exact rfl | assumption); (case kd => first | omega | ktr_room); (case ku => first | omega | ktr_units)); intro h' tk' F' N'; (try k_fold)))
local macro_rules | `(tactic| walk_at "subscriptTail List cons BinOp ref int") => `(tactic| ((with_reducible show wpAny _ _ (subscriptTail (Expr.List _ _) _ (Value.ref _) (Value.int _ _)) _ _ _); ((refine' item_menu3 ?k1 ?k2 ?k3 ?k4 ?_ ?_ ?_ ?hs; (case k1 => k_asm); (case k2 => with_unfolding_all exact List.Mem.head _); (case k3 => exact (fmod3 _).1); (case k4 => exact (fmod3 _).2); (case hs => with_unfolding_all rfl)) <;> intro hj)))
local macro_rules | `(tactic| walk_at "execs cons") => `(tactic| ((with_reducible show wpAny _ _ (execs [_, _, _] _) _ _ _); apply Hold.wp))
local macro_rules | `(tactic| walk_at "storeName") => `(tactic| ((with_reducible show wpAny _ _ (storeName _ (Str.ofString "kept") _) _ _ _); (refine' storeX_D ?F ?N ?c ?m ?U ?S ?d ?_ ?a ?b; (case a => rfl); (case b => rfl); (case F => k_asm); (case N => k_asm); (case c => rfl); (case m => k_mem); (case U => assumption); (case S => kcf_all); (case d => k_asm)); k_whole; intro h' o' F' N' d'; (try dsimp only at N'); (try k_sweep)))
def endS (j : Int) : Str := if j = 0 then Str.ofString "\n" else if j = 1 then Str.ofString "\r" else Str.ofString "\r\n"
def tailS (j : Int) : Str := if j = 0 then Str.ofString "\r.a.\r\na." else if j = 1 then Str.ofString "\r\n.a.\na." else Str.ofString "\n.a.\ra."
section
variable {w : World} {mean : ExcName → Option Value} {mg mb : Str → Option Value} {rest : List (Addr × Obj)} {dp un : Nat} {gd : Option (List Code)} {fa : Addr} {cdv : Value} {outer : List Env} {A₀ : Around} {base h₀ : Heap} {L : Addr} {m : Str → Option Value} {s : Shared} {E : Value → Shared → Prop} {Q : Flow → Shared → Prop}
theorem tr0 {Dr Dw : Addr} {r vsW : List Value} {ws : List Int} {kR kW : Nat} {oK : Obj} {word lo hi nx : Str} {tw t1 t2 t3 t4 : Tok} {K tot : Int} (B : Below A₀ base outer h₀)
    (F₀ : Fr h₀ L s.heap m) (hm1 : m (Str.ofString "rests") = some (.ref Dr)) (hm2 : m (Str.ofString "low") = some (.str lo t1)) (hm3 : m (Str.ofString "high") = some (.str hi t2)) (hm4 : m (Str.ofString "total") = some (.int tot t3)) (hm5 : m (Str.ofString "k") = some (.int K t4)) (hm6 : m (Str.ofString "row") = some (.ref Dw)) (X : (hd.heap_39 w.params).In h₀)
    (N : News h₀ L s.heap ((L + 1, oK) :: (Dr, listOf (r ++ [Value.str word tw]).toArray kR) :: (Dw, listOf vsW.toArray kW) :: rest)) (T : Top hd.view_39 Lo1 mean mg mb h₀) (hd1 : dp + 3 < recursionLimit) (hu : un + 100 < cLine)
    (hne : ∀ p ∈ (L + 1, oK) :: (Dw, listOf vsW.toArray kW) :: rest, p.1 ≠ Dr) (hneK : ∀ p ∈ (Dr, listOf (r ++ [Value.str word tw]).toArray kR) :: (Dw, listOf vsW.toArray kW) :: rest, p.1 ≠ L + 1) (hr : r.length ≤ 10) (hK0 : ∃ v, oK.data = .cell v)
    (hW : IntsAre vsW ws) (hW6 : ws.length = 6) (hK : 0 ≤ K ∧ K ≤ 5) (hlo : lo.length = 1) (hhi : hi.length = 1) (htot : 0 ≤ tot ∧ tot ≤ 10000000)
    (hT : TurnR word (if ws.getD (5 - K).toNat 0 < 256 then lo else hi) (if ws.getD (5 - K).toNat 0 < 256 then hi else lo) (endS ((tot + K).fmod 3)) (tailS ((tot + K).fmod 3)) nx) (hE : PassesOwn (model Pr1 w) (lawA dp un gd L fa cdv outer) (lawEnv L fa cdv) E)
    (hq : ∀ h' tk m' oK' k' t', Fr h₀ L h' m' → Keep [Str.ofString "sent", Str.ofString "other", Str.ofString "end", Str.ofString "tail"] m m' → (∃ v, oK'.data = .cell v) → News h₀ L h' ((L + 1, oK') :: (Dr, listOf ((r ++ [Value.str word tw]) ++ [Value.str nx t']).toArray k') :: (Dw, listOf vsW.toArray kW) :: rest) → Q .next { s with heap := h', toks := tk }) :
    wpAny (model Pr1 w) (lawA dp un gd L fa cdv outer) (execs (forBody 9) (lawEnv L fa cdv)) Q E s := by
  have F := fr_put F₀ (put_at hm1 (put_at hm2 (put_at hm3 (put_at hm4 (put_at hm5 (put_at hm6 rfl))))))
  clear F₀
  obtain ⟨v0, hK0⟩ := hK0
  w_on
  show wpAny _ _ (execs [_, _, _, _, _] _) _ _ _
  repeat' (walk_at "go")
  all_goals
    unfold Hold
    (rename Fr _ _ _ _ => lF9)
    (rename News _ _ _ _ => lN9)
    (rename IntsAre vsW ws => hW9)
    (rename _ = Data.cell (some (Value.str _ _)) => hd9)
    (rename (tot + K).fmod 3 = _ => hj9)
    rw [hj9] at hT
    first
      | rw [if_pos (by assumption), if_pos (by assumption)] at hT
      | rw [if_neg (by assumption), if_neg (by assumption)] at hT
      | trace_state
    refine tr2 (r := r) (kR := kR) (oK := _) (rest := (Dw, listOf vsW.toArray kW) :: rest) (by k_asm) lF9 (by with_unfolding_all rfl) (by with_unfolding_all rfl) (by with_unfolding_all rfl) (by with_unfolding_all rfl) (by k_asm) (cb_drop lN9 (by kcf_all)) (by k_asm) (by omega) (by omega) ?hne (by omega) hd9 hT hE (fun h' tk' m' k' t' F' K' N' => ?_)
    case hne =>
      intro p hp
      rcases List.mem_cons.mp hp with rfl | hp
      · exact hne (L + 1, oK) (.head _)
      · exact hne p (.tail _ hp)
    refine hq _ _ _ _ _ _ F' ?_ ⟨_, hd9⟩ (cb_drop N' (by kcf_all))
    intro z h1
    simp only [List.contains_cons, List.contains_nil, Bool.or_false, Bool.or_eq_false_iff, beq_eq_false_iff_ne, ne_eq] at h1
    refine Eq.trans (K' z (by (simp only [List.contains_cons, List.contains_nil, Bool.or_false, Bool.or_eq_false_iff, beq_eq_false_iff_ne, ne_eq]; simp [h1]))) ?_
    simp [h1]
    walk_at "ifs"
end

end Mine
end
section
open PySem PySem.W PyProof.Rows PySem.Builtin PySem.Builtin.Str PySem.Calls
set_option maxRecDepth 100000
set_option maxHeartbeats 8000000
namespace Mine
local macro_rules | `(tactic| walk_at "pad0") => `(tactic| skip)
theorem fill_T9 : PySem.Challenge.rw_rw0014_01 = PySem.Challenge.rw_rw0014_01 ∧ hd.heap_39 = hd.heap_39 := by k_fill; exact ⟨rfl, rfl⟩
local macro_rules | `(tactic| walk_at "go") => `(tactic| (first | (k_unfold; (try dsimp only)) | walk1 | (dsimp only; walk1)))
local macro_rules | `(tactic| walk_at "exec Assign cons ListComp") => `(tactic| (k_here; k_dflt (refine LCg.Assign_ListComp_U (F₀ := by k_asm) (by rfl) (by with_unfolding_all rfl) (by with_unfolding_all rfl) (by decide) (by rfl) (by decide) (by rfl) (by rfl) (by rfl) ?_)))
local macro_rules | `(tactic| walk_at "eval ListComp") => `(tactic| (k_here; k_dflt (refine LCg.ListComp_U (F₀ := by k_asm) (by with_unfolding_all rfl) (by decide) (by rfl) (by decide) (by rfl) ?_)))
local macro_rules | `(tactic| walk_at "CompSrc") => `(tactic| (apply Hold.out))
local macro_rules | `(tactic| walk_at "pyIter ref") => `(tactic| ((with_reducible show wpAny _ _ (pyIter (Value.ref _)) (fun it s₂ => LoopAtV _ _ _ _ _ _ _ _ _ it s₂) _ _); apply Hold.out))
local macro_rules | `(tactic| walk_at "exec For Name Call cons nil") => `(tactic| (k_here; (rename Fr _ _ _ _ => lF'); (with_unfolding_all refine' For_invVF (hE := ?k3) lF' ?k1 ?k2 ?_; (case k1 => exact rfl); (case k2 => exact rfl); (case k3 => assumption); k_whole)))
local macro_rules | `(tactic| walk_at "exec For Name Name cons nil") => `(tactic| (k_here; (rename Fr _ _ _ _ => lF'); (with_unfolding_all refine' For_invVF (hE := ?k3) lF' ?k1 ?k2 ?_; (case k1 => exact rfl); (case k2 => exact rfl); (case k3 => assumption); k_whole)))
local macro_rules | `(tactic| walk_at "CompEnd") => `(tactic| ((refine LCg.CompEnd.intro (by k_asm) (by k_asm) _ ?hs ?ho ?hS (kcf_el ?he rfl rfl)); (case he => first | rfl | (rw [if_pos (by assumption)]; done) | (rw [if_neg (by simp [*])]; done) | (simp [*]; done)); (case hs => kcf_all); (case ho => first | assumption | trivial | (simp only [LCg.Off3, and_true]; first | assumption | done)); (case hS => first | trivial | lcg_src | assumption)))
local macro_rules | `(tactic| walk_at "call ref") => `(tactic| ((with_reducible show wpAny _ _ (call (Value.ref 55) [Value.str _ _, Value.str _ _]) _ _ _); (k_dflt (refine' em_call ?k1 ?k2 ?k3 ?k4 ?k5 ?kK ?kp ?kd ?ku ?_; (case k2 => k_asm); (case k4 => k_asm); (case k1 => k_asm); (case k3 => k_asm); (case k5 => k_asm); (case kK => first | exact rfl | assumption); (case kp => constructor <;> first | omega | (walk_at "em_size")); (case kd => first | omega | ktr_room); (case ku => first | omega | ktr_units))); intro h' tk' F' N'; (try k_fold)))
local macro_rules | `(tactic| walk_at "same") => `(tactic| (intro z h1 h2; first | rfl | (simp [h1]; done) | ((simp only [List.contains_cons, List.contains_nil, Bool.or_false, Bool.or_eq_false_iff, beq_eq_false_iff_ne, ne_eq] at h2); (simp [h1, h2]; done))))
local macro_rules | `(tactic| walk_at "em_size") => `(tactic| first | omega | (refine Nat.le_trans (by walk_at "len_up") (by omega)))
local macro_rules | `(tactic| walk_at "len_up") => `(tactic| first | (with_reducible exact Txt.slice_le _ _ _) | (with_reducible exact dots3) | (with_reducible refine len_app2 (by walk_at "len_up") (by walk_at "len_up")) | (with_reducible exact Nat.le_refl _))
local macro_rules | `(tactic| walk_at "binaryOp Mult ref int") => `(tactic| ((with_reducible show wpAny _ _ (binaryOp Operator.Mult (Value.ref _) (Value.int _ _)) _ _ _); (k_dflt (refine' rep_one ?k1 ?k2 ?k3 ?k4 ?k5 ?_; (case k1 => k_asm); (case k2 => k_asm); (case k3 => exact List.Mem.head _); (case k4 => omega); (case k5 => omega))); intro D' h' F' N' l1'; (try k_lt l1')))
local macro_rules | `(tactic| walk_at "call builtin:str.join") => `(tactic| ((show wpAny _ _ (call (Value.builtin "str.join") [Value.str _ _, Value.ref _]) _ _ _); (refine join_B _ (News.isList (by k_asm) (List.Mem.head _)) (by walk_at "join_s") (by walk_at "join_w") (by first | omega | assumption) (by decide +kernel) ?_); intro t' k' hlen'))
local macro_rules | `(tactic| walk_at "join_s") => `(tactic| first | assumption | exact strs_rep _ _ _)
local macro_rules | `(tactic| walk_at "join_w") => `(tactic| exact rep_w (by omega) (by omega))
local macro_rules | `(tactic| walk_at "pyIter str") => `(tactic| ((with_reducible show wpAny _ _ (pyIter (Value.str _ _)) (fun it s₂ => LoopAtV _ _ _ _ _ _ _ _ _ it s₂) _ _); apply Hold.out))
local macro_rules | `(tactic| walk_at "exec For Name Subscript cons nil") => `(tactic| (k_here; (rename Fr _ _ _ _ => lF'); (with_unfolding_all refine' For_invVF (hE := ?k3) lF' ?k1 ?k2 ?_; (case k1 => exact rfl); (case k2 => exact rfl); (case k3 => assumption); k_whole)))
local macro_rules | `(tactic| walk_at "call builtin:list.append") => `(tactic| ((show wpAny _ _ (call (Value.builtin "list.append") [Value.ref _, _]) _ _ _); (k_dflt (refine' app_head ?k1 ?k2 ?k3 ?z ?_; (case k1 => k_asm); (case k2 => k_asm); (case k3 => walk_at "ne_all"); (case z => walk_at "sz"))); intro h' F' N'))
local macro_rules | `(tactic| walk_at "sz") => `(tactic| first | ((simp only [List.length_append, List.length_cons, List.length_nil]); (have hl9 := IntsAre.length (by assumption)); omega) | ((simp only [List.length_append, List.length_cons, List.length_nil]); (have hl9 := StrsAre.len_eq (by assumption)); omega))
local macro_rules | `(tactic| walk_at "ne_all") => `(tactic| first | exact List.forall_mem_nil _ | (refine List.forall_mem_cons.mpr ⟨?_, ?_⟩; (focus (first | (exact Nat.ne_of_lt (by assumption)) | k_ne)); walk_at "ne_all") | (refine List.forall_mem_append.mpr ⟨?_, ?_⟩; (focus walk_at "ne_all"); walk_at "ne_all") | exact OwnOff.ne (by assumption) (List.Mem.head _) | exact allLt_ne (by assumption))
local macro_rules | `(tactic| walk_at "eval ListComp") => `(tactic| ((with_reducible show wpAny _ _ (eval (Expr.ListComp _ [⟨_, _, [_], _⟩] _ _) _) _ _ _); k_dflt (refine LCt.ListComp_T (F₀ := by k_asm) (by with_unfolding_all rfl) (by decide) (by rfl) (by decide) (by rfl) ?_)))
local macro_rules | `(tactic| walk_at "CompSrcT") => `(tactic| (apply Hold.out))
local macro_rules | `(tactic| walk_at "compareOp NotEq ref ref") => `(tactic| ((with_reducible show wpAny _ _ (compareOp CmpOp.NotEq (Value.ref _) (Value.ref _)) _ _ _); refine ne_N (by k_asm) (by walk_at "mem1") (by walk_at "mem1") (by assumption) (by assumption) (by (have hcL9 := cLine_is; (try dsimp only); omega)) ?_))
local macro_rules | `(tactic| walk_at "mem1") => `(tactic| first | exact List.Mem.head _ | exact List.Mem.tail _ (List.Mem.head _) | exact List.Mem.tail _ (List.Mem.tail _ (List.Mem.head _)) | k_mem)
local macro_rules | `(tactic| walk_at "keep") => `(tactic| (intro z h1; (simp only [List.contains_cons, List.contains_nil, Bool.or_false, Bool.or_eq_false_iff, beq_eq_false_iff_ne, ne_eq] at h1); first | rfl | (simp [h1]; done) | (simp [h1]; intro h2; subst h2; symm; assumption)))
local macro_rules | `(tactic| walk_at "keep2") => `(tactic| (intro z h1; (simp only [List.contains_cons, List.contains_nil, Bool.or_false, Bool.or_eq_false_iff, beq_eq_false_iff_ne, ne_eq] at h1); (rename Keep _ _ _ => K9); refine Eq.trans (K9 z (by (simp only [List.contains_cons, List.contains_nil, Bool.or_false, Bool.or_eq_false_iff, beq_eq_false_iff_ne, ne_eq]; simp [h1]))) ?_; first | rfl | (simp [h1]; done)))
local macro_rules | `(tactic| walk_at "ifs") => `(tactic| repeat' (first | rfl | (split; (focus ((rename _ = Str.ofString _ => h9); subst h9; symm; assumption)))))
local macro_rules | `(tactic| walk_at "storeName") => `(tactic| ((with_reducible show wpAny _ _ (storeName _ (Str.ofString "part") _) _ _ _); (refine' storeX_C ?F ?N ?c ?U ?d ?_ ?a ?b; (case a => rfl); (case b => rfl); (case F => k_asm); (case N => k_asm); (case c => rfl); (case U => exact UpdF.head (by assumption)); (case d => k_asm)); k_whole; intro h' o' F' N' d'; (try dsimp only at N'); (try k_sweep)))
local macro_rules | `(tactic| walk_at "call ref") => `(tactic| ((with_reducible show wpAny _ _ (call (Value.ref _) [Value.int _ _]) _ _ _); (k_dflt (first | (with_reducible refine' ist_call ?k1 ?k2 ?k3 ?k4 ?k5 ?kK ?kd ?ku ?_) | (with_reducible refine' isn_call ?k1 ?k2 ?k3 ?k4 ?k5 ?kK ?kd ?ku ?_) | (with_reducible refine' ise_call ?k1 ?k2 ?k3 ?k4 ?k5 ?kK ?kd ?ku ?_)); (case k2 => k_asm); (case k4 => k_asm); (case k1 => k_asm); (case k3 => k_asm); (case k5 => k_asm); (case kK => first | exact rfl | assumption); (case kd => first | omega | ktr_room); (case ku => first | omega | ktr_units)); intro h' tk' F' N'; (try k_fold)))
local macro_rules | `(tactic| walk_at "subscriptTail List cons BinOp ref int") => `(tactic| ((with_reducible show wpAny _ _ (subscriptTail (Expr.List _ _) _ (Value.ref _) (Value.int _ _)) _ _ _); ((refine' item_menu3 ?k1 ?k2 ?k3 ?k4 ?_ ?_ ?_ ?hs; (case k1 => k_asm); (case k2 => with_unfolding_all exact List.Mem.head _); (case k3 => exact (fmod3 _).1); (case k4 => exact (fmod3 _).2); (case hs => with_unfolding_all rfl)) <;> intro hj)))
local macro_rules | `(tactic| walk_at "mem5") => `(tactic| first | exact List.Mem.head _ | (refine List.Mem.tail _ ?_; walk_at "mem5"))
local macro_rules | `(tactic| walk_at "execs cons") => `(tactic| ((with_reducible show wpAny _ _ (execs [_, _, _, _, _, _, _] _) _ _ _); apply Hold.wp))
def DnOff (L D : Nat) : Prop := D ≠ L + 1 ∧ D ≠ L + 1 + 1 ∧ D ≠ L + 1 + 1 + 1
theorem ne1 {L D : Nat} (h : L + 1 + 1 + 1 < D) : D ≠ L + 1 := by omega
theorem ne2 {L D : Nat} (h : L + 1 + 1 + 1 < D) : D ≠ L + 1 + 1 := by omega
theorem ne3 {L D : Nat} (h : L + 1 + 1 + 1 < D) : D ≠ L + 1 + 1 + 1 := by omega
theorem take_getD {rs : List Str} {i : Nat} (h : i < rs.length) : rs.take (i + 1) = rs.take i ++ [rs.getD i Str.empty] := by
  rw [List.take_add_one, List.getD_eq_getElem?_getD, List.getElem?_eq_getElem h]; rfl
section
variable {w : World} {mean : ExcName → Option Value} {mg mb : Str → Option Value} {rest : List (Addr × Obj)} {dp un : Nat} {gd : Option (List Code)} {fa : Addr} {cdv : Value} {outer : List Env} {A₀ : Around} {base h₀ : Heap} {L : Addr} {m : Str → Option Value} {s : Shared} {E : Value → Shared → Prop} {Q : Flow → Shared → Prop}
/-- all that the law asks of the texts -/
structure BodyOk (lo hi : Str) (tot : Int) (ns ws : List Int) (fr rs : List Str) : Prop where
  rs0 : rs.getD 0 Str.empty = Str.ofString ""
  fr0 : fr.getD 0 Str.empty = Str.ofString ""
  fl : fr.length = 7
  rl : rs.length = 7
  sl : ∀ x ∈ fr, x.length ≤ 100
  tl : ∀ x ∈ rs, x.length ≤ 40
  mails : ∀ i, i < 6 → TurnR (rs.getD i Str.empty) (if ws.getD (5 - i) 0 < 256 then lo else hi) (if ws.getD (5 - i) 0 < 256 then hi else lo) (endS ((tot + (i : Int)).fmod 3)) (tailS ((tot + (i : Int)).fmod 3)) (rs.getD (i + 1) Str.empty)
  closed : ∀ i, i < 6 → closedS (fr.getD i Str.empty ++ if ws.getD i 0 ≥ 256 then hi else lo) = fr.getD (i + 1) Str.empty
  fin : EndOk (fr.getD 6 Str.empty) lo ns fr rs
theorem tail9 {Dn Df Dr Dw : Addr} {vsN vsF vsW : List Value} {ns ws : List Int} {fr rs : List Str} {kN kF kR kW : Nat} {oW oK oP : Obj} {lo hi : Str} {tl t1 t2 tr : Tok} {tot : Int} (B : Below A₀ base outer h₀)
    (F₀ : Fr h₀ L s.heap m) (hm3 : m (Str.ofString "high") = some (.str hi t2)) (hm4 : m (Str.ofString "low") = some (.str lo tl)) (hm5 : m (Str.ofString "rests") = some (.ref Dr)) (hm6 : m (Str.ofString "numbers") = some (.ref Dn)) (hm7 : m (Str.ofString "fronts") = some (.ref Df)) (hm8 : m (Str.ofString "row") = some (.ref Dw)) (hm9 : m (Str.ofString "total") = some (.int tot t1)) (X : (hd.heap_39 w.params).In h₀)
    (N : News h₀ L s.heap ((L + 1, oK) :: (Dr, listOf [Value.str (Str.ofString "") tr].toArray kR) :: (Dw, listOf vsW.toArray kW) :: (L + 1 + 1 + 1, oW) :: (L + 1 + 1, oP) :: (Dn, listOf vsN.toArray kN) :: (Df, listOf vsF.toArray kF) :: rest)) (T : Top hd.view_39 Lo1 mean mg mb h₀) (hd1 : dp + 3 < recursionLimit) (hu : un + 100 < cLine)
    (hN : IntsAre vsN ns) (hN6 : ns.length = 6) (hF : StrsAre vsF fr) (hW : IntsAre vsW ws) (hW6 : ws.length = 6) (hlo : lo.length = 1) (hhi : hi.length = 1) (htot : 0 ≤ tot ∧ tot ≤ 10000000) (hE : PassesOwn (model Pr1 w) (lawA dp un gd L fa cdv outer) (lawEnv L fa cdv) E)
    (hK0 : ∃ v, oK.data = .cell v) (hP0 : ∃ v, oP.data = .cell v) (hW0 : ∃ v, oW.data = .cell v)
    (hord : DnOff L Dn ∧ L + 1 + 1 + 1 < Df ∧ L + 1 + 1 + 1 < Dr ∧ L + 1 + 1 + 1 < Dw ∧ Dn ≠ Dr ∧ Df ≠ Dr ∧ Dw ≠ Dr) (hr : ∀ p ∈ rest, L + 1 + 1 + 1 < p.1 ∧ p.1 ≠ Dr)
    (hb : BodyOk lo hi tot ns ws fr rs) :
    wpAny (model Pr1 w) (lawA dp un gd L fa cdv outer) (execs (lawBody.drop 9) (lawEnv L fa cdv)) (RT h₀ L s) E s := by
  have F := F₀
  clear F₀
  w_on
  show wpAny _ _ (execs (_ :: _ :: _ :: _) _) _ _ _
  repeat' (walk_at "go")
  unfold Hold
  (rename Fr _ _ _ _ => lF9)
  (rename News _ _ _ _ => lN9)
  (rename IntsAre vsN ns => hN9)
  (rename IntsAre vsW ws => hW9)
  (rename StrsAre vsF fr => hF9)
  (try unfold News)
  have hrl := hb.rl
  have hfl := hb.fl
  obtain ⟨ho1, ho2, ho3, ho4, ho5, ho6, ho7⟩ := hord
  refine for_range (n := 6) (news := (L + 1, oK) :: (Dr, listOf ([] ++ [Value.str (Str.ofString "") tr]).toArray kR) :: (Dw, listOf vsW.toArray kW) :: (L + 1 + 1 + 1, oW) :: (L + 1 + 1, oP) :: (Dn, listOf vsN.toArray kN) :: (Df, listOf vsF.toArray kF) :: rest) (fun i m' nx => (∃ oK' r kR' word tw, nx = (L + 1, oK') :: (Dr, listOf (r ++ [Value.str word tw]).toArray kR') :: (Dw, listOf vsW.toArray kW) :: (L + 1 + 1 + 1, oW) :: (L + 1 + 1, oP) :: (Dn, listOf vsN.toArray kN) :: (Df, listOf vsF.toArray kF) :: rest ∧ (∃ v, oK'.data = .cell v) ∧ StrsAre (r ++ [Value.str word tw]) (rs.take (i + 1)) ∧ word = rs.getD i Str.empty) ∧ Keep [Str.ofString "k", Str.ofString "sent", Str.ofString "other", Str.ofString "end", Str.ofString "tail"] m m') (by rfl) (by assumption) (by decide +kernel) (by decide +kernel) lF9 (cb_drop lN9 (by kcf_all)) ?_ ?_ ?_
  · refine ⟨⟨oK, [], kR, _, tr, rfl, hK0, ?_, hb.rs0.symm⟩, ?_⟩
    · rw [take_getD (by omega), hb.rs0]
      exact .cons _ tr .nil
    · intro z h1; rfl
  · rintro i k t m₁ nx h' tk' own hi6 hk hoff ⟨⟨oK', r, kR', word, tw, rfl, hK', hS, hwd⟩, hkeep⟩ F' N'
    simp only [List.cons_append] at N'
    have hoD := OwnOff.ne hoff (List.mem_map.mpr ⟨(Dr, listOf (r ++ [Value.str word tw]).toArray kR'), .tail _ (.head _), rfl⟩)
    have hoK := OwnOff.ne hoff (List.mem_map.mpr ⟨(L + 1, oK'), .head _, rfl⟩)
    have hrlen : r.length = i := by
      have h1 := hS.len_eq
      simp at h1
      omega
    have hki : k = (i : Int) := by omega
    subst hki
    have hm := hb.mails i hi6
    rw [← hwd] at hm
    refine tr0 (K := (i : Int)) (r := r) (kR := kR') (vsW := vsW) (kW := kW) (oK := oK') (rest := (L + 1 + 1 + 1, oW) :: (L + 1 + 1, oP) :: (Dn, listOf vsN.toArray kN) :: (Df, listOf vsF.toArray kF) :: (rest ++ own)) (t1 := tl) (t2 := t2) (t3 := t1) (t4 := t) (lo := lo) (hi := hi) (tot := tot) (nx := rs.getD (i + 1) Str.empty) (by k_asm) F' ?h1 ?h2 ?h3 ?h4 ?h5 ?h6 (by k_asm) N' (by k_asm) hd1 hu ?hne ?hneK (by omega) hK' hW9 hW6 (by omega) hlo hhi htot ?hT hE ?hq
    case h1 => exact at_other (by decide +kernel) ((hkeep _ (by decide +kernel)).trans hm5)
    case h2 => exact at_other (by decide +kernel) ((hkeep _ (by decide +kernel)).trans hm4)
    case h3 => exact at_other (by decide +kernel) ((hkeep _ (by decide +kernel)).trans hm3)
    case h4 => exact at_other (by decide +kernel) ((hkeep _ (by decide +kernel)).trans hm9)
    case h5 => with_unfolding_all rfl
    case h6 => exact at_other (by decide +kernel) ((hkeep _ (by decide +kernel)).trans hm8)
    case hne =>
      intro p hp
      simp only [List.mem_cons, List.mem_append] at hp
      rcases hp with rfl | rfl | rfl | rfl | rfl | rfl | hp | hp
      · exact (ne1 ho3).symm
      · exact ho7
      · exact (ne3 ho3).symm
      · exact (ne2 ho3).symm
      · exact ho5
      · exact ho6
      · exact (hr p hp).2
      · exact hoD p hp
    case hneK =>
      intro p hp
      simp only [List.mem_cons, List.mem_append] at hp
      rcases hp with rfl | rfl | rfl | rfl | rfl | rfl | hp | hp
      · exact ne1 ho3
      · exact ne1 ho4
      · exact Nat.ne_of_gt (Nat.lt_succ_of_lt (Nat.lt_succ_self _))
      · exact Nat.ne_of_gt (Nat.lt_succ_self _)
      · exact ho1.1
      · exact ne1 ho2
      · exact ne1 (hr p hp).1
      · exact hoK p hp
    case hT =>
      have e9 : (5 - (i : Int)).toNat = 5 - i := by omega
      rw [e9]
      exact hm
    case hq =>
      intro h'' tk'' m'' oK'' k'' t'' F'' K'' hK'' N''
      refine ⟨h'', tk'', m'', _, (L + 1, oK'') :: (Dr, listOf ((r ++ [Value.str word tw]) ++ [Value.str (rs.getD (i + 1) Str.empty) t'']).toArray k'') :: (Dw, listOf vsW.toArray kW) :: (L + 1 + 1 + 1, oW) :: (L + 1 + 1, oP) :: (Dn, listOf vsN.toArray kN) :: (Df, listOf vsF.toArray kF) :: rest, rfl, F'', N'', ?_, ?_, hoff, ⟨oK'', _, k'', _, t'', rfl, hK'', ?_, rfl⟩, ?_⟩
      · intro p hp
        simp only [List.mem_cons, List.mem_append] at hp ⊢
        rcases hp with hp | hp | hp | hp | hp | hp | hp | hp <;> simp [hp]
      · intro p hp
        simp only [List.mem_cons, List.mem_append]
        simp [hp]
      · rw [take_getD (by omega)]
        exact strs_snoc hS
      · intro z h1
        have h9 := h1
        simp only [List.contains_cons, List.contains_nil, Bool.or_false, Bool.or_eq_false_iff, beq_eq_false_iff_ne, ne_eq] at h1
        refine Eq.trans (K'' z (by (simp only [List.contains_cons, List.contains_nil, Bool.or_false, Bool.or_eq_false_iff, beq_eq_false_iff_ne, ne_eq]; simp [h1]))) ?_
        refine at_other h1.1 (hkeep z h9)
  · rintro m₁ nx h' tk' ⟨⟨oK', r, kR', word, tw, rfl, hK', hS, hwd⟩, hkeep⟩ F' N'
    have e7 : rs.take (6 + 1) = rs := List.take_of_length_le (by omega)
    rw [e7] at hS
    repeat' (walk_at "go")
    unfold Hold
    refine tail10 (vsN := vsN) (kN := kN) (vsF := vsF) (kF := kF) (vsR := r ++ [Value.str word tw]) (kR := kR') (oW := oW) (oP := oP) (oK := oK') (rest := (Dw, listOf vsW.toArray kW) :: rest) (ns := ns) (fr := fr) (rs := rs) (tl := tl) (by k_asm) F' ((hkeep _ (by decide +kernel)).trans hm4) ((hkeep _ (by decide +kernel)).trans hm5) ((hkeep _ (by decide +kernel)).trans hm6) ((hkeep _ (by decide +kernel)).trans hm7) (by k_asm) (cb_drop N' (by kcf_all)) (by k_asm) hd1 hu hN9 hN6 hF9 hfl hS hrl hb.tl hlo (fun x hx => Nat.le_trans (hb.sl x hx) (by decide)) hE hP0 hW0 ?_ ?_ hb.fin
    · intro p hp
      simp only [List.mem_cons] at hp
      rcases hp with rfl | rfl | rfl | rfl | rfl | rfl | hp
      · exact Nat.ne_of_lt (Nat.lt_succ_self _)
      · exact ho1.2.2
      · exact ne3 ho2
      · exact ne3 ho3
      · exact Nat.ne_of_lt (Nat.lt_succ_of_lt (Nat.lt_succ_self _))
      · exact ne3 ho4
      · exact ne3 (hr p hp).1
    · intro p hp
      simp only [List.mem_cons] at hp
      rcases hp with rfl | rfl | rfl | rfl | rfl | hp
      · exact ho1.2.1
      · exact ne2 ho2
      · exact ne2 ho3
      · exact Nat.ne_of_lt (Nat.lt_succ_self _)
      · exact ne2 ho4
      · exact ne2 (hr p hp).1
end

end Mine
end
section
open PySem PySem.W PyProof.Rows PySem.Builtin PySem.Builtin.Str PySem.Calls
set_option maxRecDepth 100000
set_option maxHeartbeats 8000000
namespace Mine
local macro_rules | `(tactic| walk_at "pad0") => `(tactic| skip)
theorem fill_T7 : PySem.Challenge.rw_rw0014_01 = PySem.Challenge.rw_rw0014_01 ∧ hd.heap_39 = hd.heap_39 := by k_fill; exact ⟨rfl, rfl⟩
local macro_rules | `(tactic| walk_at "go") => `(tactic| (first | (k_unfold; (try dsimp only)) | walk1 | (dsimp only; walk1)))
local macro_rules | `(tactic| walk_at "exec Assign cons ListComp") => `(tactic| (k_here; k_dflt (refine LCg.Assign_ListComp_U (F₀ := by k_asm) (by rfl) (by with_unfolding_all rfl) (by with_unfolding_all rfl) (by decide) (by rfl) (by decide) (by rfl) (by rfl) (by rfl) ?_)))
local macro_rules | `(tactic| walk_at "eval ListComp") => `(tactic| (k_here; k_dflt (refine LCg.ListComp_U (F₀ := by k_asm) (by with_unfolding_all rfl) (by decide) (by rfl) (by decide) (by rfl) ?_)))
local macro_rules | `(tactic| walk_at "CompSrc") => `(tactic| (apply Hold.out))
local macro_rules | `(tactic| walk_at "pyIter ref") => `(tactic| ((with_reducible show wpAny _ _ (pyIter (Value.ref _)) (fun it s₂ => LoopAtV _ _ _ _ _ _ _ _ _ it s₂) _ _); apply Hold.out))
local macro_rules | `(tactic| walk_at "exec For Name Call cons nil") => `(tactic| (k_here; (rename Fr _ _ _ _ => lF'); (with_unfolding_all refine' For_invVF (hE := ?k3) lF' ?k1 ?k2 ?_; (case k1 => exact rfl); (case k2 => exact rfl); (case k3 => assumption); k_whole)))
local macro_rules | `(tactic| walk_at "exec For Name Name cons nil") => `(tactic| (k_here; (rename Fr _ _ _ _ => lF'); (with_unfolding_all refine' For_invVF (hE := ?k3) lF' ?k1 ?k2 ?_; (case k1 => exact rfl); (case k2 => exact rfl); (case k3 => assumption); k_whole)))
local macro_rules | `(tactic| walk_at "CompEnd") => `(tactic| ((refine LCg.CompEnd.intro (by k_asm) (by k_asm) _ ?hs ?ho ?hS (kcf_el ?he rfl rfl)); (case he => first | rfl | (rw [if_pos (by assumption)]; done) | (rw [if_neg (by simp [*])]; done) | (simp [*]; done)); (case hs => kcf_all); (case ho => first | assumption | trivial | (simp only [LCg.Off3, and_true]; first | assumption | done)); (case hS => first | trivial | lcg_src | assumption)))
local macro_rules | `(tactic| walk_at "call ref") => `(tactic| ((with_reducible show wpAny _ _ (call (Value.ref 55) [Value.str _ _, Value.str _ _]) _ _ _); (k_dflt (refine' em_call ?k1 ?k2 ?k3 ?k4 ?k5 ?kK ?kp ?kd ?ku ?_; (case k2 => k_asm); (case k4 => k_asm); (case k1 => k_asm); (case k3 => k_asm); (case k5 => k_asm); (case kK => first | exact rfl | assumption); (case kp => constructor <;> first | omega | (walk_at "em_size")); (case kd => first | omega | ktr_room); (case ku => first | omega | ktr_units))); intro h' tk' F' N'; (try k_fold)))
local macro_rules | `(tactic| walk_at "same") => `(tactic| (intro z h1 h2; first | rfl | (simp [h1]; done) | ((simp only [List.contains_cons, List.contains_nil, Bool.or_false, Bool.or_eq_false_iff, beq_eq_false_iff_ne, ne_eq] at h2); (simp [h1, h2]; done))))
local macro_rules | `(tactic| walk_at "em_size") => `(tactic| first | omega | (refine Nat.le_trans (by walk_at "len_up") (by omega)))
local macro_rules | `(tactic| walk_at "len_up") => `(tactic| first | (with_reducible exact Txt.slice_le _ _ _) | (with_reducible exact dots3) | (with_reducible refine len_app2 (by walk_at "len_up") (by walk_at "len_up")) | (with_reducible exact Nat.le_refl _))
local macro_rules | `(tactic| walk_at "binaryOp Mult ref int") => `(tactic| ((with_reducible show wpAny _ _ (binaryOp Operator.Mult (Value.ref _) (Value.int _ _)) _ _ _); (k_dflt (refine' rep_one ?k1 ?k2 ?k3 ?k4 ?k5 ?_; (case k1 => k_asm); (case k2 => k_asm); (case k3 => exact List.Mem.head _); (case k4 => omega); (case k5 => omega))); intro D' h' F' N' l1'; (try k_lt l1')))
local macro_rules | `(tactic| walk_at "call builtin:str.join") => `(tactic| ((show wpAny _ _ (call (Value.builtin "str.join") [Value.str _ _, Value.ref _]) _ _ _); (refine join_B _ (News.isList (by k_asm) (List.Mem.head _)) (by walk_at "join_s") (by walk_at "join_w") (by first | omega | assumption) (by decide +kernel) ?_); intro t' k' hlen'))
local macro_rules | `(tactic| walk_at "join_s") => `(tactic| first | assumption | exact strs_rep _ _ _)
local macro_rules | `(tactic| walk_at "join_w") => `(tactic| exact rep_w (by omega) (by omega))
local macro_rules | `(tactic| walk_at "pyIter str") => `(tactic| ((with_reducible show wpAny _ _ (pyIter (Value.str _ _)) (fun it s₂ => LoopAtV _ _ _ _ _ _ _ _ _ it s₂) _ _); apply Hold.out))
local macro_rules | `(tactic| walk_at "exec For Name Subscript cons nil") => `(tactic| (k_here; (rename Fr _ _ _ _ => lF'); (with_unfolding_all refine' For_invVF (hE := ?k3) lF' ?k1 ?k2 ?_; (case k1 => exact rfl); (case k2 => exact rfl); (case k3 => assumption); k_whole)))
local macro_rules | `(tactic| walk_at "call builtin:list.append") => `(tactic| ((show wpAny _ _ (call (Value.builtin "list.append") [Value.ref _, _]) _ _ _); (k_dflt (refine' app_head ?k1 ?k2 ?k3 ?z ?_; (case k1 => k_asm); (case k2 => k_asm); (case k3 => walk_at "ne_all"); (case z => walk_at "sz"))); intro h' F' N'))
local macro_rules | `(tactic| walk_at "sz") => `(tactic| first | ((simp only [List.length_append, List.length_cons, List.length_nil]); (have hl9 := IntsAre.length (by assumption)); omega) | ((simp only [List.length_append, List.length_cons, List.length_nil]); (have hl9 := StrsAre.len_eq (by assumption)); omega))
local macro_rules | `(tactic| walk_at "ne_all") => `(tactic| first | exact List.forall_mem_nil _ | (refine List.forall_mem_cons.mpr ⟨?_, ?_⟩; (focus (first | (exact Nat.ne_of_lt (by assumption)) | k_ne)); walk_at "ne_all") | (refine List.forall_mem_append.mpr ⟨?_, ?_⟩; (focus walk_at "ne_all"); walk_at "ne_all") | exact OwnOff.ne (by assumption) (List.Mem.head _) | exact allLt_ne (by assumption))
local macro_rules | `(tactic| walk_at "eval ListComp") => `(tactic| ((with_reducible show wpAny _ _ (eval (Expr.ListComp _ [⟨_, _, [_], _⟩] _ _) _) _ _ _); k_dflt (refine LCt.ListComp_T (F₀ := by k_asm) (by with_unfolding_all rfl) (by decide) (by rfl) (by decide) (by rfl) ?_)))
local macro_rules | `(tactic| walk_at "CompSrcT") => `(tactic| (apply Hold.out))
local macro_rules | `(tactic| walk_at "compareOp NotEq ref ref") => `(tactic| ((with_reducible show wpAny _ _ (compareOp CmpOp.NotEq (Value.ref _) (Value.ref _)) _ _ _); refine ne_N (by k_asm) (by walk_at "mem1") (by walk_at "mem1") (by assumption) (by assumption) (by (have hcL9 := cLine_is; (try dsimp only); omega)) ?_))
local macro_rules | `(tactic| walk_at "mem1") => `(tactic| first | exact List.Mem.head _ | exact List.Mem.tail _ (List.Mem.head _) | exact List.Mem.tail _ (List.Mem.tail _ (List.Mem.head _)) | k_mem)
local macro_rules | `(tactic| walk_at "keep") => `(tactic| (intro z h1; (simp only [List.contains_cons, List.contains_nil, Bool.or_false, Bool.or_eq_false_iff, beq_eq_false_iff_ne, ne_eq] at h1); first | rfl | (simp [h1]; done) | (simp [h1]; intro h2; subst h2; symm; assumption)))
local macro_rules | `(tactic| walk_at "keep2") => `(tactic| (intro z h1; (simp only [List.contains_cons, List.contains_nil, Bool.or_false, Bool.or_eq_false_iff, beq_eq_false_iff_ne, ne_eq] at h1); (rename Keep _ _ _ => K9); refine Eq.trans (K9 z (by (simp only [List.contains_cons, List.contains_nil, Bool.or_false, Bool.or_eq_false_iff, beq_eq_false_iff_ne, ne_eq]; simp [h1]))) ?_; first | rfl | (simp [h1]; done)))
local macro_rules | `(tactic| walk_at "ifs") => `(tactic| repeat' (first | rfl | (split; (focus ((rename _ = Str.ofString _ => h9); subst h9; symm; assumption)))))
local macro_rules | `(tactic| walk_at "storeName") => `(tactic| ((with_reducible show wpAny _ _ (storeName _ (Str.ofString "part") _) _ _ _); (refine' storeX_C ?F ?N ?c ?U ?d ?_ ?a ?b; (case a => rfl); (case b => rfl); (case F => k_asm); (case N => k_asm); (case c => rfl); (case U => exact UpdF.head (by assumption)); (case d => k_asm)); k_whole; intro h' o' F' N' d'; (try dsimp only at N'); (try k_sweep)))
local macro_rules | `(tactic| walk_at "call ref") => `(tactic| ((with_reducible show wpAny _ _ (call (Value.ref _) [Value.int _ _]) _ _ _); (k_dflt (first | (with_reducible refine' ist_call ?k1 ?k2 ?k3 ?k4 ?k5 ?kK ?kd ?ku ?_) | (with_reducible refine' isn_call ?k1 ?k2 ?k3 ?k4 ?k5 ?kK ?kd ?ku ?_) | (with_reducible refine' ise_call ?k1 ?k2 ?k3 ?k4 ?k5 ?kK ?kd ?ku ?_)); (case k2 => k_asm); (case k4 => k_asm); (case k1 => k_asm); (case k3 => k_asm); (case k5 => k_asm); (case kK => first | exact rfl | assumption); (case kd => first | omega | ktr_room); (case ku => first | omega | ktr_units)); intro h' tk' F' N'; (try k_fold)))
local macro_rules | `(tactic| walk_at "subscriptTail List cons BinOp ref int") => `(tactic| ((with_reducible show wpAny _ _ (subscriptTail (Expr.List _ _) _ (Value.ref _) (Value.int _ _)) _ _ _); ((refine' item_menu3 ?k1 ?k2 ?k3 ?k4 ?_ ?_ ?_ ?hs; (case k1 => k_asm); (case k2 => with_unfolding_all exact List.Mem.head _); (case k3 => exact (fmod3 _).1); (case k4 => exact (fmod3 _).2); (case hs => with_unfolding_all rfl)) <;> intro hj)))
local macro_rules | `(tactic| walk_at "mem5") => `(tactic| first | exact List.Mem.head _ | (refine List.Mem.tail _ ?_; walk_at "mem5"))
local macro_rules | `(tactic| walk_at "execs cons") => `(tactic| ((with_reducible show wpAny _ _ (execs [_, _, _, _, _, _, _, _] _) _ _ _); apply Hold.wp))
local macro_rules | `(tactic| walk_at "call ref") => `(tactic| ((with_reducible show wpAny _ _ (call (Value.ref 86) [Value.str _ _]) _ _ _); (k_dflt (refine' closed_call ?k1 ?k2 ?k3 ?k4 ?k5 ?kK ?kp ?kd ?ku ?_; (case k2 => k_asm); (case k4 => k_asm); (case k1 => k_asm); (case k3 => k_asm); (case k5 => k_asm); (case kK => first | exact rfl | assumption); (case kp => (rw [Str.length_append]; omega)); (case kd => first | omega | ktr_room); (case ku => first | omega | ktr_units))); intro t' h' tk' F' N'; (try k_fold)))
local macro_rules | `(tactic| walk_at "subscriptTail") => `(tactic| ((with_reducible show wpAny _ _ (subscriptTail _ _ (Value.ref _) (Value.int (-1) _)) _ _ _); (with_unfolding_all refine item_lastOf (by k_asm) (by walk_at "mem1") rfl ?_)))
local macro_rules | `(tactic| walk_at "call builtin:list.append") => `(tactic| ((show wpAny _ _ (call (Value.builtin "list.append") [Value.ref _, _]) _ _ _); (k_dflt (refine' app_drop ?k1 ?k2 ?km ?kn ?ks ?z ?_; (case k1 => k_asm); (case k2 => k_asm); (case km => walk_at "mem5"); (case kn => assumption); (case ks => kcf_all); (case z => (simp only [List.length_append, List.length_cons, List.length_nil]; omega)))); intro h' F' N'))
local macro_rules | `(tactic| walk_at "mem5") => `(tactic| first | exact List.Mem.head _ | (refine List.Mem.tail _ ?_; walk_at "mem5"))
section
variable {w : World} {mean : ExcName → Option Value} {mg mb : Str → Option Value} {rest : List (Addr × Obj)} {dp un : Nat} {gd : Option (List Code)} {fa : Addr} {cdv : Value} {outer : List Env} {A₀ : Around} {base h₀ : Heap} {L : Addr} {m : Str → Option Value} {s : Shared} {E : Value → Shared → Prop} {Q : Flow → Shared → Prop}
theorem tf8 {Df : Addr} {r : List Value} {kF : Nat} {word lo hi nx : Str} {tw t1 t2 t3 : Tok} {x : Int} (B : Below A₀ base outer h₀)
    (F₀ : Fr h₀ L s.heap m) (hm1 : m (Str.ofString "fronts") = some (.ref Df)) (hm2 : m (Str.ofString "low") = some (.str lo t1)) (hm3 : m (Str.ofString "high") = some (.str hi t2)) (hm4 : m (Str.ofString "symbol") = some (.int x t3)) (X : (hd.heap_39 w.params).In h₀)
    (N : News h₀ L s.heap ((Df, listOf (r ++ [Value.str word tw]).toArray kF) :: rest)) (T : Top hd.view_39 Lo1 mean mg mb h₀) (hd1 : dp + 3 < recursionLimit) (hu : un + 100 < cLine)
    (hne : ∀ p ∈ rest, p.1 ≠ Df) (hr : r.length ≤ 10) (hlo : lo.length = 1) (hhi : hi.length = 1) (hwl : word.length ≤ 100)
    (hT : closedS (word ++ if x ≥ 256 then hi else lo) = nx) 
    (hq : ∀ h' tk m' k' t', Fr h₀ L h' m' → Keep [] m m' → News h₀ L h' ((Df, listOf ((r ++ [Value.str word tw]) ++ [Value.str nx t']).toArray k') :: rest) → Q .next { s with heap := h', toks := tk }) :
    wpAny (model Pr1 w) (lawA dp un gd L fa cdv outer) (execs (forBody 8) (lawEnv L fa cdv)) Q E s := by
  have F := fr_put F₀ (put_at hm1 (put_at hm2 (put_at hm3 (put_at hm4 rfl))))
  clear F₀
  w_on
  show wpAny _ _ (execs [_] _) _ _ _
  repeat' (walk_at "go")
  all_goals
    (rename Fr _ _ _ _ => lF9)
    (rename News _ _ _ _ => lN9)
    first
      | (rw [if_pos (by first | assumption | omega)] at hT)
      | (rw [if_neg (by first | assumption | omega)] at hT)
    rw [hT] at lN9
    refine hq _ _ _ _ _ lF9 ?_ lN9
    intro z h1
    dsimp only
    walk_at "ifs"
theorem tail7 {Dn Dw : Addr} {vsN vsW : List Value} {ns ws : List Int} {fr rs : List Str} {kN kW : Nat} {oW oK oP : Obj} {lo hi : Str} {tl t1 t2 : Tok} {tot : Int} (B : Below A₀ base outer h₀)
    (F₀ : Fr h₀ L s.heap m) (hm3 : m (Str.ofString "high") = some (.str hi t2)) (hm4 : m (Str.ofString "low") = some (.str lo tl)) (hm6 : m (Str.ofString "numbers") = some (.ref Dn)) (hm8 : m (Str.ofString "row") = some (.ref Dw)) (hm9 : m (Str.ofString "total") = some (.int tot t1)) (X : (hd.heap_39 w.params).In h₀)
    (N : News h₀ L s.heap ((Dw, listOf vsW.toArray kW) :: (L + 1 + 1 + 1, oW) :: (L + 1 + 1, oP) :: (L + 1, oK) :: (Dn, listOf vsN.toArray kN) :: rest)) (T : Top hd.view_39 Lo1 mean mg mb h₀) (hd1 : dp + 3 < recursionLimit) (hu : un + 100 < cLine)
    (hN : IntsAre vsN ns) (hN6 : ns.length = 6) (hW : IntsAre vsW ws) (hW6 : ws.length = 6) (hlo : lo.length = 1) (hhi : hi.length = 1) (htot : 0 ≤ tot ∧ tot ≤ 10000000) (hE : PassesOwn (model Pr1 w) (lawA dp un gd L fa cdv outer) (lawEnv L fa cdv) E)
    (hK0 : ∃ v, oK.data = .cell v) (hP0 : ∃ v, oP.data = .cell v) (hW0 : ∃ v, oW.data = .cell v)
    (hord : DnOff L Dn ∧ L + 1 + 1 + 1 < Dw) (hr : ∀ p ∈ rest, L + 1 + 1 + 1 < p.1)
    (hb : BodyOk lo hi tot ns ws fr rs) :
    wpAny (model Pr1 w) (lawA dp un gd L fa cdv outer) (execs (lawBody.drop 7) (lawEnv L fa cdv)) (RT h₀ L s) E s := by
  have F := fr_put F₀ (put_at hm3 (put_at hm4 (put_at hm6 (put_at hm8 (put_at hm9 rfl)))))
  clear F₀
  w_on
  show wpAny _ _ (execs (_ :: _ :: _ :: _) _) _ _ _
  repeat' (walk_at "go")
  unfold Hold
  rename_i Df hx1 lDf Dr hx2 lDr DT hx3 lDT hx4 hx5 hx6 lF9 lN9
  obtain ⟨tF, tR, lN8⟩ : ∃ tF tR, News h₀ L _ ((Df, listOf [Value.str (Str.ofString "") tF].toArray 0) :: (Dr, listOf [Value.str (Str.ofString "") tR].toArray 0) :: (Dw, listOf vsW.toArray kW) :: (L + 1 + 1 + 1, oW) :: (L + 1 + 1, oP) :: (L + 1, oK) :: (Dn, listOf vsN.toArray kN) :: rest) := ⟨_, _, cb_drop lN9 (by kcf_all)⟩
  obtain ⟨ho1, ho2⟩ := hord
  obtain ⟨l11, l12, l13, l14, l15, l16⟩ := lDf
  obtain ⟨l20, l21, l22, l23, l24, l25, l26⟩ := lDr
  have hrDf : ∀ p ∈ rest, p.1 ≠ Df := allLt_ne l16
  have hrDr : ∀ p ∈ rest, p.1 ≠ Dr := allLt_ne l26
  have hrl := hb.rl
  have hfl := hb.fl
  refine kdl_iter (vs := vsW) (nn := kW) (news := (Df, listOf [Value.str (Str.ofString "") tF].toArray 0) :: (Dr, listOf [Value.str (Str.ofString "") tR].toArray 0) :: (Dw, listOf vsW.toArray kW) :: (L + 1 + 1 + 1, oW) :: (L + 1 + 1, oP) :: (L + 1, oK) :: (Dn, listOf vsN.toArray kN) :: rest)
    (fun i m' nx => (∃ r kF word tw, nx = (Df, listOf (r ++ [Value.str word tw]).toArray kF) :: (Dr, listOf [Value.str (Str.ofString "") tR].toArray 0) :: (Dw, listOf vsW.toArray kW) :: (L + 1 + 1 + 1, oW) :: (L + 1 + 1, oP) :: (L + 1, oK) :: (Dn, listOf vsN.toArray kN) :: rest ∧ StrsAre (r ++ [Value.str word tw]) (fr.take (i + 1)) ∧ word = fr.getD i Str.empty) ∧ Keep [Str.ofString "symbol", Str.ofString "fronts", Str.ofString "rests"] m m' ∧ m' (Str.ofString "fronts") = some (.ref Df) ∧ m' (Str.ofString "rests") = some (.ref Dr))
    (by rfl) (by walk_at "mem5") lF9 lN8 ?_ ?_ ?_
  · refine ⟨⟨[], 0, _, tF, rfl, ?_, hb.fr0.symm⟩, ?_, by with_unfolding_all rfl, by with_unfolding_all rfl⟩
    · rw [take_getD (by omega), hb.fr0]
      exact .cons _ tF .nil
    · intro z h1
      simp only [List.contains_cons, List.contains_nil, Bool.or_false, Bool.or_eq_false_iff, beq_eq_false_iff_ne, ne_eq] at h1
      simp [h1]
      walk_at "ifs"
  · rintro i v m₁ nx h' tk' own hv hoff hmem ⟨⟨r, kF', word, tw, rfl, hS, hwd⟩, hkeep, hmF, hmR⟩ F' N'
    simp only [List.cons_append] at N'
    obtain ⟨x, hx, t, rfl⟩ := int_item hW (by simpa using hv)
    have hi6 : i < 6 := by
      have h1 := (List.getElem?_eq_some_iff.mp hx).1
      omega
    have hxd : ws.getD i 0 = x := by rw [List.getD_eq_getElem?_getD, hx]; rfl
    have hoF := OwnOff.ne hoff (List.mem_map.mpr ⟨(Df, listOf (r ++ [Value.str word tw]).toArray kF'), .head _, rfl⟩)
    have hrlen : r.length = i := by
      have h1 := hS.len_eq
      simp at h1
      omega
    have hwl : word.length ≤ 100 := by
      rw [hwd, List.getD_eq_getElem?_getD, List.getElem?_eq_getElem (by omega)]
      exact hb.sl _ (List.getElem_mem _)
    have hc := hb.closed i hi6
    rw [← hwd, hxd] at hc
    refine tf8 (r := r) (kF := kF') (word := word) (lo := lo) (hi := hi) (t1 := tl) (t2 := t2) (t3 := t) (x := x) (rest := (Dr, listOf [Value.str (Str.ofString "") tR].toArray 0) :: (Dw, listOf vsW.toArray kW) :: (L + 1 + 1 + 1, oW) :: (L + 1 + 1, oP) :: (L + 1, oK) :: (Dn, listOf vsN.toArray kN) :: (rest ++ own)) (by k_asm) F' ?h1 ?h2 ?h3 ?h4 (by k_asm) N' (by k_asm) hd1 hu ?hne (by omega) hlo hhi hwl hc ?hq
    case h1 => exact at_other (by decide +kernel) hmF
    case h2 => exact at_other (by decide +kernel) ((hkeep _ (by decide +kernel)).trans hm4)
    case h3 => exact at_other (by decide +kernel) ((hkeep _ (by decide +kernel)).trans hm3)
    case h4 => with_unfolding_all rfl
    case hne =>
      intro p hp
      simp only [List.mem_cons, List.mem_append] at hp
      rcases hp with rfl | rfl | rfl | rfl | rfl | rfl | hp | hp
      · exact Nat.ne_of_gt l20
      · exact Nat.ne_of_lt l11
      · exact Nat.ne_of_lt l12
      · exact Nat.ne_of_lt l13
      · exact Nat.ne_of_lt l14
      · exact Nat.ne_of_lt l15
      · exact hrDf p hp
      · exact hoF p hp
    case hq =>
      intro h'' tk'' m'' k'' t'' F'' K'' N''
      refine ⟨h'', tk'', m'', _, (Df, listOf ((r ++ [Value.str word tw]) ++ [Value.str (fr.getD (i + 1) Str.empty) t'']).toArray k'') :: (Dr, listOf [Value.str (Str.ofString "") tR].toArray 0) :: (Dw, listOf vsW.toArray kW) :: (L + 1 + 1 + 1, oW) :: (L + 1 + 1, oP) :: (L + 1, oK) :: (Dn, listOf vsN.toArray kN) :: rest, rfl, F'', N'', ?_, ?_, hoff, .tail _ (.tail _ (.head _)), ⟨_, k'', _, t'', rfl, ?_, rfl⟩, ?_, ?_, ?_⟩
      · intro p hp
        simp only [List.mem_cons, List.mem_append] at hp ⊢
        rcases hp with hp | hp | hp | hp | hp | hp | hp | hp <;> simp [hp]
      · intro p hp
        simp only [List.mem_cons, List.mem_append]
        simp [hp]
      · rw [take_getD (by omega)]
        exact strs_snoc hS
      · intro z h1
        have h9 := h1
        simp only [List.contains_cons, List.contains_nil, Bool.or_false, Bool.or_eq_false_iff, beq_eq_false_iff_ne, ne_eq] at h1
        refine Eq.trans (K'' z rfl) ?_
        refine at_other h1.1 (hkeep z h9)
      · exact (K'' _ rfl).trans (at_other (by decide +kernel) hmF)
      · exact (K'' _ rfl).trans (at_other (by decide +kernel) hmR)
  · rintro m₁ nx h' tk' ⟨⟨r, kF', word, tw, rfl, hS, hwd⟩, hkeep, hmF, hmR⟩ F' N'
    have e7 : fr.take (vsW.length + 1) = fr := List.take_of_length_le (by rw [hW.length]; omega)
    rw [e7] at hS
    repeat' (walk_at "go")
    unfold Hold
    refine tail9 (Dn := Dn) (Df := Df) (Dr := Dr) (Dw := Dw) (vsN := vsN) (kN := kN) (vsF := r ++ [Value.str word tw]) (kF := kF') (vsW := vsW) (kW := kW) (kR := 0) (oW := oW) (oP := oP) (oK := oK) (rest := rest) (ns := ns) (ws := ws) (fr := fr) (rs := rs) (tl := tl) (tr := tR) (by k_asm) F' ((hkeep _ (by decide +kernel)).trans hm3) ((hkeep _ (by decide +kernel)).trans hm4) hmR ((hkeep _ (by decide +kernel)).trans hm6) hmF ((hkeep _ (by decide +kernel)).trans hm8) ((hkeep _ (by decide +kernel)).trans hm9) (by k_asm) (cb_drop N' (by kcf_all)) (by k_asm) hd1 hu hN hN6 hS hW hW6 hlo hhi htot hE hK0 hP0 hW0 ⟨ho1, l12, l22, ho2, Nat.ne_of_lt l25, Nat.ne_of_lt l20, Nat.ne_of_lt l21⟩ (fun p hp => ⟨hr p hp, hrDr p hp⟩) hb
end

end Mine
end
section
open PySem PySem.W PyProof.Rows PySem.Builtin PySem.Builtin.Str PySem.Calls
set_option maxRecDepth 100000
set_option maxHeartbeats 8000000
namespace Mine
theorem fill_T4 : PySem.Challenge.rw_rw0014_01 = PySem.Challenge.rw_rw0014_01 ∧ hd.heap_39 = hd.heap_39 := by k_fill; exact ⟨rfl, rfl⟩
local macro_rules | `(tactic| walk_at "go") => `(tactic| (first | (k_unfold; (try dsimp only)) | walk1 | (dsimp only; walk1)))
local macro_rules | `(tactic| walk_at "exec Assign cons ListComp") => `(tactic| (k_here; k_dflt (refine LCg.Assign_ListComp_U (F₀ := by k_asm) (by rfl) (by with_unfolding_all rfl) (by with_unfolding_all rfl) (by decide) (by rfl) (by decide) (by rfl) (by rfl) (by rfl) ?_)))
local macro_rules | `(tactic| walk_at "eval ListComp") => `(tactic| (k_here; k_dflt (refine LCg.ListComp_U (F₀ := by k_asm) (by with_unfolding_all rfl) (by decide) (by rfl) (by decide) (by rfl) ?_)))
local macro_rules | `(tactic| walk_at "CompSrc") => `(tactic| (apply Hold.out))
local macro_rules | `(tactic| walk_at "pyIter ref") => `(tactic| ((with_reducible show wpAny _ _ (pyIter (Value.ref _)) (fun it s₂ => LoopAtV _ _ _ _ _ _ _ _ _ it s₂) _ _); apply Hold.out))
local macro_rules | `(tactic| walk_at "exec For Name Call cons nil") => `(tactic| (k_here; (rename Fr _ _ _ _ => lF'); (with_unfolding_all refine' For_invVF (hE := ?k3) lF' ?k1 ?k2 ?_; (case k1 => exact rfl); (case k2 => exact rfl); (case k3 => assumption); k_whole)))
local macro_rules | `(tactic| walk_at "exec For Name Name cons nil") => `(tactic| (k_here; (rename Fr _ _ _ _ => lF'); (with_unfolding_all refine' For_invVF (hE := ?k3) lF' ?k1 ?k2 ?_; (case k1 => exact rfl); (case k2 => exact rfl); (case k3 => assumption); k_whole)))
local macro_rules | `(tactic| walk_at "CompEnd") => `(tactic| ((refine LCg.CompEnd.intro (by k_asm) (by k_asm) _ ?hs ?ho ?hS (kcf_el ?he rfl rfl)); (case he => first | rfl | (rw [if_pos (by assumption)]; done) | (rw [if_neg (by simp [*])]; done) | (simp [*]; done)); (case hs => kcf_all); (case ho => first | assumption | trivial | (simp only [LCg.Off3, and_true]; first | assumption | done)); (case hS => first | trivial | lcg_src | assumption)))
local macro_rules | `(tactic| walk_at "call ref") => `(tactic| ((with_reducible show wpAny _ _ (call (Value.ref 55) [Value.str _ _, Value.str _ _]) _ _ _); (k_dflt (refine' em_call ?k1 ?k2 ?k3 ?k4 ?k5 ?kK ?kp ?kd ?ku ?_; (case k2 => k_asm); (case k4 => k_asm); (case k1 => k_asm); (case k3 => k_asm); (case k5 => k_asm); (case kK => first | exact rfl | assumption); (case kp => constructor <;> first | omega | (walk_at "em_size")); (case kd => first | omega | ktr_room); (case ku => first | omega | ktr_units))); intro h' tk' F' N'; (try k_fold)))
local macro_rules | `(tactic| walk_at "same") => `(tactic| (intro z h1 h2; first | rfl | (simp [h1]; done) | ((simp only [List.contains_cons, List.contains_nil, Bool.or_false, Bool.or_eq_false_iff, beq_eq_false_iff_ne, ne_eq] at h2); (simp [h1, h2]; done))))
local macro_rules | `(tactic| walk_at "em_size") => `(tactic| first | omega | (refine Nat.le_trans (by walk_at "len_up") (by omega)))
local macro_rules | `(tactic| walk_at "len_up") => `(tactic| first | (with_reducible exact Txt.slice_le _ _ _) | (with_reducible exact dots3) | (with_reducible refine len_app2 (by walk_at "len_up") (by walk_at "len_up")) | (with_reducible exact Nat.le_refl _))
local macro_rules | `(tactic| walk_at "binaryOp Mult ref int") => `(tactic| ((with_reducible show wpAny _ _ (binaryOp Operator.Mult (Value.ref _) (Value.int _ _)) _ _ _); (k_dflt (refine' rep_one ?k1 ?k2 ?k3 ?k4 ?k5 ?_; (case k1 => k_asm); (case k2 => k_asm); (case k3 => exact List.Mem.head _); (case k4 => omega); (case k5 => omega))); intro D' h' F' N' l1'; (try k_lt l1')))
local macro_rules | `(tactic| walk_at "call builtin:str.join") => `(tactic| ((show wpAny _ _ (call (Value.builtin "str.join") [Value.str _ _, Value.ref _]) _ _ _); (refine join_B _ (News.isList (by k_asm) (List.Mem.head _)) (by walk_at "join_s") (by walk_at "join_w") (by first | omega | assumption) (by decide +kernel) ?_); intro t' k' hlen'))
local macro_rules | `(tactic| walk_at "join_s") => `(tactic| first | assumption | exact strs_rep _ _ _)
local macro_rules | `(tactic| walk_at "join_w") => `(tactic| exact rep_w (by omega) (by omega))
local macro_rules | `(tactic| walk_at "pyIter str") => `(tactic| ((with_reducible show wpAny _ _ (pyIter (Value.str _ _)) (fun it s₂ => LoopAtV _ _ _ _ _ _ _ _ _ it s₂) _ _); apply Hold.out))
local macro_rules | `(tactic| walk_at "exec For Name Subscript cons nil") => `(tactic| (k_here; (rename Fr _ _ _ _ => lF'); (with_unfolding_all refine' For_invVF (hE := ?k3) lF' ?k1 ?k2 ?_; (case k1 => exact rfl); (case k2 => exact rfl); (case k3 => assumption); k_whole)))
local macro_rules | `(tactic| walk_at "call builtin:list.append") => `(tactic| ((show wpAny _ _ (call (Value.builtin "list.append") [Value.ref _, _]) _ _ _); (k_dflt (refine' app_head ?k1 ?k2 ?k3 ?z ?_; (case k1 => k_asm); (case k2 => k_asm); (case k3 => walk_at "ne_all"); (case z => walk_at "sz"))); intro h' F' N'))
local macro_rules | `(tactic| walk_at "sz") => `(tactic| first | ((simp only [List.length_append, List.length_cons, List.length_nil]); (have hl9 := IntsAre.length (by assumption)); omega) | ((simp only [List.length_append, List.length_cons, List.length_nil]); (have hl9 := StrsAre.len_eq (by assumption)); omega))
local macro_rules | `(tactic| walk_at "ne_all") => `(tactic| first | exact List.forall_mem_nil _ | (refine List.forall_mem_cons.mpr ⟨?_, ?_⟩; (focus (first | (exact Nat.ne_of_lt (by assumption)) | k_ne)); walk_at "ne_all") | (refine List.forall_mem_append.mpr ⟨?_, ?_⟩; (focus walk_at "ne_all"); walk_at "ne_all") | exact OwnOff.ne (by assumption) (List.Mem.head _) | exact allLt_ne (by assumption))
local macro_rules | `(tactic| walk_at "eval ListComp") => `(tactic| ((with_reducible show wpAny _ _ (eval (Expr.ListComp _ [⟨_, _, [_], _⟩] _ _) _) _ _ _); k_dflt (refine LCt.ListComp_T (F₀ := by k_asm) (by with_unfolding_all rfl) (by decide) (by rfl) (by decide) (by rfl) ?_)))
local macro_rules | `(tactic| walk_at "CompSrcT") => `(tactic| (apply Hold.out))
local macro_rules | `(tactic| walk_at "compareOp NotEq ref ref") => `(tactic| ((with_reducible show wpAny _ _ (compareOp CmpOp.NotEq (Value.ref _) (Value.ref _)) _ _ _); refine ne_N (by k_asm) (by walk_at "mem1") (by walk_at "mem1") (by assumption) (by assumption) (by (have hcL9 := cLine_is; (try dsimp only); omega)) ?_))
local macro_rules | `(tactic| walk_at "mem1") => `(tactic| first | exact List.Mem.head _ | exact List.Mem.tail _ (List.Mem.head _) | exact List.Mem.tail _ (List.Mem.tail _ (List.Mem.head _)) | k_mem)
local macro_rules | `(tactic| walk_at "keep") => `(tactic| (intro z h1; (simp only [List.contains_cons, List.contains_nil, Bool.or_false, Bool.or_eq_false_iff, beq_eq_false_iff_ne, ne_eq] at h1); first | rfl | (simp [h1]; done) | (simp [h1]; intro h2; subst h2; symm; assumption)))
local macro_rules | `(tactic| walk_at "keep2") => `(tactic| (intro z h1; (simp only [List.contains_cons, List.contains_nil, Bool.or_false, Bool.or_eq_false_iff, beq_eq_false_iff_ne, ne_eq] at h1); (rename Keep _ _ _ => K9); refine Eq.trans (K9 z (by (simp only [List.contains_cons, List.contains_nil, Bool.or_false, Bool.or_eq_false_iff, beq_eq_false_iff_ne, ne_eq]; simp [h1]))) ?_; first | rfl | (simp [h1]; done)))
local macro_rules | `(tactic| walk_at "ifs") => `(tactic| repeat' (first | rfl | (split; (focus ((rename _ = Str.ofString _ => h9); subst h9; symm; assumption)))))
local macro_rules | `(tactic| walk_at "storeName") => `(tactic| ((with_reducible show wpAny _ _ (storeName _ (Str.ofString "part") _) _ _ _); (refine' storeX_C ?F ?N ?c ?U ?d ?_ ?a ?b; (case a => rfl); (case b => rfl); (case F => k_asm); (case N => k_asm); (case c => rfl); (case U => exact UpdF.head (by assumption)); (case d => k_asm)); k_whole; intro h' o' F' N' d'; (try dsimp only at N'); (try k_sweep)))
local macro_rules | `(tactic| walk_at "call ref") => `(tactic| ((with_reducible show wpAny _ _ (call (Value.ref _) [Value.int _ _]) _ _ _); (k_dflt (first | (with_reducible refine' ist_call ?k1 ?k2 ?k3 ?k4 ?k5 ?kK ?kd ?ku ?_) | (with_reducible refine' isn_call ?k1 ?k2 ?k3 ?k4 ?k5 ?kK ?kd ?ku ?_) | (with_reducible refine' ise_call ?k1 ?k2 ?k3 ?k4 ?k5 ?kK ?kd ?ku ?_)); (case k2 => k_asm); (case k4 => k_asm); (case k1 => k_asm); (case k3 => k_asm); (case k5 => k_asm); (case kK => first | exact rfl | assumption); (case kd => first | omega | ktr_room); (case ku => first | omega | ktr_units)); intro h' tk' F' N'; (try k_fold)))
local macro_rules | `(tactic| walk_at "subscriptTail List cons BinOp ref int") => `(tactic| ((with_reducible show wpAny _ _ (subscriptTail (Expr.List _ _) _ (Value.ref _) (Value.int _ _)) _ _ _); ((refine' item_menu3 ?k1 ?k2 ?k3 ?k4 ?_ ?_ ?_ ?hs; (case k1 => k_asm); (case k2 => with_unfolding_all exact List.Mem.head _); (case k3 => exact (fmod3 _).1); (case k4 => exact (fmod3 _).2); (case hs => with_unfolding_all rfl)) <;> intro hj)))
local macro_rules | `(tactic| walk_at "mem5") => `(tactic| first | exact List.Mem.head _ | (refine List.Mem.tail _ ?_; walk_at "mem5"))
local macro_rules | `(tactic| walk_at "execs cons") => `(tactic| ((with_reducible show wpAny _ _ (execs [_, _, _, _, _, _, _, _, _, _] _) _ _ _); apply Hold.wp))
local macro_rules | `(tactic| walk_at "call builtin:list.append") => `(tactic| ((show wpAny _ _ (call (Value.builtin "list.append") [Value.ref _, _]) _ _ _); (k_dflt (refine' app_drop ?k1 ?k2 ?km ?kn ?ks ?z ?_; (case k1 => k_asm); (case k2 => k_asm); (case km => walk_at "mem5"); (case kn => assumption); (case ks => kcf_all); (case z => ((try simp only [List.length_append, List.length_cons, List.length_nil]); omega)))); intro h' F' N'))
local macro_rules | `(tactic| walk_at "mem5") => `(tactic| first | exact List.Mem.head _ | (refine List.Mem.tail _ ?_; walk_at "mem5"))
section
variable {w : World} {mean : ExcName → Option Value} {mg mb : Str → Option Value} {rest : List (Addr × Obj)} {dp un : Nat} {gd : Option (List Code)} {fa : Addr} {cdv : Value} {outer : List Env} {A₀ : Around} {base h₀ : Heap} {L : Addr} {m : Str → Option Value} {s : Shared} {E : Value → Shared → Prop} {Q : Flow → Shared → Prop}
theorem tf5 {Dw : Addr} {r : List Value} {kW : Nat} {t3 : Tok} {x : Int} (B : Below A₀ base outer h₀)
    (F₀ : Fr h₀ L s.heap m) (hm1 : m (Str.ofString "row") = some (.ref Dw)) (hm4 : m (Str.ofString "symbol") = some (.int x t3)) (X : (hd.heap_39 w.params).In h₀)
    (N : News h₀ L s.heap ((Dw, listOf r.toArray kW) :: rest)) (T : Top hd.view_39 Lo1 mean mg mb h₀) (hd1 : dp + 3 < recursionLimit) (hu : un + 100 < cLine)
    (hne : ∀ p ∈ rest, p.1 ≠ Dw) (hr : r.length ≤ 10)
    (hq1 : x ≠ 0 → ∀ h' tk m' k', Fr h₀ L h' m' → Keep [] m m' → News h₀ L h' ((Dw, listOf (r ++ [Value.int x t3]).toArray k') :: rest) → Q .next { s with heap := h', toks := tk }) 
    (hq2 : x = 0 → ∀ h' tk m', Fr h₀ L h' m' → Keep [] m m' → News h₀ L h' ((Dw, listOf r.toArray kW) :: rest) → Q .brk { s with heap := h', toks := tk }) :
    wpAny (model Pr1 w) (lawA dp un gd L fa cdv outer) (execs (forBody 5) (lawEnv L fa cdv)) Q E s := by
  have F := fr_put F₀ (put_at hm1 (put_at hm4 rfl))
  clear F₀
  w_on
  show wpAny _ _ (execs [_, _] _) _ _ _
  repeat' (walk_at "go")
  all_goals
    (rename Fr _ _ _ _ => lF9)
    (rename News _ _ _ _ => lN9)
    first
      | (refine hq2 (by assumption) _ _ _ lF9 ?_ lN9)
      | (refine hq1 (by assumption) _ _ _ _ lF9 ?_ lN9)
      | trace_state
  all_goals
    intro z h1
    dsimp only
    walk_at "ifs"
theorem tail4 {Dn Dy : Addr} {vsN vsY : List Value} {ns ws : List Int} {fr rs : List Str} {kN kY : Nat} {oW oK oP : Obj} {lo hi : Str} {tl t1 t2 : Tok} {tot : Int} (B : Below A₀ base outer h₀)
    (F₀ : Fr h₀ L s.heap m) (hm3 : m (Str.ofString "high") = some (.str hi t2)) (hm4 : m (Str.ofString "low") = some (.str lo tl)) (hm6 : m (Str.ofString "numbers") = some (.ref Dn)) (hm8 : m (Str.ofString "symbols") = some (.ref Dy)) (hm9 : m (Str.ofString "total") = some (.int tot t1)) (X : (hd.heap_39 w.params).In h₀)
    (N : News h₀ L s.heap ((Dy, listOf vsY.toArray kY) :: (L + 1 + 1 + 1, oW) :: (L + 1 + 1, oP) :: (L + 1, oK) :: (Dn, listOf vsN.toArray kN) :: rest)) (T : Top hd.view_39 Lo1 mean mg mb h₀) (hd1 : dp + 3 < recursionLimit) (hu : un + 100 < cLine)
    (hN : IntsAre vsN ns) (hN6 : ns.length = 6) (hY : IntsAre vsY (ws ++ [0, 256, 7])) (hW6 : ws.length = 6) (hw0 : ∀ x ∈ ws, x ≠ 0) (hlo : lo.length = 1) (hhi : hi.length = 1) (htot : 0 ≤ tot ∧ tot ≤ 10000000) (hE : PassesOwn (model Pr1 w) (lawA dp un gd L fa cdv outer) (lawEnv L fa cdv) E)
    (hK0 : ∃ v, oK.data = .cell v) (hP0 : ∃ v, oP.data = .cell v) (hW0 : ∃ v, oW.data = .cell v)
    (hord : DnOff L Dn ∧ L + 1 + 1 + 1 < Dy) (hr : ∀ p ∈ rest, L + 1 + 1 + 1 < p.1)
    (hb : BodyOk lo hi tot ns ws fr rs) :
    wpAny (model Pr1 w) (lawA dp un gd L fa cdv outer) (execs (lawBody.drop 4) (lawEnv L fa cdv)) (RT h₀ L s) E s := by
  have F := fr_put F₀ (put_at hm3 (put_at hm4 (put_at hm6 (put_at hm8 (put_at hm9 rfl)))))
  clear F₀
  w_on
  show wpAny _ _ (execs (_ :: _ :: _ :: _) _) _ _ _
  repeat' (walk_at "go")
  unfold Hold
  rename_i Dw hx1 lDw hx2 lF9 lN9
  obtain ⟨ho1, ho2⟩ := hord
  obtain ⟨l11, l12, l13, l14, l15, l16⟩ := lDw
  have hrDw : ∀ p ∈ rest, p.1 ≠ Dw := allLt_ne l16
  refine kdl_iter (vs := vsY) (nn := kY) (news := (Dw, listOf (([] : List Value)).toArray 0) :: (Dy, listOf vsY.toArray kY) :: (L + 1 + 1 + 1, oW) :: (L + 1 + 1, oP) :: (L + 1, oK) :: (Dn, listOf vsN.toArray kN) :: rest)
    (fun i m' nx => i ≤ 6 ∧ (∃ r kW, nx = (Dw, listOf r.toArray kW) :: (Dy, listOf vsY.toArray kY) :: (L + 1 + 1 + 1, oW) :: (L + 1 + 1, oP) :: (L + 1, oK) :: (Dn, listOf vsN.toArray kN) :: rest ∧ IntsAre r (ws.take i)) ∧ Keep [Str.ofString "symbol", Str.ofString "row"] m m' ∧ m' (Str.ofString "row") = some (.ref Dw))
    (by rfl) (by walk_at "mem5") lF9 lN9 ?_ ?_ ?_
  · refine ⟨by omega, ⟨[], 0, rfl, .nil⟩, ?_, by with_unfolding_all rfl⟩
    intro z h1
    simp only [List.contains_cons, List.contains_nil, Bool.or_false, Bool.or_eq_false_iff, beq_eq_false_iff_ne, ne_eq] at h1
    simp [h1]
    walk_at "ifs"
  · rintro i v m₁ nx h' tk' own hv hoff hmem ⟨hi6, ⟨r, kW, rfl, hS⟩, hkeep, hmW⟩ F' N'
    simp only [List.cons_append] at N'
    obtain ⟨x, hx, t, rfl⟩ := int_item hY (by simpa using hv)
    have hoW := OwnOff.ne hoff (List.mem_map.mpr ⟨(Dw, listOf r.toArray kW), .head _, rfl⟩)
    have hrlen : r.length = i := by
      have h1 := hS.length
      simp at h1
      omega
    refine tf5 (r := r) (kW := kW) (t3 := t) (x := x) (rest := (Dy, listOf vsY.toArray kY) :: (L + 1 + 1 + 1, oW) :: (L + 1 + 1, oP) :: (L + 1, oK) :: (Dn, listOf vsN.toArray kN) :: (rest ++ own)) (by k_asm) F' ?h1 ?h4 (by k_asm) N' (by k_asm) hd1 hu ?hne (by omega) ?hq1 ?hq2
    case h1 => exact at_other (by decide +kernel) hmW
    case h4 => with_unfolding_all rfl
    case hne =>
      intro p hp
      simp only [List.mem_cons, List.mem_append] at hp
      rcases hp with rfl | rfl | rfl | rfl | rfl | hp | hp
      · exact Nat.ne_of_lt l11
      · exact Nat.ne_of_lt l12
      · exact Nat.ne_of_lt l13
      · exact Nat.ne_of_lt l14
      · exact Nat.ne_of_lt l15
      · exact hrDw p hp
      · exact hoW p hp
    case hq1 =>
      intro hx0 h'' tk'' m'' k'' F'' K'' N''
      have hi7 : i < 6 := by
        rcases Nat.lt_or_ge i 6 with h | h
        · exact h
        · exfalso
          have e6 : i = ws.length := by omega
          subst e6
          simp at hx
          exact hx0 hx.symm
      have hxw : ws[i]? = some x := by rw [List.getElem?_append_left (by omega)] at hx; exact hx
      refine ⟨h'', tk'', m'', _, (Dw, listOf (r ++ [Value.int x t]).toArray k'') :: (Dy, listOf vsY.toArray kY) :: (L + 1 + 1 + 1, oW) :: (L + 1 + 1, oP) :: (L + 1, oK) :: (Dn, listOf vsN.toArray kN) :: rest, rfl, F'', N'', ?_, ?_, hoff, .tail _ (.head _), by omega, ⟨_, k'', rfl, ?_⟩, ?_, ?_⟩
      · intro p hp
        simp only [List.mem_cons, List.mem_append] at hp ⊢
        rcases hp with hp | hp | hp | hp | hp | hp | hp <;> simp [hp]
      · intro p hp
        simp only [List.mem_cons, List.mem_append]
        simp [hp]
      · have e : ws.take (i + 1) = ws.take i ++ [x] := by rw [List.take_add_one, hxw]; rfl
        rw [e]
        exact IntsAre.append hS (.cons _ t .nil)
      · intro z h1
        have h9 := h1
        simp only [List.contains_cons, List.contains_nil, Bool.or_false, Bool.or_eq_false_iff, beq_eq_false_iff_ne, ne_eq] at h1
        refine Eq.trans (K'' z rfl) ?_
        refine at_other h1.1 (hkeep z h9)
      · exact (K'' _ rfl).trans (at_other (by decide +kernel) hmW)
    case hq2 =>
      intro hx0 h'' tk'' m'' F'' K'' N''
      have e6 : i = 6 := by
        rcases Nat.lt_or_ge i 6 with h | h
        · exfalso
          rw [List.getElem?_append_left (by omega)] at hx
          exact hw0 x (List.mem_of_getElem? hx) hx0
        · omega
      have e7 : ws.take i = ws := List.take_of_length_le (by omega)
      rw [e7] at hS
      have hmW' := (K'' _ rfl).trans (at_other (by decide +kernel) hmW)
      have hk' : ∀ z, z ≠ Str.ofString "symbol" → z ≠ Str.ofString "row" → m'' z = m z := fun z h1 h2 => (K'' z rfl).trans (at_other h1 (hkeep z (by simp [h1, h2])))
      have hmY := (hk' _ (by decide +kernel) (by decide +kernel)).trans hm8
      have hm3' := (hk' _ (by decide +kernel) (by decide +kernel)).trans hm3
      have hm4' := (hk' _ (by decide +kernel) (by decide +kernel)).trans hm4
      have hm6' := (hk' _ (by decide +kernel) (by decide +kernel)).trans hm6
      have hm9' := (hk' _ (by decide +kernel) (by decide +kernel)).trans hm9
      have F9 := fr_put F'' (put_at hmW' (put_at hmY rfl))
      clear F'' F' lF9
      have N9 := cb_drop (news := (Dw, listOf r.toArray kW) :: (Dy, listOf vsY.toArray kY) :: (L + 1 + 1 + 1, oW) :: (L + 1 + 1, oP) :: (L + 1, oK) :: (Dn, listOf vsN.toArray kN) :: rest) N'' (by kcf_all)
      clear N'' N' lN9
      show wpAny _ _ (execs (_ :: _ :: _) _) _ _ _
      have hta : List.take 6 (ws ++ [0, 256, 7]) = ws := by rw [List.take_append_of_le_length (by omega), List.take_of_length_le (by omega)]
      repeat' (walk_at "go")
      · unfold Hold
        (rename Fr _ _ _ _ => lF9)
        (rename News _ _ _ _ => lN9)
        refine tail7 (Dn := Dn) (Dw := Dw) (vsN := vsN) (kN := kN) (vsW := r) (kW := kW) (oW := oW) (oP := oP) (oK := oK) (rest := rest) (ns := ns) (ws := ws) (fr := fr) (rs := rs) (tl := tl) (by k_asm) lF9 (Eq.trans (by with_unfolding_all rfl) hm3') (Eq.trans (by with_unfolding_all rfl) hm4') (Eq.trans (by with_unfolding_all rfl) hm6') (by with_unfolding_all rfl) (Eq.trans (by with_unfolding_all rfl) hm9') (by k_asm) (cb_drop lN9 (by kcf_all)) (by k_asm) hd1 hu (by assumption) hN6 (by assumption) hW6 hlo hhi htot hE hK0 hP0 hW0 ⟨ho1, l12⟩ hr hb
      · exfalso
        (rename ¬ (ws = _) => hn9)
        exact hn9 hta.symm
  · rintro m₁ nx h' tk' ⟨hi6, _⟩
    exfalso
    have h1 := hY.length
    simp at h1
    omega
end

end Mine
end
section
open PySem PySem.W PyProof.Rows PySem.Builtin PySem.Builtin.Str PySem.Calls
set_option maxRecDepth 100000
set_option maxHeartbeats 8000000
namespace Mine
local macro_rules | `(tactic| walk_at "pad0") => `(tactic| skip)
local macro_rules | `(tactic| walk_at "pad1") => `(tactic| skip)
theorem fill_T3 : PySem.Challenge.rw_rw0014_01 = PySem.Challenge.rw_rw0014_01 ∧ hd.heap_39 = hd.heap_39 := by k_fill; exact ⟨rfl, rfl⟩
local macro_rules | `(tactic| walk_at "go") => `(tactic| (first | (k_unfold; (try dsimp only)) | walk1 | (dsimp only; walk1)))
local macro_rules | `(tactic| walk_at "exec Assign cons ListComp") => `(tactic| (k_here; k_dflt (refine LCg.Assign_ListComp_U (F₀ := by k_asm) (by rfl) (by with_unfolding_all rfl) (by with_unfolding_all rfl) (by decide) (by rfl) (by decide) (by rfl) (by rfl) (by rfl) ?_)))
local macro_rules | `(tactic| walk_at "eval ListComp") => `(tactic| (k_here; k_dflt (refine LCg.ListComp_U (F₀ := by k_asm) (by with_unfolding_all rfl) (by decide) (by rfl) (by decide) (by rfl) ?_)))
local macro_rules | `(tactic| walk_at "CompSrc") => `(tactic| (apply Hold.out))
local macro_rules | `(tactic| walk_at "pyIter ref") => `(tactic| ((with_reducible show wpAny _ _ (pyIter (Value.ref _)) (fun it s₂ => LoopAtV _ _ _ _ _ _ _ _ _ it s₂) _ _); apply Hold.out))
local macro_rules | `(tactic| walk_at "exec For Name Call cons nil") => `(tactic| (k_here; (rename Fr _ _ _ _ => lF'); (with_unfolding_all refine' For_invVF (hE := ?k3) lF' ?k1 ?k2 ?_; (case k1 => exact rfl); (case k2 => exact rfl); (case k3 => assumption); k_whole)))
local macro_rules | `(tactic| walk_at "exec For Name Name cons nil") => `(tactic| (k_here; (rename Fr _ _ _ _ => lF'); (with_unfolding_all refine' For_invVF (hE := ?k3) lF' ?k1 ?k2 ?_; (case k1 => exact rfl); (case k2 => exact rfl); (case k3 => assumption); k_whole)))
local macro_rules | `(tactic| walk_at "CompEnd") => `(tactic| ((refine LCg.CompEnd.intro (by k_asm) (by k_asm) _ ?hs ?ho ?hS (kcf_el ?he rfl rfl)); (case he => first | rfl | (rw [if_pos (by assumption)]; done) | (rw [if_neg (by simp [*])]; done) | (simp [*]; done)); (case hs => kcf_all); (case ho => first | assumption | trivial | (simp only [LCg.Off3, and_true]; first | assumption | done)); (case hS => first | trivial | lcg_src | assumption)))
local macro_rules | `(tactic| walk_at "call ref") => `(tactic| ((with_reducible show wpAny _ _ (call (Value.ref 55) [Value.str _ _, Value.str _ _]) _ _ _); (k_dflt (refine' em_call ?k1 ?k2 ?k3 ?k4 ?k5 ?kK ?kp ?kd ?ku ?_; (case k2 => k_asm); (case k4 => k_asm); (case k1 => k_asm); (case k3 => k_asm); (case k5 => k_asm); (case kK => first | exact rfl | assumption); (case kp => constructor <;> first | omega | (walk_at "em_size")); (case kd => first | omega | ktr_room); (case ku => first | omega | ktr_units))); intro h' tk' F' N'; (try k_fold)))
local macro_rules | `(tactic| walk_at "same") => `(tactic| (intro z h1 h2; first | rfl | (simp [h1]; done) | ((simp only [List.contains_cons, List.contains_nil, Bool.or_false, Bool.or_eq_false_iff, beq_eq_false_iff_ne, ne_eq] at h2); (simp [h1, h2]; done))))
local macro_rules | `(tactic| walk_at "em_size") => `(tactic| first | omega | (refine Nat.le_trans (by walk_at "len_up") (by omega)))
local macro_rules | `(tactic| walk_at "len_up") => `(tactic| first | (with_reducible exact Txt.slice_le _ _ _) | (with_reducible exact dots3) | (with_reducible refine len_app2 (by walk_at "len_up") (by walk_at "len_up")) | (with_reducible exact Nat.le_refl _))
local macro_rules | `(tactic| walk_at "binaryOp Mult ref int") => `(tactic| ((with_reducible show wpAny _ _ (binaryOp Operator.Mult (Value.ref _) (Value.int _ _)) _ _ _); (k_dflt (refine' rep_one ?k1 ?k2 ?k3 ?k4 ?k5 ?_; (case k1 => k_asm); (case k2 => k_asm); (case k3 => exact List.Mem.head _); (case k4 => omega); (case k5 => omega))); intro D' h' F' N' l1'; (try k_lt l1')))
local macro_rules | `(tactic| walk_at "call builtin:str.join") => `(tactic| ((show wpAny _ _ (call (Value.builtin "str.join") [Value.str _ _, Value.ref _]) _ _ _); (refine join_B _ (News.isList (by k_asm) (List.Mem.head _)) (by walk_at "join_s") (by walk_at "join_w") (by first | omega | assumption) (by decide +kernel) ?_); intro t' k' hlen'))
local macro_rules | `(tactic| walk_at "join_s") => `(tactic| first | assumption | exact strs_rep _ _ _)
local macro_rules | `(tactic| walk_at "join_w") => `(tactic| exact rep_w (by omega) (by omega))
local macro_rules | `(tactic| walk_at "pyIter str") => `(tactic| ((with_reducible show wpAny _ _ (pyIter (Value.str _ _)) (fun it s₂ => LoopAtV _ _ _ _ _ _ _ _ _ it s₂) _ _); apply Hold.out))
local macro_rules | `(tactic| walk_at "exec For Name Subscript cons nil") => `(tactic| (k_here; (rename Fr _ _ _ _ => lF'); (with_unfolding_all refine' For_invVF (hE := ?k3) lF' ?k1 ?k2 ?_; (case k1 => exact rfl); (case k2 => exact rfl); (case k3 => assumption); k_whole)))
local macro_rules | `(tactic| walk_at "call builtin:list.append") => `(tactic| ((show wpAny _ _ (call (Value.builtin "list.append") [Value.ref _, _]) _ _ _); (k_dflt (refine' app_head ?k1 ?k2 ?k3 ?z ?_; (case k1 => k_asm); (case k2 => k_asm); (case k3 => walk_at "ne_all"); (case z => walk_at "sz"))); intro h' F' N'))
local macro_rules | `(tactic| walk_at "sz") => `(tactic| first | ((simp only [List.length_append, List.length_cons, List.length_nil]); (have hl9 := IntsAre.length (by assumption)); omega) | ((simp only [List.length_append, List.length_cons, List.length_nil]); (have hl9 := StrsAre.len_eq (by assumption)); omega))
local macro_rules | `(tactic| walk_at "ne_all") => `(tactic| first | exact List.forall_mem_nil _ | (refine List.forall_mem_cons.mpr ⟨?_, ?_⟩; (focus (first | (exact Nat.ne_of_lt (by assumption)) | k_ne)); walk_at "ne_all") | (refine List.forall_mem_append.mpr ⟨?_, ?_⟩; (focus walk_at "ne_all"); walk_at "ne_all") | exact OwnOff.ne (by assumption) (List.Mem.head _) | exact allLt_ne (by assumption))
local macro_rules | `(tactic| walk_at "eval ListComp") => `(tactic| ((with_reducible show wpAny _ _ (eval (Expr.ListComp _ [⟨_, _, [_], _⟩] _ _) _) _ _ _); k_dflt (refine LCt.ListComp_T (F₀ := by k_asm) (by with_unfolding_all rfl) (by decide) (by rfl) (by decide) (by rfl) ?_)))
local macro_rules | `(tactic| walk_at "CompSrcT") => `(tactic| (apply Hold.out))
local macro_rules | `(tactic| walk_at "compareOp NotEq ref ref") => `(tactic| ((with_reducible show wpAny _ _ (compareOp CmpOp.NotEq (Value.ref _) (Value.ref _)) _ _ _); refine ne_N (by k_asm) (by walk_at "mem1") (by walk_at "mem1") (by assumption) (by assumption) (by (have hcL9 := cLine_is; (try dsimp only); omega)) ?_))
local macro_rules | `(tactic| walk_at "mem1") => `(tactic| first | exact List.Mem.head _ | exact List.Mem.tail _ (List.Mem.head _) | exact List.Mem.tail _ (List.Mem.tail _ (List.Mem.head _)) | k_mem)
local macro_rules | `(tactic| walk_at "keep") => `(tactic| (intro z h1; (simp only [List.contains_cons, List.contains_nil, Bool.or_false, Bool.or_eq_false_iff, beq_eq_false_iff_ne, ne_eq] at h1); first | rfl | (simp [h1]; done) | (simp [h1]; intro h2; subst h2; symm; assumption)))
local macro_rules | `(tactic| walk_at "keep2") => `(tactic| (intro z h1; (simp only [List.contains_cons, List.contains_nil, Bool.or_false, Bool.or_eq_false_iff, beq_eq_false_iff_ne, ne_eq] at h1); (rename Keep _ _ _ => K9); refine Eq.trans (K9 z (by (simp only [List.contains_cons, List.contains_nil, Bool.or_false, Bool.or_eq_false_iff, beq_eq_false_iff_ne, ne_eq]; simp [h1]))) ?_; first | rfl | (simp [h1]; done)))
local macro_rules | `(tactic| walk_at "ifs") => `(tactic| repeat' (first | rfl | (split; (focus ((rename _ = Str.ofString _ => h9); subst h9; symm; assumption)))))
local macro_rules | `(tactic| walk_at "storeName") => `(tactic| ((with_reducible show wpAny _ _ (storeName _ (Str.ofString "part") _) _ _ _); (refine' storeX_C ?F ?N ?c ?U ?d ?_ ?a ?b; (case a => rfl); (case b => rfl); (case F => k_asm); (case N => k_asm); (case c => rfl); (case U => exact UpdF.head (by assumption)); (case d => k_asm)); k_whole; intro h' o' F' N' d'; (try dsimp only at N'); (try k_sweep)))
local macro_rules | `(tactic| walk_at "call ref") => `(tactic| ((with_reducible show wpAny _ _ (call (Value.ref _) [Value.int _ _]) _ _ _); (k_dflt (first | (with_reducible refine' ist_call ?k1 ?k2 ?k3 ?k4 ?k5 ?kK ?kd ?ku ?_) | (with_reducible refine' isn_call ?k1 ?k2 ?k3 ?k4 ?k5 ?kK ?kd ?ku ?_) | (with_reducible refine' ise_call ?k1 ?k2 ?k3 ?k4 ?k5 ?kK ?kd ?ku ?_)); (case k2 => k_asm); (case k4 => k_asm); (case k1 => k_asm); (case k3 => k_asm); (case k5 => k_asm); (case kK => first | exact rfl | assumption); (case kd => first | omega | ktr_room); (case ku => first | omega | ktr_units)); intro h' tk' F' N'; (try k_fold)))
local macro_rules | `(tactic| walk_at "subscriptTail List cons BinOp ref int") => `(tactic| ((with_reducible show wpAny _ _ (subscriptTail (Expr.List _ _) _ (Value.ref _) (Value.int _ _)) _ _ _); ((refine' item_menu3 ?k1 ?k2 ?k3 ?k4 ?_ ?_ ?_ ?hs; (case k1 => k_asm); (case k2 => with_unfolding_all exact List.Mem.head _); (case k3 => exact (fmod3 _).1); (case k4 => exact (fmod3 _).2); (case hs => with_unfolding_all rfl)) <;> intro hj)))
local macro_rules | `(tactic| walk_at "mem5") => `(tactic| first | exact List.Mem.head _ | (refine List.Mem.tail _ ?_; walk_at "mem5"))
local macro_rules | `(tactic| walk_at "execs cons Assign cons") => `(tactic| ((with_reducible show wpAny _ _ (execs [_, _, _, _, _, _, _, _, _, _, _, _, _] _) _ _ _); apply Hold.wp))
local macro_rules | `(tactic| walk_at "execs cons") => `(tactic| ((with_reducible show wpAny _ _ (execs [_, _, _, _, _, _, _, _, _, _, _, _, _] _) _ _ _); apply Hold.wp))
def symOf (x : Int) : Int := if x.fmod 2 = 0 then 255 - (x.fdiv 2).fmod 255 else 256 + x.fdiv 2
theorem symOf_ne {x : Int} (h : 0 ≤ x) : symOf x ≠ 0 := by
  unfold symOf
  split
  · have := Int.fmod_lt_of_pos (x.fdiv 2) (b := 255) (by omega)
    omega
  · have := Int.fdiv_nonneg h (show (0 : Int) ≤ 2 by omega)
    omega
section
variable {w : World} {mean : ExcName → Option Value} {mg mb : Str → Option Value} {rest : List (Addr × Obj)} {dp un : Nat} {gd : Option (List Code)} {fa : Addr} {cdv : Value} {outer : List Env} {A₀ : Around} {base h₀ : Heap} {L : Addr} {m : Str → Option Value} {s : Shared} {E : Value → Shared → Prop} {Q : Flow → Shared → Prop}
theorem tail3 {Dn : Addr} {vsN : List Value} {ns : List Int} {fr rs : List Str} {kN : Nat} {oW oK oP : Obj} {lo hi : Str} {tl t1 t2 : Tok} {tot : Int} (B : Below A₀ base outer h₀)
    (F₀ : Fr h₀ L s.heap m) (hm3 : m (Str.ofString "high") = some (.str hi t2)) (hm4 : m (Str.ofString "low") = some (.str lo tl)) (hm6 : m (Str.ofString "numbers") = some (.ref Dn)) (hm9 : m (Str.ofString "total") = some (.int tot t1)) (X : (hd.heap_39 w.params).In h₀)
    (N : News h₀ L s.heap ((L + 1 + 1 + 1, oW) :: (L + 1 + 1, oP) :: (L + 1, oK) :: (Dn, listOf vsN.toArray kN) :: rest)) (T : Top hd.view_39 Lo1 mean mg mb h₀) (hd1 : dp + 3 < recursionLimit) (hu : un + 100 < cLine)
    (hN : IntsAre vsN ns) (hN6 : ns.length = 6) (hNb : ∀ x ∈ ns, 0 ≤ x ∧ x < 1000000) (hlo : lo.length = 1) (hhi : hi.length = 1) (htot : 0 ≤ tot ∧ tot ≤ 10000000) (hE : PassesOwn (model Pr1 w) (lawA dp un gd L fa cdv outer) (lawEnv L fa cdv) E)
    (hK0 : ∃ v, oK.data = .cell v) (hP0 : ∃ v, oP.data = .cell v) (hW0 : ∃ v, oW.data = .cell v)
    (hord : DnOff L Dn) (hr : ∀ p ∈ rest, L + 1 + 1 + 1 < p.1)
    (hb : BodyOk lo hi tot ns (ns.map symOf) fr rs) :
    wpAny (model Pr1 w) (lawA dp un gd L fa cdv outer) (execs (lawBody.drop 3) (lawEnv L fa cdv)) (RT h₀ L s) E s := by
  have F := fr_put F₀ (put_at hm3 (put_at hm4 (put_at hm6 (put_at hm9 rfl))))
  clear F₀
  w_on
  show wpAny _ _ (execs (_ :: _ :: _ :: _) _) _ _ _
  repeat' (walk_at "go")
  unfold Hold
  refine LCg.CompSrc.ledger (by rfl) (by k_asm) (by k_asm) (by walk_at "mem5") (by rw [sizeLine_eq, List.size_toArray, hN.length]; omega) ?_
  intro g'
  refine crest_I ns symOf (fun x v => ∃ t, v = .int x t) (by rw [List.size_toArray, hN.length]) (fun i v _ h => int_item hN h) ?_ ?_
  · rintro x _ I' oI' C' oC' D' m' ys' h' tk' E' hx' ⟨u', rfl⟩ hC' hxx' F' N' off' ne'
    have hxb := hNb x hx'
    (try simp only [LCg.Off3, and_true] at off')
    (try k_unmd)
    (try k_fold)
    repeat' (walk_at "go")
    all_goals
      unfold symOf
      first
        | rw [if_pos (by assumption)]
        | rw [if_neg (by assumption)]
      exact ⟨rfl, _, rfl⟩
  · intro ys' hys' D' h' tk' F' N' off'
    repeat' (walk_at "go")
    unfold Hold
    (rename Fr _ _ _ _ => lF9)
    (rename News _ _ _ _ => lN9)
    refine tail4 (Dn := Dn) (vsN := vsN) (kN := kN) (oW := oW) (oP := oP) (oK := oK) (rest := rest) (ns := ns) (ws := ns.map symOf) (fr := fr) (rs := rs) (tl := tl) (by k_asm) lF9 (by with_unfolding_all rfl) (by with_unfolding_all rfl) (by with_unfolding_all rfl) (by with_unfolding_all rfl) (by with_unfolding_all rfl) (by k_asm) (cb_drop lN9 (by kcf_all)) (by k_asm) hd1 hu (by assumption) hN6 (by assumption) (by rw [List.length_map]; omega) (fun x hx => ?_) hlo hhi htot hE hK0 hP0 hW0 ⟨hord, ?_⟩ hr hb
    · obtain ⟨y, hy, rfl⟩ := List.mem_map.mp hx
      exact symOf_ne (hNb y hy).1
    · (rename _ ∧ _ ∧ _ ∧ _ ∧ _ ∧ _ ∧ AllLt _ rest => hl9)
      exact hl9.2.2.1
end

end Mine
end
section
open PySem PySem.W PyProof.Rows PySem.Builtin PySem.Builtin.Str PySem.StrLaws
set_option maxRecDepth 100000
namespace Mine
def S (l : List Nat) : Str := ⟨l.toArray⟩
theorem S_list (l : List Nat) : (S l).cps.toList = l := rfl
theorem S_len (l : List Nat) : (S l).length = l.length := by show l.toArray.size = _; simp
theorem S_inj {a b : List Nat} (h : S a = S b) : a = b := by
  have := congrArg (fun x : Str => x.cps.toList) h
  exact this
theorem S_beq (a b : List Nat) : (S a == S b) = (a == b) := by
  cases h : a == b with
  | true => rw [eq_of_beq h]; exact beq_self_eq_true _
  | false =>
    apply Bool.eq_false_iff.mpr
    intro h2
    have e : S a = S b := eq_of_beq h2
    rw [S_inj e] at h
    simp at h
theorem str_app (a b : Str) : a ++ b = ⟨a.cps ++ b.cps⟩ := rfl
theorem S_app (a b : List Nat) : S a ++ S b = S (a ++ b) := by
  rw [str_app]
  simp [S]
theorem subAt_S (l m : List Nat) (i : Nat) : subAt (S l) (S m) i = ((l.drop i).take m.length == m) := by
  rw [subAt_eq, S_list, S_list, S_len]
theorem str_ext {a b : Str} (h : a.cps.toList = b.cps.toList) : a = b := by
  cases a; cases b
  simp only [Str.mk.injEq]
  exact Array.toList_inj.mp h
theorem strSub_S (l : List Nat) (a b : Nat) : strSub (S l) a b = S ((l.drop a).take (b - a)) := by
  apply str_ext
  rw [strSub_toList]
  rfl
def jnL (d : List Nat) : List (List Nat) → List Nat
  | [] => []
  | [p] => p
  | p :: q :: r => p ++ d ++ jnL d (q :: r)
theorem join_S' (d : List Nat) : ∀ ps : List (List Nat), Str.join (S d) (ps.map S) = S (jnL d ps)
  | [] => rfl
  | [p] => rfl
  | p :: q :: r => by
    have h := join_S' d (q :: r)
    show S p ++ S d ++ Str.join (S d) ((q :: r).map S) = _
    rw [h, S_app, S_app]
    rfl
theorem join_S (d : List Nat) (ps : List (List Nat)) : Txt.join (S d) (ps.map S) = S (jnL d ps) := by
  have e : Txt.join (S d) (ps.map S) = Str.join (S d) (ps.map S) := glued_eq_join _ _
  rw [e, join_S']
def cutsL (n : Nat) : List (List Nat) → Nat → List Nat
  | [], _ => []
  | [_], _ => []
  | p :: q :: r, a => (a + p.length) :: cutsL n (q :: r) (a + p.length + n)
def endL (n : Nat) : List (List Nat) → Nat → Nat
  | [], a => a
  | [_], a => a
  | p :: q :: r, a => endL n (q :: r) (a + p.length + n)
theorem at_get {x d : List Nat} {c hi k : Nat} (h : At (S x) (S (c :: d)) hi k) : x[k]? = some c := by
  have h2 := h.2
  rw [subAt_S] at h2
  have h3 := eq_of_beq h2
  have h4 := congrArg (fun l => l[0]?) h3
  simp only [List.length_cons, List.getElem?_cons_zero] at h4
  rw [List.getElem?_take_of_lt (by omega), List.getElem?_drop] at h4
  simpa using h4
theorem not_at {pre p post d : List Nat} {c hi k : Nat} (hf : c ∉ p) (h1 : pre.length ≤ k) (h2 : k < pre.length + p.length) : ¬ At (S (pre ++ (p ++ post))) (S (c :: d)) hi k := by
  intro h
  have h3 := at_get h
  rw [List.getElem?_append_right h1, List.getElem?_append_left (by omega)] at h3
  exact hf (List.mem_of_getElem? h3)
theorem chain_L (c : Nat) (d : List Nat) : ∀ (ps : List (List Nat)) (pre x : List Nat), ps ≠ [] → x = pre ++ jnL (c :: d) ps → (∀ p ∈ ps, c ∉ p) →
    ChainG (S x) (S (c :: d)) (S x).length pre.length (cutsL (d.length + 1) ps pre.length) (endL (d.length + 1) ps pre.length) ∧ (∀ k, endL (d.length + 1) ps pre.length ≤ k → ¬ At (S x) (S (c :: d)) (S x).length k) ∧ partsFrom (S x) (d.length + 1) pre.length (cutsL (d.length + 1) ps pre.length) = ps.map S
  | [], _, _, h, _, _ => absurd rfl h
  | [p], pre, x, _, hx, hf => by
    subst hx
    refine ⟨rfl, fun k hk hA => ?_, ?_⟩
    · have h1 := hA.1
      simp only [jnL, S_len, List.length_append, List.length_cons] at h1
      have h2 : pre ++ jnL (c :: d) [p] = pre ++ (p ++ []) := by simp [jnL]
      rw [h2] at hA
      exact not_at (hf p (.head _)) hk (by omega) hA
    · show [strSub _ pre.length _] = [S p]
      rw [strSub_S, S_len]
      simp [jnL]
  | p :: q :: r, pre, x, _, hx, hf => by
    have ex : x = (pre ++ p ++ (c :: d)) ++ jnL (c :: d) (q :: r) := by rw [hx]; simp [jnL]
    obtain ⟨h1, h2, h3⟩ := chain_L c d (q :: r) (pre ++ p ++ (c :: d)) x (by simp) ex (fun z hz => hf z (.tail _ hz))
    have el : (pre ++ p ++ (c :: d)).length = pre.length + p.length + (d.length + 1) := by simp [Nat.add_assoc]
    rw [el] at h1 h2 h3
    have ex2 : x = pre ++ (p ++ ((c :: d) ++ jnL (c :: d) (q :: r))) := by rw [hx]; simp [jnL]
    refine ⟨⟨by omega, ⟨?_, ?_⟩, fun k hk1 hk2 => ?_, ?_⟩, h2, ?_⟩
    · rw [S_len, S_len, ex2]
      simp only [List.length_append, List.length_cons]
      omega
    · rw [subAt_S, ex2, List.drop_append, List.drop_of_length_le (by omega)]
      simp
    · rw [ex2]
      exact not_at (hf p (.head _)) hk1 hk2
    · rw [S_len]
      exact h1
    · show strSub (S x) pre.length (pre.length + p.length) :: partsFrom _ _ _ _ = S p :: _
      rw [h3, strSub_S, ex2]
      simp
theorem chain_uniq {s sub : Str} {hi : Nat} : ∀ {c1 c2 : List Nat} {a f1 f2 : Nat}, ChainG s sub hi a c1 f1 → (∀ k, f1 ≤ k → ¬ At s sub hi k) → ChainG s sub hi a c2 f2 → (∀ k, f2 ≤ k → ¬ At s sub hi k) → c1 = c2
  | [], [], _, _, _, _, _, _, _ => rfl
  | [], d :: r, a, f1, f2, h1, n1, h2, _ => by
    have e : f1 = a := h1
    subst e
    exact absurd h2.2.1 (n1 d h2.1)
  | d :: r, [], a, f1, f2, h1, _, h2, n2 => by
    have e : f2 = a := h2
    subst e
    exact absurd h1.2.1 (n2 d h1.1)
  | c :: r, d :: q, a, f1, f2, h1, n1, h2, n2 => by
    have e : c = d := by
      rcases Nat.lt_trichotomy c d with h | h | h
      · exact absurd h1.2.1 (h2.2.2.1 c h1.1 h)
      · exact h
      · exact absurd h2.2.1 (h1.2.2.1 d h2.1 h)
    subst e
    rw [chain_uniq h1.2.2.2 n1 h2.2.2.2 n2]
/-- cutting a join whose parts are free of the mark's first sign -/
theorem split_join (c : Nat) (d : List Nat) (ps : List (List Nat)) (h2 : 2 ≤ ps.length) (hf : ∀ p ∈ ps, c ∉ p) (hk : Str.strKind (S (c :: d)) = 1) :
    Txt.split (S (jnL (c :: d) ps)) (S (c :: d)) = ps.map S ∧ (occurrences (S (jnL (c :: d) ps)) (S (c :: d)) 0 (S (jnL (c :: d) ps)).length 1).isEmpty = false := by
  have hne : ps ≠ [] := by rintro rfl; simp at h2
  obtain ⟨g1, g2, g3⟩ := chain_L c d ps [] (jnL (c :: d) ps) hne rfl hf
  obtain ⟨f, t1, t2⟩ := occ_tight (S (jnL (c :: d) ps)) (S (c :: d)) (by rw [S_len]; simp)
  have hc := chain_uniq t1 t2 g1 g2
  obtain ⟨p, q, r, rfl⟩ : ∃ p q r, ps = p :: q :: r := by
    cases ps with
    | nil => simp at h2
    | cons p r => cases r with
      | nil => simp at h2
      | cons q r => exact ⟨p, q, r, rfl⟩
  have hA : At (S (jnL (c :: d) (p :: q :: r))) (S (c :: d)) (S (jnL (c :: d) (p :: q :: r))).length (0 + p.length) := g1.2.1
  constructor
  · unfold Txt.split
    rw [if_neg, if_neg, hc, partsBetween_eq, S_len (c :: d)]
    · exact g3
    · rw [hc]
      simp [cutsL]
    · have h1 := hA.1
      have : 1 ≤ Str.strKind (S (jnL (c :: d) (p :: q :: r))) := by unfold Str.strKind; split <;> (try split) <;> omega
      simp only [Bool.or_eq_true, decide_eq_true_eq]
      omega
  · have h1 := (found_iff (S (jnL (c :: d) (p :: q :: r))) (S (c :: d))).mpr ⟨_, hA⟩
    simpa using h1
end Mine
end
section
open PySem PySem.W PyProof.Rows PySem.Builtin PySem.Builtin.Str PySem.StrLaws
set_option maxRecDepth 100000
namespace Mine
def enc (f : Bool → Nat) (l : List Bool) : Str := S (l.map f)
theorem enc_len (f : Bool → Nat) (l : List Bool) : (enc f l).length = l.length := by rw [enc, S_len, List.length_map]
theorem map_inj {f : Bool → Nat} (hf : f false ≠ f true) {a b : List Bool} (h : a.map f = b.map f) : a = b := by
  refine List.map_inj_right (f := f) ?_ |>.mp h
  intro x y e
  cases x <;> cases y <;> first | rfl | exact absurd e hf | exact absurd e.symm hf
theorem map_beq {f : Bool → Nat} (hf : f false ≠ f true) (a b : List Bool) : (a.map f == b.map f) = (a == b) := by
  cases h : a == b with
  | true => rw [eq_of_beq h]; exact beq_self_eq_true _
  | false =>
    apply Bool.eq_false_iff.mpr
    intro h2
    rw [map_inj hf (eq_of_beq h2)] at h
    simp at h
theorem pre_take (p w : List Bool) : (w.take p.length == p) = p.isPrefixOf w := by
  cases h : p.isPrefixOf w with
  | true =>
    have h1 := List.isPrefixOf_iff_prefix.mp h
    rw [← List.prefix_iff_eq_take.mp h1]
    exact beq_self_eq_true _
  | false =>
    apply Bool.eq_false_iff.mpr
    intro h2
    have h3 : p <+: w := List.prefix_iff_eq_take.mpr (eq_of_beq h2).symm
    rw [List.isPrefixOf_iff_prefix.mpr h3] at h
    simp at h
theorem subAt_B {f : Bool → Nat} (hf : f false ≠ f true) (w p : List Bool) (k : Nat) : subAt (enc f w) (enc f p) k = p.isPrefixOf (w.drop k) := by
  unfold enc
  rw [subAt_S, List.length_map, ← List.map_drop, ← List.map_take, map_beq hf, pre_take]
theorem pre_len {p w : List Bool} (h : p.isPrefixOf w = true) : p.length ≤ w.length := (List.isPrefixOf_iff_prefix.mp h).length_le
theorem starts_B {f : Bool → Nat} (hf : f false ≠ f true) (w p : List Bool) : Txt.startswith (enc f w) (enc f p) = p.isPrefixOf w := by
  unfold Txt.startswith
  rw [subAt_B hf, enc_len, enc_len, List.drop_zero]
  cases h : p.isPrefixOf w with
  | true => simp [pre_len h]
  | false => simp
theorem ends_B {f : Bool → Nat} (hf : f false ≠ f true) (w p : List Bool) : Txt.endswith (enc f w) (enc f p) = p.isSuffixOf w := by
  unfold Txt.endswith
  rw [subAt_B hf, enc_len, enc_len]
  cases h : p.isSuffixOf w with
  | true =>
    have h1 := List.isSuffixOf_iff_suffix.mp h
    have h2 := List.suffix_iff_eq_drop.mp h1
    rw [← h2]
    have h3 := h1.length_le
    simp [h3]
  | false =>
    apply Bool.eq_false_iff.mpr
    intro h2
    simp only [Bool.and_eq_true, decide_eq_true_eq] at h2
    obtain ⟨h3, h4⟩ := h2
    have h5 := List.isPrefixOf_iff_prefix.mp h4
    have h6 : p = w.drop (w.length - p.length) := h5.eq_of_length (by rw [List.length_drop]; omega)
    have h7 : p <:+ w := List.suffix_iff_eq_drop.mpr h6
    rw [List.isSuffixOf_iff_suffix.mpr h7] at h
    simp at h
def findL (w p : List Bool) (a hi : Nat) : Option Nat := (List.range' a (hi + 1 - a)).find? (fun k => decide (k + p.length ≤ hi) && p.isPrefixOf (w.drop k))
theorem find4_B {f : Bool → Nat} (hf : f false ≠ f true) (w p : List Bool) {a hi : Nat} (hh : hi ≤ w.length) : find4 (enc f w) (enc f p) a hi = match findL w p a hi with | some k => (k : Int) | none => -1 := by
  unfold find4
  have e1 : fromIndex (enc f w).length (a : Int) = a := by unfold fromIndex; rw [if_neg (by omega)]; omega
  have e2 : min (fromIndex (enc f w).length (hi : Int)) (enc f w).length = hi := by
    rw [enc_len]; unfold fromIndex; rw [if_neg (by omega)]; omega
  rw [e1, e2, occ_eq]
  have hAt : ∀ i, (decide (i + p.length ≤ hi) && p.isPrefixOf (w.drop i)) = true ↔ At (enc f w) (enc f p) hi i := by
    intro i
    unfold At
    rw [enc_len, subAt_B hf, Bool.and_eq_true, decide_eq_true_eq]
  rcases occ_first (enc f w) (enc f p) hi 1 (Nat.le_refl _) (List.range' a (hi + 1 - a)) a (fun i hi' => by have := List.mem_range'_1.mp hi'; omega) with ⟨h0, hn⟩ | ⟨pre, b, post, e, h0, hb, hn⟩
  · have h1 : findL w p a hi = none := by
      unfold findL
      rw [List.find?_eq_none]
      intro i hi' h2
      exact hn i hi' ((hAt i).mp h2)
    rw [h0, h1]
  · have h1 : findL w p a hi = some b := by
      unfold findL
      rw [e, List.find?_eq_some_iff_append]
      refine ⟨(hAt b).mpr hb, pre, post, rfl, fun i hi' => ?_⟩
      have := hn i hi'
      cases h3 : (decide (i + p.length ≤ hi) && p.isPrefixOf (w.drop i)) with
      | true => exact absurd ((hAt i).mp h3) this
      | false => rfl
    rw [h1]
    generalize (forIn (List.range' a (hi + 1 - a)) ((#[] : Array Nat), a) (occBody (enc f w) (enc f p) hi 1)).run.fst = arr at h0
    have h2 : arr.toList[0]? = some b := by simpa using h0
    cases hL : arr.toList with
    | nil => rw [hL] at h2; cases h2
    | cons c t => rw [hL] at h2; simp at h2; rw [h2]
def emLoopL (w : List Bool) (hi : Nat) : List (List Bool) → Nat → Bool
  | [], _ => true
  | p :: r, a => match findL w p a hi with | none => false | some k => emLoopL w hi r (k + p.length)
def emBL (p0 : List Bool) (mid : List (List Bool)) (pl w : List Bool) : Bool :=
  if p0.length != 0 && !(p0.isPrefixOf w) then false
  else if pl.length != 0 && !(pl.isSuffixOf w) then false
  else if w.length < p0.length + pl.length then false
  else emLoopL w (w.length - pl.length) ((if p0.length = 0 then [p0] else []) ++ (mid ++ if pl.length = 0 then [pl] else [])) p0.length
theorem emLoop_B {f : Bool → Nat} (hf : f false ≠ f true) (w : List Bool) {hi : Nat} (hh : hi ≤ w.length) : ∀ (ps : List (List Bool)) (a : Nat), emLoop (enc f w) hi (ps.map (enc f)) a = emLoopL w hi ps a
  | [], _ => rfl
  | p :: r, a => by
    show (if find4 (enc f w) (enc f p) a hi < 0 then false else emLoop (enc f w) hi (r.map (enc f)) (find4 (enc f w) (enc f p) a hi + (enc f p).length)) = _
    rw [find4_B hf w p hh]
    unfold emLoopL
    cases h : findL w p a hi with
    | none => rfl
    | some k =>
      have h2 := emLoop_B hf w hh r (k + p.length)
      simp only [enc_len]
      rw [if_neg (by omega), ← h2]
      push_cast
      rfl
theorem emB_B {f : Bool → Nat} (hf : f false ≠ f true) (p0 : List Bool) (mid : List (List Bool)) (pl w : List Bool) : emB (enc f p0) (mid.map (enc f)) (enc f pl) (enc f w) = emBL p0 mid pl w := by
  unfold emB emBL
  simp only [enc_len, starts_B hf, ends_B hf]
  by_cases h : w.length < p0.length + pl.length
  · rw [if_pos h, if_pos (show ((w.length : Int) - pl.length < p0.length) by omega)]
  · rw [if_neg h, if_neg (show ¬ ((w.length : Int) - pl.length < p0.length) by omega)]
    have e : ((w.length : Int) - pl.length) = ((w.length - pl.length : Nat) : Int) := by omega
    rw [e, ← emLoop_B hf w (by omega)]
    congr 3
    by_cases h1 : p0.length = 0 <;> by_cases h2 : pl.length = 0 <;> simp [h1, h2]
theorem dots_S : Str.ofString "..." = S [46, 46, 46] := by decide +kernel
theorem emS_J {f : Bool → Nat} (hf : f false ≠ f true) (h46 : ∀ b, f b ≠ 46) (p0 : List Bool) (mid : List (List Bool)) (pl w : List Bool) :
    emS (Txt.join (Str.ofString "...") ((p0 :: (mid ++ [pl])).map (enc f))) (enc f w) = emBL p0 mid pl w := by
  have e1 : (p0 :: (mid ++ [pl])).map (enc f) = ((p0 :: (mid ++ [pl])).map (fun l => l.map f)).map S := by rw [List.map_map]; rfl
  have hfree : ∀ p ∈ (p0 :: (mid ++ [pl])).map (fun l => l.map f), 46 ∉ p := by
    intro p hp hm
    obtain ⟨l, _, rfl⟩ := List.mem_map.mp hp
    obtain ⟨b, _, e⟩ := List.mem_map.mp hm
    exact h46 b e
  obtain ⟨h1, h2⟩ := split_join 46 [46, 46] ((p0 :: (mid ++ [pl])).map (fun l => l.map f)) (by simp) hfree (by decide +kernel)
  rw [e1, dots_S, join_S]
  rw [emS_of (w0 := enc f p0) (mid := mid.map (enc f)) (wl := enc f pl) (by rw [dots_S]; exact h2) (by rw [dots_S, h1]; simp [enc]), emB_B hf]
end Mine
end
section
open PySem PySem.W PyProof.Rows PySem.Builtin PySem.Builtin.Str PySem.StrLaws
set_option maxRecDepth 100000
namespace Mine
theorem slice_take (l : List Nat) {k : Int} (h0 : 0 ≤ k) (h1 : k ≤ l.length) : Txt.slice (S l) none (some k) = S (l.take k.toNat) := by
  have h := eq_of_beq (slice_closes_to (x := S l) (j := k) ⟨h0, h1⟩)
  rw [h]
  simp [S]
theorem slice_drop (l : List Nat) {k : Int} (h0 : 0 ≤ k) (h1 : k ≤ l.length) : Txt.slice (S l) (some k) none = S (l.drop k.toNat) := by
  have h := eq_of_beq (slice_closes_from (x := S l) (i := k) ⟨h0, h1⟩)
  rw [h, S_list]
  unfold S
  rw [List.take_of_length_le]
  rw [List.length_drop]
  omega
theorem take_B (f : Bool → Nat) (l : List Bool) {k : Int} (h0 : 0 ≤ k) (h1 : k ≤ l.length) : Txt.slice (enc f l) none (some k) = enc f (l.take k.toNat) := by
  unfold enc
  rw [slice_take _ h0 (by simpa using h1), List.map_take]
theorem drop_B (f : Bool → Nat) (l : List Bool) {k : Int} (h0 : 0 ≤ k) (h1 : k ≤ l.length) : Txt.slice (enc f l) (some k) none = enc f (l.drop k.toNat) := by
  unfold enc
  rw [slice_drop _ h0 (by simpa using h1), List.map_drop]
theorem app_B (f : Bool → Nat) (a b : List Bool) : enc f a ++ enc f b = enc f (a ++ b) := by
  unfold enc
  rw [S_app, List.map_append]
theorem beq_B {f : Bool → Nat} (hf : f false ≠ f true) (a b : List Bool) : (enc f a == enc f b) = (a == b) := by
  unfold enc
  rw [S_beq, map_beq hf]
theorem jn_nil : ∀ ps : List (List Nat), jnL [] ps = ps.flatten
  | [] => rfl
  | [p] => by simp [jnL]
  | p :: q :: r => by
    have h := jn_nil (q :: r)
    simp only [jnL, List.append_nil, h, List.flatten_cons]
theorem flat_one {α : Type} (l : List α) : (l.map fun c => [c]).flatten = l := by
  induction l with
  | nil => rfl
  | cons a r ih => simp [ih]
theorem empty_S : Str.ofString "" = S [] := by decide +kernel
theorem rev_S (l : List Nat) : revS (S l) = S l.reverse := by
  unfold revS
  have e : ((rangeKs 1 (S l).length).map fun k => Txt.item (S l) (-k)) = (l.reverse.map fun c => [c]).map S := by
    rw [List.map_map]
    apply List.ext_getElem
    · simp [rangeKs_length, S_len]
    · intro i h1 h2
      simp only [List.length_map, List.length_reverse] at h2
      simp only [List.getElem_map, Function.comp]
      have hk : (rangeKs 1 (S l).length)[i]'(by simpa using h1) = 1 + (i : Int) := by simp [rangeKs]
      rw [hk]
      unfold Txt.item Txt.charAt
      rw [PySem.seqIndex_neg (by omega) (by rw [S_len]; omega)]
      show (⟨#[((S l).cps[(-(1 + (i : Int)) + ((S l).length : Int)).toNat]?).getD 0]⟩ : Str) = S [l.reverse[i]'(by simpa using h2)]
      have e2 : (-(1 + (i : Int)) + ((S l).length : Int)).toNat = l.length - 1 - i := by rw [S_len]; omega
      rw [e2, List.getElem_reverse]
      have e3 : (S l).cps[l.length - 1 - i]? = some (l[l.length - 1 - i]'(by omega)) := by
        show l.toArray[l.length - 1 - i]? = _
        rw [List.getElem?_toArray, List.getElem?_eq_getElem]
      rw [e3]
      rfl
  rw [e, empty_S, join_S, jn_nil, flat_one]
theorem rev_B (f : Bool → Nat) (l : List Bool) : revS (enc f l) = enc f l.reverse := by
  unfold enc
  rw [rev_S, List.map_reverse]
def sufB (a w : List Bool) : Bool := emBL [] [] a w
theorem em_suf {f : Bool → Nat} (hf : f false ≠ f true) (h46 : ∀ b, f b ≠ 46) (a w : List Bool) : emS (Str.ofString "..." ++ enc f a) (enc f w) = sufB a w := by
  have h := emS_J hf h46 [] [] a w
  have e : Txt.join (Str.ofString "...") (([] :: ([] ++ [a])).map (enc f)) = Str.ofString "..." ++ enc f a := by
    have e1 : ([] :: ([] ++ [a])).map (enc f) = [[], a.map f].map S := rfl
    rw [e1, dots_S, join_S]
    unfold enc
    rw [S_app]
    rfl
  rw [e] at h
  exact h
theorem em_two {f : Bool → Nat} (hf : f false ≠ f true) (h46 : ∀ b, f b ≠ 46) (a b w : List Bool) : emS (enc f a ++ Str.ofString "..." ++ enc f b) (enc f w) = emBL a [] b w := by
  have h := emS_J hf h46 a [] b w
  have e : Txt.join (Str.ofString "...") ((a :: ([] ++ [b])).map (enc f)) = enc f a ++ Str.ofString "..." ++ enc f b := by
    have e1 : (a :: ([] ++ [b])).map (enc f) = [a.map f, b.map f].map S := rfl
    rw [e1, dots_S, join_S]
    unfold enc
    rw [S_app, S_app]
    rfl
  rw [e] at h
  exact h
theorem em_one {f : Bool → Nat} (hf : f false ≠ f true) (h46 : ∀ b, f b ≠ 46) (a w : List Bool) : emS (enc f a) (enc f w) = (a == w) := by
  have h1 : (occurrences (enc f a) (Str.ofString "...") 0 (enc f a).length 1).isEmpty = true := by
    cases h : (occurrences (enc f a) (Str.ofString "...") 0 (enc f a).length 1).isEmpty with
    | true => rfl
    | false =>
      obtain ⟨i, hi, hs⟩ := (found_iff (enc f a) (Str.ofString "...")).mp (by rw [h]; rfl)
      rw [dots_S] at hi hs
      have h3 := at_get (x := a.map f) (c := 46) (d := [46, 46]) (hi := (enc f a).length) (k := i) ⟨hi, hs⟩
      obtain ⟨b, _, e⟩ := List.mem_map.mp (List.mem_of_getElem? h3)
      exact absurd e (h46 b)
  rw [← emS_no' h1, beq_B hf]
def emR (n : Nat) (p w : List Bool) : Bool := if n = 1 then p == w else emBL p (List.replicate (n - 2) p) p w
theorem em_rep {f : Bool → Nat} (hf : f false ≠ f true) (h46 : ∀ b, f b ≠ 46) {n : Nat} (hn : 1 ≤ n) (p w : List Bool) : emS (Txt.join (Str.ofString "...") (List.replicate n (enc f p))) (enc f w) = emR n p w := by
  unfold emR
  by_cases h : n = 1
  · subst h
    rw [if_pos rfl]
    exact em_one hf h46 p w
  · rw [if_neg h, ← emS_J hf h46]
    have e : List.replicate n (enc f p) = (p :: (List.replicate (n - 2) p ++ [p])).map (enc f) := by
      obtain ⟨k, rfl⟩ : ∃ k, n = k + 2 := ⟨n - 2, by omega⟩
      have e2 : k + 2 - 2 = k := rfl
      rw [e2, ← List.replicate_succ', ← List.replicate_succ, List.map_replicate]
    rw [e]
def clB (back t : List Bool) : Nat → List Bool
  | 0 => t
  | k + 1 => if sufB (back.take (k + 1)) t then t ++ back.drop (k + 1) else clB back t k
def closedB (t : List Bool) : List Bool := clB t.reverse t t.length
theorem clLoop_B {f : Bool → Nat} (hf : f false ≠ f true) (h46 : ∀ b, f b ≠ 46) (back t : List Bool) : ∀ k, k ≤ back.length → clLoop (enc f back) (enc f t) k = enc f (clB back t k)
  | 0, _ => rfl
  | k + 1, h => by
    unfold clLoop clB
    have e : ((k : Int) + 1).toNat = k + 1 := by omega
    rw [take_B f back (by omega) (by omega), drop_B f back (by omega) (by omega), e, em_suf hf h46]
    cases sufB (back.take (k + 1)) t with
    | true => simp only [if_true]; exact app_B f _ _
    | false => simp only [Bool.false_eq_true, if_false]; exact clLoop_B hf h46 back t k (by omega)
theorem closed_B {f : Bool → Nat} (hf : f false ≠ f true) (h46 : ∀ b, f b ≠ 46) (t : List Bool) : closedS (enc f t) = enc f (closedB t) := by
  unfold closedS closedB
  rw [rev_B, enc_len, clLoop_B hf h46 _ _ _ (by simp)]
end Mine
end
section
open PySem PySem.W PyProof.Rows PySem.Builtin PySem.Builtin.Str PySem.StrLaws
set_option maxRecDepth 100000
namespace Mine
theorem rep_fold (c : Nat) : ∀ (n : Nat) (acc : Array Nat), (List.replicate n (#[c] : Array Nat)).foldl (· ++ ·) acc = acc ++ (List.replicate n c).toArray
  | 0, acc => by simp
  | n + 1, acc => by
    rw [List.replicate_succ, List.foldl_cons, rep_fold c n, List.replicate_succ]
    apply Array.toList_inj.mp
    simp
theorem mul_S (c : Nat) (n : Int) : Txt.mul (S [c]) n = S (List.replicate n.toNat c) := by
  unfold Txt.mul
  by_cases h : n < 1
  · rw [if_pos h]
    have e : n.toNat = 0 := by omega
    rw [e]; rfl
  · rw [if_neg h]
    have hl : (S [c]).length = 1 := rfl
    by_cases h1 : n = 1
    · subst h1; rfl
    · rw [if_neg (by simp [hl, h1])]
      show (⟨(List.replicate n.toNat (#[c] : Array Nat)).foldl (· ++ ·) #[]⟩ : Str) = _
      rw [rep_fold]
      simp [S]
theorem mul_B (f : Bool → Nat) (b : Bool) (n : Int) : Txt.mul (enc f [b]) n = enc f (List.replicate n.toNat b) := by
  unfold enc
  rw [List.map_replicate]
  exact mul_S _ _
def jnB (d : List Bool) : List (List Bool) → List Bool
  | [] => []
  | [p] => p
  | p :: q :: r => p ++ d ++ jnB d (q :: r)
theorem jnB_map (f : Bool → Nat) (d : List Bool) : ∀ ps : List (List Bool), jnL (d.map f) (ps.map fun p => p.map f) = (jnB d ps).map f
  | [] => rfl
  | [p] => rfl
  | p :: q :: r => by
    have h := jnB_map f d (q :: r)
    simp only [List.map_cons] at h
    simp only [List.map_cons, jnL, jnB, h, List.map_append]
theorem joinB_B (f : Bool → Nat) (d : List Bool) (ps : List (List Bool)) : Txt.join (enc f d) (ps.map (enc f)) = enc f (jnB d ps) := by
  have e : ps.map (enc f) = (ps.map fun p => p.map f).map S := by rw [List.map_map]; rfl
  unfold enc at e ⊢
  rw [e, join_S, jnB_map]
def mailL (w : List Bool) (kb : Bool) (eL tL : List Nat) : List Nat := [46] ++ (w.map fun b => if b == kb then [46] else eL ++ [46]).flatten ++ eL ++ tL
theorem dot_S : Str.ofString "." = S [46] := by decide +kernel
theorem crlf_S : Str.ofString "\r\n" = S [13, 10] := by decide +kernel
theorem one_B {f : Bool → Nat} (hf : f false ≠ f true) (b k : Bool) : (one (f b) == enc f [k]) = (b == k) := by
  have h := beq_B hf [b] [k]
  have e : enc f [b] = one (f b) := rfl
  rw [e] at h
  rw [h]
  cases b <;> cases k <;> rfl
theorem mail_B {f : Bool → Nat} (hf : f false ≠ f true) (w : List Bool) (kb : Bool) (eL tL : List Nat) : mailS (enc f w) (enc f [kb]) (S eL) (S tL) = S (mailL w kb eL tL) := by
  unfold mailS signs
  have e : ((enc f w).cps.toList.map fun c => if one c == enc f [kb] then Str.ofString "." else S eL ++ Str.ofString ".") = (w.map fun b => if b == kb then [46] else eL ++ [46]).map S := by
    show ((w.map f).map _) = _
    rw [List.map_map, List.map_map]
    apply List.map_congr_left
    intro b _
    simp only [Function.comp, one_B hf, dot_S, S_app]
    cases b == kb <;> rfl
  rw [e, empty_S, join_S, jn_nil, dot_S, S_app, S_app, S_app]
  rfl
theorem qd_S (l : List Nat) : qdT (S l) = S (dt true (crlf l)) := rfl
def linesN (kb : Bool) : Nat → List Bool → List Nat
  | cur, [] => [cur]
  | cur, b :: r => if b == kb then linesN kb (cur + 1) r else cur :: linesN kb 1 r
def tX : List Nat := [13, 10, 46, 46, 97, 46, 13, 10, 97, 46]
structure MailOk (w : List Bool) (kb : Bool) (eL tL : List Nat) (w' : List Bool) : Prop where
  a : dt true (crlf (mailL w kb eL tL)) = mailL w' kb [13, 10] tX
  b : mailL w' kb [13, 10] tX = jnL [13, 10] ((linesN kb 1 w').map (fun n => List.replicate n 46) ++ [[], [46, 46, 97, 46], [97, 46]])
  c : jnB [!kb] ((linesN kb 1 w').map (fun n => List.replicate (n - 1) kb)) = w'
  d : (mailL w kb eL tL).length ≤ 1000 ∧ (mailL w' kb [13, 10] tX).length ≤ 1000 ∧ ((linesN kb 1 w').map (fun n => n - 1)).sum + (linesN kb 1 w').length ≤ 10000 ∧ w.length ≤ 40 ∧ w'.length ≤ 40 ∧ eL.length ≤ 2 ∧ tL.length ≤ 20
def mailOk (w : List Bool) (kb : Bool) (eL tL : List Nat) (w' : List Bool) : Bool :=
  dt true (crlf (mailL w kb eL tL)) == mailL w' kb [13, 10] tX
  && mailL w' kb [13, 10] tX == jnL [13, 10] ((linesN kb 1 w').map (fun n => List.replicate n 46) ++ [[], [46, 46, 97, 46], [97, 46]])
  && jnB [!kb] ((linesN kb 1 w').map (fun n => List.replicate (n - 1) kb)) == w'
  && decide ((mailL w kb eL tL).length ≤ 1000) && decide ((mailL w' kb [13, 10] tX).length ≤ 1000) && decide (((linesN kb 1 w').map (fun n => n - 1)).sum + (linesN kb 1 w').length ≤ 10000)
  && decide (w.length ≤ 40) && decide (w'.length ≤ 40) && decide (eL.length ≤ 2) && decide (tL.length ≤ 20)
theorem MailOk.of {w : List Bool} {kb : Bool} {eL tL : List Nat} {w' : List Bool} (h : mailOk w kb eL tL w' = true) : MailOk w kb eL tL w' := by
  unfold mailOk at h
  simp only [Bool.and_eq_true, decide_eq_true_eq, beq_iff_eq] at h
  obtain ⟨⟨⟨⟨⟨⟨⟨⟨⟨h1, h2⟩, h3⟩, h4⟩, h5⟩, h6⟩, h7⟩, h8⟩, h9⟩, h10⟩ := h
  exact ⟨h1, h2, h3, h4, h5, h6, h7, h8, h9, h10⟩
theorem turnR_B {f : Bool → Nat} (hf : f false ≠ f true) {w : List Bool} {kb : Bool} {eL tL : List Nat} {w' : List Bool} (h : MailOk w kb eL tL w') : TurnR (enc f w) (enc f [kb]) (enc f [!kb]) (S eL) (S tL) (enc f w') := by
  obtain ⟨h1, h2, h3, h4, h5, h6, h7, h8, h9, h10⟩ := h
  have hq : qdT (mailS (enc f w) (enc f [kb]) (S eL) (S tL)) = S (jnL [13, 10] ((linesN kb 1 w').map (fun n => List.replicate n 46) ++ [[], [46, 46, 97, 46], [97, 46]])) := by
    rw [mail_B hf, qd_S, h1, h2]
  have hfree : ∀ p ∈ (linesN kb 1 w').map (fun n => List.replicate n 46) ++ [[], [46, 46, 97, 46], [97, 46]], 13 ∉ p := by
    intro p hp
    rcases List.mem_append.mp hp with hp | hp
    · obtain ⟨n, _, rfl⟩ := List.mem_map.mp hp
      intro hm
      have := List.eq_of_mem_replicate hm
      omega
    · simp only [List.mem_cons, List.not_mem_nil, or_false] at hp
      rcases hp with rfl | rfl | rfl <;> decide
  have hs := (split_join 13 [10] ((linesN kb 1 w').map (fun n => List.replicate n 46) ++ [[], [46, 46, 97, 46], [97, 46]]) (by simp) hfree (by decide +kernel)).1
  have hc : cutP (qdT (mailS (enc f w) (enc f [kb]) (S eL) (S tL))) = (linesN kb 1 w').map (fun n => S (List.replicate n 46)) := by
    unfold cutP
    rw [hq, crlf_S, hs, List.length_map, List.length_append, List.map_append]
    have e3 : ((linesN kb 1 w').map (fun n => List.replicate n 46)).length + ([[], [46, 46, 97, 46], [97, 46]] : List (List Nat)).length - 3 = (((linesN kb 1 w').map (fun n => List.replicate n 46)).map S).length := by
      simp
    rw [e3, List.take_left', List.map_map]
    · rfl
    · rfl
  have hm : ((cutP (qdT (mailS (enc f w) (enc f [kb]) (S eL) (S tL)))).map fun p => Txt.mul (enc f [kb]) ((p.length : Int) - 1)) = ((linesN kb 1 w').map (fun n => List.replicate (n - 1) kb)).map (enc f) := by
    rw [hc, List.map_map, List.map_map]
    apply List.map_congr_left
    intro n _
    simp only [Function.comp]
    rw [mul_B, S_len, List.length_replicate]
    congr 2
    omega
  refine ⟨by rw [enc_len]; omega, by rw [enc_len]; rfl, by rw [enc_len]; rfl, by rw [S_len]; exact h9, by rw [S_len]; exact h10, by rw [mail_B hf, S_len]; exact h4, ?_, ?_, ?_, by rw [enc_len]; omega, ?_⟩
  · rw [mail_B hf, qd_S, h1, S_len]; exact h5
  · rw [hm, List.length_map, List.length_map, List.map_map, List.map_map]
    have e : ((linesN kb 1 w').map (((fun (x : Str) => x.length) ∘ enc f) ∘ fun n => List.replicate (n - 1) kb)) = (linesN kb 1 w').map (fun n => n - 1) := by
      apply List.map_congr_left
      intro n _
      simp only [Function.comp]
      rw [enc_len, List.length_replicate]
    rw [e]; exact h6
  · unfold nextR
    rw [hm, joinB_B, h3]
  · rw [mail_B hf, qd_S, h1, crlf_S]
    have e : Str.ofString "\r\n..a.\r\na." = S tX := by decide +kernel
    rw [e, mail_B hf]
end Mine
end
section
open PySem PySem.W PyProof.Rows PySem.Builtin PySem.Builtin.Str PySem.StrLaws
set_option maxRecDepth 100000
namespace Mine
def bitOf (x : Int) : Bool := !decide (x.fmod 2 = 0)
def bitsOf (ns : List Int) : List Bool := ns.map bitOf
def stepI (a : Int × Int) (b : Bool) : Int × Int := if b then (a.1 + a.2, a.2) else (a.1, a.2 + a.1)
def nfI (bits : List Bool) (i : Nat) : Int × Int := (bits.take i).foldl stepI (1, 1)
theorem nf_B (ns : List Int) (i : Nat) : nf ns i = nfI (bitsOf ns) i := by
  unfold nf nfI bitsOf
  rw [← List.map_take, List.foldl_map]
  congr 1
  funext a x
  unfold nfStep stepI bitOf
  by_cases h : x.fmod 2 = 0 <;> simp [h]
def dStepB (near far : Int) (a : List Int × Int) (b : Bool) : List Int × Int := (a.1 ++ [a.2], a.2 + if b then far else near)
def stopsB (near far : Int) (p r : List Bool) : List Int := (r.foldl (dStepB near far) ([], (p.length : Int))).1 ++ [(r.foldl (dStepB near far) ([], (p.length : Int))).2]
theorem stops_B {f : Bool → Nat} (hf : f false ≠ f true) (near far : Int) (p r : List Bool) : stopsOf (enc f [false]) near far (enc f p) (enc f r) = stopsB near far p r := by
  unfold stopsOf stopsB dStops
  have e : (enc f r).cps.toList = r.map f := rfl
  rw [e, List.foldl_map, enc_len]
  have e2 : (fun (a : List Int × Int) (b : Bool) => dStep (enc f [false]) near far a (f b)) = dStepB near far := by
    funext a b
    unfold dStep dStepB
    rw [one_B hf]
    cases b <;> rfl
  rw [e2]
def turnOk (W p r : List Bool) (near far : Int) : Bool :=
  decide ((p.length : Int) = near + far - 2)
  && ((rangeKs (p.length : Int) ((W.length : Int) + 1 - (p.length : Int)).toNat).filter (fun i => sufB p (W.take i.toNat))) == stopsB near far p r
  && decide (1 ≤ (lay (p.length : Int) (stopsB near far p r)).1.toNat)
  && emR (lay (p.length : Int) (stopsB near far p r)).1.toNat p W == (decide ((lay (p.length : Int) (stopsB near far p r)).1 > 1) || p == W)
  && emR ((lay (p.length : Int) (stopsB near far p r)).1 + 1).toNat p W == false
theorem turn_B {f : Bool → Nat} (hf : f false ≠ f true) (h46 : ∀ b, f b ≠ 46) {W p r : List Bool} {near far : Int} (h : turnOk W p r near far = true) : Turn13 (enc f W) (enc f p) (enc f r) (enc f [false]) near far := by
  unfold turnOk at h
  simp only [Bool.and_eq_true, decide_eq_true_eq, beq_iff_eq] at h
  obtain ⟨⟨⟨⟨h1, h2⟩, h3⟩, h4⟩, h5⟩ := h
  refine ⟨by rw [enc_len]; exact h1, ?_, ?_, ?_⟩
  · rw [stops_B hf, enc_len, enc_len, ← h2]
    apply List.filter_congr
    intro i hi
    have hb := mem_rangeKs hi
    rw [take_B f W (by omega) (by omega), em_suf hf h46]
  · rw [stops_B hf, enc_len, em_rep hf h46 h3, h4, beq_B hf]
  · rw [stops_B hf, enc_len, em_rep hf h46 (by omega), h5]
def finOk (W : List Bool) (fr : List (List Bool)) : Bool := (List.range (W.length + 1)).all fun n => emBL (W.take n) [] (W.take n) W == (fr.any (fun x => x.length == n) && decide (2 * n ≤ W.length))
theorem fin_B {f : Bool → Nat} (hf : f false ≠ f true) (h46 : ∀ b, f b ≠ 46) {W : List Bool} {fr : List (List Bool)} (h : finOk W fr = true) (k : Int) (h0 : 0 ≤ k) (h1 : k ≤ (enc f W).length) :
    emS (Txt.slice (enc f W) none (some k) ++ Str.ofString "..." ++ Txt.slice (enc f W) none (some k)) (enc f W) = (((fr.map (enc f)).map fun x => (x.length : Int)).any (fun x => x == k) && decide (2 * k ≤ ((enc f W).length : Int))) := by
  rw [enc_len] at h1
  rw [take_B f W h0 h1, em_two hf h46, enc_len]
  obtain ⟨n, rfl⟩ : ∃ n : Nat, k = n := ⟨k.toNat, by omega⟩
  have h2 := List.all_eq_true.mp h n (List.mem_range.mpr (by omega))
  rw [Int.toNat_natCast, eq_of_beq h2, List.map_map, List.any_map]
  congr 1
  · congr 1
    funext x
    show (x.length == n) = (((enc f x).length : Int) == (n : Int))
    rw [enc_len]
    by_cases e : x.length = n
    · simp [e]
    · have : (x.length : Int) ≠ (n : Int) := by omega
      rw [beq_eq_false_iff_ne.mpr e, beq_eq_false_iff_ne.mpr this]
  · by_cases e : 2 * n ≤ W.length
    · simp only [e, decide_true]; symm; simp only [decide_eq_true_eq]; omega
    · simp only [e, decide_false]; symm; simp only [decide_eq_false_iff_not]; omega
def eN (j : Nat) : List Nat := if j = 0 then [10] else if j = 1 then [13] else [13, 10]
def tN (j : Nat) : List Nat := if j = 0 then [13, 46, 97, 46, 13, 10, 97, 46] else if j = 1 then [13, 10, 46, 97, 46, 10, 97, 46] else [10, 46, 97, 46, 13, 97, 46]
theorem end_S {j : Int} (h0 : 0 ≤ j) (h3 : j < 3) : endS j = S (eN j.toNat) ∧ tailS j = S (tN j.toNat) := by
  have hj : j = 0 ∨ j = 1 ∨ j = 2 := by omega
  rcases hj with rfl | rfl | rfl <;> decide +kernel
theorem symOf_lt {x : Int} (h : 0 ≤ x) : symOf x < 256 ↔ bitOf x = false := by
  unfold symOf bitOf
  by_cases e : x.fmod 2 = 0
  · have := Int.fmod_nonneg_of_pos (x.fdiv 2) (b := 255) (by omega)
    simp only [e, if_true, decide_true, Bool.not_true, iff_true]
    omega
  · have := Int.fdiv_nonneg h (show (0 : Int) ≤ 2 by omega)
    simp only [e, if_false, decide_false, Bool.not_false, Bool.true_eq_false, iff_false]
    omega
def chk (bits : List Bool) (fr rs : List (List Bool)) : Bool :=
  fr.length == 7 && rs.length == 7 && fr.getD 0 [] == [] && rs.getD 0 [] == [] && fr.all (fun x => decide (x.length ≤ 100)) && rs.all (fun x => decide (x.length ≤ 40)) && rs.getD 6 [] == fr.getD 6 []
  && (List.range 6).all (fun i => closedB (fr.getD i [] ++ [bits.getD i false]) == fr.getD (i + 1) [])
  && (List.range 6).all (fun i => (List.range 3).all fun j => mailOk (rs.getD i []) (bits.getD (5 - i) false) (eN j) (tN j) (rs.getD (i + 1) []))
  && (List.range 6).all (fun i => turnOk (fr.getD 6 []) (fr.getD (i + 1) []) (rs.getD (5 - i) []) (nfI bits (i + 1)).1 (nfI bits (i + 1)).2)
  && (List.range 6).all (fun i => decide ((nfI bits i).1.natAbs ≤ 1000) && decide ((nfI bits i).2.natAbs ≤ 1000))
  && finOk (fr.getD 6 []) fr
theorem getD_enc (f : Bool → Nat) (l : List (List Bool)) (i : Nat) : (l.map (enc f)).getD i Str.empty = enc f (l.getD i []) := by
  rw [List.getD_eq_getElem?_getD, List.getD_eq_getElem?_getD, List.getElem?_map]
  cases l[i]? <;> rfl
theorem all_range {n : Nat} {p : Nat → Bool} (h : (List.range n).all p = true) {i : Nat} (hi : i < n) : p i = true := List.all_eq_true.mp h i (List.mem_range.mpr hi)
theorem body_of_chk {f : Bool → Nat} (hf : f false ≠ f true) (h46 : ∀ b, f b ≠ 46) {ns : List Int} (h6 : ns.length = 6) (hk : ∀ k ∈ ns, 0 ≤ k ∧ k < 1000000) {fr rs : List (List Bool)} (h : chk (bitsOf ns) fr rs = true) (tot : Int) :
    BodyOk (enc f [false]) (enc f [true]) tot ns (ns.map symOf) (fr.map (enc f)) (rs.map (enc f)) := by
  unfold chk at h
  simp only [Bool.and_eq_true] at h
  obtain ⟨⟨⟨⟨⟨⟨⟨⟨⟨⟨⟨c1, c2⟩, c3⟩, c4⟩, c5⟩, c6⟩, c7⟩, c8⟩, c9⟩, c10⟩, c11⟩, c12⟩ := h
  have c1 := eq_of_beq c1
  have c2 := eq_of_beq c2
  have c3 := eq_of_beq c3
  have c4 := eq_of_beq c4
  have c7 := eq_of_beq c7
  have hbit : ∀ i, i < 6 → 0 ≤ ns.getD i 0 ∧ (ns.map symOf).getD i 0 = symOf (ns.getD i 0) ∧ (bitsOf ns).getD i false = bitOf (ns.getD i 0) := by
    intro i hi
    unfold bitsOf
    rw [List.getD_eq_getElem?_getD, List.getD_eq_getElem?_getD, List.getD_eq_getElem?_getD, List.getElem?_map, List.getElem?_map, List.getElem?_eq_getElem (by omega)]
    exact ⟨(hk _ (List.getElem_mem _)).1, rfl, rfl⟩
  refine ⟨?_, ?_, by simpa using c1, by simpa using c2, ?_, ?_, ?_, ?_, ?_⟩
  · rw [getD_enc, c4, empty_S]; rfl
  · rw [getD_enc, c3, empty_S]; rfl
  · intro x hx
    obtain ⟨y, hy, rfl⟩ := List.mem_map.mp hx
    rw [enc_len]
    simpa using List.all_eq_true.mp c5 y hy
  · intro x hx
    obtain ⟨y, hy, rfl⟩ := List.mem_map.mp hx
    rw [enc_len]
    simpa using List.all_eq_true.mp c6 y hy
  · intro i hi
    obtain ⟨b1, b2, b3⟩ := hbit (5 - i) (by omega)
    have hm := all_range (all_range c9 hi) (i := ((tot + (i : Int)).fmod 3).toNat) (by have := fmod3 (tot + (i : Int)); omega)
    have hj := fmod3 (tot + (i : Int))
    obtain ⟨e1, e2⟩ := end_S hj.1 hj.2
    have ht := turnR_B hf (MailOk.of hm)
    rw [getD_enc, getD_enc, e1, e2, b2]
    rw [b3] at ht
    by_cases hb : bitOf (ns.getD (5 - i) 0) = false
    · have hl := (symOf_lt b1).mpr hb
      rw [if_pos hl, if_pos hl]
      rw [hb] at ht
      exact ht
    · have hl : ¬ symOf (ns.getD (5 - i) 0) < 256 := fun q => hb ((symOf_lt b1).mp q)
      rw [if_neg hl, if_neg hl]
      have hb2 : bitOf (ns.getD (5 - i) 0) = true := by simpa using hb
      rw [hb2] at ht
      exact ht
  · intro i hi
    obtain ⟨b1, b2, b3⟩ := hbit i hi
    have hm := eq_of_beq (all_range c8 hi)
    rw [getD_enc, getD_enc, b2, ← hm, ← closed_B hf h46, ← app_B, b3]
    congr 2
    by_cases hb : bitOf (ns.getD i 0) = false
    · have hl := (symOf_lt b1).mpr hb
      rw [if_neg (by omega), hb]
    · have hl : ¬ symOf (ns.getD i 0) < 256 := fun q => hb ((symOf_lt b1).mp q)
      have hb2 : bitOf (ns.getD i 0) = true := by simpa using hb
      rw [if_pos (by omega), hb2]
  · refine ⟨rfl, ?_, ?_, ?_, ?_⟩
    · rw [getD_enc, getD_enc, c7]
    · intro i hi
      rw [getD_enc, getD_enc, getD_enc, nf_B]
      exact turn_B hf h46 (all_range c10 hi)
    · intro i hi
      have hm := all_range c11 hi
      rw [nf_B]
      simpa using hm
    · intro k h0 h1
      rw [getD_enc] at h1 ⊢
      exact fin_B hf h46 c12 k h0 h1
end Mine
end
section
open PySem PySem.W PyProof.Rows PySem.Builtin PySem.Builtin.Str PySem.StrLaws
set_option maxRecDepth 100000
namespace Mine
abbrev T : Bool := true
abbrev F : Bool := false
theorem ck000000 : chk [F, F, F, F, F, F] [[], [F], [F, F], [F, F, F], [F, F, F, F], [F, F, F, F, F], [F, F, F, F, F, F]] [[], [F], [F, F], [F, F, F], [F, F, F, F], [F, F, F, F, F], [F, F, F, F, F, F]] = true := by decide +kernel
theorem ck000001 : chk [F, F, F, F, F, T] [[], [F], [F, F], [F, F, F], [F, F, F, F], [F, F, F, F, F], [F, F, F, F, F, T, F, F, F, F, F]] [[], [T], [F, T, F], [F, F, T, F, F], [F, F, F, T, F, F, F], [F, F, F, F, T, F, F, F, F], [F, F, F, F, F, T, F, F, F, F, F]] = true := by decide +kernel
theorem ck000010 : chk [F, F, F, F, T, F] [[], [F], [F, F], [F, F, F], [F, F, F, F], [F, F, F, F, T, F, F, F, F], [F, F, F, F, T, F, F, F, F, F, T, F, F, F, F]] [[], [F], [T, F, T], [F, T, F, F, T, F], [F, F, T, F, F, F, T, F, F], [F, F, F, T, F, F, F, F, T, F, F, F], [F, F, F, F, T, F, F, F, F, F, T, F, F, F, F]] = true := by decide +kernel
theorem ck000011 : chk [F, F, F, F, T, T] [[], [F], [F, F], [F, F, F], [F, F, F, F], [F, F, F, F, T, F, F, F, F], [F, F, F, F, T, F, F, F, F, T, F, F, F, F]] [[], [T], [T, T], [F, T, F, T, F], [F, F, T, F, F, T, F, F], [F, F, F, T, F, F, F, T, F, F, F], [F, F, F, F, T, F, F, F, F, T, F, F, F, F]] = true := by decide +kernel
theorem ck000100 : chk [F, F, F, T, F, F] [[], [F], [F, F], [F, F, F], [F, F, F, T, F, F, F], [F, F, F, T, F, F, F, F, T, F, F, F], [F, F, F, T, F, F, F, F, T, F, F, F, F, T, F, F, F]] [[], [F], [F, F], [T, F, T, F, T], [F, T, F, F, T, F, F, T, F], [F, F, T, F, F, F, T, F, F, F, T, F, F], [F, F, F, T, F, F, F, F, T, F, F, F, F, T, F, F, F]] = true := by decide +kernel
theorem ck000101 : chk [F, F, F, T, F, T] [[], [F], [F, F], [F, F, F], [F, F, F, T, F, F, F], [F, F, F, T, F, F, F, F, T, F, F, F], [F, F, F, T, F, F, F, F, T, F, F, F, T, F, F, F, F, T, F, F, F]] [[], [T], [F, T, F], [T, F, T, T, F, T], [F, T, F, F, T, F, T, F, F, T, F], [F, F, T, F, F, F, T, F, F, T, F, F, F, T, F, F], [F, F, F, T, F, F, F, F, T, F, F, F, T, F, F, F, F, T, F, F, F]] = true := by decide +kernel
theorem ck000110 : chk [F, F, F, T, T, F] [[], [F], [F, F], [F, F, F], [F, F, F, T, F, F, F], [F, F, F, T, F, F, F, T, F, F, F], [F, F, F, T, F, F, F, T, F, F, F, F, T, F, F, F, T, F, F, F]] [[], [F], [T, F, T], [T, T, F, T, T], [F, T, F, T, F, F, T, F, T, F], [F, F, T, F, F, T, F, F, F, T, F, F, T, F, F], [F, F, F, T, F, F, F, T, F, F, F, F, T, F, F, F, T, F, F, F]] = true := by decide +kernel
theorem ck000111 : chk [F, F, F, T, T, T] [[], [F], [F, F], [F, F, F], [F, F, F, T, F, F, F], [F, F, F, T, F, F, F, T, F, F, F], [F, F, F, T, F, F, F, T, F, F, F, T, F, F, F]] [[], [T], [T, T], [T, T, T], [F, T, F, T, F, T, F], [F, F, T, F, F, T, F, F, T, F, F], [F, F, F, T, F, F, F, T, F, F, F, T, F, F, F]] = true := by decide +kernel
theorem ck001000 : chk [F, F, T, F, F, F] [[], [F], [F, F], [F, F, T, F, F], [F, F, T, F, F, F, T, F, F], [F, F, T, F, F, F, T, F, F, F, T, F, F], [F, F, T, F, F, F, T, F, F, F, T, F, F, F, T, F, F]] [[], [F], [F, F], [F, F, F], [T, F, T, F, T, F, T], [F, T, F, F, T, F, F, T, F, F, T, F], [F, F, T, F, F, F, T, F, F, F, T, F, F, F, T, F, F]] = true := by decide +kernel
theorem ck001001 : chk [F, F, T, F, F, T] [[], [F], [F, F], [F, F, T, F, F], [F, F, T, F, F, F, T, F, F], [F, F, T, F, F, F, T, F, F, F, T, F, F], [F, F, T, F, F, F, T, F, F, F, T, F, F, T, F, F, F, T, F, F, F, T, F, F]] [[], [T], [F, T, F], [F, F, T, F, F], [T, F, T, F, T, T, F, T, F, T], [F, T, F, F, T, F, F, T, F, T, F, F, T, F, F, T, F], [F, F, T, F, F, F, T, F, F, F, T, F, F, T, F, F, F, T, F, F, F, T, F, F]] = true := by decide +kernel
theorem ck001010 : chk [F, F, T, F, T, F] [[], [F], [F, F], [F, F, T, F, F], [F, F, T, F, F, F, T, F, F], [F, F, T, F, F, F, T, F, F, T, F, F, F, T, F, F], [F, F, T, F, F, F, T, F, F, T, F, F, F, T, F, F, F, T, F, F, T, F, F, F, T, F, F]] [[], [F], [T, F, T], [F, T, F, F, T, F], [T, F, T, T, F, T, F, T, T, F, T], [F, T, F, F, T, F, T, F, F, T, F, F, T, F, T, F, F, T, F], [F, F, T, F, F, F, T, F, F, T, F, F, F, T, F, F, F, T, F, F, T, F, F, F, T, F, F]] = true := by decide +kernel
theorem ck001011 : chk [F, F, T, F, T, T] [[], [F], [F, F], [F, F, T, F, F], [F, F, T, F, F, F, T, F, F], [F, F, T, F, F, F, T, F, F, T, F, F, F, T, F, F], [F, F, T, F, F, F, T, F, F, T, F, F, F, T, F, F, T, F, F, F, T, F, F]] [[], [T], [T, T], [F, T, F, T, F], [T, F, T, T, F, T, T, F, T], [F, T, F, F, T, F, T, F, F, T, F, T, F, F, T, F], [F, F, T, F, F, F, T, F, F, T, F, F, F, T, F, F, T, F, F, F, T, F, F]] = true := by decide +kernel
theorem ck001100 : chk [F, F, T, T, F, F] [[], [F], [F, F], [F, F, T, F, F], [F, F, T, F, F, T, F, F], [F, F, T, F, F, T, F, F, F, T, F, F, T, F, F], [F, F, T, F, F, T, F, F, F, T, F, F, T, F, F, F, T, F, F, T, F, F]] [[], [F], [F, F], [T, F, T, F, T], [T, T, F, T, T, F, T, T], [F, T, F, T, F, F, T, F, T, F, F, T, F, T, F], [F, F, T, F, F, T, F, F, F, T, F, F, T, F, F, F, T, F, F, T, F, F]] = true := by decide +kernel
theorem ck001101 : chk [F, F, T, T, F, T] [[], [F], [F, F], [F, F, T, F, F], [F, F, T, F, F, T, F, F], [F, F, T, F, F, T, F, F, F, T, F, F, T, F, F], [F, F, T, F, F, T, F, F, F, T, F, F, T, F, F, T, F, F, F, T, F, F, T, F, F]] [[], [T], [F, T, F], [T, F, T, T, F, T], [T, T, F, T, T, T, F, T, T], [F, T, F, T, F, F, T, F, T, F, T, F, F, T, F, T, F], [F, F, T, F, F, T, F, F, F, T, F, F, T, F, F, T, F, F, F, T, F, F, T, F, F]] = true := by decide +kernel
theorem ck001110 : chk [F, F, T, T, T, F] [[], [F], [F, F], [F, F, T, F, F], [F, F, T, F, F, T, F, F], [F, F, T, F, F, T, F, F, T, F, F], [F, F, T, F, F, T, F, F, T, F, F, F, T, F, F, T, F, F, T, F, F]] [[], [F], [T, F, T], [T, T, F, T, T], [T, T, T, F, T, T, T], [F, T, F, T, F, T, F, F, T, F, T, F, T, F], [F, F, T, F, F, T, F, F, T, F, F, F, T, F, F, T, F, F, T, F, F]] = true := by decide +kernel
theorem ck001111 : chk [F, F, T, T, T, T] [[], [F], [F, F], [F, F, T, F, F], [F, F, T, F, F, T, F, F], [F, F, T, F, F, T, F, F, T, F, F], [F, F, T, F, F, T, F, F, T, F, F, T, F, F]] [[], [T], [T, T], [T, T, T], [T, T, T, T], [F, T, F, T, F, T, F, T, F], [F, F, T, F, F, T, F, F, T, F, F, T, F, F]] = true := by decide +kernel
theorem ck010000 : chk [F, T, F, F, F, F] [[], [F], [F, T, F], [F, T, F, F, T, F], [F, T, F, F, T, F, F, T, F], [F, T, F, F, T, F, F, T, F, F, T, F], [F, T, F, F, T, F, F, T, F, F, T, F, F, T, F]] [[], [F], [F, F], [F, F, F], [F, F, F, F], [T, F, T, F, T, F, T, F, T], [F, T, F, F, T, F, F, T, F, F, T, F, F, T, F]] = true := by decide +kernel
theorem ck010001 : chk [F, T, F, F, F, T] [[], [F], [F, T, F], [F, T, F, F, T, F], [F, T, F, F, T, F, F, T, F], [F, T, F, F, T, F, F, T, F, F, T, F], [F, T, F, F, T, F, F, T, F, F, T, F, T, F, F, T, F, F, T, F, F, T, F]] [[], [T], [F, T, F], [F, F, T, F, F], [F, F, F, T, F, F, F], [T, F, T, F, T, F, T, T, F, T, F, T, F, T], [F, T, F, F, T, F, F, T, F, F, T, F, T, F, F, T, F, F, T, F, F, T, F]] = true := by decide +kernel
theorem ck010010 : chk [F, T, F, F, T, F] [[], [F], [F, T, F], [F, T, F, F, T, F], [F, T, F, F, T, F, F, T, F], [F, T, F, F, T, F, F, T, F, T, F, F, T, F, F, T, F], [F, T, F, F, T, F, F, T, F, T, F, F, T, F, F, T, F, F, T, F, T, F, F, T, F, F, T, F]] [[], [F], [T, F, T], [F, T, F, F, T, F], [F, F, T, F, F, F, T, F, F], [T, F, T, F, T, T, F, T, F, T, F, T, T, F, T, F, T], [F, T, F, F, T, F, F, T, F, T, F, F, T, F, F, T, F, F, T, F, T, F, F, T, F, F, T, F]] = true := by decide +kernel
theorem ck010011 : chk [F, T, F, F, T, T] [[], [F], [F, T, F], [F, T, F, F, T, F], [F, T, F, F, T, F, F, T, F], [F, T, F, F, T, F, F, T, F, T, F, F, T, F, F, T, F], [F, T, F, F, T, F, F, T, F, T, F, F, T, F, F, T, F, T, F, F, T, F, F, T, F]] [[], [T], [T, T], [F, T, F, T, F], [F, F, T, F, F, T, F, F], [T, F, T, F, T, T, F, T, F, T, T, F, T, F, T], [F, T, F, F, T, F, F, T, F, T, F, F, T, F, F, T, F, T, F, F, T, F, F, T, F]] = true := by decide +kernel
theorem ck010100 : chk [F, T, F, T, F, F] [[], [F], [F, T, F], [F, T, F, F, T, F], [F, T, F, F, T, F, T, F, F, T, F], [F, T, F, F, T, F, T, F, F, T, F, F, T, F, T, F, F, T, F], [F, T, F, F, T, F, T, F, F, T, F, F, T, F, T, F, F, T, F, F, T, F, T, F, F, T, F]] [[], [F], [F, F], [T, F, T, F, T], [F, T, F, F, T, F, F, T, F], [T, F, T, T, F, T, F, T, T, F, T, F, T, T, F, T], [F, T, F, F, T, F, T, F, F, T, F, F, T, F, T, F, F, T, F, F, T, F, T, F, F, T, F]] = true := by decide +kernel
theorem ck010101 : chk [F, T, F, T, F, T] [[], [F], [F, T, F], [F, T, F, F, T, F], [F, T, F, F, T, F, T, F, F, T, F], [F, T, F, F, T, F, T, F, F, T, F, F, T, F, T, F, F, T, F], [F, T, F, F, T, F, T, F, F, T, F, F, T, F, T, F, F, T, F, T, F, F, T, F, F, T, F, T, F, F, T, F]] [[], [T], [F, T, F], [T, F, T, T, F, T], [F, T, F, F, T, F, T, F, F, T, F], [T, F, T, T, F, T, F, T, T, F, T, T, F, T, F, T, T, F, T], [F, T, F, F, T, F, T, F, F, T, F, F, T, F, T, F, F, T, F, T, F, F, T, F, F, T, F, T, F, F, T, F]] = true := by decide +kernel
theorem ck010110 : chk [F, T, F, T, T, F] [[], [F], [F, T, F], [F, T, F, F, T, F], [F, T, F, F, T, F, T, F, F, T, F], [F, T, F, F, T, F, T, F, F, T, F, T, F, F, T, F], [F, T, F, F, T, F, T, F, F, T, F, T, F, F, T, F, F, T, F, T, F, F, T, F, T, F, F, T, F]] [[], [F], [T, F, T], [T, T, F, T, T], [F, T, F, T, F, F, T, F, T, F], [T, F, T, T, F, T, T, F, T, F, T, T, F, T, T, F, T], [F, T, F, F, T, F, T, F, F, T, F, T, F, F, T, F, F, T, F, T, F, F, T, F, T, F, F, T, F]] = true := by decide +kernel
theorem ck010111 : chk [F, T, F, T, T, T] [[], [F], [F, T, F], [F, T, F, F, T, F], [F, T, F, F, T, F, T, F, F, T, F], [F, T, F, F, T, F, T, F, F, T, F, T, F, F, T, F], [F, T, F, F, T, F, T, F, F, T, F, T, F, F, T, F, T, F, F, T, F]] [[], [T], [T, T], [T, T, T], [F, T, F, T, F, T, F], [T, F, T, T, F, T, T, F, T, T, F, T], [F, T, F, F, T, F, T, F, F, T, F, T, F, F, T, F, T, F, F, T, F]] = true := by decide +kernel
theorem ck011000 : chk [F, T, T, F, F, F] [[], [F], [F, T, F], [F, T, F, T, F], [F, T, F, T, F, F, T, F, T, F], [F, T, F, T, F, F, T, F, T, F, F, T, F, T, F], [F, T, F, T, F, F, T, F, T, F, F, T, F, T, F, F, T, F, T, F]] [[], [F], [F, F], [F, F, F], [T, F, T, F, T, F, T], [T, T, F, T, T, F, T, T, F, T, T], [F, T, F, T, F, F, T, F, T, F, F, T, F, T, F, F, T, F, T, F]] = true := by decide +kernel
theorem ck011001 : chk [F, T, T, F, F, T] [[], [F], [F, T, F], [F, T, F, T, F], [F, T, F, T, F, F, T, F, T, F], [F, T, F, T, F, F, T, F, T, F, F, T, F, T, F], [F, T, F, T, F, F, T, F, T, F, F, T, F, T, F, T, F, F, T, F, T, F, F, T, F, T, F]] [[], [T], [F, T, F], [F, F, T, F, F], [T, F, T, F, T, T, F, T, F, T], [T, T, F, T, T, F, T, T, T, F, T, T, F, T, T], [F, T, F, T, F, F, T, F, T, F, F, T, F, T, F, T, F, F, T, F, T, F, F, T, F, T, F]] = true := by decide +kernel
theorem ck011010 : chk [F, T, T, F, T, F] [[], [F], [F, T, F], [F, T, F, T, F], [F, T, F, T, F, F, T, F, T, F], [F, T, F, T, F, F, T, F, T, F, T, F, F, T, F, T, F], [F, T, F, T, F, F, T, F, T, F, T, F, F, T, F, T, F, F, T, F, T, F, T, F, F, T, F, T, F]] [[], [F], [T, F, T], [F, T, F, F, T, F], [T, F, T, T, F, T, F, T, T, F, T], [T, T, F, T, T, T, F, T, T, F, T, T, T, F, T, T], [F, T, F, T, F, F, T, F, T, F, T, F, F, T, F, T, F, F, T, F, T, F, T, F, F, T, F, T, F]] = true := by decide +kernel
theorem ck011011 : chk [F, T, T, F, T, T] [[], [F], [F, T, F], [F, T, F, T, F], [F, T, F, T, F, F, T, F, T, F], [F, T, F, T, F, F, T, F, T, F, T, F, F, T, F, T, F], [F, T, F, T, F, F, T, F, T, F, T, F, F, T, F, T, F, T, F, F, T, F, T, F]] [[], [T], [T, T], [F, T, F, T, F], [T, F, T, T, F, T, T, F, T], [T, T, F, T, T, T, F, T, T, T, F, T, T], [F, T, F, T, F, F, T, F, T, F, T, F, F, T, F, T, F, T, F, F, T, F, T, F]] = true := by decide +kernel
theorem ck011100 : chk [F, T, T, T, F, F] [[], [F], [F, T, F], [F, T, F, T, F], [F, T, F, T, F, T, F], [F, T, F, T, F, T, F, F, T, F, T, F, T, F], [F, T, F, T, F, T, F, F, T, F, T, F, T, F, F, T, F, T, F, T, F]] [[], [F], [F, F], [T, F, T, F, T], [T, T, F, T, T, F, T, T], [T, T, T, F, T, T, T, F, T, T, T], [F, T, F, T, F, T, F, F, T, F, T, F, T, F, F, T, F, T, F, T, F]] = true := by decide +kernel
theorem ck011101 : chk [F, T, T, T, F, T] [[], [F], [F, T, F], [F, T, F, T, F], [F, T, F, T, F, T, F], [F, T, F, T, F, T, F, F, T, F, T, F, T, F], [F, T, F, T, F, T, F, F, T, F, T, F, T, F, T, F, F, T, F, T, F, T, F]] [[], [T], [F, T, F], [T, F, T, T, F, T], [T, T, F, T, T, T, F, T, T], [T, T, T, F, T, T, T, T, F, T, T, T], [F, T, F, T, F, T, F, F, T, F, T, F, T, F, T, F, F, T, F, T, F, T, F]] = true := by decide +kernel
theorem ck011110 : chk [F, T, T, T, T, F] [[], [F], [F, T, F], [F, T, F, T, F], [F, T, F, T, F, T, F], [F, T, F, T, F, T, F, T, F], [F, T, F, T, F, T, F, T, F, F, T, F, T, F, T, F, T, F]] [[], [F], [T, F, T], [T, T, F, T, T], [T, T, T, F, T, T, T], [T, T, T, T, F, T, T, T, T], [F, T, F, T, F, T, F, T, F, F, T, F, T, F, T, F, T, F]] = true := by decide +kernel
theorem ck011111 : chk [F, T, T, T, T, T] [[], [F], [F, T, F], [F, T, F, T, F], [F, T, F, T, F, T, F], [F, T, F, T, F, T, F, T, F], [F, T, F, T, F, T, F, T, F, T, F]] [[], [T], [T, T], [T, T, T], [T, T, T, T], [T, T, T, T, T], [F, T, F, T, F, T, F, T, F, T, F]] = true := by decide +kernel
theorem ck100000 : chk [T, F, F, F, F, F] [[], [T], [T, F, T], [T, F, T, F, T], [T, F, T, F, T, F, T], [T, F, T, F, T, F, T, F, T], [T, F, T, F, T, F, T, F, T, F, T]] [[], [F], [F, F], [F, F, F], [F, F, F, F], [F, F, F, F, F], [T, F, T, F, T, F, T, F, T, F, T]] = true := by decide +kernel
theorem ck100001 : chk [T, F, F, F, F, T] [[], [T], [T, F, T], [T, F, T, F, T], [T, F, T, F, T, F, T], [T, F, T, F, T, F, T, F, T], [T, F, T, F, T, F, T, F, T, T, F, T, F, T, F, T, F, T]] [[], [T], [F, T, F], [F, F, T, F, F], [F, F, F, T, F, F, F], [F, F, F, F, T, F, F, F, F], [T, F, T, F, T, F, T, F, T, T, F, T, F, T, F, T, F, T]] = true := by decide +kernel
theorem ck100010 : chk [T, F, F, F, T, F] [[], [T], [T, F, T], [T, F, T, F, T], [T, F, T, F, T, F, T], [T, F, T, F, T, F, T, T, F, T, F, T, F, T], [T, F, T, F, T, F, T, T, F, T, F, T, F, T, F, T, T, F, T, F, T, F, T]] [[], [F], [T, F, T], [F, T, F, F, T, F], [F, F, T, F, F, F, T, F, F], [F, F, F, T, F, F, F, F, T, F, F, F], [T, F, T, F, T, F, T, T, F, T, F, T, F, T, F, T, T, F, T, F, T, F, T]] = true := by decide +kernel
theorem ck100011 : chk [T, F, F, F, T, T] [[], [T], [T, F, T], [T, F, T, F, T], [T, F, T, F, T, F, T], [T, F, T, F, T, F, T, T, F, T, F, T, F, T], [T, F, T, F, T, F, T, T, F, T, F, T, F, T, T, F, T, F, T, F, T]] [[], [T], [T, T], [F, T, F, T, F], [F, F, T, F, F, T, F, F], [F, F, F, T, F, F, F, T, F, F, F], [T, F, T, F, T, F, T, T, F, T, F, T, F, T, T, F, T, F, T, F, T]] = true := by decide +kernel
theorem ck100100 : chk [T, F, F, T, F, F] [[], [T], [T, F, T], [T, F, T, F, T], [T, F, T, F, T, T, F, T, F, T], [T, F, T, F, T, T, F, T, F, T, F, T, T, F, T, F, T], [T, F, T, F, T, T, F, T, F, T, F, T, T, F, T, F, T, F, T, T, F, T, F, T]] [[], [F], [F, F], [T, F, T, F, T], [F, T, F, F, T, F, F, T, F], [F, F, T, F, F, F, T, F, F, F, T, F, F], [T, F, T, F, T, T, F, T, F, T, F, T, T, F, T, F, T, F, T, T, F, T, F, T]] = true := by decide +kernel
theorem ck100101 : chk [T, F, F, T, F, T] [[], [T], [T, F, T], [T, F, T, F, T], [T, F, T, F, T, T, F, T, F, T], [T, F, T, F, T, T, F, T, F, T, F, T, T, F, T, F, T], [T, F, T, F, T, T, F, T, F, T, F, T, T, F, T, F, T, T, F, T, F, T, F, T, T, F, T, F, T]] [[], [T], [F, T, F], [T, F, T, T, F, T], [F, T, F, F, T, F, T, F, F, T, F], [F, F, T, F, F, F, T, F, F, T, F, F, F, T, F, F], [T, F, T, F, T, T, F, T, F, T, F, T, T, F, T, F, T, T, F, T, F, T, F, T, T, F, T, F, T]] = true := by decide +kernel
theorem ck100110 : chk [T, F, F, T, T, F] [[], [T], [T, F, T], [T, F, T, F, T], [T, F, T, F, T, T, F, T, F, T], [T, F, T, F, T, T, F, T, F, T, T, F, T, F, T], [T, F, T, F, T, T, F, T, F, T, T, F, T, F, T, F, T, T, F, T, F, T, T, F, T, F, T]] [[], [F], [T, F, T], [T, T, F, T, T], [F, T, F, T, F, F, T, F, T, F], [F, F, T, F, F, T, F, F, F, T, F, F, T, F, F], [T, F, T, F, T, T, F, T, F, T, T, F, T, F, T, F, T, T, F, T, F, T, T, F, T, F, T]] = true := by decide +kernel
theorem ck100111 : chk [T, F, F, T, T, T] [[], [T], [T, F, T], [T, F, T, F, T], [T, F, T, F, T, T, F, T, F, T], [T, F, T, F, T, T, F, T, F, T, T, F, T, F, T], [T, F, T, F, T, T, F, T, F, T, T, F, T, F, T, T, F, T, F, T]] [[], [T], [T, T], [T, T, T], [F, T, F, T, F, T, F], [F, F, T, F, F, T, F, F, T, F, F], [T, F, T, F, T, T, F, T, F, T, T, F, T, F, T, T, F, T, F, T]] = true := by decide +kernel
theorem ck101000 : chk [T, F, T, F, F, F] [[], [T], [T, F, T], [T, F, T, T, F, T], [T, F, T, T, F, T, F, T, T, F, T], [T, F, T, T, F, T, F, T, T, F, T, F, T, T, F, T], [T, F, T, T, F, T, F, T, T, F, T, F, T, T, F, T, F, T, T, F, T]] [[], [F], [F, F], [F, F, F], [T, F, T, F, T, F, T], [F, T, F, F, T, F, F, T, F, F, T, F], [T, F, T, T, F, T, F, T, T, F, T, F, T, T, F, T, F, T, T, F, T]] = true := by decide +kernel
theorem ck101001 : chk [T, F, T, F, F, T] [[], [T], [T, F, T], [T, F, T, T, F, T], [T, F, T, T, F, T, F, T, T, F, T], [T, F, T, T, F, T, F, T, T, F, T, F, T, T, F, T], [T, F, T, T, F, T, F, T, T, F, T, F, T, T, F, T, T, F, T, F, T, T, F, T, F, T, T, F, T]] [[], [T], [F, T, F], [F, F, T, F, F], [T, F, T, F, T, T, F, T, F, T], [F, T, F, F, T, F, F, T, F, T, F, F, T, F, F, T, F], [T, F, T, T, F, T, F, T, T, F, T, F, T, T, F, T, T, F, T, F, T, T, F, T, F, T, T, F, T]] = true := by decide +kernel
theorem ck101010 : chk [T, F, T, F, T, F] [[], [T], [T, F, T], [T, F, T, T, F, T], [T, F, T, T, F, T, F, T, T, F, T], [T, F, T, T, F, T, F, T, T, F, T, T, F, T, F, T, T, F, T], [T, F, T, T, F, T, F, T, T, F, T, T, F, T, F, T, T, F, T, F, T, T, F, T, T, F, T, F, T, T, F, T]] [[], [F], [T, F, T], [F, T, F, F, T, F], [T, F, T, T, F, T, F, T, T, F, T], [F, T, F, F, T, F, T, F, F, T, F, F, T, F, T, F, F, T, F], [T, F, T, T, F, T, F, T, T, F, T, T, F, T, F, T, T, F, T, F, T, T, F, T, T, F, T, F, T, T, F, T]] = true := by decide +kernel
theorem ck101011 : chk [T, F, T, F, T, T] [[], [T], [T, F, T], [T, F, T, T, F, T], [T, F, T, T, F, T, F, T, T, F, T], [T, F, T, T, F, T, F, T, T, F, T, T, F, T, F, T, T, F, T], [T, F, T, T, F, T, F, T, T, F, T, T, F, T, F, T, T, F, T, T, F, T, F, T, T, F, T]] [[], [T], [T, T], [F, T, F, T, F], [T, F, T, T, F, T, T, F, T], [F, T, F, F, T, F, T, F, F, T, F, T, F, F, T, F], [T, F, T, T, F, T, F, T, T, F, T, T, F, T, F, T, T, F, T, T, F, T, F, T, T, F, T]] = true := by decide +kernel
theorem ck101100 : chk [T, F, T, T, F, F] [[], [T], [T, F, T], [T, F, T, T, F, T], [T, F, T, T, F, T, T, F, T], [T, F, T, T, F, T, T, F, T, F, T, T, F, T, T, F, T], [T, F, T, T, F, T, T, F, T, F, T, T, F, T, T, F, T, F, T, T, F, T, T, F, T]] [[], [F], [F, F], [T, F, T, F, T], [T, T, F, T, T, F, T, T], [F, T, F, T, F, F, T, F, T, F, F, T, F, T, F], [T, F, T, T, F, T, T, F, T, F, T, T, F, T, T, F, T, F, T, T, F, T, T, F, T]] = true := by decide +kernel
theorem ck101101 : chk [T, F, T, T, F, T] [[], [T], [T, F, T], [T, F, T, T, F, T], [T, F, T, T, F, T, T, F, T], [T, F, T, T, F, T, T, F, T, F, T, T, F, T, T, F, T], [T, F, T, T, F, T, T, F, T, F, T, T, F, T, T, F, T, T, F, T, F, T, T, F, T, T, F, T]] [[], [T], [F, T, F], [T, F, T, T, F, T], [T, T, F, T, T, T, F, T, T], [F, T, F, T, F, F, T, F, T, F, T, F, F, T, F, T, F], [T, F, T, T, F, T, T, F, T, F, T, T, F, T, T, F, T, T, F, T, F, T, T, F, T, T, F, T]] = true := by decide +kernel
theorem ck101110 : chk [T, F, T, T, T, F] [[], [T], [T, F, T], [T, F, T, T, F, T], [T, F, T, T, F, T, T, F, T], [T, F, T, T, F, T, T, F, T, T, F, T], [T, F, T, T, F, T, T, F, T, T, F, T, F, T, T, F, T, T, F, T, T, F, T]] [[], [F], [T, F, T], [T, T, F, T, T], [T, T, T, F, T, T, T], [F, T, F, T, F, T, F, F, T, F, T, F, T, F], [T, F, T, T, F, T, T, F, T, T, F, T, F, T, T, F, T, T, F, T, T, F, T]] = true := by decide +kernel
theorem ck101111 : chk [T, F, T, T, T, T] [[], [T], [T, F, T], [T, F, T, T, F, T], [T, F, T, T, F, T, T, F, T], [T, F, T, T, F, T, T, F, T, T, F, T], [T, F, T, T, F, T, T, F, T, T, F, T, T, F, T]] [[], [T], [T, T], [T, T, T], [T, T, T, T], [F, T, F, T, F, T, F, T, F], [T, F, T, T, F, T, T, F, T, T, F, T, T, F, T]] = true := by decide +kernel
theorem ck110000 : chk [T, T, F, F, F, F] [[], [T], [T, T], [T, T, F, T, T], [T, T, F, T, T, F, T, T], [T, T, F, T, T, F, T, T, F, T, T], [T, T, F, T, T, F, T, T, F, T, T, F, T, T]] [[], [F], [F, F], [F, F, F], [F, F, F, F], [T, F, T, F, T, F, T, F, T], [T, T, F, T, T, F, T, T, F, T, T, F, T, T]] = true := by decide +kernel
theorem ck110001 : chk [T, T, F, F, F, T] [[], [T], [T, T], [T, T, F, T, T], [T, T, F, T, T, F, T, T], [T, T, F, T, T, F, T, T, F, T, T], [T, T, F, T, T, F, T, T, F, T, T, T, F, T, T, F, T, T, F, T, T]] [[], [T], [F, T, F], [F, F, T, F, F], [F, F, F, T, F, F, F], [T, F, T, F, T, F, T, T, F, T, F, T, F, T], [T, T, F, T, T, F, T, T, F, T, T, T, F, T, T, F, T, T, F, T, T]] = true := by decide +kernel
theorem ck110010 : chk [T, T, F, F, T, F] [[], [T], [T, T], [T, T, F, T, T], [T, T, F, T, T, F, T, T], [T, T, F, T, T, F, T, T, T, F, T, T, F, T, T], [T, T, F, T, T, F, T, T, T, F, T, T, F, T, T, F, T, T, T, F, T, T, F, T, T]] [[], [F], [T, F, T], [F, T, F, F, T, F], [F, F, T, F, F, F, T, F, F], [T, F, T, F, T, T, F, T, F, T, F, T, T, F, T, F, T], [T, T, F, T, T, F, T, T, T, F, T, T, F, T, T, F, T, T, T, F, T, T, F, T, T]] = true := by decide +kernel
theorem ck110011 : chk [T, T, F, F, T, T] [[], [T], [T, T], [T, T, F, T, T], [T, T, F, T, T, F, T, T], [T, T, F, T, T, F, T, T, T, F, T, T, F, T, T], [T, T, F, T, T, F, T, T, T, F, T, T, F, T, T, T, F, T, T, F, T, T]] [[], [T], [T, T], [F, T, F, T, F], [F, F, T, F, F, T, F, F], [T, F, T, F, T, T, F, T, F, T, T, F, T, F, T], [T, T, F, T, T, F, T, T, T, F, T, T, F, T, T, T, F, T, T, F, T, T]] = true := by decide +kernel
theorem ck110100 : chk [T, T, F, T, F, F] [[], [T], [T, T], [T, T, F, T, T], [T, T, F, T, T, T, F, T, T], [T, T, F, T, T, T, F, T, T, F, T, T, T, F, T, T], [T, T, F, T, T, T, F, T, T, F, T, T, T, F, T, T, F, T, T, T, F, T, T]] [[], [F], [F, F], [T, F, T, F, T], [F, T, F, F, T, F, F, T, F], [T, F, T, T, F, T, F, T, T, F, T, F, T, T, F, T], [T, T, F, T, T, T, F, T, T, F, T, T, T, F, T, T, F, T, T, T, F, T, T]] = true := by decide +kernel
theorem ck110101 : chk [T, T, F, T, F, T] [[], [T], [T, T], [T, T, F, T, T], [T, T, F, T, T, T, F, T, T], [T, T, F, T, T, T, F, T, T, F, T, T, T, F, T, T], [T, T, F, T, T, T, F, T, T, F, T, T, T, F, T, T, T, F, T, T, F, T, T, T, F, T, T]] [[], [T], [F, T, F], [T, F, T, T, F, T], [F, T, F, F, T, F, T, F, F, T, F], [T, F, T, T, F, T, F, T, T, F, T, T, F, T, F, T, T, F, T], [T, T, F, T, T, T, F, T, T, F, T, T, T, F, T, T, T, F, T, T, F, T, T, T, F, T, T]] = true := by decide +kernel
theorem ck110110 : chk [T, T, F, T, T, F] [[], [T], [T, T], [T, T, F, T, T], [T, T, F, T, T, T, F, T, T], [T, T, F, T, T, T, F, T, T, T, F, T, T], [T, T, F, T, T, T, F, T, T, T, F, T, T, F, T, T, T, F, T, T, T, F, T, T]] [[], [F], [T, F, T], [T, T, F, T, T], [F, T, F, T, F, F, T, F, T, F], [T, F, T, T, F, T, T, F, T, F, T, T, F, T, T, F, T], [T, T, F, T, T, T, F, T, T, T, F, T, T, F, T, T, T, F, T, T, T, F, T, T]] = true := by decide +kernel
theorem ck110111 : chk [T, T, F, T, T, T] [[], [T], [T, T], [T, T, F, T, T], [T, T, F, T, T, T, F, T, T], [T, T, F, T, T, T, F, T, T, T, F, T, T], [T, T, F, T, T, T, F, T, T, T, F, T, T, T, F, T, T]] [[], [T], [T, T], [T, T, T], [F, T, F, T, F, T, F], [T, F, T, T, F, T, T, F, T, T, F, T], [T, T, F, T, T, T, F, T, T, T, F, T, T, T, F, T, T]] = true := by decide +kernel
theorem ck111000 : chk [T, T, T, F, F, F] [[], [T], [T, T], [T, T, T], [T, T, T, F, T, T, T], [T, T, T, F, T, T, T, F, T, T, T], [T, T, T, F, T, T, T, F, T, T, T, F, T, T, T]] [[], [F], [F, F], [F, F, F], [T, F, T, F, T, F, T], [T, T, F, T, T, F, T, T, F, T, T], [T, T, T, F, T, T, T, F, T, T, T, F, T, T, T]] = true := by decide +kernel
theorem ck111001 : chk [T, T, T, F, F, T] [[], [T], [T, T], [T, T, T], [T, T, T, F, T, T, T], [T, T, T, F, T, T, T, F, T, T, T], [T, T, T, F, T, T, T, F, T, T, T, T, F, T, T, T, F, T, T, T]] [[], [T], [F, T, F], [F, F, T, F, F], [T, F, T, F, T, T, F, T, F, T], [T, T, F, T, T, F, T, T, T, F, T, T, F, T, T], [T, T, T, F, T, T, T, F, T, T, T, T, F, T, T, T, F, T, T, T]] = true := by decide +kernel
theorem ck111010 : chk [T, T, T, F, T, F] [[], [T], [T, T], [T, T, T], [T, T, T, F, T, T, T], [T, T, T, F, T, T, T, T, F, T, T, T], [T, T, T, F, T, T, T, T, F, T, T, T, F, T, T, T, T, F, T, T, T]] [[], [F], [T, F, T], [F, T, F, F, T, F], [T, F, T, T, F, T, F, T, T, F, T], [T, T, F, T, T, T, F, T, T, F, T, T, T, F, T, T], [T, T, T, F, T, T, T, T, F, T, T, T, F, T, T, T, T, F, T, T, T]] = true := by decide +kernel
theorem ck111011 : chk [T, T, T, F, T, T] [[], [T], [T, T], [T, T, T], [T, T, T, F, T, T, T], [T, T, T, F, T, T, T, T, F, T, T, T], [T, T, T, F, T, T, T, T, F, T, T, T, T, F, T, T, T]] [[], [T], [T, T], [F, T, F, T, F], [T, F, T, T, F, T, T, F, T], [T, T, F, T, T, T, F, T, T, T, F, T, T], [T, T, T, F, T, T, T, T, F, T, T, T, T, F, T, T, T]] = true := by decide +kernel
theorem ck111100 : chk [T, T, T, T, F, F] [[], [T], [T, T], [T, T, T], [T, T, T, T], [T, T, T, T, F, T, T, T, T], [T, T, T, T, F, T, T, T, T, F, T, T, T, T]] [[], [F], [F, F], [T, F, T, F, T], [T, T, F, T, T, F, T, T], [T, T, T, F, T, T, T, F, T, T, T], [T, T, T, T, F, T, T, T, T, F, T, T, T, T]] = true := by decide +kernel
theorem ck111101 : chk [T, T, T, T, F, T] [[], [T], [T, T], [T, T, T], [T, T, T, T], [T, T, T, T, F, T, T, T, T], [T, T, T, T, F, T, T, T, T, T, F, T, T, T, T]] [[], [T], [F, T, F], [T, F, T, T, F, T], [T, T, F, T, T, T, F, T, T], [T, T, T, F, T, T, T, T, F, T, T, T], [T, T, T, T, F, T, T, T, T, T, F, T, T, T, T]] = true := by decide +kernel
theorem ck111110 : chk [T, T, T, T, T, F] [[], [T], [T, T], [T, T, T], [T, T, T, T], [T, T, T, T, T], [T, T, T, T, T, F, T, T, T, T, T]] [[], [F], [T, F, T], [T, T, F, T, T], [T, T, T, F, T, T, T], [T, T, T, T, F, T, T, T, T], [T, T, T, T, T, F, T, T, T, T, T]] = true := by decide +kernel
theorem ck111111 : chk [T, T, T, T, T, T] [[], [T], [T, T], [T, T, T], [T, T, T, T], [T, T, T, T, T], [T, T, T, T, T, T]] [[], [T], [T, T], [T, T, T], [T, T, T, T], [T, T, T, T, T], [T, T, T, T, T, T]] = true := by decide +kernel
theorem table : ∀ a b c d e g : Bool, ∃ fr rs, chk [a, b, c, d, e, g] fr rs = true
  | false, false, false, false, false, false => ⟨_, _, ck000000⟩
  | false, false, false, false, false, true => ⟨_, _, ck000001⟩
  | false, false, false, false, true, false => ⟨_, _, ck000010⟩
  | false, false, false, false, true, true => ⟨_, _, ck000011⟩
  | false, false, false, true, false, false => ⟨_, _, ck000100⟩
  | false, false, false, true, false, true => ⟨_, _, ck000101⟩
  | false, false, false, true, true, false => ⟨_, _, ck000110⟩
  | false, false, false, true, true, true => ⟨_, _, ck000111⟩
  | false, false, true, false, false, false => ⟨_, _, ck001000⟩
  | false, false, true, false, false, true => ⟨_, _, ck001001⟩
  | false, false, true, false, true, false => ⟨_, _, ck001010⟩
  | false, false, true, false, true, true => ⟨_, _, ck001011⟩
  | false, false, true, true, false, false => ⟨_, _, ck001100⟩
  | false, false, true, true, false, true => ⟨_, _, ck001101⟩
  | false, false, true, true, true, false => ⟨_, _, ck001110⟩
  | false, false, true, true, true, true => ⟨_, _, ck001111⟩
  | false, true, false, false, false, false => ⟨_, _, ck010000⟩
  | false, true, false, false, false, true => ⟨_, _, ck010001⟩
  | false, true, false, false, true, false => ⟨_, _, ck010010⟩
  | false, true, false, false, true, true => ⟨_, _, ck010011⟩
  | false, true, false, true, false, false => ⟨_, _, ck010100⟩
  | false, true, false, true, false, true => ⟨_, _, ck010101⟩
  | false, true, false, true, true, false => ⟨_, _, ck010110⟩
  | false, true, false, true, true, true => ⟨_, _, ck010111⟩
  | false, true, true, false, false, false => ⟨_, _, ck011000⟩
  | false, true, true, false, false, true => ⟨_, _, ck011001⟩
  | false, true, true, false, true, false => ⟨_, _, ck011010⟩
  | false, true, true, false, true, true => ⟨_, _, ck011011⟩
  | false, true, true, true, false, false => ⟨_, _, ck011100⟩
  | false, true, true, true, false, true => ⟨_, _, ck011101⟩
  | false, true, true, true, true, false => ⟨_, _, ck011110⟩
  | false, true, true, true, true, true => ⟨_, _, ck011111⟩
  | true, false, false, false, false, false => ⟨_, _, ck100000⟩
  | true, false, false, false, false, true => ⟨_, _, ck100001⟩
  | true, false, false, false, true, false => ⟨_, _, ck100010⟩
  | true, false, false, false, true, true => ⟨_, _, ck100011⟩
  | true, false, false, true, false, false => ⟨_, _, ck100100⟩
  | true, false, false, true, false, true => ⟨_, _, ck100101⟩
  | true, false, false, true, true, false => ⟨_, _, ck100110⟩
  | true, false, false, true, true, true => ⟨_, _, ck100111⟩
  | true, false, true, false, false, false => ⟨_, _, ck101000⟩
  | true, false, true, false, false, true => ⟨_, _, ck101001⟩
  | true, false, true, false, true, false => ⟨_, _, ck101010⟩
  | true, false, true, false, true, true => ⟨_, _, ck101011⟩
  | true, false, true, true, false, false => ⟨_, _, ck101100⟩
  | true, false, true, true, false, true => ⟨_, _, ck101101⟩
  | true, false, true, true, true, false => ⟨_, _, ck101110⟩
  | true, false, true, true, true, true => ⟨_, _, ck101111⟩
  | true, true, false, false, false, false => ⟨_, _, ck110000⟩
  | true, true, false, false, false, true => ⟨_, _, ck110001⟩
  | true, true, false, false, true, false => ⟨_, _, ck110010⟩
  | true, true, false, false, true, true => ⟨_, _, ck110011⟩
  | true, true, false, true, false, false => ⟨_, _, ck110100⟩
  | true, true, false, true, false, true => ⟨_, _, ck110101⟩
  | true, true, false, true, true, false => ⟨_, _, ck110110⟩
  | true, true, false, true, true, true => ⟨_, _, ck110111⟩
  | true, true, true, false, false, false => ⟨_, _, ck111000⟩
  | true, true, true, false, false, true => ⟨_, _, ck111001⟩
  | true, true, true, false, true, false => ⟨_, _, ck111010⟩
  | true, true, true, false, true, true => ⟨_, _, ck111011⟩
  | true, true, true, true, false, false => ⟨_, _, ck111100⟩
  | true, true, true, true, false, true => ⟨_, _, ck111101⟩
  | true, true, true, true, true, false => ⟨_, _, ck111110⟩
  | true, true, true, true, true, true => ⟨_, _, ck111111⟩
end Mine
end
section
open PySem PySem.W PyProof.Rows PySem.Builtin PySem.Builtin.Str PySem.Calls
set_option maxRecDepth 100000
set_option maxHeartbeats 8000000
namespace Mine
local macro_rules | `(tactic| walk_at "pad0") => `(tactic| skip)
local macro_rules | `(tactic| walk_at "pad1") => `(tactic| skip)
local macro_rules | `(tactic| walk_at "pad2") => `(tactic| skip)
local macro_rules | `(tactic| walk_at "pad3") => `(tactic| skip)
local macro_rules | `(tactic| walk_at "pad4") => `(tactic| skip)
local macro_rules | `(tactic| walk_at "pad5") => `(tactic| skip)
theorem fill_LH : PySem.Challenge.rw_rw0014_01 = PySem.Challenge.rw_rw0014_01 ∧ hd.heap_39 = hd.heap_39 := by k_fill; exact ⟨rfl, rfl⟩
local macro_rules | `(tactic| walk_at "go") => `(tactic| (first | (k_unfold; (try dsimp only)) | walk1 | (dsimp only; walk1)))
local macro_rules | `(tactic| walk_at "exec Assign cons ListComp") => `(tactic| (k_here; k_dflt (refine LCg.Assign_ListComp_U (F₀ := by k_asm) (by rfl) (by with_unfolding_all rfl) (by with_unfolding_all rfl) (by decide) (by rfl) (by decide) (by rfl) (by rfl) (by rfl) ?_)))
local macro_rules | `(tactic| walk_at "eval ListComp") => `(tactic| (k_here; k_dflt (refine LCg.ListComp_U (F₀ := by k_asm) (by with_unfolding_all rfl) (by decide) (by rfl) (by decide) (by rfl) ?_)))
local macro_rules | `(tactic| walk_at "CompSrc") => `(tactic| (apply Hold.out))
local macro_rules | `(tactic| walk_at "pyIter ref") => `(tactic| ((with_reducible show wpAny _ _ (pyIter (Value.ref _)) (fun it s₂ => LoopAtV _ _ _ _ _ _ _ _ _ it s₂) _ _); apply Hold.out))
local macro_rules | `(tactic| walk_at "exec For Name Call cons nil") => `(tactic| (k_here; (rename Fr _ _ _ _ => lF'); (with_unfolding_all refine' For_invVF (hE := ?k3) lF' ?k1 ?k2 ?_; (case k1 => exact rfl); (case k2 => exact rfl); (case k3 => assumption); k_whole)))
local macro_rules | `(tactic| walk_at "exec For Name Name cons nil") => `(tactic| (k_here; (rename Fr _ _ _ _ => lF'); (with_unfolding_all refine' For_invVF (hE := ?k3) lF' ?k1 ?k2 ?_; (case k1 => exact rfl); (case k2 => exact rfl); (case k3 => assumption); k_whole)))
local macro_rules | `(tactic| walk_at "CompEnd") => `(tactic| ((refine LCg.CompEnd.intro (by k_asm) (by k_asm) _ ?hs ?ho ?hS (kcf_el ?he rfl rfl)); (case he => first | rfl | (rw [if_pos (by assumption)]; done) | (rw [if_neg (by simp [*])]; done) | (simp [*]; done)); (case hs => kcf_all); (case ho => first | assumption | trivial | (simp only [LCg.Off3, and_true]; first | assumption | done)); (case hS => first | trivial | lcg_src | assumption)))
local macro_rules | `(tactic| walk_at "call ref") => `(tactic| ((with_reducible show wpAny _ _ (call (Value.ref 55) [Value.str _ _, Value.str _ _]) _ _ _); (k_dflt (refine' em_call ?k1 ?k2 ?k3 ?k4 ?k5 ?kK ?kp ?kd ?ku ?_; (case k2 => k_asm); (case k4 => k_asm); (case k1 => k_asm); (case k3 => k_asm); (case k5 => k_asm); (case kK => first | exact rfl | assumption); (case kp => constructor <;> first | omega | (walk_at "em_size")); (case kd => first | omega | ktr_room); (case ku => first | omega | ktr_units))); intro h' tk' F' N'; (try k_fold)))
local macro_rules | `(tactic| walk_at "same") => `(tactic| (intro z h1 h2; first | rfl | (simp [h1]; done) | ((simp only [List.contains_cons, List.contains_nil, Bool.or_false, Bool.or_eq_false_iff, beq_eq_false_iff_ne, ne_eq] at h2); (simp [h1, h2]; done))))
local macro_rules | `(tactic| walk_at "em_size") => `(tactic| first | omega | (refine Nat.le_trans (by walk_at "len_up") (by omega)))
local macro_rules | `(tactic| walk_at "len_up") => `(tactic| first | (with_reducible exact Txt.slice_le _ _ _) | (with_reducible exact dots3) | (with_reducible refine len_app2 (by walk_at "len_up") (by walk_at "len_up")) | (with_reducible exact Nat.le_refl _))
local macro_rules | `(tactic| walk_at "binaryOp Mult ref int") => `(tactic| ((with_reducible show wpAny _ _ (binaryOp Operator.Mult (Value.ref _) (Value.int _ _)) _ _ _); (k_dflt (refine' rep_one ?k1 ?k2 ?k3 ?k4 ?k5 ?_; (case k1 => k_asm); (case k2 => k_asm); (case k3 => exact List.Mem.head _); (case k4 => omega); (case k5 => omega))); intro D' h' F' N' l1'; (try k_lt l1')))
local macro_rules | `(tactic| walk_at "call builtin:str.join") => `(tactic| ((show wpAny _ _ (call (Value.builtin "str.join") [Value.str _ _, Value.ref _]) _ _ _); (refine join_B _ (News.isList (by k_asm) (List.Mem.head _)) (by walk_at "join_s") (by walk_at "join_w") (by first | omega | assumption) (by decide +kernel) ?_); intro t' k' hlen'))
local macro_rules | `(tactic| walk_at "join_s") => `(tactic| first | assumption | exact strs_rep _ _ _)
local macro_rules | `(tactic| walk_at "join_w") => `(tactic| exact rep_w (by omega) (by omega))
local macro_rules | `(tactic| walk_at "pyIter str") => `(tactic| ((with_reducible show wpAny _ _ (pyIter (Value.str _ _)) (fun it s₂ => LoopAtV _ _ _ _ _ _ _ _ _ it s₂) _ _); apply Hold.out))
local macro_rules | `(tactic| walk_at "exec For Name Subscript cons nil") => `(tactic| (k_here; (rename Fr _ _ _ _ => lF'); (with_unfolding_all refine' For_invVF (hE := ?k3) lF' ?k1 ?k2 ?_; (case k1 => exact rfl); (case k2 => exact rfl); (case k3 => assumption); k_whole)))
local macro_rules | `(tactic| walk_at "call builtin:list.append") => `(tactic| ((show wpAny _ _ (call (Value.builtin "list.append") [Value.ref _, _]) _ _ _); (k_dflt (refine' app_head ?k1 ?k2 ?k3 ?z ?_; (case k1 => k_asm); (case k2 => k_asm); (case k3 => walk_at "ne_all"); (case z => walk_at "sz"))); intro h' F' N'))
local macro_rules | `(tactic| walk_at "sz") => `(tactic| first | ((simp only [List.length_append, List.length_cons, List.length_nil]); (have hl9 := IntsAre.length (by assumption)); omega) | ((simp only [List.length_append, List.length_cons, List.length_nil]); (have hl9 := StrsAre.len_eq (by assumption)); omega))
local macro_rules | `(tactic| walk_at "ne_all") => `(tactic| first | exact List.forall_mem_nil _ | (refine List.forall_mem_cons.mpr ⟨?_, ?_⟩; (focus (first | (exact Nat.ne_of_lt (by assumption)) | k_ne)); walk_at "ne_all") | (refine List.forall_mem_append.mpr ⟨?_, ?_⟩; (focus walk_at "ne_all"); walk_at "ne_all") | exact OwnOff.ne (by assumption) (List.Mem.head _) | exact allLt_ne (by assumption))
local macro_rules | `(tactic| walk_at "eval ListComp") => `(tactic| ((with_reducible show wpAny _ _ (eval (Expr.ListComp _ [⟨_, _, [_], _⟩] _ _) _) _ _ _); k_dflt (refine LCt.ListComp_T (F₀ := by k_asm) (by with_unfolding_all rfl) (by decide) (by rfl) (by decide) (by rfl) ?_)))
local macro_rules | `(tactic| walk_at "CompSrcT") => `(tactic| (apply Hold.out))
local macro_rules | `(tactic| walk_at "compareOp NotEq ref ref") => `(tactic| ((with_reducible show wpAny _ _ (compareOp CmpOp.NotEq (Value.ref _) (Value.ref _)) _ _ _); refine ne_N (by k_asm) (by walk_at "mem1") (by walk_at "mem1") (by assumption) (by assumption) (by (have hcL9 := cLine_is; (try dsimp only); omega)) ?_))
local macro_rules | `(tactic| walk_at "mem1") => `(tactic| first | exact List.Mem.head _ | exact List.Mem.tail _ (List.Mem.head _) | exact List.Mem.tail _ (List.Mem.tail _ (List.Mem.head _)) | k_mem)
local macro_rules | `(tactic| walk_at "keep") => `(tactic| (intro z h1; (simp only [List.contains_cons, List.contains_nil, Bool.or_false, Bool.or_eq_false_iff, beq_eq_false_iff_ne, ne_eq] at h1); first | rfl | (simp [h1]; done) | (simp [h1]; intro h2; subst h2; symm; assumption)))
local macro_rules | `(tactic| walk_at "keep2") => `(tactic| (intro z h1; (simp only [List.contains_cons, List.contains_nil, Bool.or_false, Bool.or_eq_false_iff, beq_eq_false_iff_ne, ne_eq] at h1); (rename Keep _ _ _ => K9); refine Eq.trans (K9 z (by (simp only [List.contains_cons, List.contains_nil, Bool.or_false, Bool.or_eq_false_iff, beq_eq_false_iff_ne, ne_eq]; simp [h1]))) ?_; first | rfl | (simp [h1]; done)))
local macro_rules | `(tactic| walk_at "ifs") => `(tactic| repeat' (first | rfl | (split; (focus ((rename _ = Str.ofString _ => h9); subst h9; symm; assumption)))))
local macro_rules | `(tactic| walk_at "storeName") => `(tactic| ((with_reducible show wpAny _ _ (storeName _ (Str.ofString "part") _) _ _ _); (refine' storeX_C ?F ?N ?c ?U ?d ?_ ?a ?b; (case a => rfl); (case b => rfl); (case F => k_asm); (case N => k_asm); (case c => rfl); (case U => exact UpdF.head (by assumption)); (case d => k_asm)); k_whole; intro h' o' F' N' d'; (try dsimp only at N'); (try k_sweep)))
local macro_rules | `(tactic| walk_at "call ref") => `(tactic| ((with_reducible show wpAny _ _ (call (Value.ref _) [Value.int _ _]) _ _ _); (k_dflt (first | (with_reducible refine' ist_call ?k1 ?k2 ?k3 ?k4 ?k5 ?kK ?kd ?ku ?_) | (with_reducible refine' isn_call ?k1 ?k2 ?k3 ?k4 ?k5 ?kK ?kd ?ku ?_) | (with_reducible refine' ise_call ?k1 ?k2 ?k3 ?k4 ?k5 ?kK ?kd ?ku ?_)); (case k2 => k_asm); (case k4 => k_asm); (case k1 => k_asm); (case k3 => k_asm); (case k5 => k_asm); (case kK => first | exact rfl | assumption); (case kd => first | omega | ktr_room); (case ku => first | omega | ktr_units)); intro h' tk' F' N'; (try k_fold)))
local macro_rules | `(tactic| walk_at "subscriptTail List cons BinOp ref int") => `(tactic| ((with_reducible show wpAny _ _ (subscriptTail (Expr.List _ _) _ (Value.ref _) (Value.int _ _)) _ _ _); ((refine' item_menu3 ?k1 ?k2 ?k3 ?k4 ?_ ?_ ?_ ?hs; (case k1 => k_asm); (case k2 => with_unfolding_all exact List.Mem.head _); (case k3 => exact (fmod3 _).1); (case k4 => exact (fmod3 _).2); (case hs => with_unfolding_all rfl)) <;> intro hj)))
local macro_rules | `(tactic| walk_at "mem5") => `(tactic| first | exact List.Mem.head _ | (refine List.Mem.tail _ ?_; walk_at "mem5"))
local macro_rules | `(tactic| walk_at "call ref") => `(tactic| ((with_reducible show wpAny _ _ (call (Value.ref 81) [Value.ref _, Value.ref _]) _ _ _); (k_dflt (refine' num_call ?k1 ?k2 ?k3 ?k4 ?k5 ?kK ?kl ?ki ?kn ?ko ?k6 ?kd ?ku ?_; (case k2 => k_asm); (case k4 => k_asm); (case k1 => k_asm); (case k3 => k_asm); (case k5 => k_asm); (case kK => exact rfl); (case kl => k_asm); (case ki => k_asm); (case kn => (rw [IntsAre.length (by assumption)]; omega)); (case k6 => rfl); (case ko => exact .cons _ _ (.cons _ _ (.cons _ _ (.cons _ _ (.cons _ _ (.cons _ _ .nil)))))); (case kd => decide +kernel); (case ku => decide +kernel))); intro D' ws' ks' h' tk' hw1' hw2' hw3' F' N' ne'; (try k_fold)))
def lowS (r : Int) : Str := if r = 0 then Str.ofString "a" else if r = 1 then Str.ofString "\n" else Str.ofString "["
def highS (r : Int) : Str := if r = 0 then Str.ofString "b" else if r = 1 then Str.ofString "*" else Str.ofString "\r"
def PM (ks : List Int) (v1 v2 : Value) : Prop := ∃ t1 t2, v1 = .str (lowS (ks.sum.fmod 3)) t1 ∧ v2 = .str (highS (ks.sum.fmod 3)) t2
section
variable {M : Model} {A : Around} {E : Value → Shared → Prop} {s : Shared} {h₀ : Heap} {L : Addr} {m : Str → Option Value} {news : List (Addr × Obj)}
theorem join_menu {st : Stmt} {env : Env} {K : Flow → Shared → Prop} {ws : List Value} {ks : List Int} (_hI : IntsAre ws ks) (F : Fr h₀ L s.heap m) (N : News h₀ L s.heap news) (h1 : wpAny M A (exec st env) (J2 h₀ L m news (Str.ofString "low") (Str.ofString "high") (PM ks) s) E s)
    (h2 : ∀ h' tk t1 t2, Fr h₀ L h' (fun z => if z = Str.ofString "high" then some (.str (highS (ks.sum.fmod 3)) t2) else if z = Str.ofString "low" then some (.str (lowS (ks.sum.fmod 3)) t1) else m z) → News h₀ L h' news → K .next { s with heap := h', toks := tk }) : wpAny M A (exec st env) K E s := by
  refine join2 (Str.ofString "low") (Str.ofString "high") (PM ks) F N h1 fun h' tk v1 v2 hp F' N' => ?_
  obtain ⟨t1, t2, rfl, rfl⟩ := hp
  exact h2 h' tk t1 t2 F' N'
end
def fR (lo hi : Nat) (b : Bool) : Nat := if b then hi else lo
theorem table_list : ∀ {ks : List Int}, ks.length = 6 → ∃ fr rs, chk (bitsOf ks) fr rs = true
  | [a, b, c, d, e, g], _ => table (bitOf a) (bitOf b) (bitOf c) (bitOf d) (bitOf e) (bitOf g)
theorem plain {ks : List Int} (h6 : ks.length = 6) (hk : ∀ k ∈ ks, 0 ≤ k ∧ k < 1000000) : ∃ fr rs, BodyOk (lowS (ks.sum.fmod 3)) (highS (ks.sum.fmod 3)) ks.sum ks (ks.map symOf) fr rs := by
  obtain ⟨fr, rs, hc⟩ := table_list h6
  have h3 := fmod3 ks.sum
  have hr : ks.sum.fmod 3 = 0 ∨ ks.sum.fmod 3 = 1 ∨ ks.sum.fmod 3 = 2 := by omega
  rcases hr with e | e | e
  · have h := body_of_chk (f := fR 97 98) (by decide) (by intro b; cases b <;> decide) h6 hk hc ks.sum
    rw [e, show lowS 0 = enc (fR 97 98) [false] from by decide +kernel, show highS 0 = enc (fR 97 98) [true] from by decide +kernel]
    exact ⟨_, _, h⟩
  · have h := body_of_chk (f := fR 10 42) (by decide) (by intro b; cases b <;> decide) h6 hk hc ks.sum
    rw [e, show lowS 1 = enc (fR 10 42) [false] from by decide +kernel, show highS 1 = enc (fR 10 42) [true] from by decide +kernel]
    exact ⟨_, _, h⟩
  · have h := body_of_chk (f := fR 91 13) (by decide) (by intro b; cases b <;> decide) h6 hk hc ks.sum
    rw [e, show lowS 2 = enc (fR 91 13) [false] from by decide +kernel, show highS 2 = enc (fR 91 13) [true] from by decide +kernel]
    exact ⟨_, _, h⟩
theorem sum_b : ∀ {ks : List Int}, (∀ k ∈ ks, 0 ≤ k ∧ k < 1000000) → 0 ≤ ks.sum ∧ ks.sum ≤ 1000000 * (ks.length : Int)
  | [], _ => by simp
  | k :: r, h => by
    have h1 := sum_b (ks := r) fun x hx => h x (.tail _ hx)
    have h2 := h k (.head _)
    simp only [List.sum_cons, List.length_cons]
    push_cast
    omega
theorem law_try : PySem.Challenge.rw_rw0014_01.Holds := by
  refine hd ?_
  k_fill
  w_on
  k_go0
  all_goals (try k_fold)
  iterate 41 (walk_at "go")
  (rename Fr _ _ _ _ => lF9)
  (rename News _ _ _ _ => lN9)
  (rename IntsAre _ _ => hI9)
  (rename ∀ k ∈ _, 0 ≤ k ∧ k < 1000000 => hb9)
  (rename List.length _ = 6 => h69)
  refine join_menu hI9 lF9 lN9 ?_ (fun h' tk' t1' t2' F' N' => ?_)
  · clear hb9
    repeat' (walk_at "go")
    all_goals (rename Int.fmod _ _ = _ => hj9)
    all_goals refine J2.intro (by k_asm) (by k_asm) (by kcf_all) ⟨_, _, by rw [hj9]; rfl, by rw [hj9]; rfl⟩
  · clear lF9 lN9
    have h6 := hI9.length.symm.trans h69
    obtain ⟨fr, rs, hb⟩ := plain h6 hb9
    have hsb := sum_b hb9
    show wpAny _ _ (execs (_ :: _ :: _) _) _ _ _
    refine wpAny_mono (tail3 (rest := []) (fr := fr) (rs := rs) (vsN := _) (ns := _) (tot := _) (by k_asm) F' (by with_unfolding_all rfl) (by with_unfolding_all rfl) (by with_unfolding_all rfl) (by with_unfolding_all rfl) (by k_asm) (cb_drop N' (by kcf_all)) (by k_asm) ?hd1 ?hu hI9 h6 hb9 ?hlo ?hhi ?htot ?hE ?hK ?hP ?hW ?hord ?hr hb) (fun fl s' h => ?_) (fun _ _ e => e)
    case hd1 => decide +kernel
    case hu => decide +kernel
    case hlo => unfold lowS; split <;> (try split) <;> decide +kernel
    case hhi => unfold highS; split <;> (try split) <;> decide +kernel
    case htot => omega
    case hE => passes_own
    case hK => exact ⟨_, by assumption⟩
    case hP => exact ⟨_, by assumption⟩
    case hW => exact ⟨_, by assumption⟩
    case hord =>
      (rename ∀ (p : Addr × Obj), p ∈ (_ : List (Addr × Obj)) → p.1 ≠ _ => hne9)
      exact ⟨(hne9 _ (.tail _ (.tail _ (.tail _ (.head _))))).symm, (hne9 _ (.tail _ (.tail _ (.head _)))).symm, (hne9 _ (.tail _ (.head _))).symm⟩
    case hr => exact fun p hp => nomatch hp
    obtain ⟨rfl, h', tk, m', nw, rfl, F, N⟩ := h
    repeat' (first | (k_unfold; (try dsimp only)) | (k_end; wrow_close) | walk1)

end Mine
end
theorem PySem.Challenge.cw_rw0014_01_holds : PySem.Challenge.rw_rw0014_01.Holds :=
  Mine.law_try
