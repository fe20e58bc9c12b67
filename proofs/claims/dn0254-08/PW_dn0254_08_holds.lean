import PyProof.Rows.All
import Wide.All
import OpenK.AllK
import Wide.FinOn
import PyProof.AttrMissHeap
import KE.KTryDeepN
import PySem.Challenge.RW_dn0254_08
open PySem PySem.W PyProof.Rows PySem.Calls
set_option Elab.async false
set_option maxRecDepth 100000
set_option rowWalk.seconds 0
set_option compiler.extract_closed false
set_option genInjectivity false
namespace Mine
set_option maxHeartbeats 8000000
open_top hd for PySem.Challenge.rw_dn0254_08
end Mine
set_option maxHeartbeats 8000000

namespace Mine
theorem entry_hasattr : entryFor table "hasattr" = some Builtin.«hasattr» := entryFor_of_tree (by kernel_rfl)
theorem kind_hasattr : builtinKind "hasattr" = none := by decide +kernel
theorem plain_hasattr : plainId "hasattr" = true := by decide +kernel
theorem args_hasattr2 (a b : Value) : argsOk "hasattr" ⟨[a, b], []⟩ := by unfold argsOk; kernel_rfl

section
variable {prog : Program} {w : World} {A : Around} {E : Value → Shared → Prop} {s : Shared} {K : Frag} {x C L f : Addr} {h₀ : Heap} {m : Str → Option Value} {ox : Obj} {od : Option Obj}
theorem getBy_open {expr fill : Bool} {Q : Value → Shared → Prop} {name : Str} {tk : Tok} (X : K.In s.heap) (I : W.InstAt s.heap x ox C od) (hga : findIn K (.ref C) "__getattribute__" = some (some (.builtin "object.__getattribute__")))
    (h : wpAny (model prog w) A.in1 (Builtin.«proto.getattr_hooked» ⟨[.ref x, .str name tk], []⟩)
      (fun fin s' => match fin with | .done (.ret v) => wpAny (model prog w) A (handedOut v) Q E s' | _ => False) (fun e s' => wpAny (model prog w) A (noteIf fill (.ref x) (.str name tk) e) (fun _ s'' => E e s'') E s') s) :
    wpAny (model prog w) A (getAttrBy (.ref x) (.str name tk) fill expr) Q E s := by
  obtain ⟨hh, g, d, t, os⟩ := s
  have L0 := I.type (M := model prog w)
  have L1 := looks_findIn (M := model prog w) X hga
  unfold getAttrBy
  refine wpAny_holding (wpAny_bind (L0.at (wpAny_bind (L1.at ?_))))
  show wpAny _ _ (getAttrEveryday _ _ _) _ _ _
  refine wpAny_bind (wpAny_onRaise (wpAny_runValue (codeAny_builtin F.plainObj_entry_getattr_hooked (wpAny_mono h (fun fin s' z => ?_) fun _ _ z => z))))
  rcases fin with (_ | _ | _ | _) | _ <;> first | exact z | exact z.elim
theorem getBy_value {expr fill : Bool} {Q : Value → Shared → Prop} {name : Str} {tk : Tok} {v : Value} (X : K.In s.heap) (I : W.InstAt s.heap x ox C od) (hga : findIn K (.ref C) "__getattribute__" = some (some (.builtin "object.__getattribute__")))
    (hf : findObj K C od name = some (.value v)) (hh : handedIn v = true) (h : Q v s) : wpAny (model prog w) A (getAttrBy (.ref x) (.str name tk) fill expr) Q E s := by
  refine getBy_open X I hga ?_
  obtain ⟨hh', g, d, t, os⟩ := s
  have L0 := I.type (M := model prog w)
  have L1 := looks_find (M := model prog w) X I hf
  refine wpAny_bind (wpAny_pure (wpAny_bind (L0.at (wpAny_bind (L1.at ?_)))))
  refine wpAny_pure ?_
  show wpAny _ _ (handedOut v) _ _ _
  rw [handedOut_of hh]; exact wpAny_pure h
theorem hasattr_yes {Q : Value → Shared → Prop} {name : Str} {v : Value} {tk : Tok} (F : Fr h₀ L s.heap m) (X₀ : K.In h₀) (I : InstAt s.heap x ox C od)
    (hga : findIn K (.ref C) "__getattribute__" = some (some (.builtin "object.__getattribute__"))) (hmod : mroIn K C (.type "module") = some false)
    (hf : findObj K C od name = some (.value v)) (hh : handedIn v = true)
    (h : Q (.bool true) s) : wpAny (model prog w) A (call (.builtin "hasattr") [.ref x, .str name tk]) Q E s := by
  refine Calls.call_function_entry kind_hasattr plain_hasattr entry_hasattr (args_hasattr2 _ _) ?_
  have X := X₀.keeps F.keep
  obtain ⟨hh', g, d, t, os⟩ := s
  have L0 := I.type (M := model prog w)
  have L1 := looks_findIn (M := model prog w) X hga
  have L2 := looks_find (M := model prog w) X I hf
  have L3 := looks_mroIn (M := model prog w) X hmod
  unfold Builtin.«hasattr»
  refine wpAny_bind (m := someArgs "hasattr" 2 2 _) (wpAny_pure ?_)
  dsimp only
  refine wpAny_bind (wpAny_bind (wpAny_pure ?_))
  show wpAny _ _ (pure _) _ _ _
  refine wpAny_pure ?_
  show wpAny _ _ (do
    let y ← typeOf (Value.ref x)
    _) _ _ _
  refine wpAny_bind (L0.at ?_)
  dsimp only
  refine wpAny_bind ?_
  repeat ((fail_if_success (with_reducible show wpAny _ _ (getAttrBy? _ _) _ _ _)); lk)
  refine wpAny_bind (wpAny_attempt (getBy_value X I hga hf hh ?_))
  refine wpAny_pure ?_
  show wpAny _ _ (ret (Value.bool true)) _ _ _
  exact wpAny_pure ⟨_, rfl, h⟩
end

/-! loops by an invariant over the frame's names and the ledger -/
section
variable {prog : Program} {w : World} {A : Around} {E : Value → Shared → Prop} {s : Shared} {env : Env} {h₀ : Heap} {x : Str} {body : List Stmt} {Q : Flow → Shared → Prop}
def EndJ (h₀ : Heap) (L : Addr) (J : (Str → Option Value) → List (Addr × Obj) → Prop) (own : List (Addr × Obj)) (I : Addr) (s₁ s₂ : Shared) : Prop :=
  ∃ h' tk m' news', s₂ = { s₁ with heap := h', toks := tk } ∧ Fr h₀ L h' m' ∧ News h₀ L h' (news' ++ own) ∧ (∀ p ∈ news', p.1 ≠ I) ∧ J m' news'
def PostJ (h₀ : Heap) (L : Addr) (J : (Str → Option Value) → List (Addr × Obj) → Prop) (own : List (Addr × Obj)) (I : Addr) (s₁ : Shared) (Q : Flow → Shared → Prop) (f : Flow) (s₂ : Shared) : Prop :=
  match f with
  | .ret v => Q (.ret v) s₂
  | .brk => Q .next s₂
  | _ => EndJ h₀ L J own I s₁ s₂
theorem news_comm {L : Addr} {h : Heap} {a b : List (Addr × Obj)} (N : News h₀ L h (a ++ b)) : News h₀ L h (b ++ a) := fun p hp => N p ((List.mem_append.mp hp).elim (fun h => List.mem_append.mpr (.inr h)) fun h => List.mem_append.mpr (.inl h))
theorem postJ_step {L I : Addr} {J : (Str → Option Value) → List (Addr × Obj) → Prop} {own : List (Addr × Obj)} {s₁ s₂ : Shared} {f : Flow} (h : PostJ h₀ L J own I s₁ Q f s₂) :
    LoopStepV h₀ L [I] own J s₁ (fun v s' => Q (.ret v) s') (fun s' => Q .next s') f s₂ := by
  have fin : EndJ h₀ L J own I s₁ s₂ → LoopStepU h₀ L [I] own J s₁ .next s₂ := by
    rintro ⟨h', tk, m', news', e, F', N', hn, hj⟩
    exact ⟨rfl, h', tk, m', news', e, F', news_comm N', fun p hp q => hn p hp (List.mem_singleton.mp q), hj⟩
  cases f with
  | ret v => exact .ret h
  | brk => exact .brk h
  | next => exact .next (fin h)
  | cont => exact .cont (fin h)
theorem iter_listJ {l : Addr} {vs : List Value} {m₀ : Str → Option Value} {news : List (Addr × Obj)} (J : Nat → (Str → Option Value) → List (Addr × Obj) → Prop)
    (hh : A.handled = none) (hl : s.heap.IsList l vs.toArray) (hlL : l ≠ env.locals) (F : Fr h₀ env.locals s.heap m₀) (N : News h₀ env.locals s.heap news) (hj : J 0 m₀ news)
    (turn : ∀ I i v m₁ news₁ h tk own, vs[i]? = some v → J i m₁ news₁ → (∀ p ∈ news₁, p.1 ≠ I) → (∀ p ∈ own, p.1 = I ∨ p.1 = l) → (∃ o, (I, o) ∈ own) → (∀ p ∈ news, p.1 < I) → l < I → Fr h₀ env.locals h (fun y => if y = x then some v else m₁ y) → News h₀ env.locals h (news₁ ++ own) →
      wpAny (model prog w) A (execs body env) (PostJ h₀ env.locals (J (i + 1)) own I { s with heap := h, toks := tk } Q) E { s with heap := h, toks := tk })
    (done : ∀ m₁ news₁ h tk, J vs.length m₁ news₁ → Fr h₀ env.locals h m₁ → News h₀ env.locals h news₁ → Q .next { s with heap := h, toks := tk }) :
    wpAny (model prog w) A (pyIter (.ref l)) (fun it s₂ => LoopAtV prog w A h₀ env x body Q E it s₂) E s := by
  obtain ⟨ol, hol, _⟩ := id hl
  have hlt : l < s.heap.objs.size := Heap.lt_size hol
  refine wpAny_pyIter_list hl ?_
  have W := Walks.list (prog := prog) (w := w) hh s.heap.objs.size l (Nat.ne_of_lt hlt) vs.toArray
  have hlen : vs.toArray.size = vs.length := by simp
  rw [hlen] at W
  refine ⟨_, _, _, vs.length, _, _, m₀, news, J, rfl, W, ?_, ?_, ?_, ⟨⟨_, Heap.get?_push_size _ rfl, rfl, rfl⟩, hl.at fun o e => Heap.get?_push_of_some _ e⟩, F.push _, (fun p hp => ⟨Heap.get?_push_of_some _ (N p hp).1, (N p hp).2⟩), hj, ?_, ?_⟩
  · intro hm
    rcases List.mem_cons.mp hm with e | hm
    · exact absurd F.ns.lt (e ▸ Nat.lt_irrefl _)
    · exact hlL (List.mem_singleton.mp hm).symm
  · intro b hb
    rw [List.mem_singleton.mp hb]
    exact next_is_new F
  · intro p hp hI
    exact absurd (Heap.lt_size (N p hp).1) ((List.mem_singleton.mp hI) ▸ Nat.lt_irrefl _)
  · rintro i v m₁ news₁ s₁ own ⟨hh', tk', rfl⟩ hin hP hJ hoff hown _ hall hst F₁ N₁
    have hIo : ∃ o, (s.heap.objs.size, o) ∈ own := by
      obtain ⟨⟨o, ho, _⟩, _⟩ := hst
      exact ⟨o, hall _ (.head _) (next_is_new F) o ho⟩
    refine wpAny_mono (turn s.heap.objs.size i v m₁ news₁ hh' tk' own (by simpa using hP) hJ (fun p hp q => hoff p hp (by rw [q]; exact .head _)) (fun p hp => ?_) hIo (fun p hp => Heap.lt_size (N p hp).1) hlt F₁ (news_comm N₁)) (fun f s₂ p => postJ_step p) fun _ _ e => e
    rcases List.mem_cons.mp (hown p hp) with h1 | h1
    · exact .inl h1
    · exact .inr (List.mem_singleton.mp h1)
  · rintro h' tk m' news' F' N' _ hJ
    exact done m' news' h' tk hJ F' N'
theorem iter_rangeJ {r : Addr} {a₀ b₀ : Int} {t₀ u₀ v₀ : Tok} {n : Nat} {m₀ : Str → Option Value} {news : List (Addr × Obj)} (J : Nat → (Str → Option Value) → List (Addr × Obj) → Prop)
    (hh : A.handled = none) (hr : IsRange s.heap r a₀ b₀ 1 t₀ u₀ v₀) (hsmall : Builtin.Range.small a₀ b₀ 1 = true) (hn : Builtin.Range.rangeSize a₀ b₀ 1 = (n : Int)) (F : Fr h₀ env.locals s.heap m₀) (N : News h₀ env.locals s.heap news) (hj : J 0 m₀ news)
    (turn : ∀ I (i : Nat) t m₁ news₁ h tk own, i < n → J i m₁ news₁ → (∀ p ∈ news₁, p.1 ≠ I) → (∀ p ∈ own, p.1 = I) → (∃ o, (I, o) ∈ own) → (∀ p ∈ news, p.1 < I) → Fr h₀ env.locals h (fun y => if y = x then some (.int (a₀ + i) t) else m₁ y) → News h₀ env.locals h (news₁ ++ own) →
      wpAny (model prog w) A (execs body env) (PostJ h₀ env.locals (J (i + 1)) own I { s with heap := h, toks := tk } Q) E { s with heap := h, toks := tk })
    (done : ∀ m₁ news₁ h tk, J n m₁ news₁ → Fr h₀ env.locals h m₁ → News h₀ env.locals h news₁ → Q .next { s with heap := h, toks := tk }) :
    wpAny (model prog w) A (pyIter (.ref r)) (fun it s₂ => LoopAtV prog w A h₀ env x body Q E it s₂) E s := by
  refine wpAny_pyIter_range hr hsmall ?_
  have W : Walks prog w A s.heap.objs.size [s.heap.objs.size] [s.heap.objs.size] n (fun i v => i < n ∧ ∃ t, v = .int (a₀ + i * 1) t)
      (fun i h => IsRangeIter h s.heap.objs.size (a₀ + (i : Nat) * 1) ((n : Int) - (i : Nat)) 1) := (Walks.range hh _ a₀ 1 n).bound
  refine ⟨_, _, _, n, _, _, m₀, news, J, rfl, W, ?_, ?_, ?_, (by show IsRangeIter _ _ _ _ _; rw [hn]; simpa using Heap.get?_push_size _ rfl), F.push _, (fun p hp => ⟨Heap.get?_push_of_some _ (N p hp).1, (N p hp).2⟩), hj, ?_, ?_⟩
  · intro hm
    exact absurd F.ns.lt ((List.mem_singleton.mp hm) ▸ Nat.lt_irrefl _)
  · intro b hb
    rw [List.mem_singleton.mp hb]
    exact next_is_new F
  · intro p hp hI
    exact absurd (Heap.lt_size (N p hp).1) ((List.mem_singleton.mp hI) ▸ Nat.lt_irrefl _)
  · rintro i v m₁ news₁ s₁ own ⟨hh', tk', rfl⟩ hin ⟨_, t, rfl⟩ hJ hoff hown _ hall hst F₁ N₁
    refine wpAny_mono (turn s.heap.objs.size i t m₁ news₁ hh' tk' own hin hJ (fun p hp q => hoff p hp (by rw [q]; exact .head _)) (fun p hp => List.mem_singleton.mp (hown p hp)) ⟨_, hall _ (.head _) (next_is_new F) _ hst⟩ (fun p hp => Heap.lt_size (N p hp).1) (by simpa using F₁) (news_comm N₁)) (fun f s₂ p => postJ_step p) fun _ _ e => e
  · rintro h' tk m' news' F' N' _ hJ
    exact done m' news' h' tk hJ F' N'
end

/-! a name put into a dict's entries -/
theorem isStr_two {k : Value} {a b : Str} (h : k.isStr a = true) (hne : b ≠ a) : k.isStr b = false := by
  cases k with
  | str x t =>
    have e : x = a := by simpa [Value.isStr] using h
    subst e
    simp only [Value.isStr]
    exact beq_false_of_ne (fun q => hne q.symm)
  | _ => cases h
theorem find_put_same (name : Str) (hsh : Int) (t : Tok) (v : Value) : ∀ es : List DictEntry, ((putL name hsh (.str name t) v es).find? (·.key.isStr name)).map (·.val) = some v
  | [] => by simp [putL, Value.isStr]
  | e :: r => by
    unfold putL
    split
    · rename_i h; simp [h]
    · rename_i h
      rw [List.find?_cons_of_neg (p := fun x : DictEntry => x.key.isStr name) h]
      exact find_put_same name hsh t v r
theorem find_put_other {name nm : Str} (hne : nm ≠ name) (hsh : Int) (t : Tok) (v : Value) : ∀ es : List DictEntry, (putL name hsh (.str name t) v es).find? (·.key.isStr nm) = es.find? (·.key.isStr nm)
  | [] => by
    unfold putL
    have : (name == nm) = false := beq_false_of_ne fun q => hne q.symm
    simp [Value.isStr, this]
  | e :: r => by
    unfold putL
    split
    · rename_i h
      have h2 := isStr_two h hne
      rw [List.find?_cons_of_neg (by simp [h2]), List.find?_cons_of_neg (by simp [h2])]
    · rename_i h
      rw [List.find?_cons, List.find?_cons, find_put_other hne hsh t v r]
theorem refKey_put (name : Str) (hsh : Int) (t : Tok) (v : Value) : ∀ es : List DictEntry, (putL name hsh (.str name t) v es).any (·.refKey) = es.any (·.refKey)
  | [] => by simp [putL]; rfl
  | e :: r => by
    unfold putL
    split
    · rfl
    · rw [List.any_cons, List.any_cons, refKey_put name hsh t v r]
theorem getL_put_same (name : Str) (hsh : Int) (t : Tok) (v : Value) (es : List DictEntry) : getL name (putL name hsh (.str name t) v es) = some (some v) := by
  have h := find_put_same name hsh t v es
  unfold getL
  cases q : (putL name hsh (.str name t) v es).find? (·.key.isStr name) with
  | none => rw [q] at h; cases h
  | some e => rw [q] at h; simp at h; simp [h]
theorem getL_put_other {name nm : Str} (hne : nm ≠ name) (hsh : Int) (t : Tok) (v : Value) (es : List DictEntry) : getL nm (putL name hsh (.str name t) v es) = getL nm es := by
  unfold getL
  rw [find_put_other hne, refKey_put]
theorem put_len (name : Str) (hsh : Int) (t : Tok) (v : Value) : ∀ es : List DictEntry, (putL name hsh (.str name t) v es).length = if (es.find? (·.key.isStr name)).isSome then es.length else es.length + 1
  | [] => by simp [putL]
  | e :: r => by
    unfold putL
    split
    · rename_i h; simp [h]
    · rename_i h
      rw [List.length_cons, put_len name hsh t v r, List.find?_cons_of_neg (p := fun x : DictEntry => x.key.isStr name) h]
      split <;> simp
/-- the ledger without one address -/
def off (d : Addr) (news : List (Addr × Obj)) : List (Addr × Obj) := news.filter fun p => p.1 != d
theorem mem_off {d : Addr} {news : List (Addr × Obj)} {p : Addr × Obj} : p ∈ off d news ↔ p ∈ news ∧ p.1 ≠ d := by
  unfold off; rw [List.mem_filter]; simp
theorem fill1 {m : Str → Option Value} {k : Str} {v : Value} (h : m k = some v) (y : Str) : (if y = k then some v else m y) = m y := by
  split
  · rename_i e; rw [e, h]
  · rfl
section
variable {M : Model} {A : Around} {E : Value → Shared → Prop} {s : Shared} {h₀ : Heap} {L a b : Addr} {oa ob : Obj} {news : List (Addr × Obj)} {Q : Value → Shared → Prop}
end

section
variable {prog : Program} {w : World} {A : Around} {E : Value → Shared → Prop} {s : Shared} {h₀ : Heap} {L : Addr} {news : List (Addr × Obj)}
theorem item_led {value slice : PySem.Expr} {l : Addr} {vs : List Value} {n : Nat} {k : Int} {u : Tok} {v : Value} {Q : Value → Shared → Prop} (N : News h₀ L s.heap news)
    (hl : (l, W.listOf vs.toArray n) ∈ news) (h0 : 0 ≤ k) (hhi : k < 2 ^ 63) (hx : vs[k.toNat]? = some v) (h : Q v s)
    (hs : subscripted slice false (.ref l) (.int k u) = operate [.ref l, .int k u] (getItem (.ref l) (.int k u)) := by with_unfolding_all rfl) :
    wpAny (model prog w) A (subscriptTail value slice (.ref l) (.int k u)) Q E s :=
  tail_any (News.isList N hl).typeIs slot_list_getitem.lookup (wpAny_getItem_list (News.isList N hl) h0 hhi (by simpa using hx) h) hs
end

/-! lists of the ledger -/
section
variable {prog : Program} {w : World} {A : Around} {E : Value → Shared → Prop} {s : Shared} {h₀ : Heap} {L D : Addr} {m : Str → Option Value} {news news' : List (Addr × Obj)} {vs : List Value} {v : Value} {n : Nat}
theorem lineBig : 2 ^ 20 ≤ sizeLine := by decide
theorem len_led {Q : Value → Shared → Prop} (N : News h₀ L s.heap news) (hl : (D, W.listOf vs.toArray n) ∈ news) (hz : vs.length ≤ 2 ^ 20) (h : Q (.int vs.length (s.toks + 1)) { s with toks := s.toks + 1 + 1 }) : wpAny (model prog w) A (call (.builtin "len") [.ref D]) Q E s :=
  len_list (News.isList N hl) (by rw [List.size_toArray]; omega) (by rw [List.size_toArray]; exact h)
theorem truthy_led {Q : Bool → Shared → Prop} (N : News h₀ L s.heap news) (hl : (D, W.listOf vs.toArray n) ∈ news) (hz : vs.length ≤ 2 ^ 20) (h : Q (!vs.isEmpty) { s with toks := s.toks + 1 + 1 }) : wpAny (model prog w) A (truthy (.ref D)) Q E s :=
  wpAny_truthy_list (News.isList N hl) (by rw [List.size_toArray]; omega) (by rw [List.isEmpty_toArray]; exact h)
theorem append_led {Q : Value → Shared → Prop} (F : Fr h₀ L s.heap m) (N : News h₀ L s.heap news) (hz : vs.length ≤ 2 ^ 20) (U : Upd D (W.listOf vs.toArray n) (W.listOf (vs ++ [v]).toArray (n + 1)) news news')
    (h : ∀ h', Fr h₀ L h' m → News h₀ L h' news' → Q .none { s with heap := h' }) : wpAny (model prog w) A (call (.builtin "list.append") [.ref D, v]) Q E s :=
  append_K (its := vs.toArray) F N (by rw [List.push_toArray]; exact U) h (by rw [List.size_toArray]; exact Nat.le_trans hz lineBig)
end
end Mine


namespace Mine
section
variable {p1 p2 p3 p4 p5 p6 p7 p8 p9 pa pb pc pd pe pf q : Prop}
end
def Offs (I : Addr) (l : List (Addr × Obj)) : Prop := ∀ p ∈ l, p.1 ≠ I
theorem allLt_mem {d : Nat} : ∀ {l : List (Addr × Obj)}, AllLt d l → ∀ p ∈ l, @LT.lt Nat _ p.1 d
  | [], _, _, h => nomatch h
  | _ :: _, x, p, h => by
    rcases List.mem_cons.mp h with rfl | h
    · exact x.1
    · exact allLt_mem x.2 p h
/-- nw is news and new things -/
def Grown (news nw : List (Addr × Obj)) : Prop := (∀ p ∈ news, p ∈ nw) ∧ ∀ p ∈ nw, p ∈ news ∨ AllLt p.1 news
/-- nw is the new things, then news -/
def Made (news nw new : List (Addr × Obj)) : Prop := nw = new ++ news ∧ ∀ p ∈ new, AllLt p.1 news
section
variable {h₀ : Heap} {L I : Addr} {it : Obj} {rest : (Str → Option Value) → List (Addr × Obj) → Prop} {s₁ : Shared} {h' : Heap} {tk : Nat} {m' : Str → Option Value} {a1 a2 a3 a4 a5 a6 a7 a8 a9 : Addr × Obj} {post : List (Addr × Obj)}
end
end Mine


namespace Mine
/-! a list comprehension by an invariant over what is built and the ledger -/
section
variable {prog : Program} {w : World} {A : Around} {s : Shared} {h₀ : Heap} {L : Addr} {m : Str → Option Value} {env : Env} {elt : PySem.Expr} {x : Str} {scope : Scope} {cl : List (Str × Addr)} {S : List (Addr × Obj) → Prop} {P : Nat → Value → Prop} {Fin : List Value → List (Addr × Obj) → Prop}
theorem comp_inv {n : Nat} (J : Nat → List Value → List (Addr × Obj) → Prop)
    (step : ∀ i ys news, i < n → J i ys news → ∀ v I oI C oC D m₂ h tk (E' : Value → Shared → Prop), P i v → LCg.NsObj oC m₂ → m₂ x = some v → Fr h₀ L h m → News h₀ L h ((I, oI) :: (C, oC) :: (D, LCg.lst ys) :: news) → LCg.Off3 I C D news → ((@Ne Nat I C) ∧ (@Ne Nat I D) ∧ (@Ne Nat C D)) →
      wpAny (model prog w) A (eval elt (compEnvC scope cl C env)) (LCg.CompEnd h₀ L m { s with heap := h, toks := tk } I oI C oC D (LCg.lst ys) S (fun y news' => J (i + 1) (ys ++ [y]) news')) E' { s with heap := h, toks := tk })
    (fin : ∀ ys news, J n ys news → Fin ys news) : ∀ k i ys news, i + k = n → J i ys news → LCg.CompRest prog w A h₀ L m env elt x scope cl s S P Fin k i ys news
  | 0, i, ys, news, e, hj => .zero (fin ys news ((show i = n by omega) ▸ hj))
  | k + 1, i, ys, news, e, hj => .succ (fun v I oI C oC D m₂ h tk E' h1 h2 h3 h4 h5 h6 h7 => by
      refine wpAny_mono (step i ys news (by omega) hj v I oI C oC D m₂ h tk E' h1 h2 h3 h4 h5 h6 h7) (fun y s₂ z => ?_) fun _ _ e => e
      obtain ⟨h', tk', news', a1, a2, a3, a4, a5, a6⟩ := z
      exact ⟨h', tk', news', a1, a2, a3, a4, a5, comp_inv J step fin k (i + 1) (ys ++ [y]) news' (by omega) a6⟩)
end
end Mine


namespace Mine
theorem fr_f2 {h₀ h : Heap} {L : Addr} {m : Str → Option Value} {k1 k2 : Str} {v1 v2 : Value} (F : Fr h₀ L h m) (e1 : m k1 = some v1) (e2 : m k2 = some v2) : Fr h₀ L h (fun y => if y = k1 then some v1 else if y = k2 then some v2 else m y) := by
  rw [show (fun y => if y = k1 then some v1 else if y = k2 then some v2 else m y) = m from funext fun y => by simp only [fill1 e1, fill1 e2]]; exact F
theorem fr_f5 {h₀ h : Heap} {L : Addr} {m : Str → Option Value} {k1 k2 k3 k4 k5 : Str} {v1 v2 v3 v4 v5 : Value} (F : Fr h₀ L h m) (e1 : m k1 = some v1) (e2 : m k2 = some v2) (e3 : m k3 = some v3) (e4 : m k4 = some v4) (e5 : m k5 = some v5) : Fr h₀ L h (fun y => if y = k1 then some v1 else if y = k2 then some v2 else if y = k3 then some v3 else if y = k4 then some v4 else if y = k5 then some v5 else m y) := by
  rw [show (fun y => if y = k1 then some v1 else if y = k2 then some v2 else if y = k3 then some v3 else if y = k4 then some v4 else if y = k5 then some v5 else m y) = m from funext fun y => by simp only [fill1 e1, fill1 e2, fill1 e3, fill1 e4, fill1 e5]]; exact F
theorem fr_g2 {h₀ h : Heap} {L : Addr} {m : Str → Option Value} {x k1 k2 : Str} {v v1 v2 : Value} (F : Fr h₀ L h (fun y => if y = x then some v else m y)) (e1 : m k1 = some v1) (e2 : m k2 = some v2) : Fr h₀ L h (fun y => if y = x then some v else if y = k1 then some v1 else if y = k2 then some v2 else m y) := by
  rw [show (fun y => if y = x then some v else if y = k1 then some v1 else if y = k2 then some v2 else m y) = (fun y => if y = x then some v else m y) from funext fun y => by simp only [fill1 e1, fill1 e2]]; exact F
theorem small_range {a b : Int} (ha : -(2 ^ 40) ≤ a) (ha' : a ≤ 2 ^ 40) (hb : -(2 ^ 40) ≤ b) (hb' : b ≤ 2 ^ 40) : Builtin.Range.small a b 1 = true := by
  have h := rangeSize_one a b
  unfold Builtin.Range.small
  simp only [Builtin.Range.rangeFitsLong, h]
  split <;> simp <;> omega
end Mine


namespace Mine
section
variable {prog : Program} {w : World} {A : Around} {E : Value → Shared → Prop} {s : Shared} {K : Frag} {x C L f : Addr} {h₀ : Heap} {m : Str → Option Value} {ox : Obj} {od : Option Obj}
/-- a written class's name is short -/
def nameIn (K : Frag) (C : Addr) : Bool := (clsIn K C).any fun cd => decide (cd.name.cps.foldl (fun k c => k + (Str.utf8Of c).length) 0 ≤ 50) && decide (cd.name.toString.length ≤ 100)
end
end Mine


namespace Mine
/-- a new exception, as it flies first -/
structure NewE (h h' : Heap) (e : Addr) (cls : String) : Prop where
  keeps : ∀ b o, h.get? b = some o → h'.get? b = some o
  new : h.get? e = none
  there : ∃ ob vs a0, h'.get? e = some ob ∧ ob.cls = .type cls ∧ ob.data = .fields vs ∧ vs[1]? = some .none ∧ vs[0]? = some a0
theorem NewE.of_attr {h h' : Heap} {e : Addr} {o : Value} {name : Str} (x : Heap.NewAttrErr h h' e o name) : NewE h h' e "AttributeError" :=
  ⟨x.keeps, x.new, by obtain ⟨t, u, he⟩ := x.there; exact ⟨_, _, _, he, rfl, rfl, rfl, rfl⟩⟩
section
variable {prog : Program} {w : World} {A : Around} {E : Value → Shared → Prop} {s : Shared} {K : Frag} {x C L f : Addr} {h₀ : Heap} {m : Str → Option Value} {ox : Obj} {od : Option Obj}
theorem name_cut {Q : String → Shared → Prop} (X : K.In s.heap) (I : W.InstAt s.heap x ox C od) (hn : nameIn K C = true) (h : ∀ n : String, n.length ≤ 100 → Q n s) : wpAny (model prog w) A (typeNameOfCut 100 (.ref x)) Q E s := by
  obtain ⟨cd, hc, hb⟩ := any_some hn
  simp only [Bool.and_eq_true, decide_eq_true_eq] at hb
  unfold PySem.typeNameOfCut PySem.shownTypeOf
  refine wpAny_bind (wpAny_bind (I.type.here ?_))
  simp only [show (Value.ref C == Value.type "builtin_function_or_method") = false from rfl, Bool.false_eq_true, if_false]
  refine wpAny_pure ?_
  unfold PySem.typeNameCut
  refine wpAny_bind ((looks_clsIn X hc).here ?_)
  dsimp only
  rw [if_pos (by omega)]
  exact wpAny_pure (h _ hb.2)
theorem missMsg {n : String} {name : Str} (hp : n.length ≤ 100) (hn : name.length ≤ 100) : ((Str.ofString s!"'{n}' object has no attribute '") ++ name ++ Str.ofString "'").length ≤ sizeLine := by
  rw [strLen_append, strLen_append, PySem.ofString_length, PySem.ofString_length, sizeLine_eq]
  simp only [String.length_append, toString]
  have e1 : "'".length ≤ 100 := by decide
  have e2 : "' object has no attribute '".length ≤ 100 := by decide
  omega
theorem findObj_miss {od : Obj} {name : Str} (hh : hasDictIn K C = true) (ha : findIn K (.ref C) name = some none) (hc : copiedNames.contains name = false) (hl : lookIn name od = some none) :
    findObj K C (some od) name = some .missing := by
  obtain ⟨cd, hc', hd⟩ := any_some hh
  unfold findObj
  have ho : W.ownOf cd (some od) name = some none := by unfold W.ownOf; rw [if_pos hd]; exact hl
  rw [hc', Option.bind_some, ha, Option.bind_some]
  simp only [Option.bind_some, ho, hc, Bool.false_and, Bool.false_eq_true, if_false]
theorem get_miss {name : Str} {expr : Bool} {Q : Value → Shared → Prop} {es : List DictEntry} {n : Nat} (hA : A.handled = none) (F : Fr h₀ L s.heap m) (X₀ : K.In h₀) (I : W.InstAt s.heap x ox C (some (dictOf es n))) (hg : plainGet K C name = true) (hh : hasDictIn K C = true)
    (ha : findIn K (.ref C) name = some none) (hc : copiedNames.contains name = false) (hn : nameIn K C = true) (hnl : name.length ≤ 100) (hl : getL name es = some none)
    (h : ∀ h' tk e, NewE s.heap h' e "AttributeError" → E (.ref e) { s with heap := h', toks := tk }) : wpAny (model prog w) A (getAttr (.ref x) name expr) Q E s := by
  have X := X₀.keeps F.keep
  refine get_open X I (plainGet_of hg).1 ?_
  obtain ⟨hp, g, d, t, os⟩ := s
  have L0 := I.type (M := model prog w)
  have L1 := looks_find (M := model prog w) X I (findObj_miss hh ha hc hl)
  have L2 := looks_findIn (M := model prog w) X (plainGet_of hg).2
  refine wpAny_bind (wpAny_pure (wpAny_bind (L0.at (wpAny_bind (L1.at ?_)))))
  refine wpAny_bind (L2.at ?_)
  show wpAny _ _ (Builtin.ObjectAttr.noSuchAttribute _ _) _ _ _
  unfold Builtin.ObjectAttr.noSuchAttribute
  refine wpAny_bind (name_cut (K := K) X I hn fun nm hnm => ?_)
  refine wpAny_raiseAttrError hA (fun h' tk e hx => ?_) (missMsg hnm hnl)
  obtain ⟨t', u', he⟩ := hx.there
  dsimp only
  unfold noteIf noteAttr
  rw [if_pos rfl]
  have f1 := sub_AttributeError
  repeat (any_goals (first | assumption | wp_step))
  exact h _ _ _ (NewE.of_attr hx)
end
section
variable {M : Model} {A : Around} {E : Value → Shared → Prop} {s' : Shared} {base g g₂ h : Heap} {outer : List Env} {L a e t : Addr} {m : Str → Option Value} {name : Str} {scope : Scope} {cd : Value} {Q : Unit → Shared → Prop} {news : List (Addr × Obj)}
end
section
variable {prog : Program} {w : World} {A₀ : Around} {E : Value → Shared → Prop} {s s' : Shared} {h₀ h : Heap} {outer : List Env} {L a e : Addr} {m : Str → Option Value} {name : Str} {scope : Scope} {cd : Value}
  {b₀ : Stmt} {suite : List Stmt} {pos np : Pos} {rest hs : List ExceptHandler} {Q : Flow → Shared → Prop} {news : List (Addr × Obj)}
  {p : Program} {loose : List Str} {mean : ExcName → Option Value} {mg mb : Str → Option Value} {x : Str} {X T' : String}
/-- an exception that has come to a try statement's handlers -/
def Held (h₀ : Heap) (L : Addr) (m : Str → Option Value) (news : List (Addr × Obj)) (l : List Env) (e : Addr) (X : String) (h : Heap) : Prop :=
  Fr h₀ L h m ∧ ∃ B a0, h₀.StaysIn B ∧ B.get? L = none ∧ (∀ q ∈ news, B.get? q.1 = some q.2 ∧ h₀.get? q.1 = none) ∧ Heap.FlyingW B l e (.type X) a0 h
end
theorem isExc_AttributeError : isSubtype (.type "AttributeError") (.type "BaseException") = pure true := by rw [isSubtype_type]; kernel_rfl
theorem notTuple_AttributeError : isSubtype (.type ((Manifest.find? "AttributeError").elim "type" fun y => y.metatype)) (.type "tuple") = pure false := by rw [isSubtype_type]; kernel_rfl
end Mine


namespace Mine
/-! a call below which an exception is caught: the frames of the callers may change in their slots -/
abbrev frs (l : List Env) : List Addr := l.filterMap (·.frame)
theorem frs_mem {env : Env} {outer : List Env} {L b : Addr} (hf : env.frame = some L) (hm : b ∈ frs (env :: outer)) : b = L ∨ b ∈ frs outer := by
  obtain ⟨e, he, hb⟩ := List.mem_filterMap.mp hm
  rcases List.mem_cons.mp he with rfl | he
  · rw [hf] at hb; exact .inl (Option.some.inj hb).symm
  · exact .inr (List.mem_filterMap.mpr ⟨e, he, hb⟩)
def LeaveT (fs : List Addr) (g : Heap) (R : List (Addr × Obj) → Value → Shared → Prop) (v : Value) (s' : Shared) : Prop :=
  ∃ g' L' m' news', KtsTurn fs g g' ∧ Fr g' L' s'.heap m' ∧ News g' L' s'.heap news' ∧ R news' v s'
/-- what a caller knows afterwards -/
def BackT (A₀ : Around) (base : Heap) (outer : List Env) (h₀ : Heap) (L : Addr) (m : Str → Option Value) (R : Result → Shared → Prop) (news' : List (Addr × Obj)) (v : Value) (s' : Shared) : Prop :=
  ∀ h₀', KtsTurn (frs outer) h₀ h₀' → Fr h₀' L s'.heap m → News h₀' L s'.heap news' → Below A₀ base outer h₀' → KtsDicts (frs outer) h₀' → R (.ok (.ret v)) s'
section
variable {prog : Program} {w : World} {A₀ A : Around} {s : Shared} {base h₀ g₀ : Heap} {env : Env} {outer : List Env} {L L' : Addr} {m m' : Str → Option Value} {news news' : List (Addr × Obj)} {K : Frag} {p : Program} {loose : List Str} {mean : ExcName → Option Value} {mg mb : Str → Option Value}
    {R : Result → Shared → Prop} {name qual : Str} {params : Arguments} {body : List Stmt} {scope : Scope} {dV kV doc pm cdv ct oc : Value} {an od : Option Addr} {osl : Array (Option Value)} {f : Addr} {args : Args} {binds : List (Str × Value)}
end
section
variable {M : Model} {A : Around} {E : Value → Shared → Prop} {s' : Shared} {base g g₂ h : Heap} {env : Env} {outer : List Env} {L e : Addr} {m : Str → Option Value} {Q : Unit → Shared → Prop} {news : List (Addr × Obj)}
theorem leaveE_new {cls : String} (K : Below A base outer g) (hx : NewE h s'.heap e cls) (F : Fr g L h m) (N : News g L h news) (hf : env.frame = some L) (hke : env.scope.kind = .function)
    (hQ : ∀ h', RaisedSN base g outer e (.type cls) news h' → g.UpToSlots h' → Q () { s' with heap := h' }) :
    wpAny M (A.deeper env) (leaving env (.ref e)) Q E s' := by
  have K' := pushX K F hf hke
  have hin : ∀ en ∈ (env :: outer), ∀ b, en.frame = some b → b ∈ frs (env :: outer) := fun en he b hb => List.mem_filterMap.mpr ⟨en, he, hb⟩
  have st : base.StaysIn (hideAll h (frs (env :: outer))) := fun b o q => hideAll_get _ (K'.stays b o q) fun hm => by
    rw [(K'.frames.mem hm).1] at q; cases q
  have sg : ∀ b o, g.get? b = some o → b ∉ frs outer → (hideAll h (frs (env :: outer))).get? b = some o := fun b o q nm => hideAll_get _ (F.keep b o q) fun hm => by
    rcases frs_mem hf hm with z | z
    · rw [z, kts_self F] at q
      cases q
    · exact nm z
  have hl : ∀ q ∈ news, (hideAll h (frs (env :: outer))).get? q.1 = some q.2 ∧ g.get? q.1 = none ∧ base.get? q.1 = none := fun q hq => by
    refine ⟨hideAll_get _ (N q hq).1 fun hm => ?_, (N q hq).2.2, fresh_of_stays K.stays (N q hq).2.2⟩
    rcases frs_mem hf hm with z | z
    · exact (N q hq).2.1 z
    · obtain ⟨o, ho, _⟩ := (K.frames.mem z).2
      rw [(N q hq).2.2] at ho; cases ho
  obtain ⟨ob, vs, tp, he, hcls, hd, h1, h0⟩ := hx.there
  have hen : (hideAll h (frs (env :: outer))).get? e = none := by
    cases q : (hideAll h (frs (env :: outer))).get? e with
    | none => rfl
    | some o => have := of_hideAll _ q; rw [hx.new] at this; cases this
  refine wpAny_leaving_firstW (a0 := tp) K'.stack ((funFrames_hide K'.frames hin).of_keeps fun b o hb _ => ⟨o, hx.keeps b o hb, rfl⟩) hf he (fun b o hb => hx.keeps b o (of_hideAll _ hb)) hen hd h1 h0 fun h' hL => ?_
  obtain ⟨k1, ⟨_, _, k2⟩, k3, k4⟩ := hL
  exact hQ h' ⟨_, tp, st, sg, hl, k1, hen, k2, by rw [← hcls]; exact k3⟩ (((Heap.UpToSlots.of_keeps F.keep).trans (Heap.UpToSlots.of_keeps hx.keeps)).trans k4)
theorem leaveE_on {cls : Value} (K : Below A base outer g) (F : Fr g L g₂ m) (R : RaisedSN base g₂ (env :: outer) e cls news s'.heap) (hsm : g₂.UpToSlots s'.heap) (hf : env.frame = some L)
    (hQ : ∀ h', RaisedSN base g outer e cls news h' → g.UpToSlots h' → Q () { s' with heap := h' }) :
    wpAny M (A.deeper env) (leaving env (.ref e)) Q E s' := by
  obtain ⟨B, a0, hB, hBG, hl, hfl⟩ := R
  exact wpAny_leaves_onW (Around.frames_deeper K.stack) hf hfl fun h' x1 x2 =>
    hQ h' ⟨B, a0, hB, fun b o q nm => hBG b o (F.keep b o q) (fun hm => by
      rcases frs_mem hf hm with z | z
      · rw [z, kts_self F] at q
        cases q
      · exact nm z), fun q hq => ⟨(hl q hq).1, kts_none F.keep (hl q hq).2.1, (hl q hq).2.2⟩, x1⟩ ((Heap.UpToSlots.of_keeps F.keep).trans (hsm.trans x2))
end
section
variable {prog : Program} {w : World} {A₀ : Around} {E : Value → Shared → Prop} {s s' : Shared} {base g g₀ G : Heap} {outer : List Env} {L a e : Addr} {m : Str → Option Value} {name : Str} {scope : Scope} {cd : Value}
  {b₀ : Stmt} {suite : List Stmt} {pos np : Pos} {rest hs : List ExceptHandler} {Q : Flow → Shared → Prop} {news : List (Addr × Obj)} {KF : Frag}
  {p : Program} {loose : List Str} {mean : ExcName → Option Value} {mg mb : Str → Option Value} {x : Str} {X T' : String}
def HeldS (base G : Heap) (L : Addr) (l : List Env) (e : Addr) (X : String) (news : List (Addr × Obj)) (h : Heap) : Prop :=
  ∃ B a0, base.StaysIn B ∧ (∀ b o, G.get? b = some o → b ∉ frs l → B.get? b = some o) ∧ (∀ q ∈ news, B.get? q.1 = some q.2 ∧ G.get? q.1 = none ∧ base.get? q.1 = none) ∧ B.get? L = none ∧ Heap.FlyingW B l e (.type X) a0 h ∧ G.UpToSlots h
end
end Mine


namespace Mine
/-- one of two ints -/
def inF (a b k : Int) : Bool := decide (a = k) || decide (b = k)
section
variable {prog : Program} {w : World} {A : Around} {E : Value → Shared → Prop} {s : Shared} {h₀ : Heap} {L l : Addr} {news : List (Addr × Obj)} {a b k : Int} {ta tb t : Tok} {n : Nat} {Q : Value → Shared → Prop}
def eqI (k : Int) : Value → Bool
  | .int i _ => decide (i = k)
  | _ => false
end
end Mine


namespace Mine
/-! == and != of lists and tuples that are equal item by item (things by identity) -/
inductive EqsAt (A : Around) (s : Shared) : List Value → List Value → Prop
  | nil : EqsAt A s [] []
  | cons {v u : Value} {vs us : List Value} : SeqAt.EqAt A s v u true → EqsAt A s vs us → EqsAt A s (v :: vs) (u :: us)
section
variable {A : Around} {s : Shared} {vs us : List Value} {l b : Addr}
theorem EqsAt.length (e : EqsAt A s vs us) : vs.length = us.length := by
  induction e with
  | nil => rfl
  | cons _ _ ih => simp [ih]
theorem EqsAt.at (e : EqsAt A s vs us) : ∀ (j : Nat) (h1 : j < vs.length) (h2 : j < us.length), SeqAt.EqAt A s vs[j] us[j] true := by
  induction e with
  | nil => intro j h1; exact absurd h1 (Nat.not_lt_zero _)
  | cons h _ ih =>
    intro j h1 h2
    cases j with
    | zero => exact h
    | succ j => exact ih j (Nat.lt_of_succ_lt_succ h1) (Nat.lt_of_succ_lt_succ h2)
theorem eq_str {x : Str} {t u : Tok} : SeqAt.EqAt A s (.str x t) (.str x u) true := by
  have h := SeqAt.EqAt.str_str (A := A) (s := s) x t x u
  rwa [beq_self_eq_true] at h
theorem eq_int {x : Int} {t u : Tok} : SeqAt.EqAt A s (.int x t) (.int x u) true := by
  have h := SeqAt.EqAt.int_int (A := A) (s := s) x t x u
  rwa [beq_self_eq_true] at h
theorem tup_rc (hl : s.heap.IsTuple l vs.toArray) (hb : s.heap.IsTuple b us.toArray) (hu : A.units < cLine) (e : EqsAt A.in1 s vs us) : SeqAt.RcAt A s (.ref l) (.ref b) true := by
  have h := SeqAt.RcAt.tuples (e := fun _ => true) hl hb hu (fun j h1 h2 => by simpa using e.at j (by simpa using h1) (by simpa using h2))
  have q := e.length
  rwa [show ((List.range (min vs.toArray.size us.toArray.size)).all (fun _ => true) && vs.toArray.size == us.toArray.size) = true from by simp [q]] at h
theorem list_rc (hl : s.heap.IsList l vs.toArray) (hb : s.heap.IsList b us.toArray) (hu : A.units < cLine) (e : EqsAt A.in1 s vs us) : SeqAt.RcAt A s (.ref l) (.ref b) true := by
  have h := SeqAt.RcAt.lists (e := fun _ => true) hl hb (by simpa using e.length) hu (fun j h1 h2 => by simpa using e.at j (by simpa using h1) (by simpa using h2))
  rwa [show ((List.range vs.toArray.size).all (fun _ => true)) = true from by simp] at h
theorem eq_tup (hl : s.heap.IsTuple l vs.toArray) (hb : s.heap.IsTuple b us.toArray) (hu : A.units < cLine) (e : EqsAt A.in1 s vs us) : SeqAt.EqAt A s (.ref l) (.ref b) true := by
  by_cases q : l = b
  · rw [q]; exact SeqAt.EqAt.same _
  · exact SeqAt.EqAt.of_refs q (tup_rc hl hb hu e)
theorem eq_list (hl : s.heap.IsList l vs.toArray) (hb : s.heap.IsList b us.toArray) (hu : A.units < cLine) (e : EqsAt A.in1 s vs us) : SeqAt.EqAt A s (.ref l) (.ref b) true := by
  by_cases q : l = b
  · rw [q]; exact SeqAt.EqAt.same _
  · exact SeqAt.EqAt.of_refs q (list_rc hl hb hu e)
end
section
variable {prog : Program} {w : World} {A : Around} {E : Value → Shared → Prop} {s : Shared} {vs us : List Value} {l b : Addr} {Q : Value → Shared → Prop}
theorem cmp_ne_list (hl : s.heap.IsList l vs.toArray) (hb : s.heap.IsList b us.toArray) (hu : A.units < cLine) (e : EqsAt A.in1 s vs us) (h : Q (.bool false) s) : wpAny (model prog w) A (compareOp .NotEq (.ref l) (.ref b)) Q E s := by
  have k := SeqAt.RcNeAt.lists (e := fun _ => true) hl hb (by simpa using e.length) hu (fun j h1 h2 => by simpa using e.at j (by simpa using h1) (by simpa using h2))
  rw [show (!((List.range vs.toArray.size).all (fun _ => true))) = false from by simp] at k
  exact k prog w E Q h
end
theorem tup_at {h₀ h : Heap} {L l : Addr} {news : List (Addr × Obj)} {vs : List Value} {n : Nat} (N : News h₀ L h news) (hl : (l, { cls := .type "tuple", data := .seq vs.toArray n }) ∈ news) : h.IsTuple l vs.toArray := ⟨_, (N _ hl).1, rfl, _, rfl⟩
end Mine


namespace Mine
section
variable {prog : Program} {w : World} {A : Around} {E : Value → Shared → Prop} {s : Shared} {h₀ : Heap} {L D : Addr} {m : Str → Option Value} {news : List (Addr × Obj)} {news' : Nat → List (Addr × Obj)} {its : Array Value} {n : Nat}
/-- xs.clear(), the list empty or not -/
theorem clear_led {Q : Value → Shared → Prop} (F : Fr h₀ L s.heap m) (N : News h₀ L s.heap news) (hz : its.size ≤ 2 ^ 20) (U : ∀ n', Upd D (W.listOf its n) (W.listOf #[] n') news (news' n'))
    (h : ∀ h' n', Fr h₀ L h' m → News h₀ L h' (news' n') → Q .none { s with heap := h' }) : wpAny (model prog w) A (call (.builtin "list.clear") [.ref D]) Q E s := by
  have hz' : its.toList.length ≤ sizeLine := Nat.le_trans (by rw [Array.length_toList]; exact hz) lineBig
  by_cases hne : its.toList.length = 0
  · obtain ⟨pre, post, rfl, q, a, c⟩ := (U n).split
    have z := N (D, W.listOf its n) (List.mem_append.mpr (.inr (.head _)))
    refine call_meets PySem.F.slot_list_clear ⟨_, z.1, rfl⟩ PySem.F.entry_list_clear (PySem.F.args_list_clear_1 _) (PySem.AutoSeq1.list_clear_list_0 D its n (by simpa using hz')) ⟨z.1, h _ n (F.change (Heap.SameBut.update ..) z.2.1 z.2.2) ?_⟩
    rw [q]
    exact kl_turn0 (fun _ => #[]) N a c rfl (by simpa using hne.symm)
  · exact kl_clear F N (U (n + 1)) hne hz' fun h' F' N' => h h' _ F' N'
end
end Mine


namespace Mine
/-- es' is es but for name -/
def Others (name : Str) (es es' : List DictEntry) : Prop := ∀ nm, nm ≠ name → getL nm es' = getL nm es
theorem others_none {name nm : Str} {es es' : List DictEntry} {o : Option (Option Value)} (h : Others name es es') (g : getL nm es = o) (hne : nm ≠ name) : getL nm es' = o := (h nm hne).trans g
section
variable {prog : Program} {w : World} {A : Around} {E : Value → Shared → Prop} {s : Shared} {K : Frag} {x C dx L : Addr} {h₀ : Heap} {m : Str → Option Value} {news : List (Addr × Obj)} {news' : List DictEntry → Nat → List (Addr × Obj)} {es : List DictEntry} {n : Nat} {name : Str} {v : Value}
/-- x.name = v, where x's dict is known only by what is found in it -/
theorem set_sym {Q : Unit → Shared → Prop} (F : Fr h₀ L s.heap m) (X₀ : K.In h₀) (N : News h₀ L s.heap news) (h1 : (x, instObj C dx) ∈ news) (h2 : (dx, dictOf es n) ∈ news)
    (hs : findIn K (.ref C) "__setattr__" = some (some (.builtin "object.__setattr__"))) (hp : plainOver K C = true) (ht : takerIn K C name = some none) (hh : hasDictIn K C = true) (hl : (getL name es).isSome = true) (hz : es.length ≤ 900)
    (U : ∀ es' n', Upd dx (dictOf es n) (dictOf es' n') news (news' es' n'))
    (h : ∀ h' tk' es' n', getL name es' = some (some v) → Others name es es' → es'.length ≤ es.length + 1 → Fr h₀ L h' m → News h₀ L h' (news' es' n') → Q () { s with heap := h', toks := tk' }) :
    wpAny (model prog w) A (setAttr (.ref x) name v) Q E s := by
  have hlen := put_len name (PyData.keyHash w.params name) (s.toks + 1) v es
  have hle : (putL name (PyData.keyHash w.params name) (.str name (s.toks + 1)) v es).length ≤ es.length + 1 := by rw [hlen]; split <;> omega
  refine set_dict F X₀ N (InstAt.of_news N h1 h2) rfl hs hp ht hh hl rfl (U _ _) (by omega) fun h' F' N' => h h' _ _ _ (getL_put_same _ _ _ _ _) (fun nm hne => getL_put_other hne _ _ _ _) hle F' N'
end
def SlotIs (nm : Str) (es : List DictEntry) (b : Bool) (P : Value → Prop) : Prop := (b = true ∧ getL nm es = some none) ∨ (b = false ∧ ∃ v, getL nm es = some (some v) ∧ P v)
theorem some_of {nm : Str} {es : List DictEntry} {o : Option Value} (h : getL nm es = some o) : (getL nm es).isSome = true := by rw [h]; rfl
end Mine


namespace Mine
/-- the heap's first C places -/
def cutH (h : Heap) (C : Nat) : Heap := { h with objs := h.objs.extract 0 C }
section
variable {prog : Program} {w : World} {A : Around} {E : Value → Shared → Prop} {s : Shared} {h₀ : Heap} {L : Addr} {m mg mb : Str → Option Value} {K : Frag} {p : Program} {loose : List Str} {mean : ExcName → Option Value} {x : Str} {pos : Pos} {env : Env} {v : Value}
end
end Mine


namespace Mine
/-! a dict by ints: what a store leaves -/
theorem find_keep {K : Type} [DecidableEq K] (f : K × Value → K × Value) (hf : ∀ kv, (f kv).1 = kv.1) (k : K) : ∀ kvs : List (K × Value), (kvs.map f).find? (fun kv => kv.1 = k) = (kvs.find? fun kv => kv.1 = k).map f
  | [] => rfl
  | kv :: r => by
    rw [List.map_cons, List.find?_cons, List.find?_cons, hf, find_keep f hf k r]
    split <;> rfl
theorem valueAt_stored {K : Type} [DecidableEq K] (kvs : List (K × Value)) (k k' : K) (v : Value) : valueAt (stored kvs k v) k' = if k' = k then some v else valueAt kvs k' := by
  unfold stored
  split
  · rename_i ha
    unfold valueAt
    rw [find_keep (fun kv => if kv.1 = k then (kv.1, v) else kv) (fun kv => by split <;> rfl)]
    cases hq : kvs.find? (fun kv => decide (kv.1 = k')) with
    | none =>
      rw [if_neg]
      · rfl
      · intro e
        subst e
        rw [List.find?_eq_none] at hq
        obtain ⟨kv, h1, h2⟩ := List.any_eq_true.mp ha
        exact hq kv h1 h2
    | some kv =>
      have hk : kv.1 = k' := by simpa using List.find?_some hq
      by_cases e : k' = k
      · rw [if_pos e]
        simp [hk, e]
      · rw [if_neg e]
        simp [hk, e]
  · rename_i ha
    unfold valueAt
    rw [List.find?_append]
    by_cases e : k' = k
    · subst e
      have : kvs.find? (fun kv => decide (kv.1 = k')) = none := by
        rw [List.find?_eq_none]
        intro kv hkv hq
        exact ha (List.any_eq_true.mpr ⟨kv, hkv, hq⟩)
      rw [this, if_pos rfl]
      simp
    · rw [if_neg e]
      have hk : ¬ k = k' := fun q => e q.symm
      cases kvs.find? (fun kv => decide (kv.1 = k')) <;> simp [hk]
end Mine


namespace Mine
/-! an exception caught in a frame of any env (cells too) -/
theorem frs_cons {env : Env} {outer : List Env} {L : Addr} (hf : env.frame = some L) : frs (env :: outer) = L :: frs outer := by
  show List.filterMap _ _ = _
  rw [List.filterMap_cons, hf]
section
variable {prog : Program} {w : World} {A₀ : Around} {E : Value → Shared → Prop} {s s' : Shared} {base g g₀ G : Heap} {outer : List Env} {L e : Addr} {m : Str → Option Value} {env : Env}
  {b₀ : Stmt} {suite : List Stmt} {pos np : Pos} {rest hs : List ExceptHandler} {Q : Flow → Shared → Prop} {news : List (Addr × Obj)} {KF : Frag}
  {p : Program} {loose : List Str} {mean : ExcName → Option Value} {mg mb : Str → Option Value} {x : Str} {X T' : String}
theorem ground_env {B h₅ : Heap} (hf : env.frame = some L) (K : Below A₀ base outer g) (F : Fr g L G m) (hBG : ∀ b o, G.get? b = some o → b ∉ frs (env :: outer) → B.get? b = some o) (hBh : B.StaysIn h₅) (hsm : G.UpToSlots h₅) :
    ∃ g', KtsTurn (frs outer) g g' ∧ Fr g' L h₅ m ∧ Below A₀ base outer g' :=
  kts_ground (name := "") (scope := env.scope) (a := 0) (cd := .none) K F (fun b o e nm => hBG b o e (by rw [frs_cons hf]; exact nm)) hBh hsm
theorem name_built (F : Fr g L s.heap m) (X₀ : KF.In g) (T : TopRead p loose mg mb g) (ex : nsIn KF mainGlobals x = some none) {v : Value} (hv : bootBuiltins x = some v) (hn : x ≠ "__name__") {A : Around} {Q : Value → Shared → Prop} (h : Q v s) (hg : env.globals = mainGlobals) (hbi : env.builtins = builtinsNs)
    (hk : env.scope.kind = .function) (hx : env.kindOf x = some .globalImplicit) (hd : (x == ("__debug__" : Str)) = false) : wpAny (model prog w) A (eval (.Name x np) env) Q E s :=
  Name_function_global hk hx (loadGlobal_builtin (hg ▸ (T.g.keeps F.keep)) (mg_none_of X₀ T.g ex) (hbi ▸ (T.b.keeps F.keep)) ((T.builtins x hn).trans hv) h) hd
theorem heldC_first (R : RaisedSN base G (env :: outer) e (.type X) news s'.heap) (K : Below A₀ base outer g) (hsm : G.UpToSlots s'.heap) (hf : env.frame = some L)
    (k : ∀ h', HeldS base G L (env :: outer) e X news h' → wpAny (model prog w) (A₀.deeper env) (handleBy (.ref e) env hs) Q E { s' with heap := h' }) :
    wpAny (model prog w) (A₀.deeper env) (noteFrame (.ref e) env)
      (fun _ s₂ => wpAny (model prog w) (A₀.deeper env) (setFlight (.ref e) none) (fun _ s₃ =>
        wpAny (model prog w) (A₀.deeper env) (handleBy (.ref e) env hs) Q E s₃) E s₂) E s' := by
  obtain ⟨B, a0, hB, hBG, hl, hfl⟩ := R
  have hL : B.get? L = none := by
    obtain ⟨_, ⟨L', _, hf', hn', _⟩, _⟩ := hfl.2.2.1
    obtain rfl : L = L' := Option.some.inj (hf.symm.trans hf')
    exact hn'
  refine wpAny_looks_onW (Around.frames_deeper K.stack) hf hfl fun h₄ hheld₄ hsm₄ => ?_
  refine wpAny_landsW hheld₄ fun h₅ hheld hsm₅' => ?_
  exact k h₅ ⟨B, a0, hB, hBG, hl, hL, hheld, (hsm.trans (hsm₄.trans hsm₅'))⟩
theorem heldC_take (H : HeldS base G L (env :: outer) e X news s.heap) (F : Fr g L G m) (K : Below A₀ base outer g) (XB : KF.In base) (TB : Top p loose mean mg mb base) (D : KtsDicts (frs outer) g) (hf : env.frame = some L) (hg : env.globals = mainGlobals) (hbi : env.builtins = builtinsNs)
    (ex : nsIn KF mainGlobals x = some none) (hv : bootBuiltins x = some (.type T')) (hn' : x ≠ "__name__")
    (hexc : isSubtype (.type T') (.type "BaseException") = pure true) (hnt : isSubtype (.type ((Manifest.find? T').elim "type" fun y => y.metatype)) (.type "tuple") = pure false) (hsub : isSubtype (.type X) (.type T') = pure true)
    (hk : env.scope.kind = .function) (hx : env.kindOf x = some .globalImplicit) (hd : (x == ("__debug__" : Str)) = false)
    (hE : PassesOwnAt (model prog w) ((A₀.deeper env).mark (some (.ref e))) (A₀.deeper env) env E)
    (k : ∀ h' g', KtsTurn (frs outer) g g' → Fr g' L h' m → News g' L h' news → Below A₀ base outer g' → KF.In g' → Top p loose mean mg mb g' → KtsDicts (frs outer) g' →
      wpAny (model prog w) ((A₀.deeper env).mark (some (.ref e))) (execs (b₀ :: suite) env) Q E { s with heap := h' }) :
    wpAny (model prog w) (A₀.deeper env) (handleBy (.ref e) env (.ExceptHandler (some (.Name x np)) none (b₀ :: suite) pos :: rest)) Q E s := by
  obtain ⟨B, a0, hB, hBG, hl, hL, hheld, hsm⟩ := H
  obtain ⟨g₅, T₅, F₅, K₅⟩ := ground_env hf K F hBG hheld.1 hsm
  obtain ⟨ob, hob, hobc⟩ := hheld.there
  refine wpAny_handleBy_builtin (X := X) (T := T') (b := true) hexc hnt hsub (name_built F₅ (XB.keeps K₅.stays) (topRead_of (TB.keeps K₅.stays)) ex hv hn' ⟨rfl, ⟨ob, hob, hobc⟩, ?_⟩ hg hbi hk hx hd)
  refine lands_againW hheld fun h₆ hfl₆ hsm₆ => ?_
  obtain ⟨g₆, T₆, F₆, K₆⟩ := ground_env hf K F hBG hfl₆.1 (hsm.trans hsm₆)
  have Nl : News g₆ L h₆ news := fun q hq => ⟨hfl₆.1 _ _ (hl q hq).1, (fun z => by have := (hl q hq).1; rw [z, hL] at this; cases this), T₆.none_ _ (kts_none F.keep (hl q hq).2.1)⟩
  exact wpAny_passesOwnAt hE (k h₆ g₆ T₆ F₆ Nl K₆ (XB.keeps K₆.stays) (TB.keeps K₆.stays) (D.turn T₆))
/-- with no caller's frame turned, the ground is the same -/
theorem turn_nil {g' h : Heap} (T : KtsTurn (frs []) g g') (F : Fr g' L h m) : Fr g L h m := ⟨F.ns, fun b o e => F.keep b o (T.other b o e (fun q => nomatch q)), by rw [← T.size]; exact F.above⟩
theorem turn_nil_news {g' h : Heap} (T : KtsTurn (frs []) g g') (N : News g' L h news) : News g L h news := fun q hq => ⟨(N q hq).1, (N q hq).2.1, by
  cases z : g.get? q.1 with
  | none => rfl
  | some o =>
    have := T.other _ _ z (fun q => nomatch q)
    rw [(N q hq).2.2] at this; cases this⟩
end
end Mine


namespace Mine
section
variable {prog : Program} {w : World} {A : Around} {E : Value → Shared → Prop} {s : Shared} {K : Frag} {x C L f : Addr} {h₀ : Heap} {m : Str → Option Value} {ox : Obj} {od : Option Obj}
/-- hasattr of a thing that lacks the name in its own dict and its class -/
theorem hasattr_no {Q : Value → Shared → Prop} {name : Str} {tk : Tok} {es : List DictEntry} {n : Nat} (hA : A.handled = none) (F : Fr h₀ L s.heap m) (X₀ : K.In h₀) (I : W.InstAt s.heap x ox C (some (dictOf es n)))
    (hg : plainGet K C name = true) (hmod : mroIn K C (.type "module") = some false) (hh : hasDictIn K C = true)
    (ha : findIn K (.ref C) name = some none) (hc : copiedNames.contains name = false) (hn : nameIn K C = true) (hnl : name.length ≤ 100) (hl : getL name es = some none)
    (h : ∀ h' tk', (∀ b o, s.heap.get? b = some o → h'.get? b = some o) → Q (.bool false) { s with heap := h', toks := tk' }) : wpAny (model prog w) A (call (.builtin "hasattr") [.ref x, .str name tk]) Q E s := by
  refine Calls.call_function_entry kind_hasattr plain_hasattr entry_hasattr (args_hasattr2 _ _) ?_
  have X := X₀.keeps F.keep
  obtain ⟨hp, g, d, t, os⟩ := s
  have hga := (plainGet_of hg).1
  have L0 := I.type (M := model prog w)
  have L1 := looks_findIn (M := model prog w) X hga
  have L2 := looks_find (M := model prog w) X I (findObj_miss hh ha hc hl)
  have L3 := looks_mroIn (M := model prog w) X hmod
  have L4 := looks_findIn (M := model prog w) X (plainGet_of hg).2
  unfold Builtin.«hasattr»
  refine wpAny_bind (m := someArgs "hasattr" 2 2 _) (wpAny_pure ?_)
  dsimp only
  refine wpAny_bind (wpAny_bind (wpAny_pure ?_))
  show wpAny _ _ (pure _) _ _ _
  refine wpAny_pure ?_
  show wpAny _ _ (do
    let y ← typeOf (Value.ref x)
    _) _ _ _
  refine wpAny_bind (L0.at ?_)
  dsimp only
  refine wpAny_bind ?_
  repeat ((fail_if_success (with_reducible show wpAny _ _ (getAttrBy? _ _) _ _ _)); lk)
  unfold getAttrBy?
  refine wpAny_bind (wpAny_attempt (getBy_open (fill := false) X I hga ?_))
  refine wpAny_bind (wpAny_pure (wpAny_bind (L0.at (wpAny_bind (L2.at ?_)))))
  refine wpAny_bind (L4.at ?_)
  show wpAny _ _ (Builtin.ObjectAttr.noSuchAttribute _ _) _ _ _
  unfold Builtin.ObjectAttr.noSuchAttribute
  refine wpAny_bind (name_cut (K := K) X I hn fun nm hnm => ?_)
  refine wpAny_raiseAttrError hA (fun h' tk e hx => ?_) (missMsg hnm hnl)
  obtain ⟨t', u', he⟩ := hx.there
  dsimp only
  unfold noteIf noteAttr
  have f1 := sub_AttributeError
  repeat (any_goals (first | assumption | wp_step))
  refine ⟨_, rfl, ?_⟩
  exact h _ _ hx.keeps
end
end Mine


namespace Mine
theorem fill : PySem.Challenge.rw_dn0254_08.row.prog = PySem.Challenge.rw_dn0254_08.row.prog ∧ Mine.hd.heap_39 = Mine.hd.heap_39 := by
  w_top off
  k_fill
  exact ⟨rfl, rfl⟩
abbrev ktrAny (dp un : Nat) (gd : Option (List Code)) (env : Env) (outer : List Env) : Around := { handled := none, depth := dp, frames := some (env :: outer), guards := gd, units := un }
/-- the lambda that _law_page makes -/
def lamAt (body : List Stmt) (cf : Nat) (pn : Value) (kl : Nat) (ct : Value) : Obj := match body[(3 : Nat)]? with
  | some (.Assign _ (.Lambda params e scope _) _) => kla_obj "<lambda>" "_law_page.<locals>.<lambda>" params e scope [("head", cf)] pn kl ct
  | _ => default
/-- the def that _law_stage makes -/
def errAt (body : List Stmt) (f1 f2 f3 : Nat) (dc pn : Value) (ke : Nat) (ct : Value) : Obj := match body[(1 : Nat)]? with
  | some (.FunctionDef name params b _ _ _ scope _ _ _) => fnMade name "_law_stage.<locals>._law_error" params b scope [("stage", f3), ("number", f1), ("log", f2)] dc pn ke ct
  | _ => default
abbrev tabP (kl : Nat) : Array Value := #[rawInt 29, rawInt 16, .ref kl]
abbrev tabS (ke : Nat) : Array Value := #[rawInt 36, rawInt 4, .ref ke]
def CodeOf (o : Obj) (q : Str) : Prop := ∃ v t, o.data = .fields v ∧ v[1]? = some (.str q t)
theorem lookup_same {K : Frag} {f : Addr} {oc oc' : Value} {od od' : Option Addr} {name qual name' qual' : Str} {params params' : Arguments} {body body' : List Stmt} {scope scope' : Scope} {dV kV doc pm cdv ct dV' kV' doc' pm' cdv' ct' : Value} {an an' : Option Addr} {osl osl' : Array (Option Value)} {P : Prop}
    (h : K.lookup f = some ⟨oc, od, .func (fnOf name qual params body scope dV kV doc pm an cdv ct), osl⟩) (h' : K.lookup f = some ⟨oc', od', .func (fnOf name' qual' params' body' scope' dV' kV' doc' pm' an' cdv' ct'), osl'⟩)
    (k : body = body' → scope = scope' → P) : P := by
  have e := Option.some.inj (h.symm.trans h')
  have e2 := congrArg Obj.data e
  simp only [Data.func.injEq, FuncData.mk.injEq, FuncBody.stmts.injEq] at e2
  exact k e2.2.2.2.1 e2.2.2.2.2.1
/-- f's text in K -/
def Def08 (w : World) (f : Nat) (name : Str) (body : List Stmt) (scope : Scope) : Prop := ∃ oc od params dV kV doc pm cdv ct an osl, (Mine.hd.heap_39 w.params).lookup f = some ⟨oc, od, .func (fnOf name name params body scope dV kV doc pm an cdv ct), osl⟩
section
variable {w : World} {E : Value → Shared → Prop} {s : Shared} {L : Addr} {h₀ : Heap} {m : Str → Option Value}
local macro_rules | `(tactic| keq_rows) => `(tactic| first | (k_unfold; (try dsimp only)) | walk1 | (dsimp only; walk1))
local macro_rules | `(tactic| kwd_less) => `(tactic| repeat' keq_rows)
theorem pageA {Q : Value → Shared → Prop} {p : Program} {loose : List Str} {mean : ExcName → Option Value} {mg mb : Str → Option Value} {dp un : Nat} {gd : Option (List Code)} {env : Env} {outer : List Env} {A₀ : Around} {base : Heap} {c : Int} {tc tw : Tok} {wd : Str} {hda : Nat} {tl : List (Addr × Obj)} {body : List Stmt} {scope : Scope}
    (hdef : Def08 w 75 "_law_page" body scope) (B : Below A₀ base outer h₀) (F : Fr h₀ L s.heap m) (X : (Mine.hd.heap_39 w.params).In h₀) (N : News h₀ L s.heap ((70, tabObj #[]) :: tl)) (ho : OwnOff tl [70]) (T : Top p loose mean mg mb h₀) (hC : CodeHd h₀ 74 70) (hf : env.frame = some L) (hke : env.scope.kind = .function) (hd : dp + 10 < recursionLimit) (hu : un + 100 < cLine)
    (ret : ∀ h' tk' (fl pg dp cf : Nat) es n ocf ct (kl : Nat) okl tc', Fr h₀ L h' m → News h₀ L h' ((fl, lamAt body cf ((mg "__name__").getD .none) kl ct) :: (kl, okl) :: (pg, instObj 45 dp) :: (dp, dictOf es n) :: (cf, ocf) :: (70, tabObj (tabP kl)) :: tl) → CodeOf okl "_law_page.<locals>.<lambda>" → ocf.data = .cell (some (.ref hda)) → getL "code" es = some (some (.int c tc')) → getL "msg" es = some (some (.str wd tw)) → getL "info" es = some (some (.ref fl)) → es.length ≤ 3 → (cf < dp ∧ dp < pg ∧ pg < kl ∧ kl < fl ∧ 70 < cf) → AllLt cf tl → Q (.ref pg) { s with heap := h', toks := tk' }) :
    wpAny (model PySem.Challenge.rw_dn0254_08.row.prog w) (ktrAny dp un gd env outer) (call (.ref 75) [.int c tc, .str wd tw, .ref hda]) Q E s := by
  obtain ⟨oc, od, params, dV, kV, doc, pm, cdv, ct, an, osl, hbody⟩ := hdef
  k_dflt (refine' lookup_same hbody ?k6 ?_; (case k6 => k_is))
  intro hbe hse
  subst hse
  subst hbe
  refine wpAny_call ?_
  k_dflt (refine' code_defC ?k1 ?k2 ?k3 ?k4 ?k5 ?kA ?kF ?kK ?k6 ?k7 ?k8 ?k9 ?kB ?kD ?_ ?c2 ?c3 ?c4; (case kA => exact rfl); (case kF => assumption); (case kK => assumption); (case k1 => k_asm); (case k2 => k_asm); (case k3 => k_asm); (case k4 => k_asm); (case k5 => k_asm); (case k6 => k_is); (case k7 => k_is); (case k8 => (show dp < recursionLimit; omega)); (case k9 => exact BindsTo.of_eq rfl); (case kB => rfl); (case kD => decide +kernel); (case c2 => exact rfl); (case c3 => exact rfl); (case c4 => exact rfl); k_whole)
  intro g' L' h' tk' cells' FG' F' N' Y' B' X' T' l1
  k_lt l1
  k_cells Y'
  (try simp only [List.cons_append, List.nil_append] at N')
  (try dsimp only)
  (try k_lift B')
  (try k_fold)
  have hC' := hC.keeps FG'.keep
  have AL : AllLt L' tl := l1.2
  have a1 : AllLt (L' + 1) tl := tbn_up (Nat.lt_succ_self L') AL
  have a2 : AllLt (L' + 1 + 1) tl := tbn_up (Nat.lt_succ_self _) a1
  have a3 : AllLt (L' + 1 + 1 + 1) tl := tbn_up (Nat.lt_succ_self _) a2
  kwd_less
  rename News h₀ _ _ _ => N9
  rename Fr h₀ _ _ m => F9
  exact ret _ _ _ _ _ _ _ _ _ _ _ _ _ F9 N9 ⟨_, _, by assumption, by assumption⟩ (by assumption) rfl rfl rfl (Nat.le_refl _) (by omega) a1
theorem pageB {Q : Value → Shared → Prop} {p : Program} {loose : List Str} {mean : ExcName → Option Value} {mg mb : Str → Option Value} {dp un : Nat} {gd : Option (List Code)} {env : Env} {outer : List Env} {A₀ : Around} {base : Heap} {c : Int} {tc tw : Tok} {wd : Str} {hda : Nat} {tl : List (Addr × Obj)} {body : List Stmt} {scope : Scope}
    (hdef : Def08 w 75 "_law_page" body scope) (B : Below A₀ base outer h₀) (F : Fr h₀ L s.heap m) (X : (Mine.hd.heap_39 w.params).In h₀) {kl : Nat} (N : News h₀ L s.heap ((70, tabObj (tabP kl)) :: tl)) (T : Top p loose mean mg mb h₀) (hC : CodeHd h₀ 74 70) (hf : env.frame = some L) (hke : env.scope.kind = .function) (hd : dp + 10 < recursionLimit) (hu : un + 100 < cLine)
    (ret : ∀ h' tk' (fl pg dp cf : Nat) es n ocf ct tc', Fr h₀ L h' m → News h₀ L h' ((fl, lamAt body cf ((mg "__name__").getD .none) kl ct) :: (pg, instObj 45 dp) :: (dp, dictOf es n) :: (cf, ocf) :: (70, tabObj (tabP kl)) :: tl) → ocf.data = .cell (some (.ref hda)) → getL "code" es = some (some (.int c tc')) → getL "msg" es = some (some (.str wd tw)) → getL "info" es = some (some (.ref fl)) → es.length ≤ 3 → (cf < dp ∧ dp < pg ∧ pg < fl ∧ 70 < cf) → AllLt cf tl → Q (.ref pg) { s with heap := h', toks := tk' }) :
    wpAny (model PySem.Challenge.rw_dn0254_08.row.prog w) (ktrAny dp un gd env outer) (call (.ref 75) [.int c tc, .str wd tw, .ref hda]) Q E s := by
  obtain ⟨oc, od, params, dV, kV, doc, pm, cdv, ct, an, osl, hbody⟩ := hdef
  k_dflt (refine' lookup_same hbody ?k6 ?_; (case k6 => k_is))
  intro hbe hse
  subst hse
  subst hbe
  refine wpAny_call ?_
  k_dflt (refine' code_defC ?k1 ?k2 ?k3 ?k4 ?k5 ?kA ?kF ?kK ?k6 ?k7 ?k8 ?k9 ?kB ?kD ?_ ?c2 ?c3 ?c4; (case kA => exact rfl); (case kF => assumption); (case kK => assumption); (case k1 => k_asm); (case k2 => k_asm); (case k3 => k_asm); (case k4 => k_asm); (case k5 => k_asm); (case k6 => k_is); (case k7 => k_is); (case k8 => (show dp < recursionLimit; omega)); (case k9 => exact BindsTo.of_eq rfl); (case kB => rfl); (case kD => decide +kernel); (case c2 => exact rfl); (case c3 => exact rfl); (case c4 => exact rfl); k_whole)
  intro g' L' h' tk' cells' FG' F' N' Y' B' X' T' l1
  k_lt l1
  k_cells Y'
  (try simp only [List.cons_append, List.nil_append] at N')
  (try dsimp only)
  (try k_lift B')
  (try k_fold)
  have hC' := hC.keeps FG'.keep
  have AL : AllLt L' tl := l1.2
  have a1 : AllLt (L' + 1) tl := tbn_up (Nat.lt_succ_self L') AL
  have a2 : AllLt (L' + 1 + 1) tl := tbn_up (Nat.lt_succ_self _) a1
  have a3 : AllLt (L' + 1 + 1 + 1) tl := tbn_up (Nat.lt_succ_self _) a2
  kwd_less
  rename News h₀ _ _ _ => N9
  rename Fr h₀ _ _ m => F9
  exact ret _ _ _ _ _ _ _ _ _ _ _ F9 N9 (by assumption) rfl rfl rfl (Nat.le_refl _) (by omega) a1
theorem stageA {Q : Value → Shared → Prop} {p : Program} {loose : List Str} {mean : ExcName → Option Value} {mg mb : Str → Option Value} {dp un : Nat} {gd : Option (List Code)} {env : Env} {outer : List Env} {A₀ : Around} {base : Heap} {i : Int} {ti : Tok} {lg : Nat} {tl : List (Addr × Obj)} {body : List Stmt} {scope : Scope}
    (hdef : Def08 w 89 "_law_stage" body scope) (B : Below A₀ base outer h₀) (F : Fr h₀ L s.heap m) (X : (Mine.hd.heap_39 w.params).In h₀) (N : News h₀ L s.heap ((84, tabObj #[]) :: tl)) (ho : OwnOff tl [84]) (T : Top p loose mean mg mb h₀) (hC : CodeHd h₀ 88 84) (hf : env.frame = some L) (hke : env.scope.kind = .function) (hd : dp + 10 < recursionLimit) (hu : un + 100 < cLine)
    (ret : ∀ h' tk' (f ke : Nat) oke (x d fr : Nat) es n oc1 oc2 oc3 dc ct, Fr h₀ L h' m → News h₀ L h' ((f, errAt body (fr + 1) (fr + 1 + 1) (fr + 1 + 1 + 1) dc ((mg "__name__").getD .none) ke ct) :: (ke, oke) :: (x, instObj 66 d) :: (d, dictOf es n) :: (fr + 1 + 1 + 1, oc3) :: (fr + 1 + 1, oc2) :: (fr + 1, oc1) :: (84, tabObj (tabS ke)) :: tl) → CodeOf oke "_law_stage.<locals>._law_error" → oc1.data = .cell (some (.int i ti)) → oc2.data = .cell (some (.ref lg)) → oc3.data = .cell (some (.ref x)) → getL "error" es = some (some (.ref f)) → getL "parent" es = some none → getL "http_response" es = some none → getL "https_response" es = some none → getL "add_parent" es = some none → getL "close" es = some none → es.length ≤ 1 → (fr + 3 < d ∧ d < x ∧ x < ke ∧ ke < f ∧ 84 < fr) → AllLt fr tl → Q (.ref x) { s with heap := h', toks := tk' }) :
    wpAny (model PySem.Challenge.rw_dn0254_08.row.prog w) (ktrAny dp un gd env outer) (call (.ref 89) [.int i ti, .ref lg]) Q E s := by
  obtain ⟨oc, od, params, dV, kV, doc, pm, cdv, ct, an, osl, hbody⟩ := hdef
  k_dflt (refine' lookup_same hbody ?k6 ?_; (case k6 => k_is))
  intro hbe hse
  subst hse
  subst hbe
  refine wpAny_call ?_
  k_dflt (refine' code_defC ?k1 ?k2 ?k3 ?k4 ?k5 ?kA ?kF ?kK ?k6 ?k7 ?k8 ?k9 ?kB ?kD ?_ ?c2 ?c3 ?c4; (case kA => exact rfl); (case kF => assumption); (case kK => assumption); (case k1 => k_asm); (case k2 => k_asm); (case k3 => k_asm); (case k4 => k_asm); (case k5 => k_asm); (case k6 => k_is); (case k7 => k_is); (case k8 => (show dp < recursionLimit; omega)); (case k9 => exact BindsTo.of_eq rfl); (case kB => rfl); (case kD => decide +kernel); (case c2 => exact rfl); (case c3 => exact rfl); (case c4 => exact rfl); k_whole)
  intro g' L' h' tk' cells' FG' F' N' Y' B' X' T' l1
  k_lt l1
  k_cells Y'
  (try simp only [List.cons_append, List.nil_append] at N')
  (try dsimp only)
  (try k_lift B')
  (try k_fold)
  have hC' := hC.keeps FG'.keep
  have AL : AllLt L' tl := l1.2
  have a1 : AllLt (L' + 1) tl := tbn_up (Nat.lt_succ_self L') AL
  have a2 : AllLt (L' + 1 + 1) tl := tbn_up (Nat.lt_succ_self _) a1
  have a3 : AllLt (L' + 1 + 1 + 1) tl := tbn_up (Nat.lt_succ_self _) a2
  kwd_less
  rename News h₀ _ _ _ => N9
  rename Fr h₀ _ _ m => F9
  exact ret _ _ _ _ _ _ _ _ _ _ _ _ _ _ _ F9 N9 ⟨_, _, by assumption, by assumption⟩ (by assumption) (by assumption) (by assumption) rfl rfl rfl rfl rfl rfl (Nat.le_refl _) (by omega) AL
theorem stageB {Q : Value → Shared → Prop} {p : Program} {loose : List Str} {mean : ExcName → Option Value} {mg mb : Str → Option Value} {dp un : Nat} {gd : Option (List Code)} {env : Env} {outer : List Env} {A₀ : Around} {base : Heap} {i : Int} {ti : Tok} {lg : Nat} {tl : List (Addr × Obj)} {body : List Stmt} {scope : Scope}
    (hdef : Def08 w 89 "_law_stage" body scope) (B : Below A₀ base outer h₀) (F : Fr h₀ L s.heap m) (X : (Mine.hd.heap_39 w.params).In h₀) {ke : Nat} (N : News h₀ L s.heap ((84, tabObj (tabS ke)) :: tl)) (T : Top p loose mean mg mb h₀) (hC : CodeHd h₀ 88 84) (hf : env.frame = some L) (hke : env.scope.kind = .function) (hd : dp + 10 < recursionLimit) (hu : un + 100 < cLine)
    (ret : ∀ h' tk' (f x d fr : Nat) es n oc1 oc2 oc3 dc ct, Fr h₀ L h' m → News h₀ L h' ((f, errAt body (fr + 1) (fr + 1 + 1) (fr + 1 + 1 + 1) dc ((mg "__name__").getD .none) ke ct) :: (x, instObj 66 d) :: (d, dictOf es n) :: (fr + 1 + 1 + 1, oc3) :: (fr + 1 + 1, oc2) :: (fr + 1, oc1) :: (84, tabObj (tabS ke)) :: tl) → oc1.data = .cell (some (.int i ti)) → oc2.data = .cell (some (.ref lg)) → oc3.data = .cell (some (.ref x)) → getL "error" es = some (some (.ref f)) → getL "parent" es = some none → getL "http_response" es = some none → getL "https_response" es = some none → getL "add_parent" es = some none → getL "close" es = some none → es.length ≤ 1 → (fr + 3 < d ∧ d < x ∧ x < f ∧ 84 < fr) → AllLt fr tl → Q (.ref x) { s with heap := h', toks := tk' }) :
    wpAny (model PySem.Challenge.rw_dn0254_08.row.prog w) (ktrAny dp un gd env outer) (call (.ref 89) [.int i ti, .ref lg]) Q E s := by
  obtain ⟨oc, od, params, dV, kV, doc, pm, cdv, ct, an, osl, hbody⟩ := hdef
  k_dflt (refine' lookup_same hbody ?k6 ?_; (case k6 => k_is))
  intro hbe hse
  subst hse
  subst hbe
  refine wpAny_call ?_
  k_dflt (refine' code_defC ?k1 ?k2 ?k3 ?k4 ?k5 ?kA ?kF ?kK ?k6 ?k7 ?k8 ?k9 ?kB ?kD ?_ ?c2 ?c3 ?c4; (case kA => exact rfl); (case kF => assumption); (case kK => assumption); (case k1 => k_asm); (case k2 => k_asm); (case k3 => k_asm); (case k4 => k_asm); (case k5 => k_asm); (case k6 => k_is); (case k7 => k_is); (case k8 => (show dp < recursionLimit; omega)); (case k9 => exact BindsTo.of_eq rfl); (case kB => rfl); (case kD => decide +kernel); (case c2 => exact rfl); (case c3 => exact rfl); (case c4 => exact rfl); k_whole)
  intro g' L' h' tk' cells' FG' F' N' Y' B' X' T' l1
  k_lt l1
  k_cells Y'
  (try simp only [List.cons_append, List.nil_append] at N')
  (try dsimp only)
  (try k_lift B')
  (try k_fold)
  have hC' := hC.keeps FG'.keep
  have AL : AllLt L' tl := l1.2
  have a1 : AllLt (L' + 1) tl := tbn_up (Nat.lt_succ_self L') AL
  have a2 : AllLt (L' + 1 + 1) tl := tbn_up (Nat.lt_succ_self _) a1
  have a3 : AllLt (L' + 1 + 1 + 1) tl := tbn_up (Nat.lt_succ_self _) a2
  kwd_less
  rename News h₀ _ _ _ => N9
  rename Fr h₀ _ _ m => F9
  exact ret _ _ _ _ _ _ _ _ _ _ _ _ _ F9 N9 (by assumption) (by assumption) (by assumption) rfl rfl rfl rfl rfl rfl (Nat.le_refl _) (by omega) AL
end
end Mine


namespace Mine
theorem fillD : PySem.Challenge.rw_dn0254_08.row.prog = PySem.Challenge.rw_dn0254_08.row.prog ∧ Mine.hd.heap_39 = Mine.hd.heap_39 := by
  w_top off
  k_fill
  exact ⟨rfl, rfl⟩
abbrev dg (j : Nat) : Str := Str.ofString (toString (j : Int))
theorem dg_len {j : Nat} (h : j < 5) : (dg j).length ≤ 1 := by
  have : j = 0 ∨ j = 1 ∨ j = 2 ∨ j = 3 ∨ j = 4 := by omega
  rcases this with rfl | rfl | rfl | rfl | rfl <;> decide
theorem small_size {n : Nat} (h : n ≤ 2 ^ 20) : n ≤ sizeLine := Nat.le_trans h lineBig
theorem name66 (P : Params) : nameIn (Mine.hd.heap_39 P) 66 = true := by kernel_rfl
theorem get_sym {K : Frag} {prog : Program} {w : World} {A : Around} {E : Value → Shared → Prop} {s : Shared} {x C dx L : Addr} {h₀ : Heap} {m : Str → Option Value} {news : List (Addr × Obj)} {es : List DictEntry} {n : Nat} {name : Str} {v : Value} {expr : Bool} {Q : Value → Shared → Prop} {attr : Option Value}
    (F : Fr h₀ L s.heap m) (X₀ : K.In h₀) (N : News h₀ L s.heap news) (h1 : (x, instObj C dx) ∈ news) (h2 : (dx, dictOf es n) ∈ news) (hl : getL name es = some (some v)) (hg : plainGet K C name = true) (hh : hasDictIn K C = true)
    (ha : findIn K (.ref C) name = some attr) (hn : noGet K attr = true) (hv : handedIn v = true) (h : Q v { s with toks := s.toks + 1 }) :
    wpAny (model prog w) A (getAttr (.ref x) name expr) Q E s := get_own F X₀ (InstAt.of_news N h1 h2) hg hh ha hn hl hv h
theorem get_symN {K : Frag} {prog : Program} {w : World} {A : Around} {E : Value → Shared → Prop} {s : Shared} {x C dx L : Addr} {h₀ : Heap} {m : Str → Option Value} {news : List (Addr × Obj)} {es : List DictEntry} {n : Nat} {name : Str} {expr : Bool} {Q : Value → Shared → Prop}
    (F : Fr h₀ L s.heap m) (X₀ : K.In h₀) (N : News h₀ L s.heap news) (h1 : (x, instObj C dx) ∈ news) (h2 : (dx, dictOf es n) ∈ news) (hl : getL name es = some none) (hA : A.handled = none) (hg : plainGet K C name = true) (hh : hasDictIn K C = true)
    (ha : findIn K (.ref C) name = some none) (hc : copiedNames.contains name = false) (hn : nameIn K C = true) (hnl : name.length ≤ 100)
    (h : ∀ h' tk e, NewE s.heap h' e "AttributeError" → E (.ref e) { s with heap := h', toks := tk }) :
    wpAny (model prog w) A (getAttr (.ref x) name expr) Q E s := get_miss hA F X₀ (InstAt.of_news N h1 h2) hg hh ha hc hn hnl hl h
/-- what was the word, digit by digit -/
def W08 (ds : List Nat) : Str := ds.foldl (fun w d => w ++ dg d) ""
theorem W08_snoc {ds : List Nat} {j : Nat} : W08 (ds ++ [j]) = W08 ds ++ dg j := by simp [W08, List.foldl_append]
theorem W08_fold : ∀ (ds : List Nat) (w : Str), (∀ d ∈ ds, d < 5) → (ds.foldl (fun w d => w ++ dg d) w).length ≤ w.length + ds.length := by
  intro ds
  induction ds with
  | nil => intro w _; exact Nat.le_refl _
  | cons j ds ih =>
    intro w h
    have h1 := ih (w ++ dg j) fun d hd => h d (.tail _ hd)
    have h2 := dg_len (h j (.head _))
    rw [Str.length_append] at h1
    simp only [List.foldl_cons, List.length_cons]
    omega
theorem W08_len {ds : List Nat} (h : ∀ d ∈ ds, d < 5) : (W08 ds).length ≤ ds.length := by
  have := W08_fold ds "" h
  have e : ("" : Str).length = 0 := by decide
  unfold W08
  omega
inductive All2 {α β : Type} (R : α → β → Prop) : List α → List β → Prop
  | nil : All2 R [] []
  | cons {a b as bs} : R a b → All2 R as bs → All2 R (a :: as) (b :: bs)
theorem All2.mono {α β : Type} {R S : α → β → Prop} (h : ∀ a b, R a b → S a b) {as : List α} {bs : List β} (x : All2 R as bs) : All2 S as bs := by
  induction x with
  | nil => exact .nil
  | cons a _ ih => exact .cons (h _ _ a) ih
theorem All2.snoc {α β : Type} {R : α → β → Prop} {a : α} {b : β} (r : R a b) {as : List α} {bs : List β} (x : All2 R as bs) : All2 R (as ++ [a]) (bs ++ [b]) := by
  induction x with
  | nil => exact .cons r .nil
  | cons q _ ih => exact .cons q ih
theorem All2.len {α β : Type} {R : α → β → Prop} {as : List α} {bs : List β} (x : All2 R as bs) : as.length = bs.length := by
  induction x with
  | nil => rfl
  | cons _ _ ih => simp [ih]
inductive End08 | page | attr | none
def stepOf (j : Nat) : Int := if j = 0 then 100 else if j = 1 then -100 else if j = 2 then 1 else if j = 3 then -1 else 60
/-- a run, walked up the parents: what is written down, how it ends, the last code and digits -/
def go08 (up : Nat → Option Nat) : Nat → Nat → Int → List Nat → List (Nat × Int × List Nat) × End08 × Int × List Nat
  | 0, _, c, ds => ([], .none, c, ds)
  | k + 1, i, c, ds => if c.fdiv 100 = 2 then ([], .page, c, ds) else match up i with
    | none => ([], .attr, c, ds)
    | some j => if k = 0 then ([(j, c, ds)], .none, c, ds) else ((j, c, ds) :: (go08 up k j (c + stepOf j) (ds ++ [j])).1, (go08 up k j (c + stepOf j) (ds ++ [j])).2)
/-- the things that stand -/
structure Env08 where
  body89 : List Stmt
  scope89 : Scope
  body75 : List Stmt
  scope75 : Scope
  pn : Value
  ke : Nat
  kl : Nat
  oke : Obj
  okl : Obj
  lg : Nat
  rq : Nat
  xs : Nat → Nat
  up : Nat → Option Nat
def Stage08 (v : Env08) (tl : List (Addr × Obj)) (i : Nat) : Prop := ∃ (d n f f1 f2 f3 : Nat) (es : List DictEntry) (oc1 oc2 oc3 : Obj) (dc ct : Value) (ti : Tok),
  (v.xs i, instObj 66 d) ∈ tl ∧ (d, dictOf es n) ∈ tl ∧ (f, errAt v.body89 f1 f2 f3 dc v.pn v.ke ct) ∈ tl ∧ (f1, oc1) ∈ tl ∧ (f2, oc2) ∈ tl ∧ (f3, oc3) ∈ tl ∧ oc1.data = .cell (some (.int (i : Int) ti)) ∧ oc2.data = .cell (some (.ref v.lg)) ∧ oc3.data = .cell (some (.ref (v.xs i))) ∧
  getL "error" es = some (some (.ref f)) ∧ getL "http_response" es = some none ∧ getL "parent" es = some ((v.up i).map fun j => .ref (v.xs j))
def Page08 (v : Env08) (tl : List (Addr × Obj)) (pg : Nat) (c : Int) (ds : List Nat) : Prop := ∃ (dp n fl cf hd nh : Nat) (es : List DictEntry) (ocf : Obj) (ct : Value) (tc tw : Tok) (vs : List Value),
  (pg, instObj 45 dp) ∈ tl ∧ (dp, dictOf es n) ∈ tl ∧ (fl, lamAt v.body75 cf v.pn v.kl ct) ∈ tl ∧ (cf, ocf) ∈ tl ∧ ocf.data = .cell (some (.ref hd)) ∧ getL "code" es = some (some (.int c tc)) ∧ getL "msg" es = some (some (.str (W08 ds) tw)) ∧ getL "info" es = some (some (.ref fl)) ∧
  (hd, W.listOf vs.toArray nh) ∈ tl ∧ IntsAre vs (ds.map (Nat.cast : Nat → Int))
def Ent08 (v : Env08) (tl : List (Addr × Obj)) (x : Value) (e : Nat × Int × List Nat) : Prop := ∃ (t hd nh : Nat) (tj th tc tc2 tw : Tok) (vs : List Value),
  x = .ref t ∧ (t, { cls := .type "tuple", data := .seq #[.int (e.1 : Int) tj, .str "http" th, .ref v.rq, .int e.2.1 tc, .int e.2.1 tc2, .str (W08 e.2.2) tw, .ref hd] }) ∈ tl ∧ (hd, W.listOf vs.toArray nh) ∈ tl ∧ IntsAre vs (e.2.2.map (Nat.cast : Nat → Int))
theorem Stage08.mono {v : Env08} {tl tl' : List (Addr × Obj)} {i : Nat} (h : ∀ p ∈ tl, p ∈ tl') (x : Stage08 v tl i) : Stage08 v tl' i := by
  obtain ⟨d, n, f, f1, f2, f3, es, oc1, oc2, oc3, dc, ct, ti, a1, a2, a3, a4, a5, a6, r⟩ := x
  exact ⟨d, n, f, f1, f2, f3, es, oc1, oc2, oc3, dc, ct, ti, h _ a1, h _ a2, h _ a3, h _ a4, h _ a5, h _ a6, r⟩
theorem Page08.mono {v : Env08} {tl tl' : List (Addr × Obj)} {pg : Nat} {c : Int} {ds : List Nat} (h : ∀ p ∈ tl, p ∈ tl') (x : Page08 v tl pg c ds) : Page08 v tl' pg c ds := by
  obtain ⟨dp, n, fl, cf, hd, nh, es, ocf, ct, tc, tw, vs, a1, a2, a3, a4, b1, b2, b3, b4, a5, b5⟩ := x
  exact ⟨dp, n, fl, cf, hd, nh, es, ocf, ct, tc, tw, vs, h _ a1, h _ a2, h _ a3, h _ a4, b1, b2, b3, b4, h _ a5, b5⟩
theorem Ent08.mono {v : Env08} {tl tl' : List (Addr × Obj)} {x : Value} {e : Nat × Int × List Nat} (h : ∀ p ∈ tl, p ∈ tl') (r : Ent08 v tl x e) : Ent08 v tl' x e := by
  obtain ⟨t, hd, nh, tj, th, tc, tc2, tw, vs, rfl, a1, a2, b⟩ := r
  exact ⟨t, hd, nh, tj, th, tc, tc2, tw, vs, rfl, h _ a1, h _ a2, b⟩
end Mine


namespace Mine
theorem fill2 : PySem.Challenge.rw_dn0254_08.row.prog = PySem.Challenge.rw_dn0254_08.row.prog ∧ Mine.hd.heap_39 = Mine.hd.heap_39 := by
  w_top off
  k_fill
  exact ⟨rfl, rfl⟩
theorem add_led {prog : Program} {w : World} {A : Around} {E : Value → Shared → Prop} {s : Shared} {h₀ : Heap} {L a b : Addr} {m : Str → Option Value} {news : List (Addr × Obj)} {vs us : List Value} {n n' : Nat} {Q : Value → Shared → Prop}
    (F : Fr h₀ L s.heap m) (N : News h₀ L s.heap news) (ha : (a, W.listOf vs.toArray n) ∈ news) (hb : (b, W.listOf us.toArray n') ∈ news) (hz : vs.length + us.length ≤ 2 ^ 20)
    (h : ∀ D h', Fr h₀ L h' m → News h₀ L h' ((D, W.listOf (vs ++ us).toArray 0) :: news) → (∀ p ∈ news, p.1 < D) → Q (.ref D) { s with heap := h' }) : wpAny (model prog w) A (binaryOp .Add (.ref a) (.ref b)) Q E s :=
  kmk_add_lit F N (News.isList N ha) (News.isList N hb) (by simp) h (by simpa using small_size hz)
theorem rot6 {h₀ h : Heap} {L : Addr} {a1 a2 a3 a4 a5 x : Addr × Obj} {tl : List (Addr × Obj)} (N : News h₀ L h (a1 :: a2 :: a3 :: a4 :: a5 :: x :: tl)) : News h₀ L h (x :: a1 :: a2 :: a3 :: a4 :: a5 :: tl) := fun p hp => N p (by
  simp only [List.mem_cons] at hp ⊢
  rcases hp with h | h | h | h | h | h | h <;> simp [h])
theorem rot10 {h₀ h : Heap} {L : Addr} {b1 b2 b3 b4 a1 a2 a3 a4 a5 x : Addr × Obj} {tl : List (Addr × Obj)} (N : News h₀ L h (b1 :: b2 :: b3 :: b4 :: x :: a1 :: a2 :: a3 :: a4 :: a5 :: tl)) : News h₀ L h (a5 :: x :: ([b1, b2, b3, b4, a1, a2, a3, a4] ++ tl)) := fun p hp => N p (by
  simp only [List.mem_cons, List.cons_append, List.nil_append] at hp ⊢
  rcases hp with h | h | h | h | h | h | h | h | h | h | h <;> simp [h])
theorem rot3 {h₀ h : Heap} {L : Addr} {a x y : Addr × Obj} {tl : List (Addr × Obj)} (N : News h₀ L h (a :: x :: y :: tl)) : News h₀ L h (x :: y :: ([a] ++ tl)) := fun p hp => N p (by
  simp only [List.mem_cons, List.cons_append, List.nil_append] at hp ⊢
  rcases hp with h | h | h | h <;> simp [h])
theorem step_is {j : Nat} (h : j < 5) : [(100 : Int), -100, 1, -1, 60].getD ((j : Int)).toNat 0 = stepOf j := by
  have : j = 0 ∨ j = 1 ∨ j = 2 ∨ j = 3 ∨ j = 4 := by omega
  rcases this with rfl | rfl | rfl | rfl | rfl <;> rfl
theorem off_cons {tl : List (Addr × Obj)} {a b : Nat} {D : Nat} {o : Obj} (h : OwnOff tl [a, b]) (h1 : a < D) (h2 : b < D) : OwnOff ((D, o) :: tl) [a, b] := fun p hp x hx => by
  rcases List.mem_cons.mp hp with rfl | hp
  · rcases List.mem_cons.mp hx with rfl | hx
    · exact Nat.ne_of_gt h1
    · rcases List.mem_singleton.mp hx with rfl
      exact Nat.ne_of_gt h2
  · exact h p hp x hx
theorem off_news {h₀ h : Heap} {L : Addr} {x y : Addr × Obj} {own tl : List (Addr × Obj)} {a b : Nat} (_N : News h₀ L h (x :: y :: (own ++ tl))) (h : OwnOff tl [a, b]) (k : ∀ p ∈ own, @LT.lt Nat _ a p.1 ∧ @LT.lt Nat _ b p.1) : OwnOff (own ++ tl) [a, b] := fun p hp q hq => by
  rcases List.mem_append.mp hp with hp | hp
  · rcases List.mem_cons.mp hq with rfl | hq
    · exact Nat.ne_of_gt (k p hp).1
    · rcases List.mem_singleton.mp hq with rfl
      exact Nat.ne_of_gt (k p hp).2
  · exact h p hp q hq
/-- the ways a run may end -/
structure Outs (base : Heap) (v : Env08) (Q E : Value → Shared → Prop) (s : Shared) (h₀ : Heap) (L : Addr) (m : Str → Option Value) (fs : List Env) (tl : List (Addr × Obj)) (es : List (Nat × Int × List Nat)) (pg : Nat) (r : List (Nat × Int × List Nat) × End08 × Int × List Nat) : Prop where
  page : ∀ h' tk' log' nl' own pg', Fr h₀ L h' m → News h₀ L h' ((v.lg, W.listOf log'.toArray nl') :: (70, tabObj (tabP v.kl)) :: (own ++ tl)) → OwnOff (own ++ tl) [v.lg, 70] → All2 (Ent08 v (own ++ tl)) log' (es ++ r.1) → r.2.1 = .page → Page08 v (own ++ tl) pg' r.2.2.1 r.2.2.2 → (r.1 = [] → pg' = pg) → Q (.ref pg') { s with heap := h', toks := tk' }
  none : ∀ h' tk' log' nl' own, Fr h₀ L h' m → News h₀ L h' ((v.lg, W.listOf log'.toArray nl') :: (70, tabObj (tabP v.kl)) :: (own ++ tl)) → OwnOff (own ++ tl) [v.lg, 70] → All2 (Ent08 v (own ++ tl)) log' (es ++ r.1) → r.2.1 = .none → Q .none { s with heap := h', toks := tk' }
  attr : ∀ h' tk' e G log' nl' own, Fr h₀ L G m → RaisedSN base G fs e (.type "AttributeError") ((v.lg, W.listOf log'.toArray nl') :: (70, tabObj (tabP v.kl)) :: (own ++ tl)) h' → G.UpToSlots h' → OwnOff (own ++ tl) [v.lg, 70] → All2 (Ent08 v (own ++ tl)) log' (es ++ r.1) → r.2.1 = .attr → E (.ref e) { s with heap := h', toks := tk' }
structure Fix08 (w : World) (p : Program) (loose : List Str) (mean : ExcName → Option Value) (mg mb : Str → Option Value) (base : Heap) (v : Env08) : Prop where
  XB : (Mine.hd.heap_39 w.params).In base
  TB : Top p loose mean mg mb base
  HC : CodeHd base 74 70
  d89 : Def08 w 89 "_law_stage" v.body89 v.scope89
  d75 : Def08 w 75 "_law_page" v.body75 v.scope75
  pn : v.pn = (mg "__name__").getD .none
  lg : v.lg ≠ 70
  up : ∀ i j, v.up i = some j → j < 5
  ke : CodeOf v.oke "_law_stage.<locals>._law_error"
  kl : CodeOf v.okl "_law_page.<locals>.<lambda>"
structure Led08 (v : Env08) (tl : List (Addr × Obj)) : Prop where
  off : OwnOff tl [v.lg, 70]
  st : ∀ i, i < 5 → Stage08 v tl i
  ke : (v.ke, v.oke) ∈ tl
  kl : (v.kl, v.okl) ∈ tl
theorem Led08.mono {v : Env08} {tl tl' : List (Addr × Obj)} (x : Led08 v tl) (h : ∀ p ∈ tl, p ∈ tl') (o : OwnOff tl' [v.lg, 70]) : Led08 v tl' := ⟨o, fun i hi => (x.st i hi).mono h, h _ x.ke, h _ x.kl⟩
def RunOk (w : World) (base : Heap) (v : Env08) (k : Nat) : Prop := ∀ {Q E : Value → Shared → Prop} {s : Shared} {L : Addr} {h₀ : Heap} {m : Str → Option Value} {dp un : Nat} {gd : Option (List Code)} {env : Env} {outer : List Env} {A₀ : Around} {tl : List (Addr × Obj)} {log : List Value} {nl i pg : Nat} {c : Int} {ds : List Nat} {es : List (Nat × Int × List Nat)},
  Below A₀ base outer h₀ → Fr h₀ L s.heap m → News h₀ L s.heap ((v.lg, W.listOf log.toArray nl) :: (70, tabObj (tabP v.kl)) :: tl) → Led08 v tl → env.frame = some L → env.scope.kind = .function → dp + 3 * k + 10 < recursionLimit → un + 30 * k + 100 < cLine → log.length + k = 4 → i < 5 → Page08 v tl pg c ds → ds.length + k ≤ 4 → (∀ d ∈ ds, d < 5) → All2 (Ent08 v tl) log es →
  Outs base v Q E s h₀ L m (env :: outer) tl es pg (go08 v.up k i c ds) →
  wpAny (model PySem.Challenge.rw_dn0254_08.row.prog w) (ktrAny dp un gd env outer) (call (.ref 63) [.ref (v.xs i), .ref v.rq, .ref pg]) Q E s
section
variable {w : World} {E : Value → Shared → Prop} {s : Shared} {L : Addr} {h₀ : Heap} {m : Str → Option Value}
local macro_rules | `(tactic| keq_rows) => `(tactic| first | (k_unfold; (try dsimp only)) | walk1 | (dsimp only; walk1))
local macro_rules | `(tactic| k_mem) => `(tactic| (first | with_reducible assumption | with_reducible exact List.mem_cons_self | (with_reducible refine List.mem_cons_of_mem _ ?_; k_mem)))
local macro_rules | `(tactic| ktr_room) => `(tactic| ((simp only [depth_mark, depth_in1, depth_deeper]); (try dsimp only [ktrAny]); omega))
local macro_rules | `(tactic| k_room) => `(tactic| ktr_room)
local macro_rules | `(tactic| ktr_rel) => `(tactic| ((simp only [units_deeper, units_in1]); (try dsimp only [ktrAny]); omega))
local macro_rules | `(tactic| walk_at "getAttr ref") => `(tactic| (k_here; k_dflt (first
  | (refine' get_sym ?k1 ?k2 ?k3 ?k4 ?k5 ?k6 ?k7 ?k8 ?k9 ?ka ?kb ?_; (case k1 => k_asm); (case k2 => k_asm); (case k3 => k_asm); (case k4 => k_mem); (case k5 => k_mem); (case k6 => assumption); (case k7 => k_is); (case k8 => k_is); (case k9 => k_is); (case ka => k_is); (case kb => first | rfl | assumption); k_whole)
  | (refine' get_symN ?k1 ?k2 ?k3 ?k4 ?k5 ?k6 ?k7 ?k8 ?k9 ?ka ?kb ?kc ?kd ?_; (case k1 => k_asm); (case k2 => k_asm); (case k3 => k_asm); (case k4 => k_mem); (case k5 => k_mem); (case k6 => assumption); (case k7 => rfl); (case k8 => k_is); (case k9 => k_is); (case ka => k_is); (case kb => decide); (case kc => first | exact name45 _ | exact name66 _); (case kd => decide); k_whole; intro h' tk' e' hx'))))
local macro_rules | `(tactic| walk_at "call builtin:list.append") => `(tactic| (k_here; (with_reducible show wpAny _ _ (call (Value.builtin _) [Value.ref _, _]) _ _ _); k_dflt (refine' append_led ?F ?N ?z ?U ?_; (case F => k_asm); (case N => k_asm); (case U => k_upd); (case z => assumption)); intro h' F' N'))
local macro_rules | `(tactic| walk_at "call builtin:len") => `(tactic| (k_here; (with_reducible show wpAny _ _ (call (Value.builtin "len") [Value.ref _]) _ _ _); k_dflt (refine' len_led ?k1 ?k2 ?k3 ?_; (case k1 => k_asm); (case k2 => k_mem); (case k3 => ((try simp only [List.length_append, List.length_cons, List.length_nil]); omega)); k_whole)))
local macro_rules | `(tactic| walk_at "binaryOp Add str str") => `(tactic| (k_here; (with_reducible show wpAny _ _ (binaryOp Operator.Add (Value.str _ _) (Value.str _ _)) _ _ _); refine' add_str ?h ?hsz; (case hsz => (refine small_size ?_; omega)); intro t' tk'))
local macro_rules | `(tactic| walk_at "binaryOp Add ref ref") => `(tactic| (k_here; (with_reducible show wpAny _ _ (binaryOp _ (Value.ref _) (Value.ref _)) _ _ _); k_dflt (refine' add_led ?F ?N ?a ?b ?z ?_; (case F => k_asm); (case N => k_asm); (case a => k_mem); (case b => k_mem); (case z => ((try simp only [List.length_cons, List.length_nil]); omega))); intro D' h' F' N' l1; (try k_lt l1)))
local macro_rules | `(tactic| walk_at "getMethod ref") => `(tactic| (k_here; (with_reducible show wpAny _ _ (getMethod (Value.ref _) (PySem.Str.ofString "http_response") _) _ _ _); k_dflt (refine' method_inst ?k1 ?k2 (InstAt.of_news (by k_asm) (by k_mem) (by k_mem)) ?k4 ?k5 ?k6 ?k7 ?_; (case k1 => k_asm); (case k2 => k_asm); (case k4 => k_is); (case k5 => k_is); (case k6 => k_is); (case k7 => assumption); k_whole)))
local macro_rules | `(tactic| walk_at "leaving ref") => `(tactic| (k_here; k_dflt (first
  | (refine' leaveE_new ?k1 ?k0 ?k2 ?k3 ?k4 ?k5 ?_; (case k0 => first | assumption | exact NewE.of_new (by assumption) | exact NewE.of_made (by assumption)); (case k2 => assumption); (case k1 => assumption); (case k3 => k_asm); (case k4 => exact rfl); (case k5 => exact rfl); k_whole; intro h' R' U'; (try dsimp only at R' U' ⊢))
  | (refine' leaveE_on ?k1 ?k2 ?k3 ?k4 ?k5 ?_; (case k3 => assumption); (case k2 => assumption); (case k1 => assumption); (case k4 => assumption); (case k5 => exact rfl); k_whole; intro h' R' U'; (try dsimp only at R' U' ⊢)))))
local macro_rules | `(tactic| bits_by_make) => `(tactic| repeat' ((fail_if_success (with_reducible show wpAny _ _ (call (Value.builtin "list.append") _) _ _ _)); keq_rows))
local macro_rules | `(tactic| kwd_less) => `(tactic| repeat' ((fail_if_success (with_reducible show wpAny _ _ (call (Value.ref 75) _) _ _ _)); (fail_if_success (with_reducible show wpAny _ _ (call (Value.ref 63) _) _ _ _)); keq_rows))
theorem err08 {p : Program} {loose : List Str} {mean : ExcName → Option Value} {mg mb : Str → Option Value} {base : Heap} {v : Env08} {k : Nat} (fx : Fix08 w p loose mean mg mb base v) (ih : k ≠ 0 → RunOk w base v k)
    {Q : Value → Shared → Prop} {dp un : Nat} {gd : Option (List Code)} {env : Env} {outer : List Env} {A₀ : Around} {tl : List (Addr × Obj)} {log : List Value} {nl f f1 f2 f3 j pg hda nh : Nat} {dc ct : Value} {oc1 oc2 oc3 : Obj} {tj th tc tw : Tok} {c : Int} {ds : List Nat} {es : List (Nat × Int × List Nat)} {hv : List Value}
    (B : Below A₀ base outer h₀) (F : Fr h₀ L s.heap m) (N : News h₀ L s.heap ((v.lg, W.listOf log.toArray nl) :: (70, tabObj (tabP v.kl)) :: tl)) (led : Led08 v tl) (hf : env.frame = some L) (hke : env.scope.kind = .function) (hd : dp + 3 * k + 12 < recursionLimit) (hu : un + 30 * k + 120 < cLine) (hl : log.length + (k + 1) = 4)
    (hfm : (f, errAt v.body89 f1 f2 f3 dc v.pn v.ke ct) ∈ tl) (h1 : (f1, oc1) ∈ tl) (h2 : (f2, oc2) ∈ tl) (h3 : (f3, oc3) ∈ tl) (e1 : oc1.data = .cell (some (.int (j : Int) tj))) (e2 : oc2.data = .cell (some (.ref v.lg))) (e3 : oc3.data = .cell (some (.ref (v.xs j)))) (hj : j < 5)
    (hp : Page08 v tl pg c ds) (hh : (hda, W.listOf hv.toArray nh) ∈ tl) (hhi : IntsAre hv (ds.map (Nat.cast : Nat → Int))) (hds : ds.length + (k + 1) ≤ 4) (hdd : ∀ d ∈ ds, d < 5) (hlog : All2 (Ent08 v tl) log es)
    (out : Outs base v Q E s h₀ L m (env :: outer) tl es pg (if k = 0 then ([(j, c, ds)], .none, c, ds) else ((j, c, ds) :: (go08 v.up k j (c + stepOf j) (ds ++ [j])).1, (go08 v.up k j (c + stepOf j) (ds ++ [j])).2))) :
    wpAny (model PySem.Challenge.rw_dn0254_08.row.prog w) (ktrAny dp un gd env outer) (call (.ref f) [.str "http" th, .ref v.rq, .ref pg, .int c tc, .str (W08 ds) tw, .ref hda]) Q E s := by
  have X := fx.XB.keeps B.stays
  have T := fx.TB.keeps B.stays
  have hC := fx.HC.keeps B.stays
  have ho := led.off
  have hlg := fx.lg
  have hkm := led.ke
  obtain ⟨vk, tk, d1, d2⟩ := fx.ke
  obtain ⟨dpg, np, flp, cfp, hdp, nhp, esp, ocfp, ctp, tcp, twp, vsp, p1, p2, p3, p4, q1, q2, q3, q4, p5, q5⟩ := hp
  obtain ⟨oc, od, params, dV, kV, doc, pm, cdv, ct', an, osl, hbody⟩ := fx.d89
  k_dflt (refine' lookup_same hbody ?k6 ?_; (case k6 => k_is))
  intro hbe hse
  rw [hbe] at hfm
  dsimp only [errAt, List.getElem?_cons_zero, List.getElem?_cons_succ] at hfm
  have hdg := dg_len hj
  have hwl := W08_len hdd
  have hvl : hv.length ≤ 4 := by
    have := hhi.length
    rw [List.length_map] at this
    omega
  have hz : log.length ≤ 2 ^ 20 := by omega
  clear hbody hbe hse
  refine wpAny_call ?_
  k_dflt (refine' code_nest ?k1 ?k2 ?k3 ?k4 ?k5 ?kA ?kF ?kK ?k6 ?k7 ?k8 ?k9 ?kB ?_ ?c2 ?c3 ?c4 ?c5; (case kA => exact rfl); (case kF => assumption); (case kK => assumption); (case k1 => k_asm); (case k2 => k_asm); (case k3 => k_asm); (case k4 => k_asm); (case k5 => k_asm); (case k6 => exact .tail _ (.tail _ hfm)); (case k7 => exact codeRec_news N (.tail _ (.tail _ hkm)) (by assumption) (by assumption)); (case k8 => k_room); (case k9 => exact BindsTo.of_eq rfl); (case c5 => decide); (case kB => exact locs rfl); (case c2 => exact rfl); (case c3 => exact rfl); (case c4 => exact rfl); k_whole; intro g' L' h' FG' F' N' B' X' T'; (try dsimp only); (try k_lift B'); (try k_fold))
  have hC' := hC.keeps FG'.keep
  obtain ⟨dx, nx, fx1, fy1, fy2, fy3, esx, ox1, ox2, ox3, dcx, ctx, tix, s1, s2, -, -, -, -, -, -, -, -, s3, -⟩ := led.st j hj
  kwd_less
  · rename News h₀ _ _ _ => N9
    rename Fr h₀ _ _ _ => F9
    rename _ ∧ _ ∧ AllLt _ _ => lD
    rename ((_ : List Value).length : Int) = 4 => q4
    simp only [List.length_append, List.length_cons, List.length_nil] at q4
    have hk0 : k = 0 := by omega
    subst hk0
    exact out.none _ _ (log ++ [.ref _]) _ [_] F9 (rot3 N9) (off_cons ho lD.1 lD.2.1) (All2.snoc ⟨_, hda, nh, tj, th, tcp, tc, tw, hv, rfl, .head _, .tail _ hh, hhi⟩ (hlog.mono fun _ _ r => r.mono fun p hp => .tail _ hp)) rfl
  · rename News _ _ _ _ => N9
    rename Fr _ _ _ _ => F9
    show wpAny _ (ktrAny (dp + 1) (un + 3) gd _ (env :: outer)) _ _ _ _
    refine pageB fx.d75 B' F9 X' (rot6 N9) T' hC' rfl rfl (by omega) (by omega) ?_
    intro h5 tk5 fl pg5 dp5 cf5 es5 n5 ocf5 ct5 tc5 F5 N5 oc5 g51 g52 g53 le5 lt5 al5
    rw [← fx.pn] at N5
    have N6 := rot10 N5
    clear N9 F9 N5
    kwd_less
    rename News _ _ _ _ => N8
    rename Fr _ _ _ _ => F8
    have hk0 : k ≠ 0 := by
      intro q
      subst q
      rename ¬ (((_ : List Value).length : Int) = 4) => q4
      simp only [List.length_append, List.length_cons, List.length_nil] at q4
      omega
    have hlg5 : @LT.lt Nat _ v.lg cf5 := tb_ltOf al5 (v.lg, _) (.tail _ (.tail _ (.tail _ (.tail _ (.head _)))))
    have hoff := off_news N8 ho (by
      intro p hp
      simp only [List.mem_cons, List.mem_nil_iff, or_false] at hp
      rcases hp with rfl | rfl | rfl | rfl | rfl | rfl | rfl | rfl <;> (constructor <;> (dsimp only; omega)))
    show wpAny _ (ktrAny (dp + 1) (un + 3) gd _ (env :: outer)) _ _ _ _
    have ih' : RunOk w base v k := ih hk0
    unfold RunOk at ih'
    refine ih' (c := c + stepOf j) (ds := ds ++ [j]) (es := es ++ [(j, c, ds)]) B' F8 N8 (led.mono (fun p hp => List.mem_append_right _ hp) hoff) rfl rfl (by omega) (by omega) ?ll hj ?pgf ?dl ?dd (All2.snoc ?ent (hlog.mono fun _ _ r => r.mono fun p hp => List.mem_append_right _ hp)) ?outs
    case ll => simp only [List.length_append, List.length_cons, List.length_nil]; omega
    case dl => simp only [List.length_append, List.length_cons, List.length_nil]; omega
    case dd =>
      intro d hd
      rcases List.mem_append.mp hd with hd | hd
      · exact hdd d hd
      · rw [List.mem_singleton.mp hd]; exact hj
    case ent =>
      exact ⟨_, hda, nh, tj, th, tcp, tc, tw, hv, rfl, .tail _ (.tail _ (.tail _ (.tail _ (.tail _ (.tail _ (.tail _ (.head _))))))), List.mem_append_right _ hh, hhi⟩
    case pgf =>
      have g51' : getL "code" es5 = some (some (.int (c + stepOf j) tc5)) := by rw [← step_is hj]; exact g51
      obtain ⟨t52, g52'⟩ : ∃ t, getL "msg" es5 = some (some (.str (W08 (ds ++ [j])) t)) := ⟨_, by rw [W08_snoc]; exact g52⟩
      have hhi' : IntsAre (hv ++ [.int (j : Int) tj]) ((ds ++ [j]).map (Nat.cast : Nat → Int)) := by rw [List.map_append]; exact hhi.append (.cons _ _ .nil)
      exact ⟨dp5, n5, fl, cf5, _, 0, es5, ocf5, ct5, tc5, _, _, .tail _ (.head _), .tail _ (.tail _ (.head _)), .head _, .tail _ (.tail _ (.tail _ (.head _))), oc5, g51', g52', g53, .tail _ (.tail _ (.tail _ (.tail _ (.head _)))), hhi'⟩
    case outs =>
      rw [if_neg hk0] at out
      refine ⟨?_, ?_, ?_⟩
      · intro h6 tk6 log6 nl6 own6 pg6 F6 N6 off6 all6 e6 pf6 _
        rw [← List.append_assoc] at N6 off6 all6 pf6
        rw [List.append_assoc es] at all6
        clear N8 F8
        kwd_less
        rename News h₀ _ _ _ => N7
        rename Fr h₀ _ _ _ => F7
        exact out.page _ _ log6 nl6 _ pg6 F7 N7 off6 all6 e6 pf6 (fun q => nomatch q)
      · intro h6 tk6 log6 nl6 own6 F6 N6 off6 all6 e6
        rw [← List.append_assoc] at N6 off6 all6
        rw [List.append_assoc es] at all6
        clear N8 F8
        kwd_less
        rename News h₀ _ _ _ => N7
        rename Fr h₀ _ _ _ => F7
        exact out.none _ _ log6 nl6 _ F7 N7 off6 all6 e6
      · intro h6 tk6 x6 G6 log6 nl6 own6 FG6 R6 U6 off6 all6 e6
        rw [← List.append_assoc] at R6 off6 all6
        rw [List.append_assoc es] at all6
        clear N8 F8
        kwd_less
        rename RaisedSN _ _ (env :: outer) _ _ _ _ => R7
        rename Heap.UpToSlots g' _ => U7
        exact out.attr _ _ _ _ log6 nl6 _ FG' R7 U7 off6 all6 e6
end
end Mine


namespace Mine
theorem news_tail {h₀ h : Heap} {L : Addr} {a : Addr × Obj} {r : List (Addr × Obj)} (N : News h₀ L h (a :: r)) : News h₀ L h r := fun p hp => N p (.tail _ hp)
theorem raised_tail {base G h : Heap} {fs : List Env} {e : Addr} {cls : Value} {a : Addr × Obj} {r : List (Addr × Obj)} (R : RaisedSN base G fs e cls (a :: r) h) : RaisedSN base G fs e cls r h := by
  obtain ⟨B, a0, hB, hBG, hl, hfl⟩ := R
  exact ⟨B, a0, hB, hBG, fun q hq => hl q (.tail _ hq), hfl⟩
theorem passes_is {c : Int} : (c.fdiv 100 = 2) ↔ (200 ≤ c ∧ c < 300) := by
  rw [Int.fdiv_eq_ediv_of_nonneg c (by decide)]
  omega
theorem fill3 : PySem.Challenge.rw_dn0254_08.row.prog = PySem.Challenge.rw_dn0254_08.row.prog ∧ Mine.hd.heap_39 = Mine.hd.heap_39 := by
  w_top off
  k_fill
  exact ⟨rfl, rfl⟩
/-- RunOk of the code alone (the call of a bound method) -/
def RunOkC (w : World) (base : Heap) (v : Env08) (k : Nat) : Prop := ∀ {Q E : Value → Shared → Prop} {s : Shared} {L : Addr} {h₀ : Heap} {m : Str → Option Value} {dp un : Nat} {gd : Option (List Code)} {env : Env} {outer : List Env} {A₀ : Around} {tl : List (Addr × Obj)} {log : List Value} {nl i pg : Nat} {c : Int} {ds : List Nat} {es : List (Nat × Int × List Nat)},
  Below A₀ base outer h₀ → Fr h₀ L s.heap m → News h₀ L s.heap ((v.lg, W.listOf log.toArray nl) :: (70, tabObj (tabP v.kl)) :: tl) → Led08 v tl → env.frame = some L → env.scope.kind = .function → dp + 3 * k + 10 < recursionLimit → un + 30 * k + 100 < cLine → log.length + k = 4 → i < 5 → Page08 v tl pg c ds → ds.length + k ≤ 4 → (∀ d ∈ ds, d < 5) → All2 (Ent08 v tl) log es →
  Outs base v Q E s h₀ L m (env :: outer) tl es pg (go08 v.up k i c ds) →
  codeAny (model PySem.Challenge.rw_dn0254_08.row.prog w) (ktrAny dp un gd env outer) (.call (.ref 63) ⟨[.ref (v.xs i), .ref v.rq, .ref pg], []⟩) (fun r s' => match r with | .ok (.ret v) => Q v s' | .ok _ => False | .error e => E e s') s
section
variable {w : World} {E : Value → Shared → Prop} {s : Shared} {L : Addr} {h₀ : Heap} {m : Str → Option Value}
local macro_rules | `(tactic| keq_rows) => `(tactic| first | (k_unfold; (try dsimp only)) | walk1 | (dsimp only; walk1))
local macro_rules | `(tactic| k_mem) => `(tactic| (first | with_reducible assumption | with_reducible exact List.mem_cons_self | (with_reducible refine List.mem_cons_of_mem _ ?_; k_mem) | assumption))
local macro_rules | `(tactic| ktr_room) => `(tactic| ((simp only [depth_mark, depth_in1, depth_deeper]); (try dsimp only [ktrAny]); omega))
local macro_rules | `(tactic| k_room) => `(tactic| ktr_room)
local macro_rules | `(tactic| ktr_rel) => `(tactic| ((simp only [units_deeper, units_in1]); (try dsimp only [ktrAny]); omega))
local macro_rules | `(tactic| walk_at "getAttr ref") => `(tactic| (k_here; k_dflt (first
  | (refine' get_sym ?k1 ?k2 ?k3 ?k4 ?k5 ?k6 ?k7 ?k8 ?k9 ?ka ?kb ?_; (case k1 => k_asm); (case k2 => k_asm); (case k3 => k_asm); (case k4 => k_mem); (case k5 => k_mem); (case k6 => assumption); (case k7 => k_is); (case k8 => k_is); (case k9 => k_is); (case ka => k_is); (case kb => first | rfl | assumption); k_whole)
  | (refine' get_symN ?k1 ?k2 ?k3 ?k4 ?k5 ?k6 ?k7 ?k8 ?k9 ?ka ?kb ?kc ?kd ?_; (case k1 => k_asm); (case k2 => k_asm); (case k3 => k_asm); (case k4 => k_mem); (case k5 => k_mem); (case k6 => assumption); (case k7 => rfl); (case k8 => k_is); (case k9 => k_is); (case ka => k_is); (case kb => decide); (case kc => first | exact name45 _ | exact name66 _); (case kd => decide); k_whole; intro h' tk' e' hx'))))
local macro_rules | `(tactic| walk_at "call builtin:list.append") => `(tactic| (k_here; (with_reducible show wpAny _ _ (call (Value.builtin _) [Value.ref _, _]) _ _ _); k_dflt (refine' append_led ?F ?N ?z ?U ?_; (case F => k_asm); (case N => k_asm); (case U => k_upd); (case z => assumption)); intro h' F' N'))
local macro_rules | `(tactic| walk_at "call builtin:len") => `(tactic| (k_here; (with_reducible show wpAny _ _ (call (Value.builtin "len") [Value.ref _]) _ _ _); k_dflt (refine' len_led ?k1 ?k2 ?k3 ?_; (case k1 => k_asm); (case k2 => k_mem); (case k3 => ((try simp only [List.length_append, List.length_cons, List.length_nil]); omega)); k_whole)))
local macro_rules | `(tactic| walk_at "binaryOp Add str str") => `(tactic| (k_here; (with_reducible show wpAny _ _ (binaryOp Operator.Add (Value.str _ _) (Value.str _ _)) _ _ _); refine' add_str ?h ?hsz; (case hsz => (refine small_size ?_; omega)); intro t' tk'))
local macro_rules | `(tactic| walk_at "binaryOp Add ref ref") => `(tactic| (k_here; (with_reducible show wpAny _ _ (binaryOp _ (Value.ref _) (Value.ref _)) _ _ _); k_dflt (refine' add_led ?F ?N ?a ?b ?z ?_; (case F => k_asm); (case N => k_asm); (case a => k_mem); (case b => k_mem); (case z => ((try simp only [List.length_cons, List.length_nil]); omega))); intro D' h' F' N' l1; (try k_lt l1)))
local macro_rules | `(tactic| walk_at "getMethod ref") => `(tactic| (k_here; (with_reducible show wpAny _ _ (getMethod (Value.ref _) (PySem.Str.ofString "http_response") _) _ _ _); k_dflt (refine' method_inst ?k1 ?k2 (InstAt.of_news (by k_asm) (by k_mem) (by k_mem)) ?k4 ?k5 ?k6 ?k7 ?_; (case k1 => k_asm); (case k2 => k_asm); (case k4 => k_is); (case k5 => k_is); (case k6 => k_is); (case k7 => assumption); k_whole)))
local macro_rules | `(tactic| walk_at "leaving ref") => `(tactic| (k_here; k_dflt (first
  | (refine' leaveE_new ?k1 ?k0 ?k2 ?k3 ?k4 ?k5 ?_; (case k0 => first | assumption | exact NewE.of_new (by assumption) | exact NewE.of_made (by assumption)); (case k2 => assumption); (case k1 => assumption); (case k3 => k_asm); (case k4 => exact rfl); (case k5 => exact rfl); k_whole; intro h' R' U'; (try dsimp only at R' U' ⊢))
  | (refine' leaveE_on ?k1 ?k2 ?k3 ?k4 ?k5 ?_; (case k3 => assumption); (case k2 => assumption); (case k1 => assumption); (case k4 => assumption); (case k5 => exact rfl); k_whole; intro h' R' U'; (try dsimp only at R' U' ⊢)))))
local macro_rules | `(tactic| walk_at "getMethod ref") => `(tactic| (k_here; (first | (with_reducible show wpAny _ _ (getMethod (Value.ref _) (PySem.Str.ofString "info") _) _ _ _) | (with_reducible show wpAny _ _ (getMethod (Value.ref _) (PySem.Str.ofString "error") _) _ _ _)); k_dflt (refine' method_usual (r := none) ?k1 (InstAt.of_news (by k_asm) (by k_mem) (by k_mem)) ?k4 ?k5 ?k6 ?k7 ?_; (case k1 => (refine' Frag.In.keeps ?x1 (Fr.keep ?x2); (case x2 => k_asm); (case x1 => k_asm))); (case k4 => k_is); (case k5 => k_is); (case k6 => k_is); (case k7 => rfl); k_whole)))
local macro_rules | `(tactic| bits_by_make) => `(tactic| repeat' ((fail_if_success (with_reducible show wpAny _ _ (call (Value.builtin "list.append") _) _ _ _)); keq_rows))
local macro_rules | `(tactic| kwd_less) => `(tactic| repeat' ((fail_if_success (with_reducible show wpAny _ _ (call (Value.ref 75) _) _ _ _)); (fail_if_success (with_reducible show wpAny _ _ (call (Value.ref _) [Value.str _ _, Value.ref _, Value.ref _, Value.int _ _, Value.str _ _, Value.ref _]) _ _ _)); keq_rows))
theorem run08C {p : Program} {loose : List Str} {mean : ExcName → Option Value} {mg mb : Str → Option Value} {base : Heap} {v : Env08} {k : Nat} (fx : Fix08 w p loose mean mg mb base v) (ih : k ≠ 0 → RunOk w base v k) : RunOkC w base v (k + 1) := by
  intro Q E s L h₀ m dp un gd env outer A₀ tl log nl i pg c ds es B F N led hf hke hd hu hl hi hp hds hdd hlog out
  have X := fx.XB.keeps B.stays
  have T := fx.TB.keeps B.stays
  have hC := fx.HC.keeps B.stays
  have hp' := hp
  obtain ⟨dpg, np, flp, cfp, hdp, nhp, esp, ocfp, ctp, tcp, twp, vsp, p1, p2, p3, p4, q1, q2, q3, q4, p5, q5⟩ := hp
  obtain ⟨dx, nx, fx1, fy1, fy2, fy3, esx, ox1, ox2, ox3, dcx, ctx, tix, s1, s2, -, -, -, -, -, -, -, -, s3, s4⟩ := led.st i hi
  obtain ⟨oc, od, params, dV, kV, doc, pm, cdv, ct', an, osl, hbody⟩ := fx.d75
  k_dflt (refine' lookup_same hbody ?k6 ?_; (case k6 => k_is))
  intro hbe hse
  rw [hbe] at p3
  dsimp only [lamAt, List.getElem?_cons_zero, List.getElem?_cons_succ] at p3
  clear hbody hbe hse
  obtain ⟨vk, tk, d1, d2⟩ := fx.kl
  have hkl := led.kl
  k_dflt (refine' code_def ?k1 ?k2 ?k3 ?k4 ?k5 ?kA ?kF ?kK ?k6 ?k7 ?k8 ?k9 ?kB ?_ ?c2 ?c3 ?c4 ?c5; (case kA => exact rfl); (case kF => assumption); (case kK => assumption); (case k1 => k_asm); (case k2 => k_asm); (case k3 => k_asm); (case k4 => k_asm); (case k5 => k_asm); (case k6 => k_is); (case k7 => k_is); (case k8 => ktr_room); (case k9 => exact BindsTo.of_eq rfl); (case c5 => decide); (case kB => exact locs rfl); (case c2 => exact rfl); (case c3 => exact rfl); (case c4 => exact rfl); k_whole; intro g' L' h' FG' F' N' B' X' T'; (try dsimp only); (try k_fold))
  have hC' := hC.keeps FG'.keep
  cases hup : v.up i with
  | none =>
    rw [hup] at s4
    have s5 : getL "parent" esx = some none := s4
    clear s4
    kwd_less
    · rename News h₀ _ _ _ => N9
      rename Fr h₀ _ _ _ => F9
      have hg : go08 v.up (k + 1) i c ds = ([], .page, c, ds) := by rw [go08, if_pos (passes_is.mpr ⟨by assumption, by assumption⟩)]
      rw [hg] at out
      exact out.page _ _ log nl [] pg F9 (news_tail N9) led.off (by simpa using hlog) rfl hp' (fun _ => rfl)
    all_goals (
      have hg : go08 v.up (k + 1) i c ds = ([], .attr, c, ds) := by rw [go08, if_neg (fun q => by have := passes_is.mp q; omega), hup]
      rw [hg] at out
      rename RaisedSN _ _ (env :: outer) _ _ _ _ => R7
      rename Heap.UpToSlots g' _ => U7
      exact out.attr _ _ _ _ log nl [] FG' (raised_tail R7) U7 led.off (by simpa using hlog) rfl)
  | some j =>
    rw [hup] at s4
    have s5 : getL "parent" esx = some (some (.ref (v.xs j))) := s4
    clear s4
    have hj := fx.up i j hup
    obtain ⟨oc9, od9, params9, dV9, kV9, doc9, pm9, cdv9, ct9, an9, osl9, hbody9⟩ := fx.d89
    k_dflt (refine' lookup_same hbody9 ?k6 ?_; (case k6 => k_is))
    intro hbe9 hse9
    obtain ⟨dy, ny, f, f1, f2, f3, esy, oc1, oc2, oc3, dc, ct, tj, y1, y2, y3, y4, y5, y6, y7, y8, y9, y10, -, -⟩ := led.st j hj
    have y3f := y3
    rw [hbe9] at y3f
    dsimp only [errAt, List.getElem?_cons_zero, List.getElem?_cons_succ] at y3f
    clear hbody9 hbe9 hse9
    kwd_less
    · rename News h₀ _ _ _ => N9
      rename Fr h₀ _ _ _ => F9
      have hg : go08 v.up (k + 1) i c ds = ([], .page, c, ds) := by rw [go08, if_pos (passes_is.mpr ⟨by assumption, by assumption⟩)]
      rw [hg] at out
      exact out.page _ _ log nl [] pg F9 (news_tail N9) led.off (by simpa using hlog) rfl hp' (fun _ => rfl)
    all_goals (
      have hg : go08 v.up (k + 1) i c ds = (if k = 0 then ([(j, c, ds)], .none, c, ds) else ((j, c, ds) :: (go08 v.up k j (c + stepOf j) (ds ++ [j])).1, (go08 v.up k j (c + stepOf j) (ds ++ [j])).2)) := by rw [go08, if_neg (fun q => by have := passes_is.mp q; omega), hup]
      rw [hg] at out
      rename News _ _ _ _ => N9
      rename Fr _ _ _ _ => F9
      show wpAny _ (ktrAny (dp + 1) (un + 3) gd _ (env :: outer)) _ _ _ _
      refine err08 (dp := dp + 1) (un := un + 3) fx ih B' F9 (news_tail N9) led ?_ ?_ (by omega) (by omega) hl y3 y4 y5 y6 y7 y8 y9 hj hp' p5 q5 hds hdd hlog ?_
      · exact rfl
      · exact rfl
      refine ⟨?_, ?_, ?_⟩
      · intro h6 tk6 log6 nl6 own6 pg6 F6 N6 off6 all6 e6 pf6 i6
        clear N9 F9
        kwd_less
        rename News h₀ _ _ _ => N7
        rename Fr h₀ _ _ _ => F7
        exact out.page _ _ log6 nl6 own6 pg6 F7 N7 off6 all6 e6 pf6 i6
      · intro h6 tk6 log6 nl6 own6 F6 N6 off6 all6 e6
        clear N9 F9
        kwd_less
        rename News h₀ _ _ _ => N7
        rename Fr h₀ _ _ _ => F7
        exact out.none _ _ log6 nl6 own6 F7 N7 off6 all6 e6
      · intro h6 tk6 x6 G6 log6 nl6 own6 FG6 R6 U6 off6 all6 e6
        clear N9 F9
        kwd_less
        rename RaisedSN _ _ (env :: outer) _ _ _ _ => R7
        rename Heap.UpToSlots g' _ => U7
        exact out.attr _ _ _ _ log6 nl6 own6 FG' R7 U7 off6 all6 e6)
theorem run08 {p : Program} {loose : List Str} {mean : ExcName → Option Value} {mg mb : Str → Option Value} {base : Heap} {v : Env08} {k : Nat} (fx : Fix08 w p loose mean mg mb base v) (ih : k ≠ 0 → RunOk w base v k) : RunOk w base v (k + 1) :=
  fun B F N led hf hke hd hu hl hi hp hds hdd hlog out => wpAny_call (run08C fx ih B F N led hf hke hd hu hl hi hp hds hdd hlog out)
/-- the runs of every length -/
theorem runs08 {p : Program} {loose : List Str} {mean : ExcName → Option Value} {mg mb : Str → Option Value} {base : Heap} {v : Env08} (fx : Fix08 w p loose mean mg mb base v) : ∀ k, RunOk w base v (k + 1)
  | 0 => run08 fx fun q => absurd rfl q
  | k + 1 => run08 fx fun _ => runs08 fx k
theorem runs08C {p : Program} {loose : List Str} {mean : ExcName → Option Value} {mg mb : Str → Option Value} {base : Heap} {v : Env08} (fx : Fix08 w p loose mean mg mb base v) : RunOkC w base v 4 := run08C (k := 3) fx fun _ => runs08 fx 2
end
end Mine


namespace Mine
/-! the digits of the word, sign by sign -/
theorem dg_cps {j : Nat} (h : j < 5) : (dg j).cps = #[48 + j] := by
  have : j = 0 ∨ j = 1 ∨ j = 2 ∨ j = 3 ∨ j = 4 := by omega
  rcases this with rfl | rfl | rfl | rfl | rfl <;> decide
theorem dg_of {j : Nat} (h : j < 5) : dg j = ⟨#[48 + j]⟩ := by
  have := dg_cps h
  cases e : dg j with
  | mk c => rw [e] at this; exact congrArg _ this
theorem app_cps (a b : Str) : (a ++ b).cps = a.cps ++ b.cps := rfl
theorem W08_cpsF : ∀ (ds : List Nat) (w : Str), (∀ d ∈ ds, d < 5) → (ds.foldl (fun w d => w ++ dg d) w).cps.toList = w.cps.toList ++ ds.map (48 + ·) := by
  intro ds
  induction ds with
  | nil => intro w _; simp
  | cons j ds ih =>
    intro w h
    rw [List.foldl_cons, ih _ fun d hd => h d (.tail _ hd), app_cps, dg_cps (h j (.head _))]
    simp
theorem W08_cps {ds : List Nat} (h : ∀ d ∈ ds, d < 5) : (W08 ds).cps.toList = ds.map (48 + ·) := by
  have := W08_cpsF ds "" h
  have e : ("" : Str).cps.toList = [] := by decide
  rw [e, List.nil_append] at this
  exact this
theorem sign_dg {ds : List Nat} (h : ∀ d ∈ ds, d < 5) {i : Nat} {v : Value} (x : SignAt (W08 ds) i v) : ∃ j u, ds[i]? = some j ∧ j < 5 ∧ v = .str (dg j) u := by
  obtain ⟨c, u, hc, rfl⟩ := x
  have e : (W08 ds).cps.toList[i]? = some c := by rw [Array.getElem?_toList]; exact hc
  rw [W08_cps h, List.getElem?_map] at e
  cases hj : ds[i]? with
  | none => rw [hj] at e; cases e
  | some j =>
    rw [hj] at e
    have hc2 : 48 + j = c := by simpa using e
    have hj5 := h j (List.mem_of_getElem? hj)
    refine ⟨j, u, rfl, hj5, ?_⟩
    rw [dg_of hj5, hc2]
theorem ints_dg : ∀ {vs ys : List Value} {ds : List Nat}, vs.length = ds.length → (∀ (i : Nat) (v : Value), vs[i]? = some v → ∃ j u, ds[i]? = some j ∧ j < 5 ∧ v = .str (dg j) u) →
    Paired (fun v r => ∀ (j : Nat) u, j < 5 → v = .str (dg j) u → Carried r (.int j)) vs ys → IntsAre ys (ds.map (Nat.cast : Nat → Int))
  | [], _, [], _, _, .nil => .nil
  | [], _, _ :: _, h, _, _ => by simp at h
  | _ :: _, _, [], h, _, _ => by simp at h
  | v :: vs, _, d :: ds, hl, h, .cons (b := r) a p => by
    obtain ⟨j, u, e1, e2, e3⟩ := h 0 v rfl
    cases e1
    have hr := a _ u e2 e3
    cases hr
    exact .cons _ _ (ints_dg (by simpa using hl) (fun i v hv => h (i + 1) v hv) p)
section
variable {prog : Program} {w : World} {A : Around} {E : Value → Shared → Prop} {s₁ : Shared} {h₀ : Heap} {L : Addr} {m : Str → Option Value} {news : List (Addr × Obj)}
theorem iter_digits {env : Env} {elt : Expr} {x : Str} {scope : Scope} {Q : Value → Shared → Prop} {ds : List Nat} {t : Tok} (hds : ∀ d ∈ ds, d < 5) (hle : ds.length ≤ 1000)
    (hh : A.handled = none) (F : Fr h₀ L s₁.heap m) (N : News h₀ L s₁.heap news)
    (g2 : ∀ C (j : Nat) u s₂ m₂ E', j < 5 → s₂.heap.Ns (compEnv scope C env).locals m₂ → m₂ x = some (.str (dg j) u) → s₁.toks ≤ s₂.toks → Fr h₀ L s₂.heap m → wpAny (model prog w) A (eval elt (compEnv scope C env)) (fun r s₃ => Carried r (.int (j : Int)) ∧ Keeps s₂ s₃) E' s₂)
    (g3 : ∀ (D : Addr) vs n h' tk, Fr h₀ L h' m → News h₀ L h' ((D, W.listOf vs.toArray n) :: news) → (∀ p ∈ news, p.1 ≠ D) → IntsAre vs (ds.map (Nat.cast : Nat → Int)) → Q (.ref D) { s₁ with heap := h', toks := tk }) :
    wpAny (model prog w) A (pyIter (.str (W08 ds) t)) (CompPost prog w A env scope x [] elt Q) E s₁ := by
  have hlen : (W08 ds).cps.size = ds.length := by
    have := congrArg List.length (W08_cps hds)
    simpa using this
  unfold CompPost
  refine wpAny_pyIter_str fun o St W hst => ?_
  have up : ∀ (h' : Heap), (∀ b o', b ∉ [s₁.heap.objs.size] → (s₁.heap.push o).get? b = some o' → h'.get? b = some o') → ∀ b o', s₁.heap.get? b = some o' → h'.get? b = some o' :=
    fun h' hk b o' e => hk b o' (old_not_new e) (Heap.get?_push_of_some _ e)
  refine ⟨fun _ => true, fun v r => ∀ (j : Nat) u, j < 5 → v = .str (dg j) u → Carried r (.int (j : Int)), s₁.heap.objs.size, [s₁.heap.objs.size], [s₁.heap.objs.size], (W08 ds).cps.size, SignAt (W08 ds), St, rfl, W A hh, ?_, hst, ?_, ⟨?_, ?_⟩, ?_⟩
  · rw [hlen]
    exact Nat.le_trans (by omega) lineBig
  · intro b hb
    show b < (s₁.heap.push o).objs.size
    rw [Heap.size_push, List.mem_singleton.mp hb]
    exact Nat.lt_succ_self _
  · intro C i v s₃ m₃ E' hP hn hm _ htk
    refine wpAny_pure ⟨rfl, _, _, rfl, fun _ _ e => e⟩
  · intro C i v s₃ m₃ E' hP hp hn hm hkk htk
    obtain ⟨j, u, -, hj, rfl⟩ := sign_dg hds hP
    refine wpAny_mono (g2 C j u s₃ m₃ E' hj hn hm htk (F.keeps (up s₃.heap hkk))) (fun r s₄ h₄ => ⟨?_, h₄.2⟩) fun _ _ e => e
    intro j' u' hj' e
    have e1 : dg j = dg j' := by injection e
    have e2 : 48 + j = 48 + j' := by
      rw [dg_of hj, dg_of hj'] at e1
      injection e1 with e1
      simpa using e1
    have : j = j' := by omega
    subst this
    exact h₄.1
  · intro D h' tk ys vs hnew hlD hplD hlen2 hP hF hk
    obtain ⟨n, hn⟩ := hplD
    have hD0 : h₀.get? D = none := by
      cases e : h₀.get? D with
      | none => rfl
      | some o' => rw [Heap.get?_push_of_some _ (F.keep _ _ e)] at hnew; cases hnew
    have hDp : ∀ p ∈ news, p.1 ≠ D := fun p hp e => by rw [← e, Heap.get?_push_of_some _ (N p hp).1] at hnew; cases hnew
    have hDL : D ≠ L := NewPlain.ne_locals (items := ys) ⟨⟨n, hn⟩, hDp⟩ (F.keeps (up h' hk))
    have N' := N.grown (up h' hk)
    refine g3 D ys.toList n h' tk (F.keeps (up h' hk)) ?_ hDp (ints_dg (by rw [hlen2, hlen]) (fun i v hv => sign_dg hds (hP i v hv)) ?_)
    · intro p hp
      rcases List.mem_cons.mp hp with rfl | hp
      · exact ⟨by simpa using hn, hDL, hD0⟩
      · exact N' p hp
    · have := hF
      rwa [List.filter_eq_self.mpr (fun _ _ => rfl)] at this
end
theorem nameC_B {M : Model} {A : Around} {E : Value → Shared → Prop} {s : Shared} {K : Frag} {h₀ : Heap} {L a : Addr} {m mg mb : Str → Option Value} {cn : Str} {cs : Scope} {ccd : Value} {cl : List (Str × Addr)} {p : Program} {loose : List Str} {mean : ExcName → Option Value} {scope : Scope} {C : Addr}
    {x : Str} {pos : Pos} {v : Value} {Q : Value → Shared → Prop} (F : Fr h₀ L s.heap m) (X : K.In h₀) (T : Top p loose mean mg mb h₀) (e : nsIn K mainGlobals x = some none) (hv : bootBuiltins x = some v) (hn : x ≠ "__name__") (h : Q v s)
    (hk : scope.kind = .function := by rfl) (hx : (compEnv scope C (envX cn cs L a ccd cl)).kindOf x = some .globalImplicit := by rfl) (hd : (x == ("__debug__" : Str)) = false := by decide) :
    wpAny M A (eval (.Name x pos) (compEnv scope C (envX cn cs L a ccd cl))) Q E s :=
  Name_function_global hk hx (loadGlobal_builtin (env := compEnv scope C (envX cn cs L a ccd cl)) ((topRead_of T).g.keeps F.keep) (mg_none_of X (topRead_of T).g e) ((topRead_of T).b.keeps F.keep) (((topRead_of T).builtins x hn).trans hv) h) hd
end Mine


namespace Mine
theorem fill4 : PySem.Challenge.rw_dn0254_08.row.prog = PySem.Challenge.rw_dn0254_08.row.prog ∧ Mine.hd.heap_39 = Mine.hd.heap_39 := by
  w_top off
  k_fill
  exact ⟨rfl, rfl⟩
/-- what _law_walk writes down -/
def TEnt (tl : List (Addr × Obj)) (x : Value) (e : Nat × Int × List Nat) : Prop := ∃ (t q hd nq nh : Nat) (tj th t0 tc tc2 tw : Tok) (vs : List Value),
  x = .ref t ∧ (t, { cls := .type "tuple", data := .seq #[.int (e.1 : Int) tj, .str "http" th, .ref q, .int e.2.1 tc, .int e.2.1 tc2, .str (W08 e.2.2) tw, .ref hd] }) ∈ tl ∧ (q, W.listOf #[.int 0 t0] nq) ∈ tl ∧ (hd, W.listOf vs.toArray nh) ∈ tl ∧ IntsAre vs (e.2.2.map (Nat.cast : Nat → Int))
theorem TEnt.mono {tl tl' : List (Addr × Obj)} {x : Value} {e : Nat × Int × List Nat} (h : ∀ p ∈ tl, p ∈ tl') (r : TEnt tl x e) : TEnt tl' x e := by
  obtain ⟨t, q, hd, nq, nh, tj, th, t0, tc, tc2, tw, vs, rfl, a1, a2, a3, b⟩ := r
  exact ⟨t, q, hd, nq, nh, tj, th, t0, tc, tc2, tw, vs, rfl, h _ a1, h _ a2, h _ a3, b⟩
/-- the dict of parents -/
def UpIs (kvs : List (Int × Value)) (up : Nat → Option Nat) : Prop := ∀ j : Nat, j < 5 → match up j with
  | none => valueAt kvs (j : Int) = none
  | some k => k < 5 ∧ ∃ t, valueAt kvs (j : Int) = some (.int (k : Int) t)
def endS : End08 → Str
  | .page => "page"
  | .attr => "AttributeError"
  | .none => "none"
theorem news_mv {h₀ h : Heap} {L : Addr} {a x y z b : Addr × Obj} {r : List (Addr × Obj)} (N : News h₀ L h (a :: x :: y :: z :: b :: r)) : News h₀ L h (a :: b :: x :: y :: z :: r) := fun p hp => N p (by
  simp only [List.mem_cons] at hp ⊢
  rcases hp with h | h | h | h | h | h <;> simp [h])
theorem news_tl {h₀ h : Heap} {L : Addr} {a : Addr × Obj} {r : List (Addr × Obj)} (N : News h₀ L h (a :: r)) : News h₀ L h r := fun p hp => N p (.tail _ hp)
theorem off3 {rest : List (Addr × Obj)} {a b c d : Nat} {oa ob oc : Obj} (h : OwnOff rest [d]) (h1 : a ≠ d) (h2 : b ≠ d) (h3 : c ≠ d) : OwnOff ((a, oa) :: (b, ob) :: (c, oc) :: rest) [d] := fun p hp q hq => by
  rw [List.mem_singleton.mp hq]
  simp only [List.mem_cons] at hp
  rcases hp with rfl | rfl | rfl | hp
  · exact h1
  · exact h2
  · exact h3
  · exact h p hp d (.head _)
structure Turn08 (tl : List (Addr × Obj)) (up : Nat → Option Nat) (du i0 : Nat) (c0 : Int) (n : Nat) (m : Str → Option Value) (nw : List (Addr × Obj)) (i : Nat) (c : Int) (ds : List Nat) (ti tc tw : Tok) (es : List (Nat × Int × List Nat)) (vs : List Value) (nt td : Nat) (rest : List (Addr × Obj)) : Prop where
  nw : nw = (td, W.listOf vs.toArray nt) :: rest
  off : OwnOff rest [td]
  sub : ∀ p ∈ tl, p ∈ rest
  all : All2 (TEnt rest) vs es
  len : es.length = ds.length
  cnt : n + ds.length = 4
  pos : 0 < n
  dig : ∀ d ∈ ds, d < 5
  hi : i < 5
  go : go08 up 4 i0 c0 [] = (es ++ (go08 up n i c ds).1, (go08 up n i c ds).2)
  m1 : m "told" = some (.ref td)
  m2 : m "word" = some (.str (W08 ds) tw)
  m3 : m "i" = some (.int (i : Int) ti)
  m4 : m "code" = some (.int c tc)
  m5 : m "up" = some (.ref du)
def TurnJ (tl : List (Addr × Obj)) (up : Nat → Option Nat) (du i0 : Nat) (c0 : Int) (n : Nat) (m : Str → Option Value) (nw : List (Addr × Obj)) : Prop :=
  ∃ i c ds ti tc tw es vs nt td rest, Turn08 tl up du i0 c0 n m nw i c ds ti tc tw es vs nt td rest
section
variable {w : World} {E : Value → Shared → Prop} {s : Shared} {L : Addr} {h₀ : Heap} {m : Str → Option Value}
local macro_rules | `(tactic| keq_rows) => `(tactic| first | (k_unfold; (try dsimp only)) | walk1 | (dsimp only; walk1))
local macro_rules | `(tactic| k_mem) => `(tactic| (first | with_reducible assumption | with_reducible exact List.mem_cons_self | (with_reducible refine List.mem_cons_of_mem _ ?_; k_mem) | assumption))
local macro_rules | `(tactic| ktr_room) => `(tactic| ((simp only [depth_mark, depth_in1, depth_deeper]); (try dsimp only [ktrAny]); omega))
local macro_rules | `(tactic| k_room) => `(tactic| ktr_room)
local macro_rules | `(tactic| ktr_rel) => `(tactic| ((simp only [units_deeper, units_in1]); (try dsimp only [ktrAny]); omega))
local macro_rules | `(tactic| walk_at "getAttr ref") => `(tactic| (k_here; k_dflt (first
  | (refine' get_sym ?k1 ?k2 ?k3 ?k4 ?k5 ?k6 ?k7 ?k8 ?k9 ?ka ?kb ?_; (case k1 => k_asm); (case k2 => k_asm); (case k3 => k_asm); (case k4 => k_mem); (case k5 => k_mem); (case k6 => assumption); (case k7 => k_is); (case k8 => k_is); (case k9 => k_is); (case ka => k_is); (case kb => first | rfl | assumption); k_whole)
  | (refine' get_symN ?k1 ?k2 ?k3 ?k4 ?k5 ?k6 ?k7 ?k8 ?k9 ?ka ?kb ?kc ?kd ?_; (case k1 => k_asm); (case k2 => k_asm); (case k3 => k_asm); (case k4 => k_mem); (case k5 => k_mem); (case k6 => assumption); (case k7 => rfl); (case k8 => k_is); (case k9 => k_is); (case ka => k_is); (case kb => decide); (case kc => first | exact name45 _ | exact name66 _); (case kd => decide); k_whole; intro h' tk' e' hx'))))
local macro_rules | `(tactic| walk_at "call builtin:list.append") => `(tactic| (k_here; (with_reducible show wpAny _ _ (call (Value.builtin _) [Value.ref _, _]) _ _ _); k_dflt (refine' append_led ?F ?N ?z ?U ?_; (case F => k_asm); (case N => k_asm); (case U => k_upd); (case z => assumption)); intro h' F' N'))
local macro_rules | `(tactic| walk_at "call builtin:len") => `(tactic| (k_here; (with_reducible show wpAny _ _ (call (Value.builtin "len") [Value.ref _]) _ _ _); k_dflt (refine' len_led ?k1 ?k2 ?k3 ?_; (case k1 => k_asm); (case k2 => k_mem); (case k3 => ((try simp only [List.length_append, List.length_cons, List.length_nil]); omega)); k_whole)))
local macro_rules | `(tactic| walk_at "binaryOp Add str str") => `(tactic| (k_here; (with_reducible show wpAny _ _ (binaryOp Operator.Add (Value.str _ _) (Value.str _ _)) _ _ _); refine' add_str ?h ?hsz; (case hsz => (refine small_size ?_; omega)); intro t' tk'))
local macro_rules | `(tactic| walk_at "binaryOp Add ref ref") => `(tactic| (k_here; (with_reducible show wpAny _ _ (binaryOp _ (Value.ref _) (Value.ref _)) _ _ _); k_dflt (refine' add_led ?F ?N ?a ?b ?z ?_; (case F => k_asm); (case N => k_asm); (case a => k_mem); (case b => k_mem); (case z => ((try simp only [List.length_cons, List.length_nil]); omega))); intro D' h' F' N' l1; (try k_lt l1)))
local macro_rules | `(tactic| walk_at "getMethod ref") => `(tactic| (k_here; (with_reducible show wpAny _ _ (getMethod (Value.ref _) (PySem.Str.ofString "http_response") _) _ _ _); k_dflt (refine' method_inst ?k1 ?k2 (InstAt.of_news (by k_asm) (by k_mem) (by k_mem)) ?k4 ?k5 ?k6 ?k7 ?_; (case k1 => k_asm); (case k2 => k_asm); (case k4 => k_is); (case k5 => k_is); (case k6 => k_is); (case k7 => assumption); k_whole)))
local macro_rules | `(tactic| walk_at "leaving ref") => `(tactic| (k_here; k_dflt (first
  | (refine' leaveE_new ?k1 ?k0 ?k2 ?k3 ?k4 ?k5 ?_; (case k0 => first | assumption | exact NewE.of_new (by assumption) | exact NewE.of_made (by assumption)); (case k2 => assumption); (case k1 => assumption); (case k3 => k_asm); (case k4 => exact rfl); (case k5 => exact rfl); k_whole; intro h' R' U'; (try dsimp only at R' U' ⊢))
  | (refine' leaveE_on ?k1 ?k2 ?k3 ?k4 ?k5 ?_; (case k3 => assumption); (case k2 => assumption); (case k1 => assumption); (case k4 => assumption); (case k5 => exact rfl); k_whole; intro h' R' U'; (try dsimp only at R' U' ⊢)))))
local macro_rules | `(tactic| walk_at "getMethod ref") => `(tactic| (k_here; (first | (with_reducible show wpAny _ _ (getMethod (Value.ref _) (PySem.Str.ofString "info") _) _ _ _) | (with_reducible show wpAny _ _ (getMethod (Value.ref _) (PySem.Str.ofString "error") _) _ _ _)); k_dflt (refine' method_usual (r := none) ?k1 (InstAt.of_news (by k_asm) (by k_mem) (by k_mem)) ?k4 ?k5 ?k6 ?k7 ?_; (case k1 => (refine' Frag.In.keeps ?x1 (Fr.keep ?x2); (case x2 => k_asm); (case x1 => k_asm))); (case k4 => k_is); (case k5 => k_is); (case k6 => k_is); (case k7 => rfl); k_whole)))
local macro_rules | `(tactic| bits_by_make) => `(tactic| repeat' ((fail_if_success (with_reducible show wpAny _ _ (call (Value.builtin "list.append") _) _ _ _)); keq_rows))
local macro_rules | `(tactic| keq_hits) => `(tactic| repeat' ((fail_if_success (with_reducible show wpAny _ _ (exec (PySem.Stmt.While _ _ _ _) _) _ _ _)); (fail_if_success (with_reducible show wpAny _ _ (execs (PySem.Stmt.While _ _ _ _ :: _) _) _ _ _)); keq_rows))
local macro_rules | `(tactic| kwd_less) => `(tactic| repeat' ((fail_if_success (with_reducible show wpAny _ _ (call (Value.ref 75) _) _ _ _)); (fail_if_success (with_reducible show wpAny _ _ (call (Value.ref _) [Value.str _ _, Value.ref _, Value.ref _, Value.int _ _, Value.str _ _, Value.ref _]) _ _ _)); keq_rows))
local macro_rules | `(tactic| walk_at "compareOp NotIn int ref") => `(tactic| (k_here; k_dflt (refine kdg_notin (knd := PySem.intKind _ _) (by k_asm) (by k_mem) (by assumption) (by assumption) (intKind_is _ _ _ _) _ (congrArg Option.isSome (by assumption)) ?_); (try dsimp only [Option.isSome, Bool.not_true, Bool.not_false])))
local macro_rules | `(tactic| walk_at "subscriptTail") => `(tactic| (k_here; (with_reducible show wpAny _ _ (subscriptTail _ _ (Value.ref _) (Value.int _ _)) _ _ _); k_dflt (refine kda_item (knd := PySem.intKind _ _) (by k_asm) (by k_mem) (by assumption) (intKind_is _ _ _ _) (by assumption) ?_)))
local macro_rules | `(tactic| bits_by_make) => `(tactic| repeat' ((fail_if_success (with_reducible show wpAny _ _ (eval (PySem.Expr.ListComp _ _ _ _) _) _ _ _)); keq_rows))
local macro_rules | `(tactic| walk_at "inplaceOp Add str str") => `(tactic| (k_here; (with_reducible show wpAny _ _ (inplaceOp Operator.Add (Value.str _ _) (Value.str _ _)) _ _ _); refine' iadd_str ?h ?hsz; (case hsz => (refine small_size ?_; omega)); intro t' tk'))
theorem walk08 {Q : Value → Shared → Prop} {p : Program} {loose : List Str} {mean : ExcName → Option Value} {mg mb : Str → Option Value} {dp un : Nat} {gd : Option (List Code)} {env : Env} {outer : List Env} {A₀ : Around} {base : Heap} {tl : List (Addr × Obj)} {du i : Nat} {odu : Obj} {c : Int} {ti tc : Tok} {kvs : List (Int × Value)} {up : Nat → Option Nat}
    (B : Below A₀ base outer h₀) (F : Fr h₀ L s.heap m) (X : (Mine.hd.heap_39 w.params).In h₀) (T : Top p loose mean mg mb h₀) (N : News h₀ L s.heap tl) (hd1 : (du, odu) ∈ tl) (hdd : odu.IsDictOf (PySem.intKind PySem.Challenge.rw_dn0254_08.row.prog w) kvs) (hlo : (du == sysModules) = false) (hup : UpIs kvs up) (hi : i < 5) (hf : env.frame = some L) (hke : env.scope.kind = .function) (hd : dp + 10 < recursionLimit) (hu : un + 100 < cLine)
    (ret : ∀ h' tk' (T td : Nat) vs nt rest t1 t2 t3, Fr h₀ L h' m → News h₀ L h' ((T, { cls := .type "tuple", data := .seq #[.ref td, .str (endS (go08 up 4 i c []).2.1) t1, .int (go08 up 4 i c []).2.2.1 t2, .str (W08 (go08 up 4 i c []).2.2.2) t3] }) :: (td, W.listOf vs.toArray nt) :: rest) → (∀ p ∈ tl, p ∈ rest) → All2 (TEnt rest) vs (go08 up 4 i c []).1 → Q (.ref T) { s with heap := h', toks := tk' }) :
    wpAny (model PySem.Challenge.rw_dn0254_08.row.prog w) (ktrAny dp un gd env outer) (call (.ref 94) [.ref du, .int i ti, .int c tc]) Q E s := by
  refine wpAny_call ?_
  k_dflt (refine' code_def ?k1 ?k2 ?k3 ?k4 ?k5 ?kA ?kF ?kK ?k6 ?k7 ?k8 ?k9 ?kB ?_ ?c2 ?c3 ?c4 ?c5; (case kA => exact rfl); (case kF => assumption); (case kK => assumption); (case k1 => k_asm); (case k2 => k_asm); (case k3 => k_asm); (case k4 => k_asm); (case k5 => k_asm); (case k6 => k_is); (case k7 => k_is); (case k8 => ktr_room); (case k9 => exact BindsTo.of_eq rfl); (case c5 => decide); (case kB => exact locs rfl); (case c2 => exact rfl); (case c3 => exact rfl); (case c4 => exact rfl); k_whole; intro g' L' h' FG' F' N' B' X' T'; (try dsimp only); (try k_fold))
  keq_hits
  rename Fr _ _ _ _ => F5
  rename News _ _ _ _ => N5
  dsimp only
  walk1
  walk1
  refine While_inv2 (TurnJ tl up du i c) (n₀ := 4) F5 N5 ?hJ ?turn
  case hJ =>
    exact ⟨i, c, [], _, _, _, [], [], _, _, tl, rfl, (fun p hp b hb => by rw [List.mem_singleton.mp hb]; exact Nat.ne_of_lt (by apply_assumption; exact hp)), fun _ h => h, .nil, rfl, rfl, by decide, (fun _ h => nomatch h), hi, rfl, rfl, rfl, rfl, rfl, rfl⟩
  case turn =>
    intro n m₁ nw h₁ tk₁ F1 N1 ⟨i', c', ds, ti', tc', tw, es, vs, nt, td, rest, T1⟩
    obtain ⟨rfl, off, sub, all, len, cnt, pos, dig, hi', go, m1, m2, m3, m4, m5⟩ := T1
    have hdu := sub _ hd1
    have F2 := fr_f5 F1 m1 m2 m3 m4 m5
    clear F1 F5 N5
    have hu0 := hup i' hi'
    cases hq : up i' with
    | none =>
      rw [hq] at hu0
      have hv : valueAt kvs (i' : Int) = none := hu0
      bits_by_make
      all_goals (dsimp only [WhileStep2]; kwd_less; rename Fr h₀ _ _ m => F9; rename News h₀ _ _ _ => N9)
      · have e1 : go08 up 4 i c [] = (es, .page, c', ds) := by rw [go]; cases n; omega; rw [go08, if_pos (by assumption)]; simp
        rw [e1] at ret
        exact ret _ _ _ _ _ _ _ _ _ _ F9 N9 sub all
      · have e1 : go08 up 4 i c [] = (es, .attr, c', ds) := by rw [go]; cases n; omega; rw [go08, if_neg (by assumption), hq]; simp
        rw [e1] at ret
        exact ret _ _ _ _ _ _ _ _ _ _ F9 N9 sub all
    | some j =>
      rw [hq] at hu0
      obtain ⟨hj, tj, hv⟩ := hu0
      bits_by_make
      · dsimp only [WhileStep2]
        kwd_less
        rename Fr h₀ _ _ m => F9
        rename News h₀ _ _ _ => N9
        have e1 : go08 up 4 i c [] = (es, .page, c', ds) := by rw [go]; cases n; omega; rw [go08, if_pos (by assumption)]; simp
        rw [e1] at ret
        exact ret _ _ _ _ _ _ _ _ _ _ F9 N9 sub all
      rename News _ _ _ _ => N7
      rename Fr _ _ _ _ => F7
      k_dflt (refine ListComp_rowsP ?f1 ?f2 ?f3 ?f4 ?f5 ?_; (case f1 => decide); (case f2 => decide); (case f3 => rfl); (case f4 => decide); (case f5 => rfl))
      walk1
      refine iter_digits dig ?_ rfl F7 N7 ?_ ?_
      · omega
      · intro C jd ud s₂ m₂ E' hj hn hm ht F3
        clear F7 N7 ret go all
        have hj5 : jd = 0 ∨ jd = 1 ∨ jd = 2 ∨ jd = 3 ∨ jd = 4 := by omega
        rcases hj5 with rfl | rfl | rfl | rfl | rfl
        · rw [show dg 0 = ("0" : Str) by decide] at hm
          refine wpAny_leafK ?_
          walk1
          walk1
          k_dflt (refine' nameC_B F3 ?k1 ?k2 ?k3 ?k4 (by decide) ?_ (by rfl) (by rfl) (by decide); (case k1 => k_asm); (case k2 => k_asm); (case k3 => k_is); (case k4 => boot_fast))
          kwd_less
        · rw [show dg 1 = ("1" : Str) by decide] at hm
          refine wpAny_leafK ?_
          walk1
          walk1
          k_dflt (refine' nameC_B F3 ?k1 ?k2 ?k3 ?k4 (by decide) ?_ (by rfl) (by rfl) (by decide); (case k1 => k_asm); (case k2 => k_asm); (case k3 => k_is); (case k4 => boot_fast))
          kwd_less
        · rw [show dg 2 = ("2" : Str) by decide] at hm
          refine wpAny_leafK ?_
          walk1
          walk1
          k_dflt (refine' nameC_B F3 ?k1 ?k2 ?k3 ?k4 (by decide) ?_ (by rfl) (by rfl) (by decide); (case k1 => k_asm); (case k2 => k_asm); (case k3 => k_is); (case k4 => boot_fast))
          kwd_less
        · rw [show dg 3 = ("3" : Str) by decide] at hm
          refine wpAny_leafK ?_
          walk1
          walk1
          k_dflt (refine' nameC_B F3 ?k1 ?k2 ?k3 ?k4 (by decide) ?_ (by rfl) (by rfl) (by decide); (case k1 => k_asm); (case k2 => k_asm); (case k3 => k_is); (case k4 => boot_fast))
          kwd_less
        · rw [show dg 4 = ("4" : Str) by decide] at hm
          refine wpAny_leafK ?_
          walk1
          walk1
          k_dflt (refine' nameC_B F3 ?k1 ?k2 ?k3 ?k4 (by decide) ?_ (by rfl) (by rfl) (by decide); (case k1 => k_asm); (case k2 => k_asm); (case k3 => k_is); (case k4 => boot_fast))
          kwd_less
      · intro D ys ny h8 tk8 F8 N8 off8 ys8
        have hDt : @Ne Nat D td := (off8 (td, _) (.tail _ (.head _))).symm
        have hvs : vs.length = ds.length := all.len.trans len
        have hz : vs.length ≤ 2 ^ 20 := by omega
        clear F7 N7
        have hwl := W08_len dig
        have hdl := dg_len hj
        kwd_less
        · dsimp only [WhileStep2]
          kwd_less
          rename Fr h₀ _ _ m => F9
          rename News h₀ _ _ _ => N9
          rename (((_ ++ _ : List Value).length : Nat) : Int) = 4 => p4
          simp only [List.length_append, List.length_cons, List.length_nil] at p4
          have hn1 : n = 1 := by omega
          subst hn1
          have e1 : go08 up 4 i c [] = (es ++ [(j, c', ds)], .none, c', ds) := by rw [go, go08, if_neg (by assumption), hq]; rfl
          rw [e1] at ret
          exact ret _ _ _ _ _ _ _ _ _ _ F9 (news_mv N9) (fun p hp => .tail _ (.tail _ (.tail _ (sub p hp)))) (All2.snoc ⟨_, _, _, _, _, _, _, _, _, _, _, _, rfl, .head _, .tail _ (.tail _ (.head _)), .tail _ (.head _), ys8⟩ (all.mono fun _ _ r => r.mono fun p hp => .tail _ (.tail _ (.tail _ hp))))
        · rename (((_ ++ _ : List Value).length : Nat) : Int) ≠ 4 => p4
          simp only [List.length_append, List.length_cons, List.length_nil] at p4
          rename Fr _ _ _ _ => F9
          rename News _ _ _ _ => N9
          obtain ⟨n, rfl⟩ : ∃ k, n = k + 1 := ⟨n - 1, by omega⟩
          have hn0 : n ≠ 0 := by omega
          rw [show W08 ds ++ Str.ofString (toString (j : Int)) = W08 (ds ++ [j]) from W08_snoc.symm] at F9
          refine (fun J1 => ⟨_, _, _, _, n, rfl, F9, news_tl (news_mv N9), Nat.lt_succ_self n, _, _, _, _, _, _, _, _, _, _, _, J1⟩ : Turn08 tl up du i c n _ _ j _ (ds ++ [j]) _ _ _ (es ++ [(j, c', ds)]) _ _ _ _ → _) ⟨rfl, off3 off ?o1 ?o2 ?o3, fun p hp => .tail _ (.tail _ (.tail _ (sub p hp))), All2.snoc ⟨_, _, _, _, _, _, _, _, _, _, _, _, rfl, .head _, .tail _ (.tail _ (.head _)), .tail _ (.head _), ys8⟩ (all.mono fun _ _ r => r.mono fun p hp => .tail _ (.tail _ (.tail _ hp))), ?l1, ?l2, Nat.pos_of_ne_zero hn0, ?d, hj, ?g, rfl, rfl, rfl, rfl, rfl⟩
          case o1 => clear F9 N9; omega
          case o2 => exact hDt
          case o3 => clear F9 N9; omega
          case l1 => simp [len]
          case l2 => simp; omega
          case d =>
            intro d hd
            rcases List.mem_append.mp hd with hd | hd
            · exact dig d hd
            · rw [List.mem_singleton.mp hd]; exact hj
          case g =>
            rw [go, go08, if_neg (by assumption), hq]
            dsimp only
            rw [if_neg hn0, step_is hj, List.append_assoc]
            rfl
end
end Mine


namespace Mine
/-! the five stages as the law keeps them -/
def StageD (v : Env08) (tl : List (Addr × Obj)) (dx : Nat → Nat) (k i : Nat) : Prop := ∃ (n f f1 f2 f3 : Nat) (es : List DictEntry) (oc1 oc2 oc3 : Obj) (dc ct : Value) (ti : Tok),
  (v.xs i, instObj 66 (dx i)) ∈ tl ∧ (dx i, dictOf es n) ∈ tl ∧ (f, errAt v.body89 f1 f2 f3 dc v.pn v.ke ct) ∈ tl ∧ (f1, oc1) ∈ tl ∧ (f2, oc2) ∈ tl ∧ (f3, oc3) ∈ tl ∧ oc1.data = .cell (some (.int (i : Int) ti)) ∧ oc2.data = .cell (some (.ref v.lg)) ∧ oc3.data = .cell (some (.ref (v.xs i))) ∧
  getL "error" es = some (some (.ref f)) ∧ getL "http_response" es = some none ∧ getL "parent" es = some ((v.up i).map fun j => .ref (v.xs j)) ∧ getL "https_response" es = some none ∧ getL "add_parent" es = some none ∧ getL "close" es = some none ∧ es.length ≤ k + 1
theorem StageD.stage {v : Env08} {tl : List (Addr × Obj)} {dx : Nat → Nat} {k i : Nat} (x : StageD v tl dx k i) : Stage08 v tl i := by
  obtain ⟨n, f, f1, f2, f3, es, oc1, oc2, oc3, dc, ct, ti, a1, a2, a3, a4, a5, a6, b1, b2, b3, c1, c2, c3, -⟩ := x
  exact ⟨_, n, f, f1, f2, f3, es, oc1, oc2, oc3, dc, ct, ti, a1, a2, a3, a4, a5, a6, b1, b2, b3, c1, c2, c3⟩
theorem StageD.mono {v : Env08} {tl tl' : List (Addr × Obj)} {dx : Nat → Nat} {k k' i : Nat} (h : ∀ p ∈ tl, p ∈ tl') (hk : k ≤ k') (x : StageD v tl dx k i) : StageD v tl' dx k' i := by
  obtain ⟨n, f, f1, f2, f3, es, oc1, oc2, oc3, dc, ct, ti, a1, a2, a3, a4, a5, a6, b1, b2, b3, c1, c2, c3, c4, c5, c6, c7⟩ := x
  exact ⟨n, f, f1, f2, f3, es, oc1, oc2, oc3, dc, ct, ti, h _ a1, h _ a2, h _ a3, h _ a4, h _ a5, h _ a6, b1, b2, b3, c1, c2, c3, c4, c5, c6, by omega⟩
/-- the same stages under other names for the run (the request, the page's code) -/
theorem StageD.env {v v' : Env08} {tl : List (Addr × Obj)} {dx dx' : Nat → Nat} {k i : Nat} (h1 : v'.body89 = v.body89) (h2 : v'.pn = v.pn) (h3 : v'.ke = v.ke) (h4 : v'.lg = v.lg) (h5 : v'.xs i = v.xs i) (h6 : (v'.up i).map (fun j => Value.ref (v'.xs j)) = (v.up i).map fun j => .ref (v.xs j)) (h7 : dx' i = dx i) (x : StageD v tl dx k i) : StageD v' tl dx' k i := by
  obtain ⟨n, f, f1, f2, f3, es, oc1, oc2, oc3, dc, ct, ti, a1, a2, a3, a4, a5, a6, b1, b2, b3, c1, c2, c3, c4⟩ := x
  rw [← h5, ← h7] at a1
  rw [← h7] at a2
  rw [← h1, ← h2, ← h3] at a3
  rw [← h4] at b2
  rw [← h5] at b3
  rw [← h6] at c3
  exact ⟨n, f, f1, f2, f3, es, oc1, oc2, oc3, dc, ct, ti, a1, a2, a3, a4, a5, a6, b1, b2, b3, c1, c2, c3, c4⟩
theorem ne_obj {h₀ h : Heap} {L a b : Addr} {o o' : Obj} {nw : List (Addr × Obj)} (N : News h₀ L h nw) (hp : (a, o) ∈ nw) (hq : (b, o') ∈ nw) (k : o ≠ o') : a ≠ b := fun e => k (by
  have h1 := (N _ hp).1
  have h2 := (N _ hq).1
  dsimp only at h1 h2
  rw [e, h2] at h1
  exact (Option.some.inj h1).symm)
theorem errAt_data {body : List Stmt} {f1 f2 f3 : Nat} {dc pn : Value} {ke : Nat} {ct : Value} : (∃ x, (errAt body f1 f2 f3 dc pn ke ct).data = .func x) ∨ errAt body f1 f2 f3 dc pn ke ct = default := by
  unfold errAt
  split
  · left; exact ⟨_, rfl⟩
  · right; rfl
def SeqLike (o : Obj) : Prop := (∃ a n, o.data = .seq a n) ∨ ∃ a, o.data = .fields a
theorem SeqLike.ne {o o' : Obj} (h : SeqLike o) (k : (∃ x, o'.data = .func x) ∨ (∃ x, o'.data = .cell x) ∨ (∃ a n, o'.data = .dict a n) ∨ o'.data = .plain) : o' ≠ o := fun e => by
  subst e
  rcases h with ⟨_, _, h⟩ | ⟨_, h⟩ <;> rcases k with ⟨_, k⟩ | ⟨_, k⟩ | ⟨_, _, k⟩ | k <;> rw [h] at k <;> cases k
/-- the ledger without the address d, where d is a list or a table -/
theorem StageD.off {h₀ h : Heap} {L : Addr} {nw : List (Addr × Obj)} (N : News h₀ L h nw) {v : Env08} {tl : List (Addr × Obj)} {dx : Nat → Nat} {k i d : Nat} {od : Obj} (hs : ∀ p ∈ tl, p ∈ nw) (hd : (d, od) ∈ nw) (hq : SeqLike od) (x : StageD v tl dx k i) : StageD v (Mine.off d tl) dx k i := by
  obtain ⟨n, f, f1, f2, f3, es, oc1, oc2, oc3, dc, ct, ti, a1, a2, a3, a4, a5, a6, b1, b2, b3, c1, c2, c3, c4⟩ := x
  refine ⟨n, f, f1, f2, f3, es, oc1, oc2, oc3, dc, ct, ti, mem_off.mpr ⟨a1, ne_obj N (hs _ a1) hd (hq.ne (.inr (.inr (.inr rfl))))⟩, mem_off.mpr ⟨a2, ne_obj N (hs _ a2) hd (hq.ne (.inr (.inr (.inl ⟨_, _, rfl⟩))))⟩, mem_off.mpr ⟨a3, ne_obj N (hs _ a3) hd (hq.ne ?_)⟩, mem_off.mpr ⟨a4, ne_obj N (hs _ a4) hd (hq.ne (.inr (.inl ⟨_, b1⟩)))⟩, mem_off.mpr ⟨a5, ne_obj N (hs _ a5) hd (hq.ne (.inr (.inl ⟨_, b2⟩)))⟩, mem_off.mpr ⟨a6, ne_obj N (hs _ a6) hd (hq.ne (.inr (.inl ⟨_, b3⟩)))⟩, b1, b2, b3, c1, c2, c3, c4⟩
  rcases errAt_data (body := v.body89) (f1 := f1) (f2 := f2) (f3 := f3) (dc := dc) (pn := v.pn) (ke := v.ke) (ct := ct) with ⟨x, hx⟩ | hx
  · exact .inl ⟨x, hx⟩
  · exact .inr (.inr (.inr (by rw [hx]; rfl)))
end Mine


namespace Mine
/-! the comprehension that builds the stages -/
def CompJ (lg : Nat) (bl : List (Addr × Obj)) (pn : Value) (body : List Stmt) (i : Nat) (ys : List Value) (nw : List (Addr × Obj)) : Prop :=
  ∃ (v : Env08) (dx : Nat → Nat) (tl : List (Addr × Obj)), v.lg = lg ∧ v.pn = pn ∧ v.body89 = body ∧ (∀ j, v.up j = none) ∧ ys = (List.range i).map (fun k => Value.ref (v.xs k)) ∧ (∀ p ∈ (84, tabObj (if i = 0 then #[] else tabS v.ke)) :: tl, p ∈ nw) ∧ OwnOff tl [84] ∧ (∀ p ∈ bl, p ∈ tl) ∧
    (∀ k, k < i → StageD v tl dx 0 k) ∧ (∀ a b, a < i → b < i → dx a = dx b → a = b) ∧ (i ≠ 0 → (v.ke, v.oke) ∈ tl ∧ CodeOf v.oke "_law_stage.<locals>._law_error")
theorem with_def {w : World} {f : Nat} {name : Str} {oc : Value} {od : Option Addr} {params : Arguments} {body : List Stmt} {scope : Scope} {dV kV doc pm cdv ct : Value} {an : Option Addr} {osl : Array (Option Value)} {P : Prop}
    (h : (Mine.hd.heap_39 w.params).lookup f = some ⟨oc, od, .func (fnOf name name params body scope dV kV doc pm an cdv ct), osl⟩) (k : ∀ b sc, Def08 w f name b sc → P) : P := k _ _ ⟨_, _, _, _, _, _, _, _, _, _, _, h⟩
section
variable {prog : Program} {w : World} {A : Around} {s : Shared} {h₀ : Heap} {L : Addr} {m : Str → Option Value} {env : Env} {elt : PySem.Expr} {x : Str} {scope : Scope} {cl : List (Str × Addr)} {S : List (Addr × Obj) → Prop} {P : Nat → Value → Prop} {Fin : List Value → List (Addr × Obj) → Prop}
theorem comp_inv08 {n : Nat} {news : List (Addr × Obj)} {p : Program} {loose : List Str} {mean : ExcName → Option Value} {mg mb : Str → Option Value} (_T : Top p loose mean mg mb h₀) (lg : Nat) (bl : List (Addr × Obj)) (body : List Stmt) (hj : CompJ lg bl ((mg "__name__").getD .none) body 0 [] news)
    (step : ∀ i ys news, i < n → CompJ lg bl ((mg "__name__").getD .none) body i ys news → ∀ v I oI C oC D m₂ h tk (E' : Value → Shared → Prop), P i v → LCg.NsObj oC m₂ → m₂ x = some v → Fr h₀ L h m → News h₀ L h ((I, oI) :: (C, oC) :: (D, LCg.lst ys) :: news) → LCg.Off3 I C D news → ((@Ne Nat I C) ∧ (@Ne Nat I D) ∧ (@Ne Nat C D)) →
      wpAny (model prog w) A (eval elt (compEnvC scope cl C env)) (LCg.CompEnd h₀ L m { s with heap := h, toks := tk } I oI C oC D (LCg.lst ys) S (fun y news' => CompJ lg bl ((mg "__name__").getD .none) body (i + 1) (ys ++ [y]) news')) E' { s with heap := h, toks := tk })
    (fin : ∀ ys news, CompJ lg bl ((mg "__name__").getD .none) body n ys news → Fin ys news) : LCg.CompRest prog w A h₀ L m env elt x scope cl s S P Fin n 0 [] news := comp_inv _ step fin n 0 [] news (Nat.zero_add n) hj
end
theorem allLt_in {d : Nat} {l : List (Addr × Obj)} (h : AllLt d l) {p : Addr × Obj} (hp : p ∈ l) : @LT.lt Nat _ p.1 d := allLt_mem h p hp
theorem CompJ.step {lg : Nat} {bl : List (Addr × Obj)} {pn : Value} {body : List Stmt} {i : Nat} {ys : List Value} {v : Env08} {dx : Nat → Nat} {tl ad : List (Addr × Obj)} {f ke x d fr n : Nat} {es : List DictEntry} {oke oc1 oc2 oc3 : Obj} {dc ct : Value} {ti : Tok}
    (h1 : v.lg = lg) (h2 : v.pn = pn) (h3 : v.body89 = body) (h4 : ∀ j, v.up j = none) (h5 : ys = (List.range i).map (fun k => Value.ref (v.xs k))) (h7 : OwnOff tl [84]) (h8 : ∀ p ∈ bl, p ∈ tl)
    (h9 : ∀ k, k < i → StageD v tl dx 0 k) (h10 : ∀ a b, a < i → b < i → dx a = dx b → a = b) (hke : i ≠ 0 → ke = v.ke)
    (hkm : (ke, oke) ∈ ad ++ tl) (hkc : CodeOf oke "_law_stage.<locals>._law_error") (hal : AllLt fr tl) (had : ∀ p ∈ ad, @LT.lt Nat _ fr p.1) (h84 : 84 < fr) (hd : fr < d)
    (a1 : (x, instObj 66 d) ∈ ad) (a2 : (d, dictOf es n) ∈ ad) (a3 : (f, errAt body (fr + 1) (fr + 1 + 1) (fr + 1 + 1 + 1) dc pn ke ct) ∈ ad) (a4 : (fr + 1, oc1) ∈ ad) (a5 : (fr + 1 + 1, oc2) ∈ ad) (a6 : (fr + 1 + 1 + 1, oc3) ∈ ad)
    (b1 : oc1.data = .cell (some (.int (i : Int) ti))) (b2 : oc2.data = .cell (some (.ref lg))) (b3 : oc3.data = .cell (some (.ref x)))
    (c1 : getL "error" es = some (some (.ref f))) (c2 : getL "parent" es = some none) (c3 : getL "http_response" es = some none) (c4 : getL "https_response" es = some none) (c5 : getL "add_parent" es = some none) (c6 : getL "close" es = some none) (c7 : es.length ≤ 1) :
    CompJ lg bl pn body (i + 1) (ys ++ [.ref x]) ((84, tabObj (tabS ke)) :: (ad ++ tl)) := by
  refine ⟨{ v with xs := fun k => if k = i then x else v.xs k, ke := ke, oke := oke }, fun k => if k = i then d else dx k, ad ++ tl, h1, h2, h3, h4, ?_, fun _ h => h, ?_, fun p hp => List.mem_append_right _ (h8 p hp), ?_, ?_, fun _ => ⟨hkm, hkc⟩⟩
  · rw [List.range_succ, List.map_append, h5]
    congr 1
    · apply List.map_congr_left
      intro k hk
      have := List.mem_range.mp hk
      dsimp only
      rw [if_neg (by omega)]
    · simp
  · intro p hp b hb
    rcases List.mem_singleton.mp hb with rfl
    rcases List.mem_append.mp hp with hp | hp
    · have := had p hp
      exact neN (by omega)
    · exact h7 p hp _ (.head _)
  · intro k hk
    by_cases e : k = i
    · subst e
      refine ⟨n, f, fr + 1, fr + 1 + 1, fr + 1 + 1 + 1, es, oc1, oc2, oc3, dc, ct, ti, ?_, ?_, ?_, List.mem_append_left _ a4, List.mem_append_left _ a5, List.mem_append_left _ a6, b1, ?_, ?_, c1, c3, ?_, c4, c5, c6, c7⟩
      · dsimp only; rw [if_pos rfl, if_pos rfl]; exact List.mem_append_left _ a1
      · dsimp only; rw [if_pos rfl]; exact List.mem_append_left _ a2
      · dsimp only; rw [h3, h2]; exact List.mem_append_left _ a3
      · dsimp only; rw [h1]; exact b2
      · dsimp only; rw [if_pos rfl]; exact b3
      · dsimp only; rw [h4]; exact c2
    · have hk' : k < i := by omega
      have := (h9 k hk').mono (k' := 0) (fun p hp => List.mem_append_right ad hp) (Nat.le_refl _)
      refine StageD.env (v := v) (dx := dx) ?_ ?_ ?_ ?_ ?_ ?_ ?_ this
      · rfl
      · rfl
      · exact hke (by omega)
      · rfl
      · exact if_neg e
      · dsimp only
        rw [h4]; rfl
      · exact if_neg e
  · intro a b ha hb e
    dsimp only at e
    have low : ∀ k, k < i → @LT.lt Nat _ (dx k) fr := fun k hk => by
      obtain ⟨n', f', _, _, _, _, _, _, _, _, _, _, _, q2, _⟩ := h9 k hk
      exact allLt_in hal q2
    by_cases ea : a = i
    · by_cases eb : b = i
      · omega
      · rw [if_pos ea, if_neg eb] at e
        have := low b (by omega)
        omega
    · by_cases eb : b = i
      · rw [if_neg ea, if_pos eb] at e
        have := low a (by omega)
        omega
      · rw [if_neg ea, if_neg eb] at e
        exact h10 a b (by omega) (by omega) e
theorem news_comp {h₀ h : Heap} {L : Addr} {a b c q : Addr × Obj} {tl nw : List (Addr × Obj)} (hs : ∀ p ∈ q :: tl, p ∈ nw) (N : News h₀ L h (a :: b :: c :: nw)) : News h₀ L h (q :: a :: b :: c :: tl) := fun p hp => N p (by
  simp only [List.mem_cons] at hp ⊢
  rcases hp with h | h | h | h | h
  · exact .inr (.inr (.inr (hs p (h ▸ .head _))))
  · exact .inl h
  · exact .inr (.inl h)
  · exact .inr (.inr (.inl h))
  · exact .inr (.inr (.inr (hs p (.tail _ h)))))
theorem off84 {a b c d : Nat} {oa ob oc : Obj} {tl : List (Addr × Obj)} (h1 : d ≠ a) (h2 : d ≠ b) (h3 : d ≠ c) (h : OwnOff tl [d]) : OwnOff ((a, oa) :: (b, ob) :: (c, oc) :: tl) [d] := off3 h h1.symm h2.symm h3.symm
theorem comp_end {h₀ h' : Heap} {L I C D : Addr} {m : Str → Option Value} {s₁ : Shared} {oI oC oD : Obj} {rest : Value → List (Addr × Obj) → Prop} {y : Value} {tk fr : Nat} {ad tl : List (Addr × Obj)} {q : Addr × Obj}
    (F : Fr h₀ L h' m) (N : News h₀ L h' (ad ++ q :: (I, oI) :: (C, oC) :: (D, oD) :: tl)) (hl : AllLt fr ((I, oI) :: (C, oC) :: (D, oD) :: tl)) (had : ∀ p ∈ ad, @LT.lt Nat _ fr p.1) (hq : q.1 ≠ I ∧ q.1 ≠ C ∧ q.1 ≠ D) (hoff : ∀ p ∈ tl, p.1 ≠ I ∧ p.1 ≠ C ∧ p.1 ≠ D)
    (J : rest y (q :: (ad ++ tl))) : LCg.CompEnd h₀ L m s₁ I oI C oC D oD (fun _ => True) rest y { s₁ with heap := h', toks := tk } := by
  refine ⟨h', tk, q :: (ad ++ tl), rfl, F, fun p hp => N p ?_, LCg.Off3.of fun p hp => ?_, trivial, J⟩
  · simp only [List.mem_cons, List.mem_append] at hp ⊢
    rcases hp with h | h | h | h | h | h <;> simp [h]
  · rcases List.mem_cons.mp hp with rfl | hp
    · exact hq
    · rcases List.mem_append.mp hp with hp | hp
      · have h1 := had p hp
        have h2 := hl.1
        have h3 := hl.2.1
        have h4 := hl.2.2.1
        refine ⟨neN ?_, neN ?_, neN ?_⟩ <;> omega
      · exact hoff p hp
theorem had7 {fr f ke x d : Nat} {o1 o2 o3 o4 o5 o6 o7 : Obj} (h : fr + 3 < d ∧ d < x ∧ x < ke ∧ ke < f ∧ 84 < fr) : ∀ p ∈ [((f : Addr), o1), (ke, o2), (x, o3), (d, o4), (fr + 1 + 1 + 1, o5), (fr + 1 + 1, o6), (fr + 1, o7)], @LT.lt Nat _ fr p.1 := fun p hp => by
  simp only [List.mem_cons, List.mem_nil_iff, or_false] at hp
  rcases hp with rfl | rfl | rfl | rfl | rfl | rfl | rfl <;> (dsimp only; omega)
theorem had6 {fr f x d : Nat} {o1 o3 o4 o5 o6 o7 : Obj} (h : fr + 3 < d ∧ d < x ∧ x < f ∧ 84 < fr) : ∀ p ∈ [((f : Addr), o1), (x, o3), (d, o4), (fr + 1 + 1 + 1, o5), (fr + 1 + 1, o6), (fr + 1, o7)], @LT.lt Nat _ fr p.1 := fun p hp => by
  simp only [List.mem_cons, List.mem_nil_iff, or_false] at hp
  rcases hp with rfl | rfl | rfl | rfl | rfl | rfl <;> (dsimp only; omega)
theorem compJ0 {h₀ h : Heap} {L : Addr} {lg : Nat} {b c e : Addr × Obj} {ob : Obj} {pn : Value} {body : List Stmt} (_N : News h₀ L h [(lg, ob), b, c, (84, tabObj #[]), e]) (h84 : lg ≠ 84 ∧ b.1 ≠ 84 ∧ c.1 ≠ 84 ∧ e.1 ≠ 84) :
    CompJ lg [(lg, ob), b, c, e] pn body 0 [] [(lg, ob), b, c, (84, tabObj #[]), e] := by
  refine ⟨{ body89 := body, scope89 := default, body75 := [], scope75 := default, pn := pn, ke := 0, kl := 0, oke := default, okl := default, lg := lg, rq := 0, xs := fun _ => 0, up := fun _ => none }, fun _ => 0, [(lg, ob), b, c, e], rfl, rfl, rfl, fun _ => rfl, rfl, ?_, ?_, fun _ h => h, fun _ h => absurd h (Nat.not_lt_zero _), fun _ _ h => absurd h (Nat.not_lt_zero _), fun h => absurd rfl h⟩
  · intro p hp
    simp only [List.mem_cons, List.mem_nil_iff, or_false, if_true] at hp ⊢
    rcases hp with h | h | h | h | h <;> simp [h]
  · intro p hp x hx
    rcases List.mem_singleton.mp hx with rfl
    simp only [List.mem_cons, List.mem_nil_iff, or_false] at hp
    rcases hp with rfl | rfl | rfl | rfl
    · exact h84.1
    · exact h84.2.1
    · exact h84.2.2.1
    · exact h84.2.2.2
end Mine


namespace Mine
/-! what holds between two turns of the law's loop -/
structure Fx08 where
  sl : Nat
  du : Nat
  cL : Nat
  lg : Nat
  pn : Value
  b9 : List Stmt
  s9 : Scope
  b7 : List Stmt
  s7 : Scope
  sc : Nat
  so : Obj
structure LawK (fx : Fx08) (prog : Program) (w : World) (k : Nat) (v : Env08) (dx : Nat → Nat) (odu : Obj) (kvs : List (Int × Value)) (log : List Value) (tabo : Array Value) (ns : Nat) (oc : Obj) (tl : List (Addr × Obj)) : Prop where
  lg : v.lg = fx.lg
  pn : v.pn = fx.pn
  b9 : v.body89 = fx.b9
  s9 : v.scope89 = fx.s9
  b7 : v.body75 = fx.b7
  s7 : v.scope75 = fx.s7
  off : OwnOff tl [fx.lg, 70, fx.du]
  ne : fx.lg ≠ 70 ∧ fx.lg ≠ fx.du ∧ fx.du ≠ 70
  st : ∀ i, i < 5 → StageD v tl dx k i
  inj : ∀ a b, a < 5 → b < 5 → dx a = dx b → a = b
  ke : (v.ke, v.oke) ∈ tl
  kc : CodeOf v.oke "_law_stage.<locals>._law_error"
  t84 : (84, tabObj (tabS v.ke)) ∈ tl
  stl : (fx.sl, W.listOf ((List.range 5).map fun k => Value.ref (v.xs k)).toArray ns) ∈ tl
  cell : (fx.cL, oc) ∈ tl
  scr : (fx.sc, fx.so) ∈ tl
  sos : SeqLike fx.so
  ocd : oc.data = .cell (some (.ref fx.lg))
  lgl : log.length ≤ 1000
  up : UpIs kvs v.up
  upl : ∀ i j, v.up i = some j → j < 5
  dict : odu.IsDictOf (PySem.intKind prog w) kvs
  lo : (fx.du == sysModules) = false
  kl : kvs.length ≤ k
  tab : tabo = #[] ∨ (tabo = tabP v.kl ∧ (v.kl, v.okl) ∈ tl ∧ CodeOf v.okl "_law_page.<locals>.<lambda>")
def ledK (fx : Fx08) (odu : Obj) (log : List Value) (nl : Nat) (tabo : Array Value) (tl : List (Addr × Obj)) : List (Addr × Obj) := (fx.lg, W.listOf log.toArray nl) :: (70, tabObj tabo) :: (fx.du, odu) :: tl
def LawJ (fx : Fx08) (prog : Program) (w : World) (k : Nat) (m : Str → Option Value) (nw : List (Addr × Obj)) : Prop :=
  m "stages" = some (.ref fx.sl) ∧ m "up" = some (.ref fx.du) ∧ ∃ v dx odu kvs log nl tabo ns oc tl, nw = ledK fx odu log nl tabo tl ∧ LawK fx prog w k v dx odu kvs log tabo ns oc tl
theorem seqL (xs : Array Value) (n : Nat) : SeqLike (W.listOf xs n) := .inl ⟨_, _, rfl⟩
theorem seqT (xs : Array Value) : SeqLike (tabObj xs) := .inr ⟨_, rfl⟩
theorem news_dup {h₀ h : Heap} {L a : Addr} {o o' : Obj} {nw : List (Addr × Obj)} (N : News h₀ L h nw) (hp : (a, o) ∈ nw) (hq : (a, o') ∈ nw) : o = o' := by
  have h1 := (N _ hp).1
  have h2 := (N _ hq).1
  dsimp only at h1 h2
  rw [h2] at h1
  exact (Option.some.inj h1).symm
theorem lawJ0 {h₀ h : Heap} {L : Addr} {w : World} {prog : Program} {m : Str → Option Value} {fx : Fx08} {odu oc : Obj} {ys : List Value} {nw tl : List (Addr × Obj)} {v : Env08} {dx : Nat → Nat}
    (_F : Fr h₀ L h m) (N : News h₀ L h ((fx.du, odu) :: (fx.sl, LCg.lst ys) :: nw)) (m1 : m "stages" = some (.ref fx.sl)) (m2 : m "up" = some (.ref fx.du)) (j1 : v.lg = fx.lg) (j2 : v.pn = fx.pn) (j3 : v.body89 = fx.b9) (j4 : ∀ j, v.up j = none) (j5 : ys = (List.range 5).map (fun k => Value.ref (v.xs k)))
    (j6 : ∀ p ∈ (84, tabObj (if 5 = 0 then #[] else tabS v.ke)) :: tl, p ∈ nw) (j7 : OwnOff tl [84]) (j8 : ∀ p ∈ [(fx.lg, W.listOf #[] 0), (fx.sc, fx.so), (fx.cL, oc), (70, tabObj #[])], p ∈ tl) (j9 : ∀ k, k < 5 → StageD v tl dx 0 k) (j10 : ∀ a b, a < 5 → b < 5 → dx a = dx b → a = b) (j11 : 5 ≠ 0 → (v.ke, v.oke) ∈ tl ∧ CodeOf v.oke "_law_stage.<locals>._law_error")
    (hod : oc.data = .cell (some (.ref fx.lg))) (hso : SeqLike fx.so) (hsl : fx.sc < fx.lg) (hs7 : 70 < fx.sc) (hlt : fx.sl < fx.du) (hall : AllLt fx.du nw) (lo : (fx.du == sysModules) = false) (hdi : odu.IsDictOf (PySem.intKind prog w) []) :
    ∃ nw', News h₀ L h nw' ∧ LawJ fx prog w 0 m nw' := by
  have l1 := j6 _ (.tail _ (j8 _ (.head _)))
  have l2 := j6 _ (.tail _ (j8 _ (.tail _ (.tail _ (.tail _ (.head _))))))
  have l3 := j6 _ (.head _)
  have l4 := j6 _ (.tail _ (j8 _ (.tail _ (.tail _ (.head _)))))
  have k1 := allLt_in hall l1
  have k2 := allLt_in hall l2
  have k3 := allLt_in hall l3
  have N1 : News h₀ L h nw := fun p hp => N p (.tail _ (.tail _ hp))
  have n1 : fx.lg ≠ 70 := ne_obj N1 l1 l2 (fun e => by cases e)
  have hsub : ∀ p ∈ (fx.sl, LCg.lst ys) :: (84, tabObj (tabS v.ke)) :: tl, p ∈ (fx.sl, LCg.lst ys) :: nw := fun p hp => by
    rcases List.mem_cons.mp hp with rfl | hp
    · exact .head _
    · exact .tail _ (j6 p hp)
  have N2 : News h₀ L h ((fx.sl, LCg.lst ys) :: nw) := fun p hp => N p (.tail _ hp)
  have hy : LCg.lst ys ≠ W.listOf #[] 0 := fun e => by
    rw [j5] at e
    have e2 := congrArg Obj.data e
    have e3 : ((List.range 5).map (fun k => Value.ref (v.xs k))).toArray = #[] := (Data.seq.inj e2).1
    have := congrArg Array.size e3
    simp at this
  have s1 : fx.sl ≠ fx.lg := ne_obj N2 (.head _) (.tail _ l1) hy
  have s2 : fx.sl ≠ 70 := ne_obj N2 (.head _) (.tail _ l2) (fun e => by cases e)
  have e1 : (84 : Nat) ≠ fx.lg := fun e => j7 _ (j8 _ (.head _)) _ (.head _) e.symm
  have hin : ∀ {a : Nat} {o : Obj}, (a, o) ∈ (fx.sl, LCg.lst ys) :: (84, tabObj (tabS v.ke)) :: tl → a ≠ fx.lg → a ≠ 70 → (a, o) ∈ off fx.lg (off 70 ((fx.sl, LCg.lst ys) :: (84, tabObj (tabS v.ke)) :: tl)) := fun h q1 q2 => mem_off.mpr ⟨mem_off.mpr ⟨h, q2⟩, q1⟩
  have hke := (j11 (by decide)).1
  obtain ⟨vk, tk, d1, d2⟩ := (j11 (by decide)).2
  refine ⟨ledK fx odu [] 0 #[] (off fx.lg (off 70 ((fx.sl, LCg.lst ys) :: (84, tabObj (tabS v.ke)) :: tl))), ?_, m1, m2, { v with scope89 := fx.s9, body75 := fx.b7, scope75 := fx.s7 }, dx, odu, [], [], 0, #[], 5, oc, _, rfl, ⟨j1, j2, j3, rfl, rfl, rfl, ?_, ⟨n1, ?_, ?_⟩, ?_, j10, ?_, (j11 (by decide)).2, ?_, ?_, ?_, ?_, hso, hod, Nat.zero_le _, ?_, ?_, hdi, lo, Nat.le_refl _, .inl rfl⟩⟩
  · intro p hp
    rcases List.mem_cons.mp hp with rfl | hp
    · exact N1 _ l1
    · rcases List.mem_cons.mp hp with rfl | hp
      · exact N1 _ l2
      · rcases List.mem_cons.mp hp with rfl | hp
        · exact N _ (.head _)
        · exact N2 _ (hsub _ (mem_off.mp (mem_off.mp hp).1).1)
  · intro p hp b hb
    rcases List.mem_cons.mp hb with rfl | hb
    · exact (mem_off.mp hp).2
    · rcases List.mem_cons.mp hb with rfl | hb
      · exact (mem_off.mp (mem_off.mp hp).1).2
      · rcases List.mem_singleton.mp hb with rfl
        rcases List.mem_cons.mp (hsub _ (mem_off.mp (mem_off.mp hp).1).1) with rfl | q
        · exact Nat.ne_of_lt hlt
        · exact Nat.ne_of_lt (allLt_in hall q)
  · exact Nat.ne_of_lt k1
  · exact Nat.ne_of_gt k2
  · intro k hk
    have x0 : StageD v ((fx.sl, LCg.lst ys) :: (84, tabObj (tabS v.ke)) :: tl) dx 0 k := (j9 k hk).mono (fun p hp => .tail _ (.tail _ hp)) (Nat.le_refl _)
    have x1 := x0.off N2 hsub (.tail _ l2) (seqT _)
    exact x1.off N2 (fun p hp => hsub p (mem_off.mp hp).1) (.tail _ l1) (seqL _ _)
  · exact hin (.tail _ (.tail _ hke)) (ne_obj N1 (j6 _ (.tail _ hke)) l1 (fun e => by rw [e] at d1; cases d1)) (fun e => by
      have q := news_dup N1 (e ▸ j6 _ (.tail _ hke)) l2
      rw [q] at d1
      have : (#[] : Array Value) = vk := by injection d1
      rw [← this] at d2
      cases d2)
  · exact hin (.tail _ (.head _)) e1 (by decide)
  · rw [j5]
    rw [j5] at hin
    exact hin (.head _) s1 s2
  · exact hin (.tail _ (.tail _ (j8 _ (.tail _ (.tail _ (.head _)))))) (ne_obj N1 l4 l1 (fun e => by rw [e] at hod; cases hod)) (ne_obj N1 l4 l2 (fun e => by rw [e] at hod; cases hod))
  · exact hin (.tail _ (.tail _ (j8 _ (.tail _ (.head _))))) (Nat.ne_of_lt hsl) (Nat.ne_of_gt hs7)
  · intro j hj
    show match v.up j with
      | none => _
      | some k => _
    rw [j4]; rfl
  · intro i j q
    have q' : v.up i = some j := q
    rw [j4] at q'; cases q'
def setUp (v : Env08) (i j : Nat) : Env08 := { v with up := fun x => if x = i then some j else v.up x }
/-- a parent is put in -/
theorem LawK.set {h₀ h : Heap} {L : Addr} {fx : Fx08} {prog : Program} {w : World} {k : Nat} {v : Env08} {dx : Nat → Nat} {odu odu' : Obj} {kvs : List (Int × Value)} {log : List Value} {tabo : Array Value} {ns : Nat} {oc : Obj} {tl : List (Addr × Obj)} {i j n n' : Nat} {es es' : List DictEntry} {t : Tok}
    (K : LawK fx prog w k v dx odu kvs log tabo ns oc tl) (N : News h₀ L h tl) (hi : i < 5) (hj : j < 5) (hes : (dx i, dictOf es n) ∈ tl) (hd : odu'.IsDictOf (PySem.intKind prog w) (stored kvs (i : Int) (.int (j : Int) t)))
    (hp : getL "parent" es' = some (some (.ref (v.xs j)))) (ho : Others "parent" es es') (hl : es'.length ≤ es.length + 1) :
    LawK fx prog w (k + 1) (setUp v i j) dx odu' (stored kvs (i : Int) (.int (j : Int) t)) log tabo ns oc ((dx i, dictOf es' n') :: Mine.off (dx i) tl) := by
  have hin : ∀ {a : Nat} {o : Obj}, (a, o) ∈ tl → (o.data ≠ (dictOf es n).data) → (a, o) ∈ (dx i, dictOf es' n') :: Mine.off (dx i) tl := fun h q => .tail _ (mem_off.mpr ⟨h, ne_obj N h hes (fun e => q (e ▸ rfl))⟩)
  obtain ⟨vk, tk, d1, d2⟩ := K.kc
  refine ⟨K.lg, K.pn, K.b9, K.s9, K.b7, K.s7, ?_, K.ne, ?_, K.inj, ?_, K.kc, ?_, ?_, ?_, ?_, K.sos, K.ocd, K.lgl, ?_, ?_, hd, K.lo, ?_, ?_⟩
  · intro p hp b hb
    rcases List.mem_cons.mp hp with rfl | hp
    · exact K.off _ hes b hb
    · exact K.off p (mem_off.mp hp).1 b hb
  · intro q hq
    have x := K.st q hq
    obtain ⟨n0, f, f1, f2, f3, es0, oc1, oc2, oc3, dc, ct, ti, a1, a2, a3, a4, a5, a6, b1, b2, b3, c1, c2, c3, c4, c5, c6, c7⟩ := x
    have hf : (errAt v.body89 f1 f2 f3 dc v.pn v.ke ct).data ≠ (dictOf es n).data := by
      rcases errAt_data (body := v.body89) (f1 := f1) (f2 := f2) (f3 := f3) (dc := dc) (pn := v.pn) (ke := v.ke) (ct := ct) with ⟨x, hx⟩ | hx
      · rw [hx]; exact fun e => by cases e
      · rw [hx]; exact fun e => by cases e
    by_cases e : q = i
    · subst e
      have := news_dup N a2 hes
      have e2 : es0 = es := by
        have q1 := congrArg Obj.data this
        have q2 : es0.toArray = es.toArray := (Data.dict.inj q1).1
        simpa using q2
      subst e2
      refine ⟨n', f, f1, f2, f3, es', oc1, oc2, oc3, dc, ct, ti, hin a1 (fun e => by cases e), .head _, hin a3 hf, hin a4 (by rw [b1]; exact fun e => by cases e), hin a5 (by rw [b2]; exact fun e => by cases e), hin a6 (by rw [b3]; exact fun e => by cases e), b1, b2, b3, others_none ho c1 (by decide), others_none ho c2 (by decide), ?_, others_none ho c4 (by decide), others_none ho c5 (by decide), others_none ho c6 (by decide), by omega⟩
      show getL "parent" es' = some (Option.map _ (if q = q then some j else v.up q))
      rw [if_pos rfl, hp]; rfl
    · refine ⟨n0, f, f1, f2, f3, es0, oc1, oc2, oc3, dc, ct, ti, hin a1 (fun e => by cases e), .tail _ (mem_off.mpr ⟨a2, fun z => e (K.inj _ _ hq hi z)⟩), hin a3 hf, hin a4 (by rw [b1]; exact fun e => by cases e), hin a5 (by rw [b2]; exact fun e => by cases e), hin a6 (by rw [b3]; exact fun e => by cases e), b1, b2, b3, c1, c2, ?_, c4, c5, c6, by omega⟩
      show getL "parent" es0 = some (Option.map _ (if q = i then some j else v.up q))
      rw [if_neg e]; exact c3
  · exact hin K.ke (by show v.oke.data ≠ _; rw [d1]; exact fun e => by cases e)
  · exact hin K.t84 (fun e => by cases e)
  · exact hin K.stl (fun e => by cases e)
  · exact hin K.cell (by rw [K.ocd]; exact fun e => by cases e)
  · refine hin K.scr ?_
    rcases K.sos with ⟨_, _, q⟩ | ⟨_, q⟩ <;> rw [q] <;> exact fun e => by cases e
  · intro a ha
    have u := K.up a ha
    show match (if a = i then some j else v.up a) with
      | none => _
      | some k => _
    rw [valueAt_stored]
    by_cases e : a = i
    · rw [if_pos e, if_pos (by omega)]
      exact ⟨hj, _, rfl⟩
    · rw [if_neg e, if_neg (by omega)]
      exact u
  · intro a b q
    have q' : (if a = i then some j else v.up a) = some b := q
    by_cases e : a = i
    · rw [if_pos e] at q'
      cases q'; exact hj
    · rw [if_neg e] at q'
      exact K.upl _ _ q'
  · have := K.kl
    unfold stored
    split
    · rw [List.length_map]; omega
    · rw [List.length_append, List.length_singleton]; omega
  · rcases K.tab with q | ⟨q1, q2, q3⟩
    · exact .inl q
    · obtain ⟨v3, t3, g1, g2⟩ := q3
      exact .inr ⟨q1, hin q2 (by show v.okl.data ≠ _; rw [g1]; exact fun e => by cases e), v3, t3, g1, g2⟩
/-- nothing is changed -/
theorem LawK.step {fx : Fx08} {prog : Program} {w : World} {k : Nat} {v : Env08} {dx : Nat → Nat} {odu : Obj} {kvs : List (Int × Value)} {log : List Value} {tabo : Array Value} {ns : Nat} {oc : Obj} {tl : List (Addr × Obj)} (K : LawK fx prog w k v dx odu kvs log tabo ns oc tl) {log' : List Value} (hl : log'.length ≤ 1000) :
    LawK fx prog w (k + 1) v dx odu kvs log' tabo ns oc tl :=
  ⟨K.lg, K.pn, K.b9, K.s9, K.b7, K.s7, K.off, K.ne, fun i hi => (K.st i hi).mono (fun _ h => h) (Nat.le_succ k), K.inj, K.ke, K.kc, K.t84, K.stl, K.cell, K.scr, K.sos, K.ocd, hl, K.up, K.upl, K.dict, K.lo, Nat.le_succ_of_le K.kl, K.tab⟩
theorem lawJ_end {h₀ h' : Heap} {L I : Addr} {s₁ : Shared} {tk : Nat} {m' : Str → Option Value} {own : List (Addr × Obj)} {fx : Fx08} {prog : Program} {w : World} {k : Nat} {v : Env08} {dx : Nat → Nat} {odu : Obj} {kvs : List (Int × Value)} {log : List Value} {nl : Nat} {tabo : Array Value} {ns : Nat} {oc : Obj} {tl : List (Addr × Obj)}
    (F : Fr h₀ L h' m') (N : News h₀ L h' (ledK fx odu log nl tabo (tl ++ own))) (m1 : m' "stages" = some (.ref fx.sl)) (m2 : m' "up" = some (.ref fx.du)) (K : LawK fx prog w k v dx odu kvs log tabo ns oc tl) (hI : fx.lg ≠ I ∧ 70 ≠ I ∧ fx.du ≠ I) (hI2 : ∀ p ∈ tl, p.1 ≠ I) :
    EndJ h₀ L (LawJ fx prog w k) own I s₁ { s₁ with heap := h', toks := tk } := by
  refine ⟨h', tk, m', ledK fx odu log nl tabo tl, rfl, F, N, ?_, m1, m2, v, dx, odu, kvs, log, nl, tabo, ns, oc, tl, rfl, K⟩
  intro p hp
  rcases List.mem_cons.mp hp with rfl | hp
  · exact hI.1
  · rcases List.mem_cons.mp hp with rfl | hp
    · exact hI.2.1
    · rcases List.mem_cons.mp hp with rfl | hp
      · exact hI.2.2
      · exact hI2 p hp
/-- an item of the list of stages -/
theorem item_stage {prog : Program} {w : World} {A : Around} {E : Value → Shared → Prop} {s : Shared} {h₀ : Heap} {L sl : Addr} {news : List (Addr × Obj)} {value slice : PySem.Expr} {xs : Nat → Nat} {ns : Nat} {z : Int} {u : Tok} {Q : Value → Shared → Prop} (N : News h₀ L s.heap news)
    (hm : (sl, W.listOf ((List.range 5).map fun k => Value.ref (xs k)).toArray ns) ∈ news) (h : (z.fmod 5).toNat < 5 → Q (.ref (xs (z.fmod 5).toNat)) s)
    (hs : subscripted slice false (.ref sl) (.int (z.fmod 5) u) = operate [.ref sl, .int (z.fmod 5) u] (getItem (.ref sl) (.int (z.fmod 5) u)) := by with_unfolding_all rfl) :
    wpAny (model prog w) A (subscriptTail value slice (.ref sl) (.int (z.fmod 5) u)) Q E s := by
  have h0 := Int.fmod_nonneg_of_pos z (show (0 : Int) < 5 by decide)
  have h1 := Int.fmod_lt_of_pos z (show (0 : Int) < 5 by decide)
  have h2 : (z.fmod 5).toNat < 5 := by omega
  refine item_led N hm h0 (by omega) ?_ (h h2) hs
  rw [List.getElem?_map, List.getElem?_range h2]; rfl
theorem news_dx {h₀ h : Heap} {L d : Addr} {o : Obj} {q a b c : Addr × Obj} {tl own : List (Addr × Obj)} (N : News h₀ L h (q :: a :: b :: c :: (tl ++ own))) (hm : (d, o) ∈ tl) : News h₀ L h ((d, o) :: a :: b :: c :: (off d tl ++ own)) := fun p hp => N p (by
  simp only [List.mem_cons, List.mem_append] at hp ⊢
  rcases hp with rfl | h | h | h | h | h
  · exact .inr (.inr (.inr (.inr (.inl hm))))
  · exact .inr (.inl h)
  · exact .inr (.inr (.inl h))
  · exact .inr (.inr (.inr (.inl h)))
  · exact .inr (.inr (.inr (.inr (.inl (mem_off.mp h).1))))
  · exact .inr (.inr (.inr (.inr (.inr h)))))
theorem news_dx2 {h₀ h : Heap} {L : Addr} {d a b c : Addr × Obj} {tl own : List (Addr × Obj)} (N : News h₀ L h (d :: a :: b :: c :: (tl ++ own))) : News h₀ L h (a :: b :: c :: ((d :: tl) ++ own)) := fun p hp => N p (by
  simp only [List.mem_cons, List.mem_append, List.cons_append] at hp ⊢
  rcases hp with h | h | h | h | h | h <;> simp [h])
theorem own_ne {l I : Nat} {own : List (Addr × Obj)} {bs : List Addr} (hown : ∀ p ∈ own, p.1 = I ∨ p.1 = l) (h : ∀ b ∈ bs, b ≠ I ∧ b ≠ l) : OwnOff own bs := fun p hp b hb => by
  rcases hown p hp with e | e
  · rw [e]; exact (h b hb).1.symm
  · rw [e]; exact (h b hb).2.symm
theorem off_app {a b : List (Addr × Obj)} {bs : List Addr} (h1 : OwnOff a bs) (h2 : OwnOff b bs) : OwnOff (a ++ b) bs := fun p hp x hx => (List.mem_append.mp hp).elim (fun h => h1 p h x hx) fun h => h2 p h x hx
theorem off_dx {tl : List (Addr × Obj)} {d : Addr} {bs : List Addr} (h : OwnOff tl bs) : OwnOff (off d tl) (d :: bs) := fun p hp x hx => by
  rcases List.mem_cons.mp hx with rfl | hx
  · exact (mem_off.mp hp).2
  · exact h p (mem_off.mp hp).1 x hx
end Mine


namespace Mine
section
variable {w : World} {E : Value → Shared → Prop} {s : Shared} {L : Addr} {h₀ : Heap} {m : Str → Option Value}
theorem news_app5 {h : Heap} {a b c d e q : Addr × Obj} {tl : List (Addr × Obj)} (N : News h₀ L h (a :: b :: c :: d :: e :: q :: tl)) : News h₀ L h (q :: ([a, b, c, d, e] ++ tl)) := fun p hp => N p (by
  simp only [List.mem_cons, List.mem_append, List.cons_append, List.nil_append] at hp ⊢
  rcases hp with h | h | h | h | h | h | h <;> simp [h])
theorem news_app4 {h : Heap} {a b c d q : Addr × Obj} {tl : List (Addr × Obj)} (N : News h₀ L h (a :: b :: c :: d :: q :: tl)) : News h₀ L h (q :: ([a, b, c, d] ++ tl)) := fun p hp => N p (by
  simp only [List.mem_cons, List.mem_append, List.cons_append, List.nil_append] at hp ⊢
  rcases hp with h | h | h | h | h | h <;> simp [h])
theorem news_70 {h : Heap} {a b c : Addr × Obj} {r : List (Addr × Obj)} (N : News h₀ L h (a :: b :: c :: r)) : News h₀ L h (c :: a :: b :: r) := fun p hp => N p (by
  simp only [List.mem_cons] at hp ⊢
  rcases hp with h | h | h | h <;> simp [h])
theorem off_70 {a b c d : Nat} {oa ob oc : Obj} {tl : List (Addr × Obj)} {bs : List Addr} (h1 : a ≠ d) (h2 : b ≠ d) (h3 : c ≠ d) (h : OwnOff tl bs) (hd : d ∈ bs) : OwnOff ((a, oa) :: (b, ob) :: (c, oc) :: tl) [d] := off3 (fun p hp x hx => by rw [List.mem_singleton.mp hx]; exact h p hp d hd) h1 h2 h3
/-- the ledger a run is given -/
theorem run_led {h : Heap} {hda lg du cf nh : Nat} {odu : Obj} {tp : Array Value} {ad r : List (Addr × Obj)} {lgo : Obj} {bs : List Addr} (N : News h₀ L h ((70, tabObj tp) :: (ad ++ ((hda, W.listOf #[] nh) :: (lg, lgo) :: (du, odu) :: r)))) (hal : AllLt cf ((hda, W.listOf #[] nh) :: (lg, lgo) :: (du, odu) :: r)) (had : ∀ p ∈ ad, @LE.le Nat _ cf p.1) (h70 : 70 < cf)
    (h1 : @Ne Nat hda lg) (h2 : @Ne Nat hda 70) (h3 : @Ne Nat lg 70) (h4 : @Ne Nat lg du) (h5 : @Ne Nat du 70) (hoff : OwnOff r bs) (hb1 : lg ∈ bs) (hb2 : 70 ∈ bs) :
    ∃ TT, News h₀ L h ((lg, lgo) :: (70, tabObj tp) :: TT) ∧ OwnOff TT [lg, 70] ∧ (∀ p ∈ r, p ∈ TT) ∧ (∀ p ∈ ad, p ∈ TT) ∧ (hda, W.listOf #[] nh) ∈ TT ∧ (du, odu) ∈ TT := by
  refine ⟨ad ++ ((hda, W.listOf #[] nh) :: (du, odu) :: r), fun p hp => N p ?_, ?_, fun p hp => List.mem_append_right _ (.tail _ (.tail _ hp)), fun p hp => List.mem_append_left _ hp, List.mem_append_right _ (.head _), List.mem_append_right _ (.tail _ (.head _))⟩
  · simp only [List.mem_cons, List.mem_append] at hp ⊢
    rcases hp with h | h | h | h | h | h <;> simp [h]
  · have l2 := hal.2.1
    dsimp only at l2
    intro p hp b hb
    have hb' : b = lg ∨ b = 70 := by
      rcases List.mem_cons.mp hb with e | e
      · exact .inl e
      · exact .inr (List.mem_singleton.mp e)
    rcases List.mem_append.mp hp with hp | hp
    · have := had p hp
      rcases hb' with rfl | rfl <;> exact neN (by omega)
    · rcases List.mem_cons.mp hp with rfl | hp
      · rcases hb' with rfl | rfl
        · exact h1
        · exact h2
      · rcases List.mem_cons.mp hp with rfl | hp
        · rcases hb' with rfl | rfl
          · exact h4.symm
          · exact h5
        · rcases hb' with rfl | rfl
          · exact hoff p hp _ hb1
          · exact hoff p hp _ hb2
/-- the page that is sent in -/
theorem page08 {Q : Value → Shared → Prop} {p : Program} {loose : List Str} {mean : ExcName → Option Value} {mg mb : Str → Option Value} {dp un : Nat} {gd : Option (List Code)} {env : Env} {outer : List Env} {A₀ : Around} {base : Heap} {c : Int} {tc tw : Tok} {hda : Nat} (nh : Nat) {tabo : Array Value} {tl r : List (Addr × Obj)} {body : List Stmt} {scope : Scope}
    (hdef : Def08 w 75 "_law_page" body scope) (B : Below A₀ base outer h₀) (F : Fr h₀ L s.heap m) (X : (Mine.hd.heap_39 w.params).In h₀) (N : News h₀ L s.heap ((70, tabObj tabo) :: tl)) (ho : OwnOff tl [70]) (T : Top p loose mean mg mb h₀) (hC : CodeHd h₀ 74 70) (hf : env.frame = some L) (hke : env.scope.kind = .function) (hd : dp + 10 < recursionLimit) (hu : un + 100 < cLine)
    (tab : tabo = #[] ∨ ∃ (kl : Nat) (okl : Obj), tabo = tabP kl ∧ (kl, okl) ∈ r ∧ CodeOf okl "_law_page.<locals>.<lambda>")
    (ret : ∀ h' tk' (pg kl : Nat) okl ad (cf : Nat), Fr h₀ L h' m → News h₀ L h' ((70, tabObj (tabP kl)) :: (ad ++ tl)) → CodeOf okl "_law_page.<locals>.<lambda>" → (kl, okl) ∈ ad ++ r → AllLt cf tl → (∀ p ∈ ad, @LE.le Nat _ cf p.1) → 70 < cf →
      (∀ v : Env08, v.body75 = body → v.pn = (mg "__name__").getD .none → v.kl = kl → Page08 v (ad ++ [(hda, W.listOf #[] nh)]) pg c []) → Q (.ref pg) { s with heap := h', toks := tk' }) :
    wpAny (model PySem.Challenge.rw_dn0254_08.row.prog w) (ktrAny dp un gd env outer) (call (.ref 75) [.int c tc, .str "" tw, .ref hda]) Q E s := by
  rcases tab with rfl | ⟨kl, okl, rfl, hk1, hk2⟩
  · refine pageA hdef B F X N ho T hC hf hke hd hu ?_
    intro h' tk' fl pg dp cf es n ocf ct kl okl tc' F' N' e1 e2 e3 e4 e5 e6 e7 e8
    refine ret _ _ pg kl okl [_, _, _, _, _] cf F' (news_app5 N') e1 (.tail _ (.head _)) e8 ?_ e7.2.2.2.2 ?_
    · intro p hp
      simp only [List.mem_cons, List.mem_nil_iff, or_false] at hp
      rcases hp with rfl | rfl | rfl | rfl | rfl <;> (dsimp only; omega)
    · intro v v1 v2 v3
      subst v1 v3
      refine ⟨dp, n, fl, cf, hda, nh, es, ocf, ct, tc', tw, [], .tail _ (.tail _ (.head _)), .tail _ (.tail _ (.tail _ (.head _))), ?_, .tail _ (.tail _ (.tail _ (.tail _ (.head _)))), e2, e3, e4, e5, List.mem_append_right _ (.head _), .nil⟩
      rw [v2]
      exact .head _
  · refine pageB hdef B F X N T hC hf hke hd hu ?_
    intro h' tk' fl pg dp cf es n ocf ct tc' F' N' e2 e3 e4 e5 e6 e7 e8
    refine ret _ _ pg kl okl [_, _, _, _] cf F' (news_app4 N') hk2 (List.mem_append_right _ hk1) e8 ?_ e7.2.2.2 ?_
    · intro p hp
      simp only [List.mem_cons, List.mem_nil_iff, or_false] at hp
      rcases hp with rfl | rfl | rfl | rfl <;> (dsimp only; omega)
    · intro v v1 v2 v3
      subst v1 v3
      refine ⟨dp, n, fl, cf, hda, nh, es, ocf, ct, tc', tw, [], .tail _ (.head _), .tail _ (.tail _ (.head _)), ?_, .tail _ (.tail _ (.tail _ (.head _))), e2, e3, e4, e5, List.mem_append_right _ (.head _), .nil⟩
      rw [v2]
      exact .head _
end
end Mine


namespace Mine
def runV (v : Env08) (fx : Fx08) (kl : Nat) (okl : Obj) (rq : Nat) : Env08 := { body89 := fx.b9, scope89 := fx.s9, body75 := fx.b7, scope75 := fx.s7, pn := fx.pn, ke := v.ke, kl := kl, oke := v.oke, okl := okl, lg := fx.lg, rq := rq, xs := v.xs, up := v.up }
theorem LawK.fix {fx : Fx08} {prog : Program} {w : World} {k : Nat} {v : Env08} {dx : Nat → Nat} {odu : Obj} {kvs : List (Int × Value)} {log : List Value} {tabo : Array Value} {ns : Nat} {oc : Obj} {tl : List (Addr × Obj)} {p : Program} {loose : List Str} {mean : ExcName → Option Value} {mg mb : Str → Option Value} {base : Heap} {kl : Nat} {okl : Obj}
    (K : LawK fx prog w k v dx odu kvs log tabo ns oc tl) (hX : (Mine.hd.heap_39 w.params).In base) (hTop : Top p loose mean mg mb base) (hC : CodeHd base 74 70) (d89 : Def08 w 89 "_law_stage" fx.b9 fx.s9) (d75 : Def08 w 75 "_law_page" fx.b7 fx.s7) (hpn : fx.pn = (mg "__name__").getD .none) (e1 : CodeOf okl "_law_page.<locals>.<lambda>") (rq : Nat) :
    Fix08 w p loose mean mg mb base (runV v fx kl okl rq) := ⟨hX, hTop, hC, d89, d75, hpn, K.ne.1, K.upl, K.kc, e1⟩
theorem LawK.led {fx : Fx08} {prog : Program} {w : World} {k : Nat} {v : Env08} {dx : Nat → Nat} {odu : Obj} {kvs : List (Int × Value)} {log : List Value} {tabo : Array Value} {ns : Nat} {oc : Obj} {tl tl' : List (Addr × Obj)} {kl : Nat} {okl : Obj} {rq : Nat}
    (K : LawK fx prog w k v dx odu kvs log tabo ns oc tl) (hsub : ∀ p ∈ tl, p ∈ tl') (off : OwnOff tl' [fx.lg, 70]) (hkl : (kl, okl) ∈ tl') : Led08 (runV v fx kl okl rq) tl' :=
  ⟨off, fun i hi => (StageD.env (v := v) (v' := runV v fx kl okl rq) (dx := dx) (dx' := dx) K.b9.symm K.pn.symm rfl K.lg.symm rfl rfl rfl ((K.st i hi).mono hsub (Nat.le_refl k))).stage, hsub _ K.ke, hkl⟩
def MidS (h₀ : Heap) (L : Addr) (s : Shared) (lg : Nat) (led : List (Addr × Obj)) (xi : Nat) (m : Str → Option Value) (f : Flow) (s' : Shared) : Prop :=
  f = .next ∧ ∃ h tk q, s' = { s with heap := h, toks := tk } ∧ Fr h₀ L h (fun y => if y = "send" then some (.ref q) else m y) ∧ News h₀ L h ((q, methodObj (.ref 63) (.ref xi)) :: led) ∧ (@Ne Nat q lg ∧ @Ne Nat q 70)
theorem cutS {M : Model} {A : Around} {E : Value → Shared → Prop} {s : Shared} {env : Env} {st : Stmt} {Q : Flow → Shared → Prop} {h₀ : Heap} {L : Addr} {lg xi : Nat} {led TT : List (Addr × Obj)} {m : Str → Option Value} (_F : Fr h₀ L s.heap m) (_N : News h₀ L s.heap led) (_o : OwnOff TT [lg, 70])
    (h1 : wpAny M A (exec st env) (MidS h₀ L s lg led xi m) E s)
    (h2 : ∀ h tk q, Fr h₀ L h (fun y => if y = "send" then some (.ref q) else m y) → News h₀ L h ((q, methodObj (.ref 63) (.ref xi)) :: led) → (@Ne Nat q lg) → (@Ne Nat q 70) → Q .next { s with heap := h, toks := tk }) :
    wpAny M A (exec st env) Q E s := wpAny_mono h1 (fun f s' z => by
      obtain ⟨rfl, h, tk, q, rfl, F, N, n1, n2⟩ := z
      exact h2 h tk q F N n1 n2) fun _ _ e => e
/-- how the try ends: the name of the end, and what came back -/
def GotOk (v : Env08) (tl : List (Addr × Obj)) (pg : Nat) (r : List (Nat × Int × List Nat) × End08 × Int × List Nat) (g : Value) : Prop :=
  match r.2.1 with
  | .page => ∃ pg' : Nat, g = .ref pg' ∧ Page08 v tl pg' r.2.2.1 r.2.2.2 ∧ (r.1 = [] → pg' = pg)
  | _ => g = .none
def MidT (h₀ : Heap) (L : Addr) (s : Shared) (vr : Nat → Env08) (lg kl : Nat) (tl : List (Addr × Obj)) (pg : Nat) (r : List (Nat × Int × List Nat) × End08 × Int × List Nat) (m : Str → Option Value) (f : Flow) (s' : Shared) : Prop :=
  f = .next ∧ ∃ h tk g te log nl own rq t0 nq, s' = { s with heap := h, toks := tk } ∧ Fr h₀ L h (fun y => if y = "end" then some (.str (endS r.2.1) te) else if y = "got" then some g else m y) ∧ News h₀ L h ((lg, W.listOf log.toArray nl) :: (70, tabObj (tabP kl)) :: (own ++ tl)) ∧ OwnOff (own ++ tl) [lg, 70] ∧ All2 (Ent08 (vr rq) (own ++ tl)) log r.1 ∧ GotOk (vr rq) (own ++ tl) pg r g ∧ (rq, W.listOf #[.int 0 t0] nq) ∈ own ++ tl
theorem cutT {M : Model} {A : Around} {E : Value → Shared → Prop} {s : Shared} {env : Env} {st : Stmt} {Q : Flow → Shared → Prop} {h₀ : Heap} {L : Addr} {fx : Fx08} {prog : Program} {w : World} {k : Nat} {v : Env08} {dx : Nat → Nat} {odu : Obj} {kvs : List (Int × Value)} {log0 : List Value} {tabo : Array Value} {ns : Nat} {oc : Obj} {tl0 : List (Addr × Obj)} (_K : LawK fx prog w k v dx odu kvs log0 tabo ns oc tl0) (okl : Obj) {lg kl : Nat} {tl : List (Addr × Obj)} {x : Addr × Obj} {lgo : Obj} {pg : Nat} {r : List (Nat × Int × List Nat) × End08 × Int × List Nat} {m : Str → Option Value} (_F : Fr h₀ L s.heap m) (_N : News h₀ L s.heap (x :: (lg, lgo) :: (70, tabObj (tabP kl)) :: tl))
    (h1 : wpAny M A (exec st env) (MidT h₀ L s (runV v fx kl okl) lg kl tl pg r m) E s)
    (h2 : ∀ h tk g te log nl own rq t0 nq, Fr h₀ L h (fun y => if y = "end" then some (.str (endS r.2.1) te) else if y = "got" then some g else m y) → News h₀ L h ((lg, W.listOf log.toArray nl) :: (70, tabObj (tabP kl)) :: (own ++ tl)) → OwnOff (own ++ tl) [lg, 70] → All2 (Ent08 (runV v fx kl okl rq) (own ++ tl)) log r.1 → GotOk (runV v fx kl okl rq) (own ++ tl) pg r g → (rq, W.listOf #[.int 0 t0] nq) ∈ own ++ tl → Q .next { s with heap := h, toks := tk }) :
    wpAny M A (exec st env) Q E s := wpAny_mono h1 (fun f s' z => by
      obtain ⟨rfl, h, tk, g, te, log, nl, own, rq, t0, nq, rfl, F, N, o, a, b, c⟩ := z
      exact h2 h tk g te log nl own rq t0 nq F N o a b c) fun _ _ e => e
theorem run_mem {h : Heap} {h₀ : Heap} {L : Addr} {x q a b : Addr × Obj} {TT : List (Addr × Obj)} (N : News h₀ L h (x :: q :: a :: b :: TT)) : News h₀ L h (a :: b :: x :: q :: TT) := fun p hp => N p (by
  simp only [List.mem_cons] at hp ⊢
  rcases hp with h | h | h | h | h <;> simp [h])
theorem off_xq {x q lg : Nat} {ox oq : Obj} {TT : List (Addr × Obj)} (h : OwnOff TT [lg, 70]) (h1 : @Ne Nat x lg) (h2 : @Ne Nat x 70) (h3 : @Ne Nat q lg) (h4 : @Ne Nat q 70) : OwnOff ((x, ox) :: (q, oq) :: TT) [lg, 70] := fun p hp b hb => by
  have hb' : b = lg ∨ b = 70 := by
    rcases List.mem_cons.mp hb with e | e
    · exact .inl e
    · exact .inr (List.mem_singleton.mp e)
  rcases List.mem_cons.mp hp with rfl | hp
  · rcases hb' with rfl | rfl
    · exact h1
    · exact h2
  · rcases List.mem_cons.mp hp with rfl | hp
    · rcases hb' with rfl | rfl
      · exact h3
      · exact h4
    · exact h p hp b hb
theorem app2 (own TT : List (Addr × Obj)) (x q : Addr × Obj) : own ++ (x :: q :: TT) = (own ++ [x, q]) ++ TT := by simp
theorem midT_page {h₀ h : Heap} {L : Addr} {s : Shared} {tk : Nat} {vr : Nat → Env08} {lg kl : Nat} {TT own : List (Addr × Obj)} {q : Addr × Obj} {pg rq nq nl : Nat} {t0 te : Tok} {log : List Value} {r : List (Nat × Int × List Nat) × End08 × Int × List Nat} {m : Str → Option Value} {pg' : Nat}
    (N : News h₀ L h ((lg, W.listOf log.toArray nl) :: (70, tabObj (tabP kl)) :: (own ++ ((rq, W.listOf #[.int 0 t0] nq) :: q :: TT)))) (o : OwnOff (own ++ ((rq, W.listOf #[.int 0 t0] nq) :: q :: TT)) [lg, 70]) (a : All2 (Ent08 (vr rq) (own ++ ((rq, W.listOf #[.int 0 t0] nq) :: q :: TT))) log ([] ++ r.1)) (e : r.2.1 = .page) (p : Page08 (vr rq) (own ++ ((rq, W.listOf #[.int 0 t0] nq) :: q :: TT)) pg' r.2.2.1 r.2.2.2) (ip : r.1 = [] → pg' = pg)
    (F : Fr h₀ L h (fun y => if y = "end" then some (.str "page" te) else if y = "got" then some (.ref pg') else m y)) : MidT h₀ L s vr lg kl TT pg r m .next { s with heap := h, toks := tk } := by
  rw [app2] at N o a p
  refine ⟨rfl, h, tk, .ref pg', te, log, nl, _, rq, t0, nq, rfl, ?_, N, o, a, ?_, List.mem_append_left _ (List.mem_append_right _ (.head _))⟩
  · rw [e]; exact F
  · unfold GotOk; rw [e]; exact ⟨pg', rfl, p, ip⟩
theorem midT_none {h₀ h : Heap} {L : Addr} {s : Shared} {tk : Nat} {vr : Nat → Env08} {lg kl : Nat} {TT own : List (Addr × Obj)} {q : Addr × Obj} {pg rq nq nl : Nat} {t0 te : Tok} {log : List Value} {r : List (Nat × Int × List Nat) × End08 × Int × List Nat} {m : Str → Option Value} {en : End08}
    (N : News h₀ L h ((lg, W.listOf log.toArray nl) :: (70, tabObj (tabP kl)) :: (own ++ ((rq, W.listOf #[.int 0 t0] nq) :: q :: TT)))) (o : OwnOff (own ++ ((rq, W.listOf #[.int 0 t0] nq) :: q :: TT)) [lg, 70]) (a : All2 (Ent08 (vr rq) (own ++ ((rq, W.listOf #[.int 0 t0] nq) :: q :: TT))) log ([] ++ r.1)) (e : r.2.1 = en) (hen : en ≠ .page) {nm : Str} (hnm : endS en = nm)
    (F : Fr h₀ L h (fun y => if y = "end" then some (.str nm te) else if y = "got" then some .none else m y)) : MidT h₀ L s vr lg kl TT pg r m .next { s with heap := h, toks := tk } := by
  rw [app2] at N o a
  refine ⟨rfl, h, tk, .none, te, log, nl, _, rq, t0, nq, rfl, ?_, N, o, a, ?_, List.mem_append_left _ (List.mem_append_right _ (.head _))⟩
  · rw [e, hnm]; exact F
  · unfold GotOk; rw [e]; cases en
    · exact absurd rfl hen
    · rfl
    · rfl
theorem runX {w : World} {p : Program} {loose : List Str} {mean : ExcName → Option Value} {mg mb : Str → Option Value} {base : Heap} {v : Env08} {Q E : Value → Shared → Prop} {s : Shared} {L : Addr} {h₀ : Heap} {m : Str → Option Value} {dp un : Nat} {gd : Option (List Code)} {env : Env} {outer : List Env} {A₀ : Around} {tl : List (Addr × Obj)} {log : List Value} {nl i pg : Nat} {c : Int} {ds : List Nat} {es : List (Nat × Int × List Nat)}
    (fx : Fix08 w p loose mean mg mb base v) (B : Below A₀ base outer h₀) (F : Fr h₀ L s.heap m) (N : News h₀ L s.heap ((v.lg, W.listOf log.toArray nl) :: (70, tabObj (tabP v.kl)) :: tl)) (led : Led08 v tl) (hf : env.frame = some L) (hke : env.scope.kind = .function) (hd : dp + 3 * 4 + 10 < recursionLimit) (hu : un + 30 * 4 + 100 < cLine) (hl : log.length + 4 = 4) (hi : i < 5) (hp : Page08 v tl pg c ds) (hds : ds.length + 4 ≤ 4) (hdd : (∀ d ∈ ds, d < 5)) (hlog : All2 (Ent08 v tl) log es) (out : Outs base v Q E s h₀ L m (env :: outer) tl es pg (go08 v.up 4 i c ds)) :
    codeAny (model PySem.Challenge.rw_dn0254_08.row.prog w) (ktrAny dp un gd env outer) (.call (.ref 63) ⟨[.ref (v.xs i), .ref v.rq, .ref pg], []⟩) (fun r s' => match r with | .ok (.ret v) => Q v s' | .ok _ => False | .error e => E e s') s :=
  runs08C fx B F N led hf hke hd hu hl hi hp hds hdd hlog out
end Mine


namespace Mine
/-! what was written down is what the walk says -/
theorem eqs_ints {A : Around} {s : Shared} : ∀ {vs us : List Value} {ns : List Int}, IntsAre vs ns → IntsAre us ns → EqsAt A s vs us
  | _, _, _, .nil, .nil => .nil
  | _, _, _, .cons _ _ h, .cons _ _ k => .cons eq_int (eqs_ints h k)
theorem isList_led {h₀ h : Heap} {L l : Addr} {vs : List Value} {n : Nat} {nw : List (Addr × Obj)} (N : News h₀ L h nw) (hm : (l, W.listOf vs.toArray n) ∈ nw) : h.IsList l vs.toArray := News.isList N hm
theorem eqs_ent {h₀ : Heap} {L : Addr} {A : Around} {s : Shared} {v : Env08} {nw tl1 tl2 : List (Addr × Obj)} {x y : Value} {e : Nat × Int × List Nat} {t0 : Tok} {nq : Nat} (N : News h₀ L s.heap nw) (h1 : ∀ p ∈ tl1, p ∈ nw) (h2 : ∀ p ∈ tl2, p ∈ nw) (hu : A.units + 10 < cLine) (hrq : (v.rq, W.listOf #[.int 0 t0] nq) ∈ nw)
    (a : Ent08 v tl1 x e) (b : TEnt tl2 y e) : SeqAt.EqAt A s x y true := by
  obtain ⟨t, hd, nh, tj, th, tc, tc2, tw, vs, rfl, a1, a2, a3⟩ := a
  obtain ⟨t', q, hd', nq', nh', tj', th', t0', tc', tc2', tw', vs', rfl, b1, b2, b3, b4⟩ := b
  refine eq_tup (vs := [_, _, _, _, _, _, _]) (us := [_, _, _, _, _, _, _]) (tup_at N (h1 _ a1)) (tup_at N (h2 _ b1)) (by omega) ?_
  refine .cons eq_int (.cons eq_str (.cons ?_ (.cons eq_int (.cons eq_int (.cons eq_str (.cons ?_ .nil))))))
  · exact eq_list (vs := [_]) (us := [_]) (isList_led N hrq) (isList_led N (h2 _ b2)) (by simp only [units_in1]; omega) (.cons eq_int .nil)
  · exact eq_list (isList_led N (h1 _ a2)) (isList_led N (h2 _ b3)) (by simp only [units_in1]; omega) (eqs_ints a3 b4)
theorem eqs_log {h₀ : Heap} {L : Addr} {A : Around} {s : Shared} {v : Env08} {nw tl1 tl2 : List (Addr × Obj)} {t0 : Tok} {nq : Nat} (N : News h₀ L s.heap nw) (h1 : ∀ p ∈ tl1, p ∈ nw) (h2 : ∀ p ∈ tl2, p ∈ nw) (hu : A.units + 10 < cLine) (hrq : (v.rq, W.listOf #[.int 0 t0] nq) ∈ nw) :
    ∀ {log vs : List Value} {es : List (Nat × Int × List Nat)}, All2 (Ent08 v tl1) log es → All2 (TEnt tl2) vs es → EqsAt A s log vs
  | _, _, _, .nil, .nil => .nil
  | _, _, _, .cons a ra, .cons b rb => .cons (eqs_ent N h1 h2 hu hrq a b) (eqs_log N h1 h2 hu hrq ra rb)
section
variable {w : World} {E : Value → Shared → Prop} {s : Shared} {L : Addr} {h₀ : Heap} {m : Str → Option Value}
/-- the walk with an int for the place -/
theorem walkZ {Q : Value → Shared → Prop} {p : Program} {loose : List Str} {mean : ExcName → Option Value} {mg mb : Str → Option Value} {dp un : Nat} {gd : Option (List Code)} {env : Env} {outer : List Env} {A₀ : Around} {base : Heap} {tl : List (Addr × Obj)} {du : Nat} {odu : Obj} {c z : Int} {ti tc : Tok} {kvs : List (Int × Value)} {up : Nat → Option Nat}
    (B : Below A₀ base outer h₀) (F : Fr h₀ L s.heap m) (X : (Mine.hd.heap_39 w.params).In h₀) (T : Top p loose mean mg mb h₀) (N : News h₀ L s.heap tl) (hd1 : (du, odu) ∈ tl) (hdd : odu.IsDictOf (PySem.intKind PySem.Challenge.rw_dn0254_08.row.prog w) kvs) (hlo : (du == sysModules) = false) (hup : UpIs kvs up) (hz : 0 ≤ z) (hi : z.toNat < 5) (hf : env.frame = some L) (hke : env.scope.kind = .function) (hd : dp + 10 < recursionLimit) (hu : un + 100 < cLine)
    (ret : ∀ h' tk' (T td : Nat) vs nt rest t1 t2 t3, Fr h₀ L h' m → News h₀ L h' ((T, { cls := .type "tuple", data := .seq #[.ref td, .str (endS (go08 up 4 z.toNat c []).2.1) t1, .int (go08 up 4 z.toNat c []).2.2.1 t2, .str (W08 (go08 up 4 z.toNat c []).2.2.2) t3] }) :: (td, W.listOf vs.toArray nt) :: rest) → (∀ p ∈ tl, p ∈ rest) → All2 (TEnt rest) vs (go08 up 4 z.toNat c []).1 → Q (.ref T) { s with heap := h', toks := tk' }) :
    wpAny (model PySem.Challenge.rw_dn0254_08.row.prog w) (ktrAny dp un gd env outer) (call (.ref 94) [.ref du, .int z ti, .int c tc]) Q E s := by
  obtain ⟨i, rfl⟩ := Int.eq_ofNat_of_zero_le hz
  exact walk08 B F X T N hd1 hdd hlo hup hi hf hke hd hu ret
theorem ne_same {prog : Program} {A : Around} {x : Str} {t u : Tok} {Q : Value → Shared → Prop} (h : Q (.bool false) s) : wpAny (model prog w) A (compareOp .NotEq (.str x t) (.str x u)) Q E s :=
  PyProof.Rows.ne_str (by rw [show (x != x) = false by simp [bne]]; exact h)
theorem ne_sameI {prog : Program} {A : Around} {x : Int} {t u : Tok} {Q : Value → Shared → Prop} (h : Q (.bool false) s) : wpAny (model prog w) A (compareOp .NotEq (.int x t) (.int x u)) Q E s :=
  PyProof.Rows.ne_int (by rw [show (x != x) = false by simp [bne]]; exact h)
theorem eq_lit {prog : Program} {A : Around} {x y : Str} {t u : Tok} {Q : Value → Shared → Prop} (b : Bool) (hb : (x == y) = b) (h : Q (.bool b) s) : wpAny (model prog w) A (compareOp .Eq (.str x t) (.str y u)) Q E s :=
  PyProof.Rows.eq_str (by rw [hb]; exact h)
end
/-- a turn with a run leaves the table full and the log as it is -/
theorem LawK.tab2 {fx : Fx08} {prog : Program} {w : World} {k : Nat} {v : Env08} {dx : Nat → Nat} {odu : Obj} {kvs : List (Int × Value)} {log : List Value} {tabo : Array Value} {ns : Nat} {oc : Obj} {tl ad : List (Addr × Obj)} {kl cf : Nat} {okl : Obj} {log' : List Value}
    (K : LawK fx prog w k v dx odu kvs log tabo ns oc tl) (hk : (kl, okl) ∈ ad ++ tl) (hc : CodeOf okl "_law_page.<locals>.<lambda>") (had : ∀ p ∈ ad, @LE.le Nat _ cf p.1) (h1 : fx.lg < cf) (h2 : 70 < cf) (h3 : fx.du < cf) (hl : log'.length ≤ 1000) :
    LawK fx prog w (k + 1) { v with kl := kl, okl := okl } dx odu kvs log' (tabP kl) ns oc ((kl, okl) :: tl) := by
  refine ⟨K.lg, K.pn, K.b9, K.s9, K.b7, K.s7, ?_, K.ne, fun i hi => ?_, K.inj, .tail _ K.ke, K.kc, .tail _ K.t84, .tail _ K.stl, .tail _ K.cell, .tail _ K.scr, K.sos, K.ocd, hl, K.up, K.upl, K.dict, K.lo, Nat.le_succ_of_le K.kl, .inr ⟨rfl, .head _, hc⟩⟩
  · intro p hp b hb
    rcases List.mem_cons.mp hp with rfl | hp
    · rcases List.mem_append.mp hk with q | q
      · have := had _ q
        dsimp only at this
        rcases List.mem_cons.mp hb with rfl | hb
        · exact neN (by dsimp only; omega)
        · rcases List.mem_cons.mp hb with rfl | hb
          · exact neN (by dsimp only; omega)
          · rcases List.mem_singleton.mp hb with rfl
            exact neN (by dsimp only; omega)
      · exact K.off _ q b hb
    · exact K.off p hp b hb
  · have x : StageD { v with kl := kl, okl := okl } tl dx k i := K.st i hi
    exact x.mono (fun p hp => .tail _ hp) (Nat.le_succ k)
theorem go08_len (up : Nat → Option Nat) : ∀ (k i : Nat) (c : Int) (ds : List Nat), (go08 up k i c ds).1.length ≤ k
  | 0, _, _, _ => Nat.le_refl _
  | k + 1, i, c, ds => by
    rw [go08]
    split
    · exact Nat.zero_le _
    · split
      · exact Nat.zero_le _
      · split
        · rename_i h; subst h; exact Nat.le_refl _
        · exact Nat.succ_le_succ (go08_len up k _ _ _)
theorem kl_ne {ad tl : List (Addr × Obj)} {kl cf I : Nat} {okl : Obj} (hk : (kl, okl) ∈ ad ++ tl) (had : ∀ p ∈ ad, @LE.le Nat _ cf p.1) (hI : I < cf) (h : ∀ p ∈ tl, p.1 ≠ I) : ∀ p ∈ (kl, okl) :: tl, p.1 ≠ I := fun p hp => by
  rcases List.mem_cons.mp hp with rfl | hp
  · rcases List.mem_append.mp hk with q | q
    · have := had _ q
      dsimp only at this
      exact neN (by dsimp only; omega)
    · exact h _ q
  · exact h p hp
theorem news_last {h₀ h : Heap} {L : Addr} {a b x y d q : Addr × Obj} {rest own' TT tl own : List (Addr × Obj)} (N : News h₀ L h (a :: b :: rest)) (sub : ∀ p ∈ x :: y :: (own' ++ TT), p ∈ rest) (hd : d ∈ TT) (hk : q ∈ TT) (hr : ∀ p ∈ tl ++ own, p ∈ TT) : News h₀ L h (x :: y :: d :: ((q :: tl) ++ own)) := fun p hp => by
  refine N p (.tail _ (.tail _ (sub p ?_)))
  rcases List.mem_cons.mp hp with rfl | hp
  · exact .head _
  · rcases List.mem_cons.mp hp with rfl | hp
    · exact .tail _ (.head _)
    · refine .tail _ (.tail _ (List.mem_append_right _ ?_))
      rcases List.mem_cons.mp hp with rfl | hp
      · exact hd
      · rcases List.mem_cons.mp hp with rfl | hp
        · exact hk
        · exact hr p hp
end Mine


namespace Mine
theorem go08_dig {up : Nat → Option Nat} (hu : ∀ i j, up i = some j → j < 5) : ∀ (k i : Nat) (c : Int) (ds : List Nat), (∀ d ∈ ds, d < 5) → (∀ d ∈ (go08 up k i c ds).2.2.2, d < 5) ∧ (go08 up k i c ds).2.2.2.length ≤ ds.length + k
  | 0, _, _, _, h => ⟨h, Nat.le_refl _⟩
  | k + 1, i, c, ds, h => by
    rw [go08]
    split
    · exact ⟨h, Nat.le_add_right _ _⟩
    · split
      · exact ⟨h, Nat.le_add_right _ _⟩
      · rename_i j hj
        split
        · exact ⟨h, Nat.le_add_right _ _⟩
        · have := go08_dig hu k j (c + stepOf j) (ds ++ [j]) (fun d hd => by
            rcases List.mem_append.mp hd with hd | hd
            · exact h d hd
            · rw [List.mem_singleton.mp hd]; exact hu _ _ hj)
          refine ⟨this.1, Nat.le_trans this.2 ?_⟩
          simp only [List.length_append, List.length_cons, List.length_nil]
          omega
theorem item_five {prog : Program} {w : World} {A : Around} {E : Value → Shared → Prop} {s : Shared} {h₀ : Heap} {L sl : Addr} {news : List (Addr × Obj)} {value slice : PySem.Expr} {xs : Nat → Nat} {ns : Nat} {i : Nat} {u : Tok} {Q : Value → Shared → Prop} (N : News h₀ L s.heap news)
    (hm : (sl, W.listOf ((List.range 5).map fun k => Value.ref (xs k)).toArray ns) ∈ news) (hi : i < 5) (h : Q (.ref (xs i)) s)
    (hs : subscripted slice false (.ref sl) (.int (i : Int) u) = operate [.ref sl, .int (i : Int) u] (getItem (.ref sl) (.int (i : Int) u)) := by with_unfolding_all rfl) :
    wpAny (model prog w) A (subscriptTail value slice (.ref sl) (.int (i : Int) u)) Q E s := by
  refine item_led N hm (by omega) (by omega) ?_ h hs
  rw [Int.toNat_natCast, List.getElem?_map, List.getElem?_range hi]; rfl
theorem isNot_self {M : Model} {A : Around} {E : Value → Shared → Prop} {s : Shared} {a : Addr} {Q : Value → Shared → Prop} (h : Q (.bool false) s) : wpAny M A (compareOp .IsNot (.ref a) (.ref a)) Q E s := by
  show wpAny M A (do return .bool (!(← isSame (.ref a) (.ref a)))) Q E s
  exact wpAny_bind (wpAny_isSame_ref_self (wpAny_pure h))
theorem post_true (ns : List Int) : PySem.Challenge.rw_dn0254_08.row.claim.post [ofPy (PyData.list (List.map PyData.int ns))] (.bool true) [ofPy (PyData.list (List.map PyData.int ns))] = true := by
  first | rfl | wrow_post
/-- a cut behind a statement that only looks -/
theorem cutI {M : Model} {A : Around} {E : Value → Shared → Prop} {s : Shared} {env : Env} {st : Stmt} {Q : Flow → Shared → Prop}
    (h1 : wpAny M A (exec st env) (fun f s' => f = .next ∧ ∃ tk, s' = { s with toks := tk }) E s) (h2 : ∀ tk, Q .next { s with toks := tk }) : wpAny M A (exec st env) Q E s :=
  wpAny_mono h1 (fun f s' z => by obtain ⟨rfl, tk, rfl⟩ := z; exact h2 tk) fun _ _ e => e
end Mine


namespace Mine
theorem fillT : PySem.Challenge.rw_dn0254_08.row.prog = PySem.Challenge.rw_dn0254_08.row.prog ∧ Mine.hd.heap_39 = Mine.hd.heap_39 := by
  k_fill
  exact ⟨rfl, rfl⟩
local macro_rules | `(tactic| keq_rows) => `(tactic| first | (k_unfold; (try dsimp only)) | walk1 | (dsimp only; walk1))
local macro_rules | `(tactic| k_mem) => `(tactic| (first | with_reducible assumption | with_reducible exact List.mem_cons_self | (with_reducible refine List.mem_cons_of_mem _ ?_; k_mem) | assumption))
local macro_rules | `(tactic| ktr_unf) => `(tactic| repeat' ((fail_if_success (with_reducible show wpAny _ _ (eval (PySem.Expr.ListComp _ _ _ _) _) _ _ _)); (fail_if_success (with_reducible show wpAny _ _ (exec (PySem.Stmt.Assign _ (PySem.Expr.ListComp _ _ _ _) _) _) _ _ _)); keq_rows))
local macro_rules | `(tactic| kwd_less) => `(tactic| repeat' ((fail_if_success (with_reducible show wpAny _ _ (call (Value.ref 89) _) _ _ _)); keq_rows))
local macro_rules | `(tactic| bits_by_make) => `(tactic| repeat' ((fail_if_success (with_reducible show wpAny _ _ (pyIter _) _ _ _)); keq_rows))
local macro_rules | `(tactic| walk_at "exec For Name Name cons nil") => `(tactic| (k_here; (rename Fr _ _ _ _ => lF'); (with_unfolding_all refine' For_invVF lF' ?k1 ?k2 ?_; (case k1 => exact rfl); (case k2 => exact rfl); k_whole)))
local macro_rules | `(tactic| tb_rel) => `(tactic| repeat' ((fail_if_success (with_reducible show wpAny _ _ (getMethod _ _ _) _ _ _)); (fail_if_success (with_reducible show wpAny _ _ (call (Value.builtin "list.clear") _) _ _ _)); keq_rows))
local macro_rules | `(tactic| walk_at "subscriptTail") => `(tactic| (k_here; (with_reducible show wpAny _ _ (subscriptTail _ _ (Value.ref _) (Value.int _ _)) _ _ _); k_dflt (refine' item_stage ?N ?m ?_; (case N => k_asm); (case m => k_mem)); intro hm5))
local macro_rules | `(tactic| walk_at "setAttr ref") => `(tactic| (k_here; k_dflt (refine' set_sym ?k1 ?k2 ?k3 ?k4 ?k5 ?k6 ?k7 ?k8 ?k9 ?ka ?kb ?kc ?_; (case k1 => k_asm); (case k2 => k_asm); (case k3 => k_asm); (case k4 => k_mem); (case k5 => k_mem); (case k6 => k_is); (case k7 => k_is); (case k8 => k_is); (case k9 => k_is); (case ka => first | exact some_of (by assumption) | exact slot_some (by assumption)); (case kb => omega); (case kc => (intro es' n'; k_upd))); intro h' tk' es' n' hg' ho' hle' F' N'))
local macro_rules | `(tactic| walk_at "getMethod ref") => `(tactic| (k_here; (with_reducible show wpAny _ _ (getMethod (Value.ref _) (PySem.Str.ofString "add_parent") _) _ _ _); k_dflt (refine' method_inst ?k1 ?k2 (InstAt.of_news (by k_asm) (by k_mem) (by k_mem)) ?k4 ?k5 ?k6 ?k7 ?_; (case k1 => k_asm); (case k2 => k_asm); (case k4 => k_is); (case k5 => k_is); (case k6 => k_is); (case k7 => assumption); k_whole)))
local macro_rules | `(tactic| walk_at "getMethod ref") => `(tactic| (k_here; (with_reducible show wpAny _ _ (getMethod (Value.ref _) (PySem.Str.ofString "close") _) _ _ _); k_dflt (refine' method_inst ?k1 ?k2 (InstAt.of_news (by k_asm) (by k_mem) (by k_mem)) ?k4 ?k5 ?k6 ?k7 ?_; (case k1 => k_asm); (case k2 => k_asm); (case k4 => k_is); (case k5 => k_is); (case k6 => k_is); (case k7 => assumption); k_whole)))
local macro_rules | `(tactic| walk_at "setItem ref int") => `(tactic| (k_here; k_dflt (refine' kda_set (knd := PySem.intKind _ _) ?F ?N ?U ?d (intKind_is _ _ _ _) ?z ?_; (case F => k_asm); (case N => k_asm); (case U => k_updF); (case d => assumption); (case z => exact small_size (by omega))); intro h' o' F' N' hd'; (try dsimp only at N')))
local macro_rules | `(tactic| ksw_less) => `(tactic| repeat' ((fail_if_success (with_reducible show wpAny _ _ (exec (PySem.Stmt.Assign _ (PySem.Expr.IfExp _ _ _ _) _) _) _ _ _)); (fail_if_success (with_reducible show wpAny _ _ (exec (PySem.Stmt.Try _ _ _ _ _) _) _ _ _)); (fail_if_success (with_reducible show wpAny _ _ (call (Value.ref _) _) _ _ _)); keq_rows))
local macro_rules | `(tactic| walk_at "call builtin:list.clear") => `(tactic| (k_here; (with_reducible show wpAny _ _ (call (Value.builtin _) [Value.ref _]) _ _ _); k_dflt (refine' clear_led ?F ?N ?z ?U ?_; (case F => k_asm); (case N => k_asm); (case U => (intro n'; k_upd)); (case z => (simp; omega))); intro h' n' F' N'))
local macro_rules | `(tactic| walk_at "getAttr ref") => `(tactic| (k_here; (first | (with_reducible show wpAny _ _ (getAttr (Value.ref _) (PySem.Str.ofString "http_response") _) _ _ _) | (with_reducible show wpAny _ _ (getAttr (Value.ref _) (PySem.Str.ofString "https_response") _) _ _ _)); k_dflt (refine' kbm_bound ?k1 ?k2 ?k3 ?k4 ?k5 ?k6 ?k7 ?k8 ?k9 ?k10 ?k11 ?k12 ?_; (case k4 => exact InstAt.of_news (by k_asm) (by k_mem) (by k_mem)); (case k1 => k_asm); (case k2 => k_asm); (case k7 => k_is); (case k3 => k_asm); (case k5 => k_is); (case k6 => k_is); (case k8 => k_is); (case k9 => k_is); (case k10 => k_is); (case k11 => decide +kernel); (case k12 => assumption); k_whole); intro q' h' F' N' l1; (try k_lt l1)))
local macro_rules | `(tactic| ktr_unf) => `(tactic| repeat' ((fail_if_success (with_reducible show wpAny _ _ (compareOp PySem.CmpOp.NotEq (Value.ref _) (Value.ref _)) _ _ _)); (fail_if_success (with_reducible show wpAny _ _ (getAttr _ _ _) _ _ _)); (fail_if_success (with_reducible show wpAny _ _ (getMethod _ _ _) _ _ _)); (fail_if_success (with_reducible show wpAny _ _ (eval (PySem.Expr.ListComp _ _ _ _) _) _ _ _)); (fail_if_success (with_reducible show wpAny _ _ (exec (PySem.Stmt.Assign _ (PySem.Expr.ListComp _ _ _ _) _) _) _ _ _)); keq_rows))
local macro_rules | `(tactic| walk_at "compareOp NotEq str str") => `(tactic| (k_here; refine ne_same ?_))
local macro_rules | `(tactic| walk_at "compareOp Eq str str") => `(tactic| (k_here; first | refine eq_lit true (by decide) ?_ | refine eq_lit false (by decide) ?_))
local macro_rules | `(tactic| walk_at "truthy ref") => `(tactic| (k_here; k_dflt (refine' truthy_led ?k1 ?k2 ?k3 ?_; (case k1 => k_asm); (case k2 => k_mem); (case k3 => assumption))))
local macro_rules | `(tactic| walk_at "getAttr ref") => `(tactic| (k_here; k_dflt (first
  | (refine' get_sym ?k1 ?k2 ?k3 ?k4 ?k5 ?k6 ?k7 ?k8 ?k9 ?ka ?kb ?_; (case k1 => k_asm); (case k2 => k_asm); (case k3 => k_asm); (case k4 => k_mem); (case k5 => k_mem); (case k6 => assumption); (case k7 => k_is); (case k8 => k_is); (case k9 => k_is); (case ka => k_is); (case kb => first | rfl | assumption); k_whole)
  | (refine' get_symN ?k1 ?k2 ?k3 ?k4 ?k5 ?k6 ?k7 ?k8 ?k9 ?ka ?kb ?kc ?kd ?_; (case k1 => k_asm); (case k2 => k_asm); (case k3 => k_asm); (case k4 => k_mem); (case k5 => k_mem); (case k6 => assumption); (case k7 => rfl); (case k8 => k_is); (case k9 => k_is); (case ka => k_is); (case kb => decide); (case kc => first | exact name45 _ | exact name66 _); (case kd => decide); k_whole; intro h' tk' e' hx'))))
local macro_rules | `(tactic| walk_at "compareOp NotEq int int") => `(tactic| (k_here; refine ne_sameI ?_))
local macro_rules | `(tactic| walk_at "getMethod ref") => `(tactic| (k_here; (with_reducible show wpAny _ _ (getMethod (Value.ref _) (PySem.Str.ofString "info") _) _ _ _); k_dflt (refine' method_usual (r := none) ?k1 (InstAt.of_news (by k_asm) (by k_mem) (by k_mem)) ?k4 ?k5 ?k6 ?k7 ?_; (case k1 => (refine' Frag.In.keeps ?x1 (Fr.keep ?x2); (case x2 => k_asm); (case x1 => k_asm))); (case k4 => k_is); (case k5 => k_is); (case k6 => k_is); (case k7 => rfl); k_whole)))
local macro_rules | `(tactic| walk_at "exec For Name Call cons nil") => `(tactic| (k_here; (rename Fr _ _ _ _ => lF'); (with_unfolding_all refine' For_invVF lF' ?k1 ?k2 ?_; (case k1 => exact rfl); (case k2 => exact rfl); k_whole)))
local macro_rules | `(tactic| walk_at "subscriptTail") => `(tactic| (k_here; (with_reducible show wpAny _ _ (subscriptTail _ _ (Value.ref _) (Value.int ((_ : Nat) : Int) _)) _ _ _); k_dflt (first
  | (refine' item_five ?N ?m ?i ?_; (case N => k_asm); (case m => k_mem); (case i => assumption))
  | (refine kda_item (knd := PySem.intKind _ _) (by k_asm) (by k_mem) (by assumption) (intKind_is _ _ _ _) (by assumption) ?_))))
local macro_rules | `(tactic| walk_at "compareOp In int ref") => `(tactic| (k_here; k_dflt (refine kda_in (knd := PySem.intKind _ _) (by k_asm) (by k_mem) (by assumption) (by assumption) (intKind_is _ _ _ _) _ (congrArg Option.isSome (by assumption)) ?_); (try dsimp only [Option.isSome])))
local macro_rules | `(tactic| walk_at "compareOp IsNot ref ref") => `(tactic| (k_here; refine isNot_self ?_))
theorem t : PySem.Challenge.rw_dn0254_08.Holds := hd (by
  w_strict (
    k_go0
    (all_goals try k_fold)
    ktr_unf
    rename Fr _ _ _ _ => F1
    rename News _ _ _ _ => N1
    rename Top topProg _ _ _ _ _ => hTop
    rename Below _ _ _ _ => hB
    rename IntsAre _ (List.take _ _) => hI
    rename Frag.In _ _ => hX
    rename CodeHd _ 88 84 => hC8
    rename CodeHd _ 74 70 => hC7
    k_dflt (refine LCg.Assign_ListComp_U (F₀ := by k_asm) (by rfl) (by with_unfolding_all rfl) (by rfl) (by decide) (by rfl) (by decide) (by rfl) (by rfl) (by rfl) ?_)
    iterate 7 keq_rows
    rename IsRange _ _ _ _ _ _ _ _ => hr
    rename Fr _ _ _ _ => F1
    rename News _ _ _ _ => N1
    refine LCg.CompSrc.range (by rfl) F1 N1 hr (by decide) (by rfl) (by first | decide | exact Nat.le_of_ble_eq_true rfl) ?_
    intro g
    rename World => w1
    k_dflt (refine' with_def (w := w1) (f := 89) (name := "_law_stage") ?k6 ?_; (case k6 => k_is))
    intro body9 scope9 d89
    k_dflt (refine' with_def (w := w1) (f := 75) (name := "_law_page") ?k6 ?_; (case k6 => k_is))
    intro body7 scope7 d75
    refine comp_inv08 hTop _ _ body9 (compJ0 N1 ?off) ?step ?fin
    case off => refine ⟨neN ?_, neN ?_, neN ?_, neN ?_⟩ <;> (try dsimp only) <;> omega
    case step =>
      intro i ys nw hi hJ v I oI C oC D m₂ h tk E' hv hC hx F2 N2 off ne
      obtain ⟨ve, dx, tl, j1, j2, j3, j4, j5, j6, j7, j8, j9, j10, j11⟩ := hJ
      obtain ⟨ti, rfl⟩ := hv
      have hcell := j6 _ (.tail _ (j8 _ (.tail _ (.tail _ (.head _)))))
      kwd_less
      clear F1 N1 hr hI
      have o84 := (off.mem _ (j6 _ (.head _)))
      have hoff : OwnOff ((I, oI) :: (C, oC) :: (D, LCg.lst ys) :: tl) [84] := off84 o84.1 o84.2.1 o84.2.2 j7
      by_cases hi0 : i = 0
      · subst hi0
        have N3 := news_comp j6 N2
        rw [if_pos rfl] at N3
        k_dflt (refine stageA (dp := callerA.depth + 1) d89 hB F2 hX N3 hoff hTop hC8 rfl rfl ?hd ?hu ?_)
        case hd => decide
        case hu => decide
        intro h' tk' f ke oke x d fr es n oc1 oc2 oc3 dc ct F4 N4 e1 e2 e3 e4 e5 e6 e7 e8 e9 e10 e11 e12 hal
        exact comp_end (ad := [_, _, _, _, _, _, _]) F4 N4 hal (had7 e12) o84 (fun p hp => off.mem _ (j6 _ (.tail _ hp))) (CompJ.step (ad := [_, _, _, _, _, _, _]) j1 j2 j3 j4 j5 j7 j8 j9 j10 (fun q => absurd rfl q) (.tail _ (.head _)) e1 hal.2.2.2 (had7 e12) (by omega) (by omega) (.tail _ (.tail _ (.head _))) (.tail _ (.tail _ (.tail _ (.head _)))) (.head _) (.tail _ (.tail _ (.tail _ (.tail _ (.tail _ (.tail _ (.head _))))))) (.tail _ (.tail _ (.tail _ (.tail _ (.tail _ (.head _)))))) (.tail _ (.tail _ (.tail _ (.tail _ (.head _))))) (by simpa using e2) e3 e4 e5 e6 e7 e8 e9 e10 e11)
      · have N3 := news_comp j6 N2
        rw [if_neg hi0] at N3
        k_dflt (refine stageB (dp := callerA.depth + 1) d89 hB F2 hX N3 hTop hC8 rfl rfl ?hd ?hu ?_)
        case hd => decide
        case hu => decide
        intro h' tk' f x d fr es n oc1 oc2 oc3 dc ct F4 N4 e2 e3 e4 e5 e6 e7 e8 e9 e10 e11 e12 hal
        exact comp_end (ad := [_, _, _, _, _, _]) F4 N4 hal (had6 e12) o84 (fun p hp => off.mem _ (j6 _ (.tail _ hp))) (CompJ.step (ad := [_, _, _, _, _, _]) j1 j2 j3 j4 j5 j7 j8 j9 j10 (fun _ => rfl) (List.mem_append_right _ (j11 hi0).1) (j11 hi0).2 hal.2.2.2 (had6 e12) (by omega) (by omega) (.tail _ (.head _)) (.tail _ (.tail _ (.head _))) (.head _) (.tail _ (.tail _ (.tail _ (.tail _ (.tail _ (.head _)))))) (.tail _ (.tail _ (.tail _ (.tail _ (.head _))))) (.tail _ (.tail _ (.tail _ (.head _)))) (by simpa using e2) e3 e4 e5 e6 e7 e8 e9 e10 e11)
    case fin =>
      intro ys nw hJ
      obtain ⟨ve, dx, tl, j1, j2, j3, j4, j5, j6, j7, j8, j9, j10, j11⟩ := hJ
      clear F1 N1 hr
      keq_rows
      bits_by_make
      rename Fr _ _ _ _ => F1
      rename News _ _ _ _ => N1
      rename Obj.IsDictOf (PySem.intKind _ _) _ _ => hdi
      rename (_ == sysModules) = false => hlo
      rename _ ∧ AllLt _ nw => hal
      have hmA := hI.length
      have hcl := j8 _ (.tail _ (.tail _ (.head _)))
      have hsc := j8 _ (.tail _ (.head _))
      have hscn := j6 _ (.tail _ hsc)
      obtain ⟨nw', N3, hJ0⟩ := lawJ0 (fx := ⟨_, _, _, _, _, body9, scope9, body7, scope7, _, _⟩) F1 N1 rfl rfl j1 j2 j3 j4 j5 j6 j7 j8 j9 j10 j11 (by assumption) (seqL _ _) (by dsimp only; omega) (by dsimp only; omega) hal.1 hal.2 hlo hdi
      refine iter_listJ (LawJ _ _ _) rfl (News.isList N1 (.tail _ (.tail _ hscn))) (N1 _ (.tail _ (.tail _ hscn))).2.1 F1 N3 hJ0 ?turn ?done
      case turn =>
        intro I i v m₁ nw2 h tk own hv hJ hoI hown hIo hltI hlI F2 N2
        obtain ⟨mm1, mm2, ve2, dx2, odu, kvs, log, nl, tabo, ns, oc, tl2, rfl, K⟩ := hJ
        obtain ⟨n, t, rfl, hk⟩ := IntsAre.at hI i v (by simpa using hv)
        have hi24 : i < 24 := by
          have h1 := (List.getElem?_eq_some_iff.mp hv).1
          have h2 := hI.length
          rw [List.length_take] at h2
          omega
        replace F2 := fr_g2 F2 mm1 mm2
        clear F1 N1 N3 hJ0 j1 j2 j3 j4 j5 j6 j7 j8 j9 j10 j11 hcl hsc hscn hal
        simp only [ledK, List.cons_append] at N2
        have hstl := List.mem_append_left own K.stl
        have hcel := List.mem_append_left own K.cell
        have hocd := K.ocd
        have hlgl := K.lgl
        dsimp only at hstl hcel hocd
        have scr2 := K.scr
        dsimp only at scr2
        tb_rel
        · --[kind0
          rename Int.toNat _ < 5 => hm5
          rename News _ _ _ _ => N4
          rename Fr _ _ _ _ => F4
          obtain ⟨n0, f, f1, f2, f3, es, oc1, oc2, oc3, dc, ct, ti, a1, a2, a3, a4, a5, a6, b1, b2, b3, c1, c2, c3, c4, c5, c6, c7⟩ := K.st _ hm5
          have N5 := news_dx N4 a2
          skip
          have q1 := K.off _ a2
          have g1 : @Ne Nat _ _ := (q1 _ (.head _))
          have g2 : @Ne Nat _ _ := (q1 _ (.tail _ (.head _)))
          have g3 : @Ne Nat _ _ := (q1 _ (.tail _ (.tail _ (.head _))))
          have g4 := K.ne
          dsimp only at g1 g2 g3 g4
          have gI : dx2 ((n.fdiv 4).fmod 5).toNat ≠ I := hoI _ (.tail _ (.tail _ (.tail _ a2)))
          have gl : dx2 ((n.fdiv 4).fmod 5).toNat ≠ _ := ne_obj (fun p hp => N4 p (.tail _ (.tail _ (.tail _ (.tail _ (List.mem_append_left own hp)))))) a2 scr2 (fun e => by have := congrArg Obj.data e; cases this)
          have hoff5 := off_app (off_dx (d := dx2 ((n.fdiv 4).fmod 5).toNat) K.off) (own_ne (bs := _ :: _) hown (by
            intro b hb
            simp only [List.mem_cons, List.mem_nil_iff, or_false] at hb
            rcases hb with rfl | rfl | rfl | rfl
            · exact ⟨gI, gl⟩
            · exact ⟨hoI _ (.head _), (K.off _ K.scr _ (.head _)).symm⟩
            · exact ⟨hoI _ (.tail _ (.head _)), (K.off _ K.scr _ (.tail _ (.head _))).symm⟩
            · exact ⟨hoI _ (.tail _ (.tail _ (.head _))), (K.off _ K.scr _ (.tail _ (.tail _ (.head _)))).symm⟩))
          dsimp only at hoff5
          have x1 := List.mem_append_left own (mem_off.mpr ⟨a1, ne_obj (fun p hp => N4 p (.tail _ (.tail _ (.tail _ (.tail _ (List.mem_append_left own hp)))))) a1 a2 (fun e => by have := congrArg Obj.data e; cases this)⟩)
          have x2 := List.mem_append_left own (mem_off.mpr ⟨K.stl, ne_obj (fun p hp => N4 p (.tail _ (.tail _ (.tail _ (.tail _ (List.mem_append_left own hp)))))) K.stl a2 (fun e => by have := congrArg Obj.data e; cases this)⟩)
          have Nt := fun (p : Addr × Obj) (hp : p ∈ tl2) => N4 p (.tail _ (.tail _ (.tail _ (.tail _ (List.mem_append_left own hp)))))
          have hdi2 := K.dict
          have hkl2 := K.kl
          dsimp only at x2
          clear N4 hstl hcel scr2
          kwd_less
          dsimp only
          rename News _ _ _ _ => N8
          rename Fr _ _ _ _ => F8
          rename Obj.IsDictOf _ _ (stored _ _ _) => hd8
          rename getL "parent" _ = some (some _) => hp8
          rename Others _ _ _ => ho8
          rename List.length _ ≤ List.length _ + 1 => hl8
          rename Int.toNat _ < 5 => hm6
          rw [(Int.toNat_of_nonneg (Int.fmod_nonneg_of_pos (n.fdiv 4) (show (0 : Int) < 5 by decide))).symm, (Int.toNat_of_nonneg (Int.fmod_nonneg_of_pos ((n.fdiv 4).fdiv 5) (show (0 : Int) < 5 by decide))).symm] at hd8
          have KS := fun n' => K.set (n' := n') Nt hm5 hm6 a2 hd8 hp8 ho8 hl8
          have N9 := news_dx2 N8
          clear N8 Nt
          refine lawJ_end F8 N9 rfl rfl (KS _) ⟨hoI _ (.head _), hoI _ (.tail _ (.head _)), hoI _ (.tail _ (.tail _ (.head _)))⟩ (fun p hp => by
            rcases List.mem_cons.mp hp with rfl | hp
            · exact gI
            · exact hoI p (.tail _ (.tail _ (.tail _ (mem_off.mp hp).1))))
          --]kind0
        · --[kind1
          rename Int.toNat _ < 5 => hm5
          rename News _ _ _ _ => N4
          obtain ⟨n0, f, f1, f2, f3, es, oc1, oc2, oc3, dc, ct, ti, a1, a2, a3, a4, a5, a6, b1, b2, b3, c1, c2, c3, c4, c5, c6, c7⟩ := K.st _ hm5
          have x1 := List.mem_append_left own a1
          have x2 := List.mem_append_left own a2
          kwd_less
          dsimp only
          rename News _ _ _ _ => N8
          rename Fr _ _ _ _ => F8
          exact lawJ_end F8 (news_tl N8) rfl rfl (K.step (by omega)) ⟨hoI _ (.head _), hoI _ (.tail _ (.head _)), hoI _ (.tail _ (.tail _ (.head _)))⟩ (fun p hp => hoI p (.tail _ (.tail _ (.tail _ hp))))
          --]kind1
        · --[kind2
          rename Int.toNat _ < 5 => hm5
          rename News _ _ _ _ => N4
          rename Fr _ _ _ _ => F4
          obtain ⟨n0, f, f1, f2, f3, es, oc1, oc2, oc3, dc, ct, ti, a1, a2, a3, a4, a5, a6, b1, b2, b3, c1, c2, c3, c4, c5, c6, c7⟩ := K.st _ hm5
          have x1 := List.mem_append_left own a1
          have x2 := List.mem_append_left own a2
          have g4 := K.ne
          dsimp only at g4
          have hoff := off_app K.off (own_ne (bs := _ :: _) hown (by
            intro b hb
            simp only [List.mem_cons, List.mem_nil_iff, or_false] at hb
            rcases hb with rfl | rfl | rfl
            · exact ⟨hoI _ (.head _), (K.off _ K.scr _ (.head _)).symm⟩
            · exact ⟨hoI _ (.tail _ (.head _)), (K.off _ K.scr _ (.tail _ (.head _))).symm⟩
            · exact ⟨hoI _ (.tail _ (.tail _ (.head _))), (K.off _ K.scr _ (.tail _ (.tail _ (.head _)))).symm⟩))
          dsimp only at hoff
          have N5 := news_tl N4
          clear N4
          ksw_less
          rename News _ _ _ _ => N6
          rename Fr _ _ _ _ => F6
          rename _ ∧ _ ∧ _ ∧ AllLt _ _ => l6
          have hd70 := hoff
          k_dflt (refine page08 (dp := callerA.depth + 1) 0 d75 hB F6 hX (news_70 N6) (off_70 (neN (by omega)) (neN (by omega)) (neN (by omega)) hoff (.tail _ (.head _))) hTop hC7 rfl rfl ?hd ?hu (K.tab.imp id (fun q => ⟨_, _, q.1, q.2.1, q.2.2⟩)) ?_)
          case hd => decide
          case hu => decide
          intro h' tk' pg kl okl ad cf F7 N7 e1 e2 e3 e4 e5 e6
          obtain ⟨TT, N8, hoT, hrT, haT, hhT, hdT⟩ := run_led N7 e3 e4 e5 (neN (by omega)) (neN (by omega)) (neN (by omega)) (neN (by omega)) (neN (by omega)) hoff (.head _) (.tail _ (.head _))
          clear N7 N6
          have y1 := hrT _ x1
          have y2 := hrT _ x2
          ksw_less
          rename Fr _ _ _ _ => F9
          rename News _ _ _ _ => N8
          refine cutS (xi := ve2.xs ((n.fdiv 4).fmod 5).toNat) F9 N8 hoT ?send ?rest
          case send =>
            keq_rows
            ksw_less
            all_goals (
              rename News _ _ _ _ => Nq
              rename Fr _ _ _ _ => Fq
              rename _ ∧ _ ∧ AllLt _ _ => lq
              exact ⟨rfl, _, _, _, rfl, Fq, Nq, Nat.ne_of_gt lq.1, Nat.ne_of_gt lq.2.1⟩)
          case rest =>
            intro h9 tk9 q F0 N0 nq1 nq2
            clear F9
            ksw_less
            refine cutT K okl (r := go08 ve2.up 4 ((n.fdiv 4).fmod 5).toNat (100 + ((n.fdiv 4).fdiv 5).fmod 300) []) (pg := pg) F0 N0 ?tr ?rest2
            case tr =>
              refine wpAny_Try_except ?_
              ksw_less
              rename News _ _ _ _ => Nc
              rename Fr _ _ _ _ => Fc
              rename _ ∧ _ ∧ _ ∧ AllLt _ TT => lrq
              refine call_meth Nc (.tail _ (.head _)) ?_
              k_dflt (refine runX (dp := callerA.depth + 1) (c := 100 + ((n.fdiv 4).fdiv 5).fmod 300) (ds := []) (es := []) (log := []) (K.fix (kl := kl) (okl := okl) hX hTop hC7 d89 d75 rfl e1 _) hB Fc (run_mem Nc) (K.led ?sub ?off ?hkl) rfl rfl ?d ?u rfl hm5 ?pg (Nat.le_refl _) (fun _ h => nomatch h) .nil ⟨?page, ?none, ?attr⟩)
              case sub => exact fun p hp => .tail _ (.tail _ (hrT _ (List.mem_append_left own hp)))
              case off => exact off_xq hoT (Nat.ne_of_gt lrq.2.1) (Nat.ne_of_gt lrq.2.2.1) nq1 nq2
              case hkl => exact .tail _ (.tail _ ((List.mem_append.mp e2).elim (haT _) (fun h => hrT _ (List.mem_append_left own h))))
              case d => decide
              case u => decide
              case pg => exact (e6 _ rfl rfl rfl).mono (fun p hp => .tail _ (.tail _ ((List.mem_append.mp hp).elim (haT _) (fun h => by rw [List.mem_singleton.mp h]; exact hhT))))
              case page =>
                intro h' tk' log' nl' own' pg' F N o a e pp ip
                clear Nc Fc
                ksw_less
                keq_rows
                ksw_less
                rename News _ _ _ _ => Ne
                rename Fr _ _ _ _ => Fe
                exact midT_page Ne o a e pp ip Fe
              case none =>
                intro h' tk' log' nl' own' F N o a e
                clear Nc Fc
                ksw_less
                keq_rows
                ksw_less
                rename News _ _ _ _ => Ne
                rename Fr _ _ _ _ => Fe
                exact midT_none Ne o a e (fun q => nomatch q) rfl Fe
              case attr =>
                intro h' tk' x G log' nl' own' FG R U o a e
                clear Nc Fc
                refine heldC_first R hB U rfl ?_
                intro h5 H5
                refine heldC_take H5 FG hB hX hTop (fun _ h => nomatch h) rfl rfl rfl ?zex ?zhv ?zhn isExc_AttributeError notTuple_AttributeError ?zhs rfl ?zhx ?zhd ?zhE ?zk
                case zex => k_is
                case zhv => exact PyProof.Rows.Boot.«AttributeError»
                case zhn => decide
                case zhs => rw [isSubtype_type]; kernel_rfl
                case zhx => rfl
                case zhd => decide
                case zhE => passes_own
                case zk =>
                  intro h6 g6 T6 F6 N6 B6 X6 TT6 D6
                  replace F6 := turn_nil T6 F6
                  replace N6 := turn_nil_news T6 N6
                  clear B6 X6 TT6 D6 T6
                  ksw_less
                  rename News _ _ _ _ => Ne
                  rename Fr _ _ _ _ => Fe
                  exact midT_none Ne o a e (fun q => nomatch q) rfl Fe
            case rest2 =>
              --[rest
              intro h8 tk8 g te log' nl' own' rq t0 nq F8 N8' o8 a8 g8 m8
              have hdu := List.mem_append_right own' hdT
              have hz5 := Int.fmod_nonneg_of_pos (n.fdiv 4) (show (0 : Int) < 5 by decide)
              dsimp only
              ksw_less
              rename Fr _ _ _ _ => F8
              k_dflt (refine walkZ (dp := callerA.depth + 1) hB F8 hX hTop N8' (.tail _ (.tail _ hdu)) K.dict K.lo K.up hz5 hm5 rfl rfl ?rd ?ru ?_)
              case rd => decide
              case ru => decide
              intro h7 tk7 T7 td vs7 nt rest7 t1 t2 t3 F9 N9 sub9 all9
              have hcel9 := sub9 _ (.tail _ (.tail _ (List.mem_append_right own' (hrT _ hcel))))
              have e9 : ∃ r, r = go08 ve2.up 4 ((n.fdiv 4).fmod 5).toNat (100 + ((n.fdiv 4).fdiv 5).fmod 300) [] := ⟨_, rfl⟩
              obtain ⟨r9, e9⟩ := e9
              rw [← e9] at a8 g8 F9 N9 all9
              obtain ⟨es9, en9, last9, ds9⟩ := r9
              dsimp only at a8 g8 F9 N9 all9
              clear F8 N8'
              cases en9
              all_goals dsimp only [endS] at F9 N9
              case page =>
                --[page
                obtain ⟨pg', rfl, hp9, ip9⟩ := g8
                dsimp only at hp9 ip9
                obtain ⟨dp9, n9, fl9, cf9, hd9, nh9, ep9, ocf9, ct9, tc9, tw9, hv9, p1, p2, p3, p4, q1, q2, q3, q4, p5, q5⟩ := hp9
                have up9 : ∀ {p : Addr × Obj}, p ∈ own' ++ TT → p ∈ rest7 := fun hp => sub9 _ (.tail _ (.tail _ hp))
                replace p1 := up9 p1
                replace p2 := up9 p2
                replace p3 := up9 p3
                replace p4 := up9 p4
                replace p5 := up9 p5
                have hl9 := go08_len ve2.up 4 ((n.fdiv 4).fmod 5).toNat (100 + ((n.fdiv 4).fdiv 5).fmod 300) []
                rw [← e9] at hl9
                dsimp only at hl9
                have hv7 : vs7.length ≤ 2 ^ 20 := by rw [all9.len]; omega
                ktr_unf
                rename News _ _ _ _ => N10
                refine cmp_ne_list (vs := log') (us := vs7) (isList_led N10 (.tail _ (.tail _ (sub9 _ (.head _))))) (isList_led N10 (.tail _ (.head _))) ?_ (eqs_log N10 (fun p hp => .tail _ (.tail _ (sub9 _ (.tail _ (.tail _ hp))))) (fun p hp => .tail _ (.tail _ hp)) ?_ (.tail _ (.tail _ (sub9 _ (.tail _ (.tail _ m8))))) a8 all9) ?_
                · exact Nat.le_of_ble_eq_true rfl
                · exact Nat.le_of_ble_eq_true rfl
                have hemp : vs7.isEmpty = true → pg' = pg := fun h => ip9 (by
                  have h2 := all9.len
                  have h3 : vs7 = [] := by simpa using h
                  rw [h3] at h2
                  exact List.length_eq_zero_iff.mp h2.symm)
                iterate 22 (all_goals (try ((fail_if_success (with_reducible show wpAny _ _ (exec (PySem.Stmt.If (PySem.Expr.BoolOp PySem.BoolOp.And _ _) _ _ _) _) _ _ _)); (fail_if_success (with_reducible show wpAny _ _ (getAttr _ _ _) _ _ _)); keq_rows)))
                refine cutI ?pcut ?pnext
                case pcut =>
                  cases he : vs7.isEmpty
                  · iterate 20 (all_goals (try ((fail_if_success (with_reducible show wpAny _ _ (compareOp PySem.CmpOp.IsNot (Value.ref _) (Value.ref _)) _ _ _)); (fail_if_success (with_reducible show wpAny _ _ (getAttr _ _ _) _ _ _)); keq_rows)))
                  · obtain rfl := hemp he
                    iterate 20 (all_goals (try ((fail_if_success (with_reducible show wpAny _ _ (compareOp PySem.CmpOp.IsNot (Value.ref _) (Value.ref _)) _ _ _)); (fail_if_success (with_reducible show wpAny _ _ (getAttr _ _ _) _ _ _)); keq_rows)))
                    refine isNot_self ?_
                    iterate 20 (all_goals (try ((fail_if_success (with_reducible show wpAny _ _ (compareOp PySem.CmpOp.IsNot (Value.ref _) (Value.ref _)) _ _ _)); (fail_if_success (with_reducible show wpAny _ _ (getAttr _ _ _) _ _ _)); keq_rows)))
                case pnext =>
                  intro tk11
                  dsimp only
                  obtain ⟨ocd75, od75, params75, dV75, kV75, doc75, pm75, cdv75, ct75, an75, osl75, hbody75⟩ := d75
                  k_dflt (refine' lookup_same hbody75 ?k6 ?_; (case k6 => k_is))
                  intro hbe hse
                  dsimp only [runV] at p3
                  rw [hbe] at p3
                  dsimp only [lamAt, List.getElem?_cons_zero, List.getElem?_cons_succ] at p3
                  clear hbody75 hbe hse
                  have hkl9 : (kl, okl) ∈ rest7 := up9 (List.mem_append_right own' ((List.mem_append.mp e2).elim (haT _) (fun h => hrT _ (List.mem_append_left own h))))
                  obtain ⟨vk9, tk9, dk1, dk2⟩ := id e1
                  iterate 40 (all_goals (try ((fail_if_success (with_reducible show wpAny _ _ (getMethod _ _ _) _ _ _)); keq_rows)))
                  iterate 16 (all_goals (try ((fail_if_success (with_reducible show wpAny _ _ (eval (PySem.Expr.ListComp _ _ _ _) _) _ _ _)); keq_rows)))
                  have dig9 := go08_dig K.upl 4 ((n.fdiv 4).fmod 5).toNat (100 + ((n.fdiv 4).fdiv 5).fmod 300) [] (fun _ h => nomatch h)
                  rw [← e9] at dig9
                  dsimp only at dig9
                  rename News _ _ _ _ => N12
                  rename Fr _ _ _ _ => F12
                  k_dflt (refine ListComp_rowsP ?f1 ?f2 ?f3 ?f4 ?f5 ?_; (case f1 => decide); (case f2 => decide); (case f3 => rfl); (case f4 => decide); (case f5 => rfl))
                  walk1
                  refine iter_digits dig9.1 (Nat.le_trans dig9.2 (by decide)) rfl F12 N12 ?dgt ?dend
                  case dgt =>
                    intro C jd ud s₂ m₂ E' hj hn hm ht F3
                    clear F12 N12
                    have hj5 : jd = 0 ∨ jd = 1 ∨ jd = 2 ∨ jd = 3 ∨ jd = 4 := by omega
                    rcases hj5 with rfl | rfl | rfl | rfl | rfl
                    · rw [show dg 0 = ("0" : Str) by decide] at hm
                      refine wpAny_leafK ?_
                      walk1
                      walk1
                      k_dflt (refine' nameC_B F3 ?k1 ?k2 ?k3 ?k4 (by decide) ?_ (by rfl) (by rfl) (by decide); (case k1 => k_asm); (case k2 => k_asm); (case k3 => k_is); (case k4 => boot_fast))
                      kwd_less
                    · rw [show dg 1 = ("1" : Str) by decide] at hm
                      refine wpAny_leafK ?_
                      walk1
                      walk1
                      k_dflt (refine' nameC_B F3 ?k1 ?k2 ?k3 ?k4 (by decide) ?_ (by rfl) (by rfl) (by decide); (case k1 => k_asm); (case k2 => k_asm); (case k3 => k_is); (case k4 => boot_fast))
                      kwd_less
                    · rw [show dg 2 = ("2" : Str) by decide] at hm
                      refine wpAny_leafK ?_
                      walk1
                      walk1
                      k_dflt (refine' nameC_B F3 ?k1 ?k2 ?k3 ?k4 (by decide) ?_ (by rfl) (by rfl) (by decide); (case k1 => k_asm); (case k2 => k_asm); (case k3 => k_is); (case k4 => boot_fast))
                      kwd_less
                    · rw [show dg 3 = ("3" : Str) by decide] at hm
                      refine wpAny_leafK ?_
                      walk1
                      walk1
                      k_dflt (refine' nameC_B F3 ?k1 ?k2 ?k3 ?k4 (by decide) ?_ (by rfl) (by rfl) (by decide); (case k1 => k_asm); (case k2 => k_asm); (case k3 => k_is); (case k4 => boot_fast))
                      kwd_less
                    · rw [show dg 4 = ("4" : Str) by decide] at hm
                      refine wpAny_leafK ?_
                      walk1
                      walk1
                      k_dflt (refine' nameC_B F3 ?k1 ?k2 ?k3 ?k4 (by decide) ?_ (by rfl) (by rfl) (by decide); (case k1 => k_asm); (case k2 => k_asm); (case k3 => k_is); (case k4 => boot_fast))
                      kwd_less
                  case dend =>
                    intro D ys ny h8 tk8 F8 N8 off8 ys8
                    clear F12 N12
                    refine cmp_ne_list (vs := hv9) (us := ys) (isList_led N8 (.tail _ (.tail _ (.tail _ p5)))) (isList_led N8 (.head _)) ?_ (eqs_ints q5 ys8) ?_
                    · exact Nat.le_of_ble_eq_true rfl
                    iterate 12 (try keq_rows)
                    dsimp only [PostJ]
                    rename News _ _ _ _ => N11
                    rename Fr _ _ _ _ => F11
                    rw [← a8.len] at hl9
                    obtain ⟨oI, hIo'⟩ := hIo
                    exact lawJ_end (tl := (kl, okl) :: tl2) F11 (news_last (news_tl N11) sub9 hdT ((List.mem_append.mp e2).elim (haT _) (fun h => hrT _ (List.mem_append_left own h))) hrT) rfl rfl (K.tab2 e2 e1 e4 e3.2.1 e5 e3.2.2.1 (by omega)) ⟨hoI _ (.head _), hoI _ (.tail _ (.head _)), hoI _ (.tail _ (.tail _ (.head _)))⟩ (kl_ne e2 e4 (allLt_in e3 (.tail _ (.tail _ (.tail _ (List.mem_append_right _ hIo'))))) (fun p hp => hoI p (.tail _ (.tail _ (.tail _ hp)))))
                --]page
              all_goals ktr_unf
              all_goals (
                rename News _ _ _ _ => N10
                refine cmp_ne_list (vs := log') (us := vs7) (isList_led N10 (.tail _ (.tail _ (sub9 _ (.head _))))) (isList_led N10 (.tail _ (.head _))) ?_ (eqs_log N10 (fun p hp => .tail _ (.tail _ (sub9 _ (.tail _ (.tail _ hp))))) (fun p hp => .tail _ (.tail _ hp)) ?_ (.tail _ (.tail _ (sub9 _ (.tail _ (.tail _ m8))))) a8 all9) ?_
                · exact Nat.le_of_ble_eq_true rfl
                · exact Nat.le_of_ble_eq_true rfl
                ktr_unf)
              all_goals (
                dsimp only [PostJ]
                rename News _ _ _ _ => N11
                rename Fr _ _ _ _ => F11
                have hl9 := go08_len ve2.up 4 ((n.fdiv 4).fmod 5).toNat (100 + ((n.fdiv 4).fdiv 5).fmod 300) []
                rw [← e9, ← a8.len] at hl9
                obtain ⟨oI, hIo'⟩ := hIo
                exact lawJ_end (tl := (kl, okl) :: tl2) F11 (news_last N11 sub9 hdT ((List.mem_append.mp e2).elim (haT _) (fun h => hrT _ (List.mem_append_left own h))) hrT) rfl rfl (K.tab2 e2 e1 e4 e3.2.1 e5 e3.2.2.1 (by omega)) ⟨hoI _ (.head _), hoI _ (.tail _ (.head _)), hoI _ (.tail _ (.tail _ (.head _)))⟩ (kl_ne e2 e4 (allLt_in e3 (.tail _ (.tail _ (.tail _ (List.mem_append_right _ hIo'))))) (fun p hp => hoI p (.tail _ (.tail _ (.tail _ hp))))))
              --]rest
          --]kind2
      case done =>
        --[done
        intro m₁ nw2 h tk hJ F2 N2
        obtain ⟨mm1, mm2, ve2, dx2, odu, kvs, log, nl, tabo, ns, oc, tl2, rfl, K⟩ := hJ
        replace F2 := fr_f2 F2 mm1 mm2
        clear F1 N1 N3 hJ0 j1 j2 j3 j4 j5 j6 j7 j8 j9 j10 j11 hcl hsc hscn hal
        simp only [ledK] at N2
        have hstl := K.stl
        dsimp only at hstl
        dsimp only
        iterate 14 (try ((fail_if_success (with_reducible show wpAny _ _ (pyIter _) _ _ _)); keq_rows))
        rename Fr _ _ _ _ => F3
        rename News _ _ _ _ => N3
        rename IsRange _ _ _ _ _ _ _ _ => hr3
        refine iter_rangeJ (n := 5) (fun _ m nw => nw = _ ∧ m "stages" = some (.ref _) ∧ m "up" = some (.ref _)) rfl hr3 (small_range (by decide) (by decide) (by decide) (by decide)) (by decide) F3 N3 ⟨rfl, rfl, rfl⟩ ?turn2 ?done2
        case turn2 =>
          intro I i ti m₁ nw₁ h tk own hi hj hoI hown hIo hltI F4 N4
          obtain ⟨e1, m1, m2⟩ := hj
          subst e1
          replace F4 := fr_g2 F4 m1 m2
          rw [Int.zero_add] at F4
          obtain ⟨n0, f, f1, f2, f3, es, oc1, oc2, oc3, dc, ct, ti2, a1, a2, a3, a4, a5, a6, b1, b2, b3, c1, c2, c3, c4, c5, c6, c7⟩ := K.st i hi
          have hu0 := K.up i hi
          simp only [List.cons_append] at N4
          have x1 := List.mem_append_left own a1
          have x2 := List.mem_append_left own a2
          have x3 := List.mem_append_left own hstl
          have hdi2 := K.dict
          have hlo2 := K.lo
          dsimp only at hlo2
          clear F3 N3 hr3
          cases hq : ve2.up i with
          | none =>
            rw [hq] at hu0 c3
            have c3' : getL "parent" es = some none := c3
            have hu1 : valueAt kvs (i : Int) = none := hu0
            clear hu0 c3
            iterate 14 (try ((fail_if_success (with_reducible show wpAny _ _ (call (Value.builtin "hasattr") _) _ _ _)); keq_rows))
            have X0 := hX.keeps F4.keep
            refine hasattr_no (K := Mine.hd.heap_39 w1.params) rfl F4 (by k_asm) (InstAt.of_news N4 (.tail _ (.tail _ (.tail _ x1))) (.tail _ (.tail _ (.tail _ x2)))) ?q1 ?q2 ?q3 ?q4 ?q5 (name66 _) ?q7 c3' ?q8
            case q1 => k_is
            case q2 => k_is
            case q3 => k_is
            case q4 => k_is
            case q5 => decide
            case q7 => decide
            case q8 =>
              intro h6 tk6 hk6
              replace F4 := F4.keeps hk6
              replace N4 := N4.grown hk6
              iterate 70 (try keq_rows)
              dsimp only [PostJ]
              rename Fr _ _ _ _ => F5
              rename News _ _ _ _ => N5
              exact ⟨_, _, _, _, rfl, F5, N5, hoI, rfl, rfl, rfl⟩
          | some j =>
            rw [hq] at hu0 c3
            have c3' : getL "parent" es = some (some (.ref (ve2.xs j))) := c3
            obtain ⟨hj5, tj, hu1⟩ := (show j < 5 ∧ ∃ t, valueAt kvs (i : Int) = some (.int (j : Int) t) from hu0)
            clear hu0 c3
            iterate 14 (try ((fail_if_success (with_reducible show wpAny _ _ (call (Value.builtin "hasattr") _) _ _ _)); keq_rows))
            have X0 := hX.keeps F4.keep
            refine hasattr_yes (K := Mine.hd.heap_39 w1.params) F4 (by k_asm) (InstAt.of_news N4 (.tail _ (.tail _ (.tail _ x1))) (.tail _ (.tail _ (.tail _ x2)))) ?q1 ?q2 (findObj_own (attr := none) ?q3 ?q4 ?q5 c3') rfl ?q8
            case q1 => k_is
            case q2 => k_is
            case q3 => k_is
            case q4 => k_is
            case q5 => k_is
            case q8 =>
              iterate 70 (try keq_rows)
              dsimp only [PostJ]
              rename Fr _ _ _ _ => F5
              rename News _ _ _ _ => N5
              exact ⟨_, _, _, _, rfl, F5, N5, hoI, rfl, rfl, rfl⟩
        case done2 =>
          intro m₁ nw₁ h tk hj F4 N4
          obtain ⟨e1, m1, m2⟩ := hj
          subst e1
          clear F3 N3 hr3
          dsimp only
          iterate 14 (try keq_rows)
          · dsimp only
            refine goodW_bool F4 (by dsimp only; assumption) (raisesW_false ?_) ?_
            · wrow_none_raised
            · exact post_true _
          · exact ⟨GrownAt.of N4 (.tail _ (.tail _ (.tail _ K.t84))), GrownAt.of N4 (.tail _ (.head _)), trivial⟩
        --]done
        ))
end Mine


theorem PySem.Challenge.cw_dn0254_08_holds : PySem.Challenge.rw_dn0254_08.Holds :=
  Mine.t
