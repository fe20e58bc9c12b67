import PyProof.Rows.All
import Wide.All
import OpenK.AllK
import Wide.FinOn
import PySem.Challenge.RW_dn0254_03
open PySem PySem.W PyProof.Rows PySem.Calls
set_option Elab.async false
set_option maxRecDepth 100000
namespace Mine
set_option maxHeartbeats 8000000
open_top hd for PySem.Challenge.rw_dn0254_03
end Mine
set_option maxHeartbeats 8000000

namespace Mine
theorem entry_hasattr : entryFor table "hasattr" = some Builtin.«hasattr» := entryFor_of_tree (by kernel_rfl)
theorem kind_hasattr : builtinKind "hasattr" = none := by decide +kernel
theorem plain_hasattr : plainId "hasattr" = true := by decide +kernel
theorem args_hasattr2 (a b : Value) : argsOk "hasattr" ⟨[a, b], []⟩ := by unfold argsOk; kernel_rfl

section
variable {prog : Program} {w : World} {A : Around} {E : Value → Shared → Prop} {s : Shared} {K : Frag} {x C L f : Addr} {h₀ : Heap} {m : Str → Option Value} {ox : Obj} {od : Option Obj}
theorem getBy_open {expr fill : Bool} {Q : Value → Shared → Prop} {name : Str} {tk : Tok} (X : K.In s.heap) (I : W.InstAt s.heap x ox C od) (hga : findIn K (.ref C) "__getattribute__" = some (some (.builtin "object.__getattribute__")))
    (h : wpAny (model prog w) A.in1 (Builtin.«proto.getattr_hooked» ⟨[.ref x, .str name tk], []⟩)
      (fun fin s' => match fin with | .done (.ret v) => wpAny (model prog w) A (handedOut v) Q E s' | _ => False) (fun e s' => wpAny (model prog w) A (noteIf fill (.ref x) (.str name tk) e) (fun _ s'' => E e s'') E s') s) :
    wpAny (model prog w) A (getAttrBy (.ref x) (.str name tk) fill expr) Q E s := by
  obtain ⟨hh, g, d, t, os⟩ := s
  have L0 := I.type (M := model prog w)
  have L1 := looks_findIn (M := model prog w) X hga
  unfold getAttrBy
  refine wpAny_holding (wpAny_bind (L0.at (wpAny_bind (L1.at ?_))))
  show wpAny _ _ (getAttrEveryday _ _ _) _ _ _
  refine wpAny_bind (wpAny_onRaise (wpAny_runValue (codeAny_builtin F.plainObj_entry_getattr_hooked (wpAny_mono h (fun fin s' z => ?_) fun _ _ z => z))))
  rcases fin with (_ | _ | _ | _) | _ <;> first | exact z | exact z.elim
theorem getBy_value {expr fill : Bool} {Q : Value → Shared → Prop} {name : Str} {tk : Tok} {v : Value} (X : K.In s.heap) (I : W.InstAt s.heap x ox C od) (hga : findIn K (.ref C) "__getattribute__" = some (some (.builtin "object.__getattribute__")))
    (hf : findObj K C od name = some (.value v)) (hh : handedIn v = true) (h : Q v s) : wpAny (model prog w) A (getAttrBy (.ref x) (.str name tk) fill expr) Q E s := by
  refine getBy_open X I hga ?_
  obtain ⟨hh', g, d, t, os⟩ := s
  have L0 := I.type (M := model prog w)
  have L1 := looks_find (M := model prog w) X I hf
  refine wpAny_bind (wpAny_pure (wpAny_bind (L0.at (wpAny_bind (L1.at ?_)))))
  refine wpAny_pure ?_
  show wpAny _ _ (handedOut v) _ _ _
  rw [handedOut_of hh]; exact wpAny_pure h
theorem hasattr_yes {Q : Value → Shared → Prop} {name : Str} {v : Value} {tk : Tok} (F : Fr h₀ L s.heap m) (X₀ : K.In h₀) (I : InstAt s.heap x ox C od)
    (hga : findIn K (.ref C) "__getattribute__" = some (some (.builtin "object.__getattribute__"))) (hmod : mroIn K C (.type "module") = some false)
    (hf : findObj K C od name = some (.value v)) (hh : handedIn v = true)
    (h : Q (.bool true) s) : wpAny (model prog w) A (call (.builtin "hasattr") [.ref x, .str name tk]) Q E s := by
  refine Calls.call_function_entry kind_hasattr plain_hasattr entry_hasattr (args_hasattr2 _ _) ?_
  have X := X₀.keeps F.keep
  obtain ⟨hh', g, d, t, os⟩ := s
  have L0 := I.type (M := model prog w)
  have L1 := looks_findIn (M := model prog w) X hga
  have L2 := looks_find (M := model prog w) X I hf
  have L3 := looks_mroIn (M := model prog w) X hmod
  unfold Builtin.«hasattr»
  refine wpAny_bind (m := someArgs "hasattr" 2 2 _) (wpAny_pure ?_)
  dsimp only
  refine wpAny_bind (wpAny_bind (wpAny_pure ?_))
  show wpAny _ _ (pure _) _ _ _
  refine wpAny_pure ?_
  show wpAny _ _ (do
    let y ← typeOf (Value.ref x)
    _) _ _ _
  refine wpAny_bind (L0.at ?_)
  dsimp only
  refine wpAny_bind ?_
  repeat ((fail_if_success (with_reducible show wpAny _ _ (getAttrBy? _ _) _ _ _)); lk)
  refine wpAny_bind (wpAny_attempt (getBy_value X I hga hf hh ?_))
  refine wpAny_pure ?_
  show wpAny _ _ (ret (Value.bool true)) _ _ _
  exact wpAny_pure ⟨_, rfl, h⟩
/-- object's own __gt__ declines -/
theorem gt_declined {Q : Option Value → Shared → Prop} {b : Value} (X : K.In s.heap) (I : W.InstAt s.heap x ox C od) (hg : findIn K (.ref C) "__gt__" = some (some (.builtin "object.__gt__"))) (hm : mroIn K C (.type "object") = some true)
    (h : Q none s) : wpAny (model prog w) A (tryCompare (.ref x) "__gt__" b) Q E s := by
  unfold tryCompare
  simp only [callSpecialIfBound?, bindSpecialIfBound?]
  refine wpAny_bind (wpAny_holding (wpAny_bind (wpAny_bind (wpAny_bind (I.type.here ((looks_findIn X hg).here ?_))))))
  refine wpAny_bind (wpAny_askSetting (wpAny_ite ?_))
  have fin : wpAny (model prog w) A (call (.builtin "object.__gt__") ([.ref x] ++ [b]) >>= fun v => pure (some v)) (fun a s' => wpAny (model prog w) A (match a with | some Value.notImplemented => pure none | none => pure none | some v => pure (some v)) Q E s') E s := by
    refine wpAny_bind (wpAny_call (codeAny_call_builtin F.slot_object_gt.plain F.entry_object_gt (check_slot (i := "object.__gt__") (owner := "object") (n := "__gt__") (by decide +kernel) (by decide +kernel) (I.type.andThen (looks_mroIn X hm)) (F.args_object_gt_2 _ _) ?_)))
    unfold Builtin.«object.__gt__»
    show wpAny _ _ (do let _ ← slotArgs "__gt__" 1 _; ret .notImplemented) _ _ _
    refine wpAny_bind (m := slotArgs "__gt__" 1 _) (wpAny_pure ?_)
    refine wpAny_pure ?_
    exact wpAny_pure (wpAny_pure h)
  split
  · exact wpAny_bind ((Looks.of_pure (F.slot_object_gt.bind _)).here (wpAny_pure (by exact fin)))
  · exact wpAny_tryCatch (wpAny_bind ((Looks.of_pure (F.slot_object_gt.bind _)).here (wpAny_pure (by exact fin))))
/-- a thing of an own class at the left of <, any at the right whose class's own __gt__ is object's where it is asked first -/
theorem lt_inst {Q : Value → Shared → Prop} {b tb : Value} (hu : A.units < cLine) (F : Fr h₀ L s.heap m) (X₀ : K.In h₀) (I : W.InstAt s.heap x ox C od) (hb : Looks (model prog w) s.heap (typeOf b) tb)
    (hn : tb = .ref C ∨ subIn K tb (.ref C) = some false ∨ ∃ y oy D dy, b = .ref y ∧ tb = .ref D ∧ W.InstAt s.heap y oy D dy ∧ findIn K (.ref D) "__gt__" = some (some (.builtin "object.__gt__")) ∧ mroIn K D (.type "object") = some true ∧ mroIn K D (.ref C) = some true)
    (hs : findIn K (.ref C) "__lt__" = some (some (.ref f))) (hf : isFn K (.ref f) = true)
    (h : wpAny (model prog w) A (call (.ref f) [.ref x, b]) (W.CmpBack Q) E s) : wpAny (model prog w) A (richCompare .Lt (.ref x) b) Q E s := by
  have X := X₀.keeps F.keep
  have one : wpAny (model prog w) A (tryCompare (.ref x) "__lt__" b) (fun r s' => ∃ v, r = some v ∧ Q v s') E s := by
    unfold tryCompare
    refine wpAny_bind (ifBound_K X I hs hf (wpAny_mono h (fun v s' hv => ?_) fun _ _ e => e))
    cases v <;> first | exact hv.elim | exact wpAny_pure ⟨_, rfl, hv⟩
  rcases hn with hn | hn
  · exact cmp_K hu F X₀ I hb (by rw [hn]; simp [notFirst]) hs hf h
  rcases hn with hn | ⟨y, oy, D, dy, rfl, rfl, J, hg, hm, hsub⟩
  · exact cmp_K hu F X₀ I hb (by simp [notFirst, hn]) hs hf h
  unfold richCompare
  simp only [oneThing_ref]
  refine wpAny_holding (wpAny_bind (wpAny_cRoomFor hu ?_))
  refine wpAny_bind (I.type.here (wpAny_bind (hb.here ?_)))
  split
  · refine wpAny_bind ((looks_mroIn X hsub).here ?_)
    simp only [if_true, cmpInfo]
    refine wpAny_bind (gt_declined X J hg hm ?_)
    refine wpAny_bind (wpAny_mono one (fun r s' z => ?_) fun _ _ e => e)
    obtain ⟨v, rfl, hq⟩ := z
    exact wpAny_pure hq
  · refine wpAny_bind (wpAny_pure ?_)
    simp only [Bool.false_eq_true, if_false]
    refine wpAny_bind (wpAny_mono one (fun r s' z => ?_) fun _ _ e => e)
    obtain ⟨v, rfl, hq⟩ := z
    exact wpAny_pure hq
end

/-! loops by an invariant over the frame's names and the ledger -/
section
variable {prog : Program} {w : World} {A : Around} {E : Value → Shared → Prop} {s : Shared} {env : Env} {h₀ : Heap} {x : Str} {body : List Stmt} {Q : Flow → Shared → Prop}
def EndJ (h₀ : Heap) (L : Addr) (J : (Str → Option Value) → List (Addr × Obj) → Prop) (own : List (Addr × Obj)) (I : Addr) (s₁ s₂ : Shared) : Prop :=
  ∃ h' tk m' news', s₂ = { s₁ with heap := h', toks := tk } ∧ Fr h₀ L h' m' ∧ News h₀ L h' (news' ++ own) ∧ (∀ p ∈ news', p.1 ≠ I) ∧ J m' news'
def PostJ (h₀ : Heap) (L : Addr) (J : (Str → Option Value) → List (Addr × Obj) → Prop) (own : List (Addr × Obj)) (I : Addr) (s₁ : Shared) (Q : Flow → Shared → Prop) (f : Flow) (s₂ : Shared) : Prop :=
  match f with
  | .ret v => Q (.ret v) s₂
  | .brk => Q .next s₂
  | _ => EndJ h₀ L J own I s₁ s₂
theorem news_comm {L : Addr} {h : Heap} {a b : List (Addr × Obj)} (N : News h₀ L h (a ++ b)) : News h₀ L h (b ++ a) := fun p hp => N p ((List.mem_append.mp hp).elim (fun h => List.mem_append.mpr (.inr h)) fun h => List.mem_append.mpr (.inl h))
theorem postJ_step {L I : Addr} {J : (Str → Option Value) → List (Addr × Obj) → Prop} {own : List (Addr × Obj)} {s₁ s₂ : Shared} {f : Flow} (h : PostJ h₀ L J own I s₁ Q f s₂) :
    LoopStepV h₀ L [I] own J s₁ (fun v s' => Q (.ret v) s') (fun s' => Q .next s') f s₂ := by
  have fin : EndJ h₀ L J own I s₁ s₂ → LoopStepU h₀ L [I] own J s₁ .next s₂ := by
    rintro ⟨h', tk, m', news', e, F', N', hn, hj⟩
    exact ⟨rfl, h', tk, m', news', e, F', news_comm N', fun p hp q => hn p hp (List.mem_singleton.mp q), hj⟩
  cases f with
  | ret v => exact .ret h
  | brk => exact .brk h
  | next => exact .next (fin h)
  | cont => exact .cont (fin h)
theorem iter_listJ {l : Addr} {vs : List Value} {m₀ : Str → Option Value} {news : List (Addr × Obj)} (J : Nat → (Str → Option Value) → List (Addr × Obj) → Prop)
    (hh : A.handled = none) (hl : s.heap.IsList l vs.toArray) (hlL : l ≠ env.locals) (F : Fr h₀ env.locals s.heap m₀) (N : News h₀ env.locals s.heap news) (hj : J 0 m₀ news)
    (turn : ∀ I i v m₁ news₁ h tk own, vs[i]? = some v → J i m₁ news₁ → (∀ p ∈ news₁, p.1 ≠ I) → (∀ p ∈ own, p.1 = I ∨ p.1 = l) → (∃ o, (I, o) ∈ own) → (∀ p ∈ news, p.1 < I) → l < I → Fr h₀ env.locals h (fun y => if y = x then some v else m₁ y) → News h₀ env.locals h (news₁ ++ own) →
      wpAny (model prog w) A (execs body env) (PostJ h₀ env.locals (J (i + 1)) own I { s with heap := h, toks := tk } Q) E { s with heap := h, toks := tk })
    (done : ∀ m₁ news₁ h tk, J vs.length m₁ news₁ → Fr h₀ env.locals h m₁ → News h₀ env.locals h news₁ → Q .next { s with heap := h, toks := tk }) :
    wpAny (model prog w) A (pyIter (.ref l)) (fun it s₂ => LoopAtV prog w A h₀ env x body Q E it s₂) E s := by
  obtain ⟨ol, hol, _⟩ := id hl
  have hlt : l < s.heap.objs.size := Heap.lt_size hol
  refine wpAny_pyIter_list hl ?_
  have W := Walks.list (prog := prog) (w := w) hh s.heap.objs.size l (Nat.ne_of_lt hlt) vs.toArray
  have hlen : vs.toArray.size = vs.length := by simp
  rw [hlen] at W
  refine ⟨_, _, _, vs.length, _, _, m₀, news, J, rfl, W, ?_, ?_, ?_, ⟨⟨_, Heap.get?_push_size _ rfl, rfl, rfl⟩, hl.at fun o e => Heap.get?_push_of_some _ e⟩, F.push _, (fun p hp => ⟨Heap.get?_push_of_some _ (N p hp).1, (N p hp).2⟩), hj, ?_, ?_⟩
  · intro hm
    rcases List.mem_cons.mp hm with e | hm
    · exact absurd F.ns.lt (e ▸ Nat.lt_irrefl _)
    · exact hlL (List.mem_singleton.mp hm).symm
  · intro b hb
    rw [List.mem_singleton.mp hb]
    exact next_is_new F
  · intro p hp hI
    exact absurd (Heap.lt_size (N p hp).1) ((List.mem_singleton.mp hI) ▸ Nat.lt_irrefl _)
  · rintro i v m₁ news₁ s₁ own ⟨hh', tk', rfl⟩ hin hP hJ hoff hown _ hall hst F₁ N₁
    have hIo : ∃ o, (s.heap.objs.size, o) ∈ own := by
      obtain ⟨⟨o, ho, _⟩, _⟩ := hst
      exact ⟨o, hall _ (.head _) (next_is_new F) o ho⟩
    refine wpAny_mono (turn s.heap.objs.size i v m₁ news₁ hh' tk' own (by simpa using hP) hJ (fun p hp q => hoff p hp (by rw [q]; exact .head _)) (fun p hp => ?_) hIo (fun p hp => Heap.lt_size (N p hp).1) hlt F₁ (news_comm N₁)) (fun f s₂ p => postJ_step p) fun _ _ e => e
    rcases List.mem_cons.mp (hown p hp) with h1 | h1
    · exact .inl h1
    · exact .inr (List.mem_singleton.mp h1)
  · rintro h' tk m' news' F' N' _ hJ
    exact done m' news' h' tk hJ F' N'
theorem iter_rangeJ {r : Addr} {a₀ b₀ : Int} {t₀ u₀ v₀ : Tok} {n : Nat} {m₀ : Str → Option Value} {news : List (Addr × Obj)} (J : Nat → (Str → Option Value) → List (Addr × Obj) → Prop)
    (hh : A.handled = none) (hr : IsRange s.heap r a₀ b₀ 1 t₀ u₀ v₀) (hsmall : Builtin.Range.small a₀ b₀ 1 = true) (hn : Builtin.Range.rangeSize a₀ b₀ 1 = (n : Int)) (F : Fr h₀ env.locals s.heap m₀) (N : News h₀ env.locals s.heap news) (hj : J 0 m₀ news)
    (turn : ∀ I (i : Nat) t m₁ news₁ h tk own, i < n → J i m₁ news₁ → (∀ p ∈ news₁, p.1 ≠ I) → (∀ p ∈ own, p.1 = I) → (∃ o, (I, o) ∈ own) → (∀ p ∈ news, p.1 < I) → Fr h₀ env.locals h (fun y => if y = x then some (.int (a₀ + i) t) else m₁ y) → News h₀ env.locals h (news₁ ++ own) →
      wpAny (model prog w) A (execs body env) (PostJ h₀ env.locals (J (i + 1)) own I { s with heap := h, toks := tk } Q) E { s with heap := h, toks := tk })
    (done : ∀ m₁ news₁ h tk, J n m₁ news₁ → Fr h₀ env.locals h m₁ → News h₀ env.locals h news₁ → Q .next { s with heap := h, toks := tk }) :
    wpAny (model prog w) A (pyIter (.ref r)) (fun it s₂ => LoopAtV prog w A h₀ env x body Q E it s₂) E s := by
  refine wpAny_pyIter_range hr hsmall ?_
  have W : Walks prog w A s.heap.objs.size [s.heap.objs.size] [s.heap.objs.size] n (fun i v => i < n ∧ ∃ t, v = .int (a₀ + i * 1) t)
      (fun i h => IsRangeIter h s.heap.objs.size (a₀ + (i : Nat) * 1) ((n : Int) - (i : Nat)) 1) := (Walks.range hh _ a₀ 1 n).bound
  refine ⟨_, _, _, n, _, _, m₀, news, J, rfl, W, ?_, ?_, ?_, (by show IsRangeIter _ _ _ _ _; rw [hn]; simpa using Heap.get?_push_size _ rfl), F.push _, (fun p hp => ⟨Heap.get?_push_of_some _ (N p hp).1, (N p hp).2⟩), hj, ?_, ?_⟩
  · intro hm
    exact absurd F.ns.lt ((List.mem_singleton.mp hm) ▸ Nat.lt_irrefl _)
  · intro b hb
    rw [List.mem_singleton.mp hb]
    exact next_is_new F
  · intro p hp hI
    exact absurd (Heap.lt_size (N p hp).1) ((List.mem_singleton.mp hI) ▸ Nat.lt_irrefl _)
  · rintro i v m₁ news₁ s₁ own ⟨hh', tk', rfl⟩ hin ⟨_, t, rfl⟩ hJ hoff hown _ hall hst F₁ N₁
    refine wpAny_mono (turn s.heap.objs.size i t m₁ news₁ hh' tk' own hin hJ (fun p hp q => hoff p hp (by rw [q]; exact .head _)) (fun p hp => List.mem_singleton.mp (hown p hp)) ⟨_, hall _ (.head _) (next_is_new F) _ hst⟩ (fun p hp => Heap.lt_size (N p hp).1) (by simpa using F₁) (news_comm N₁)) (fun f s₂ p => postJ_step p) fun _ _ e => e
  · rintro h' tk m' news' F' N' _ hJ
    exact done m' news' h' tk hJ F' N'
end

/-! a name put into a dict's entries -/
theorem isStr_str (a b : Str) (t : Tok) : (Value.str a t).isStr b = (a == b) := rfl
theorem isStr_two {k : Value} {a b : Str} (h : k.isStr a = true) (hne : b ≠ a) : k.isStr b = false := by
  cases k with
  | str x t =>
    have e : x = a := by simpa [Value.isStr] using h
    subst e
    simp only [Value.isStr]
    exact beq_false_of_ne (fun q => hne q.symm)
  | _ => cases h
theorem find_put_same (name : Str) (hsh : Int) (t : Tok) (v : Value) : ∀ es : List DictEntry, ((putL name hsh (.str name t) v es).find? (·.key.isStr name)).map (·.val) = some v
  | [] => by simp [putL, Value.isStr]
  | e :: r => by
    unfold putL
    split
    · rename_i h; simp [h]
    · rename_i h
      rw [List.find?_cons_of_neg (p := fun x : DictEntry => x.key.isStr name) h]
      exact find_put_same name hsh t v r
theorem find_put_other {name nm : Str} (hne : nm ≠ name) (hsh : Int) (t : Tok) (v : Value) : ∀ es : List DictEntry, (putL name hsh (.str name t) v es).find? (·.key.isStr nm) = es.find? (·.key.isStr nm)
  | [] => by
    unfold putL
    have : (name == nm) = false := beq_false_of_ne fun q => hne q.symm
    simp [Value.isStr, this]
  | e :: r => by
    unfold putL
    split
    · rename_i h
      have h2 := isStr_two h hne
      rw [List.find?_cons_of_neg (by simp [h2]), List.find?_cons_of_neg (by simp [h2])]
    · rename_i h
      rw [List.find?_cons, List.find?_cons, find_put_other hne hsh t v r]
theorem refKey_put (name : Str) (hsh : Int) (t : Tok) (v : Value) : ∀ es : List DictEntry, (putL name hsh (.str name t) v es).any (·.refKey) = es.any (·.refKey)
  | [] => by simp [putL]; rfl
  | e :: r => by
    unfold putL
    split
    · rfl
    · rw [List.any_cons, List.any_cons, refKey_put name hsh t v r]
theorem getL_put_same (name : Str) (hsh : Int) (t : Tok) (v : Value) (es : List DictEntry) : getL name (putL name hsh (.str name t) v es) = some (some v) := by
  have h := find_put_same name hsh t v es
  unfold getL
  cases q : (putL name hsh (.str name t) v es).find? (·.key.isStr name) with
  | none => rw [q] at h; cases h
  | some e => rw [q] at h; simp at h; simp [h]
theorem getL_put_other {name nm : Str} (hne : nm ≠ name) (hsh : Int) (t : Tok) (v : Value) (es : List DictEntry) : getL nm (putL name hsh (.str name t) v es) = getL nm es := by
  unfold getL
  rw [find_put_other hne, refKey_put]
theorem put_len (name : Str) (hsh : Int) (t : Tok) (v : Value) : ∀ es : List DictEntry, (putL name hsh (.str name t) v es).length = if (es.find? (·.key.isStr name)).isSome then es.length else es.length + 1
  | [] => by simp [putL]
  | e :: r => by
    unfold putL
    split
    · rename_i h; simp [h]
    · rename_i h
      rw [List.length_cons, put_len name hsh t v r, List.find?_cons_of_neg (p := fun x : DictEntry => x.key.isStr name) h]
      split <;> simp
/-- the ledger without one address -/
def off (d : Addr) (news : List (Addr × Obj)) : List (Addr × Obj) := news.filter fun p => p.1 != d
theorem mem_off {d : Addr} {news : List (Addr × Obj)} {p : Addr × Obj} : p ∈ off d news ↔ p ∈ news ∧ p.1 ≠ d := by
  unfold off; rw [List.mem_filter]; simp
theorem off_ne {d : Addr} {news : List (Addr × Obj)} : ∀ p ∈ off d news, p.1 ≠ d := fun _ hp => (mem_off.mp hp).2
theorem news_front {h₀ h : Heap} {L d : Addr} {o : Obj} {news : List (Addr × Obj)} (N : News h₀ L h news) (hm : (d, o) ∈ news) : News h₀ L h ((d, o) :: off d news) := fun p hp => by
  rcases List.mem_cons.mp hp with rfl | hp
  · exact N _ hm
  · exact N p (mem_off.mp hp).1
theorem news_sub {h₀ h : Heap} {L : Addr} {news news' : List (Addr × Obj)} (N : News h₀ L h news) (hs : ∀ p ∈ news', p ∈ news) : News h₀ L h news' := fun p hp => N p (hs p hp)
theorem news_one {h₀ h : Heap} {L d : Addr} {o o' : Obj} {news : List (Addr × Obj)} (N : News h₀ L h news) (h1 : (d, o) ∈ news) (h2 : (d, o') ∈ news) : o = o' := Option.some.inj ((N _ h1).1.symm.trans (N _ h2).1)

theorem fill1 {m : Str → Option Value} {k : Str} {v : Value} (h : m k = some v) (y : Str) : (if y = k then some v else m y) = m y := by
  split
  · rename_i e; rw [e, h]
  · rfl
section
variable {M : Model} {A : Around} {E : Value → Shared → Prop} {s : Shared} {h₀ : Heap} {L a b : Addr} {oa ob : Obj} {news : List (Addr × Obj)} {Q : Value → Shared → Prop}
theorem is_refs (N : News h₀ L s.heap news) (ha : (a, oa) ∈ news) (hb : (b, ob) ∈ news) (hnt : oa.cls ≠ .type "tuple") (h : Q (.bool (decide (a = b))) s) : wpAny M A (compareOp .Is (.ref a) (.ref b)) Q E s := by
  show wpAny M A (do return .bool (← isSame (.ref a) (.ref b))) Q E s
  by_cases e : a = b
  · subst e
    rw [decide_eq_true rfl] at h
    exact wpAny_bind (wpAny_isSame_ref_self (wpAny_pure h))
  · rw [decide_eq_false e] at h
    exact wpAny_bind (wpAny_isSame_ref_other e (N _ ha).1 (N _ hb).1 hnt (wpAny_pure h))
theorem isNot_refs (N : News h₀ L s.heap news) (ha : (a, oa) ∈ news) (hb : (b, ob) ∈ news) (hnt : oa.cls ≠ .type "tuple") (h : Q (.bool (!decide (a = b))) s) : wpAny M A (compareOp .IsNot (.ref a) (.ref b)) Q E s := by
  show wpAny M A (do return .bool (!(← isSame (.ref a) (.ref b)))) Q E s
  by_cases e : a = b
  · subst e
    rw [decide_eq_true rfl] at h
    exact wpAny_bind (wpAny_isSame_ref_self (wpAny_pure h))
  · rw [decide_eq_false e] at h
    exact wpAny_bind (wpAny_isSame_ref_other e (N _ ha).1 (N _ hb).1 hnt (wpAny_pure h))
end

section
variable {prog : Program} {w : World} {A : Around} {E : Value → Shared → Prop} {s : Shared} {h₀ : Heap} {L : Addr} {news : List (Addr × Obj)}
theorem item_led {value slice : PySem.Expr} {l : Addr} {vs : List Value} {n : Nat} {k : Int} {u : Tok} {v : Value} {Q : Value → Shared → Prop} (N : News h₀ L s.heap news)
    (hl : (l, W.listOf vs.toArray n) ∈ news) (h0 : 0 ≤ k) (hhi : k < 2 ^ 63) (hx : vs[k.toNat]? = some v) (h : Q v s)
    (hs : subscripted slice false (.ref l) (.int k u) = operate [.ref l, .int k u] (getItem (.ref l) (.int k u)) := by with_unfolding_all rfl) :
    wpAny (model prog w) A (subscriptTail value slice (.ref l) (.int k u)) Q E s :=
  tail_any (News.isList N hl).typeIs slot_list_getitem.lookup (wpAny_getItem_list (News.isList N hl) h0 hhi (by simpa using hx) h) hs
end

/-! lists of the ledger -/
section
variable {prog : Program} {w : World} {A : Around} {E : Value → Shared → Prop} {s : Shared} {h₀ : Heap} {L D : Addr} {m : Str → Option Value} {news news' : List (Addr × Obj)} {vs : List Value} {v : Value} {n : Nat}
theorem lineBig : 2 ^ 20 ≤ sizeLine := by decide
theorem len_led {Q : Value → Shared → Prop} (N : News h₀ L s.heap news) (hl : (D, W.listOf vs.toArray n) ∈ news) (hz : vs.length ≤ 2 ^ 20) (h : Q (.int vs.length (s.toks + 1)) { s with toks := s.toks + 1 + 1 }) : wpAny (model prog w) A (call (.builtin "len") [.ref D]) Q E s :=
  len_list (News.isList N hl) (by rw [List.size_toArray]; omega) (by rw [List.size_toArray]; exact h)
theorem truthy_led {Q : Bool → Shared → Prop} (N : News h₀ L s.heap news) (hl : (D, W.listOf vs.toArray n) ∈ news) (hz : vs.length ≤ 2 ^ 20) (h : Q (!vs.isEmpty) { s with toks := s.toks + 1 + 1 }) : wpAny (model prog w) A (truthy (.ref D)) Q E s :=
  wpAny_truthy_list (News.isList N hl) (by rw [List.size_toArray]; omega) (by rw [List.isEmpty_toArray]; exact h)
theorem fits_index {k : Int} (h0 : 0 ≤ k) (h1 : k < 2 ^ 62) : Builtin.List.listFitsIndex k = true := by
  unfold Builtin.List.listFitsIndex
  simp only [Bool.and_eq_true, decide_eq_true_eq]
  omega
theorem cut_at : ∀ (p : List Value) (y : Value) (q : List Value), kl_cut (p ++ y :: q) p.length = some (p, y, q)
  | [], _, _ => rfl
  | x :: p, y, q => by
    show (match kl_cut (p ++ y :: q) p.length with | some (p', y', q') => some (x :: p', y', q') | none => none) = _
    rw [cut_at p y q]
theorem popAt_led {p q : List Value} {y : Value} {k : Int} {u : Tok} {Q : Value → Shared → Prop} (F : Fr h₀ L s.heap m) (N : News h₀ L s.heap news) (hk : k = (p.length : Int)) (hz : (p ++ y :: q).length ≤ 2 ^ 20) (U : Upd D (W.listOf (p ++ y :: q).toArray n) (W.listOf (p ++ q).toArray (n + 1)) news news')
    (h : ∀ h', Fr h₀ L h' m → News h₀ L h' news' → Q y { s with heap := h' }) : wpAny (model prog w) A (call (.builtin "list.pop") [.ref D, .int k u]) Q E s := by
  have hz' := lineBig
  refine kl_popAt (k := p.length) F N (fits_index (by omega) (by simp only [List.length_append, List.length_cons] at hz; omega)) ?_ (cut_at p y q) U (by simpa using Nat.le_trans hz hz') h
  unfold seqIndex?
  subst hk
  simp
  omega
theorem pop0_led {u : Tok} {Q : Value → Shared → Prop} (F : Fr h₀ L s.heap m) (N : News h₀ L s.heap news) (hz : (v :: vs).length ≤ 2 ^ 20) (U : Upd D (W.listOf (v :: vs).toArray n) (W.listOf vs.toArray (n + 1)) news news')
    (h : ∀ h', Fr h₀ L h' m → News h₀ L h' news' → Q v { s with heap := h' }) : wpAny (model prog w) A (call (.builtin "list.pop") [.ref D, .int 0 u]) Q E s :=
  popAt_led (p := []) F N rfl hz U h
theorem insert_led {p q : List Value} {k : Int} {u : Tok} {y : Value} {Q : Value → Shared → Prop} (F : Fr h₀ L s.heap m) (N : News h₀ L s.heap news) (hk : k = (p.length : Int)) (hz : (p ++ q).length ≤ 2 ^ 20) (U : Upd D (W.listOf (p ++ q).toArray n) (W.listOf (p ++ y :: q).toArray (n + 1)) news news')
    (h : ∀ h', Fr h₀ L h' m → News h₀ L h' news' → Q .none { s with heap := h' }) : wpAny (model prog w) A (call (.builtin "list.insert") [.ref D, .int k u, y]) Q E s := by
  have hz' := lineBig
  refine kl_insert F N (fits_index (by omega) (by simp only [List.length_append] at hz; omega)) ?_ U (by simpa using Nat.le_trans hz hz') h
  unfold kl_ins
  subst hk
  rw [if_neg (by omega)]
  have : min ((p.length : Int).toNat) (p ++ q).toArray.toList.length = p.length := by simp
  rw [this]
  simp
theorem append_led {Q : Value → Shared → Prop} (F : Fr h₀ L s.heap m) (N : News h₀ L s.heap news) (hz : vs.length ≤ 2 ^ 20) (U : Upd D (W.listOf vs.toArray n) (W.listOf (vs ++ [v]).toArray (n + 1)) news news')
    (h : ∀ h', Fr h₀ L h' m → News h₀ L h' news' → Q .none { s with heap := h' }) : wpAny (model prog w) A (call (.builtin "list.append") [.ref D, v]) Q E s :=
  append_K (its := vs.toArray) F N (by rw [List.push_toArray]; exact U) h (by rw [List.size_toArray]; exact Nat.le_trans hz lineBig)
end
theorem seq_cut {M : Model} {A : Around} {E : Value → Shared → Prop} {s : Shared} {env : Env} {st : Stmt} {rest : List Stmt} {Q : Flow → Shared → Prop} (I : Shared → Prop) (h1 : wpAny M A (exec st env) (fun f s' => f = .next ∧ I s') E s) (h2 : ∀ s', I s' → wpAny M A (execs rest env) Q E s') :
    wpAny M A (execs (st :: rest) env) Q E s := wpAny_execs_cons (wpAny_mono h1 (fun f s' h => by obtain ⟨rfl, hi⟩ := h; exact h2 s' hi) fun _ _ e => e)
end Mine


namespace Mine
section
variable {prog : Program} {w : World} {A : Around} {E : Value → Shared → Prop} {s : Shared}
theorem getBy_miss_int {i : Int} {t : Tok} {tk : Tok} {name : Str} {Q : Option Value → Shared → Prop} (hmiss : typeLookup (.type "int") name = pure none) (hA : A.handled = none)
    (h : ∀ h' tk', (∀ b o, s.heap.get? b = some o → h'.get? b = some o) → Q none { s with heap := h', toks := tk' }) (hsz : name.length + 100 ≤ sizeLine) :
    wpAny (model prog w) A (getAttrBy? (.int i t) (.str name tk)) Q E s := by
  obtain ⟨hp, g, d, tk0, os⟩ := s
  have hT : ∀ s' : Shared, s'.TypeIs (.int i t) "int" := fun _ => rfl
  have f1 := sub_AttributeError
  have f3 := F.slot_int_getattribute.lookup
  have f4 := F.slot_int_getattribute.bind (.int i t)
  have f5 := am_int_getattr_none
  unfold getAttrBy? getAttrBy
  repeat (any_goals (first | assumption | ((with_reducible show wpAny _ _ (call (Value.builtin "int.__getattribute__") _ _) _ _ _); refine call_meets F.slot_int_getattribute (hT _) am_entry_int_getattribute (F.args_int_getattribute_2 _ _) (meets_getattribute_miss_int i t name _ hmiss hsz) ⟨hA, fun h' tk' e hx => ?_⟩) | wp_step))
  obtain ⟨t', u', he⟩ := hx.there
  show wpAny _ _ (getattributeRaised _ _ _ _ _ _ _) _ _ _
  unfold getattributeRaised
  repeat (any_goals (first | assumption | wp_step))
  exact h _ _ hx.keeps
theorem hasattr_int {i : Int} {t : Tok} {tk : Tok} {name : Str} {Q : Value → Shared → Prop} (hmiss : typeLookup (.type "int") name = pure none) (hA : A.handled = none)
    (h : ∀ h' tk', (∀ b o, s.heap.get? b = some o → h'.get? b = some o) → Q (.bool false) { s with heap := h', toks := tk' }) (hsz : name.length + 100 ≤ sizeLine) :
    wpAny (model prog w) A (call (.builtin "hasattr") [(.int i t), .str name tk]) Q E s := by
  refine Calls.call_function_entry kind_hasattr plain_hasattr entry_hasattr (args_hasattr2 _ _) ?_
  unfold Builtin.«hasattr»
  refine wpAny_bind (m := someArgs "hasattr" 2 2 _) (wpAny_pure ?_)
  dsimp only
  refine wpAny_bind (wpAny_bind (wpAny_pure ?_))
  show wpAny _ _ (pure _) _ _ _
  refine wpAny_pure ?_
  show wpAny _ _ (typeOf (.int i t) >>= _) _ _ _
  refine wpAny_bind (m := typeOf (.int i t)) (wpAny_pure (a := Value.type "int") ?_)
  dsimp only
  refine wpAny_bind (m := asStr? _) (wpAny_pure ?_)
  dsimp only
  rw [hmiss]
  refine wpAny_bind (wpAny_pure ?_)
  dsimp only
  refine wpAny_bind (wpAny_pure (a := 0) ?_)
  show wpAny _ _ (getAttrBy? _ _ >>= _) _ _ _
  refine wpAny_bind (getBy_miss_int (A := A.in1) hmiss hA (fun h' tk' hk => ?_) hsz)
  show wpAny _ _ (ret (.bool false)) _ _ _
  exact wpAny_pure ⟨_, rfl, h h' tk' hk⟩
theorem getBy_miss_str {x : Str} {t : Tok} {tk : Tok} {name : Str} {Q : Option Value → Shared → Prop} (hmiss : typeLookup (.type "str") name = pure none) (hA : A.handled = none)
    (h : ∀ h' tk', (∀ b o, s.heap.get? b = some o → h'.get? b = some o) → Q none { s with heap := h', toks := tk' }) (hsz : name.length + 100 ≤ sizeLine) :
    wpAny (model prog w) A (getAttrBy? (.str x t) (.str name tk)) Q E s := by
  obtain ⟨hp, g, d, tk0, os⟩ := s
  have hT : ∀ s' : Shared, s'.TypeIs (.str x t) "str" := fun _ => rfl
  have f1 := sub_AttributeError
  have f3 := F.slot_str_getattribute.lookup
  have f4 := F.slot_str_getattribute.bind (.str x t)
  have f5 := am_str_getattr_none
  unfold getAttrBy? getAttrBy
  repeat (any_goals (first | assumption | ((with_reducible show wpAny _ _ (call (Value.builtin "object.__getattribute__") _ _) _ _ _); refine call_meets F.slot_str_getattribute (hT _) F.entry_object_getattribute (F.args_object_getattribute_2 _ _) (meets_getattribute_miss_str x t name _ hmiss hsz) ⟨hA, fun h' tk' e hx => ?_⟩) | wp_step))
  obtain ⟨t', u', he⟩ := hx.there
  show wpAny _ _ (getattributeRaised _ _ _ _ _ _ _) _ _ _
  unfold getattributeRaised
  repeat (any_goals (first | assumption | wp_step))
  exact h _ _ hx.keeps
theorem hasattr_str {x : Str} {t : Tok} {tk : Tok} {name : Str} {Q : Value → Shared → Prop} (hmiss : typeLookup (.type "str") name = pure none) (hA : A.handled = none)
    (h : ∀ h' tk', (∀ b o, s.heap.get? b = some o → h'.get? b = some o) → Q (.bool false) { s with heap := h', toks := tk' }) (hsz : name.length + 100 ≤ sizeLine) :
    wpAny (model prog w) A (call (.builtin "hasattr") [(.str x t), .str name tk]) Q E s := by
  refine Calls.call_function_entry kind_hasattr plain_hasattr entry_hasattr (args_hasattr2 _ _) ?_
  unfold Builtin.«hasattr»
  refine wpAny_bind (m := someArgs "hasattr" 2 2 _) (wpAny_pure ?_)
  dsimp only
  refine wpAny_bind (wpAny_bind (wpAny_pure ?_))
  show wpAny _ _ (pure _) _ _ _
  refine wpAny_pure ?_
  show wpAny _ _ (typeOf (.str x t) >>= _) _ _ _
  refine wpAny_bind (m := typeOf (.str x t)) (wpAny_pure (a := Value.type "str") ?_)
  dsimp only
  refine wpAny_bind (m := asStr? _) (wpAny_pure ?_)
  dsimp only
  rw [hmiss]
  refine wpAny_bind (wpAny_pure ?_)
  dsimp only
  refine wpAny_bind (wpAny_pure (a := 0) ?_)
  show wpAny _ _ (getAttrBy? _ _ >>= _) _ _ _
  refine wpAny_bind (getBy_miss_str (A := A.in1) hmiss hA (fun h' tk' hk => ?_) hsz)
  show wpAny _ _ (ret (.bool false)) _ _ _
  exact wpAny_pure ⟨_, rfl, h h' tk' hk⟩
theorem getBy_miss_none  {tk : Tok} {name : Str} {Q : Option Value → Shared → Prop} (hmiss : typeLookup (.type "NoneType") name = pure none) (hA : A.handled = none)
    (h : ∀ h' tk', (∀ b o, s.heap.get? b = some o → h'.get? b = some o) → Q none { s with heap := h', toks := tk' }) (hsz : name.length + 100 ≤ sizeLine) :
    wpAny (model prog w) A (getAttrBy? .none (.str name tk)) Q E s := by
  obtain ⟨hp, g, d, tk0, os⟩ := s
  have hT : ∀ s' : Shared, s'.TypeIs .none "NoneType" := fun _ => rfl
  have f1 := sub_AttributeError
  have f3 := F.slot_NoneType_getattribute.lookup
  have f4 := F.slot_NoneType_getattribute.bind .none
  have f5 := am_none_getattr_none
  unfold getAttrBy? getAttrBy
  repeat (any_goals (first | assumption | ((with_reducible show wpAny _ _ (call (Value.builtin "object.__getattribute__") _ _) _ _ _); refine call_meets F.slot_NoneType_getattribute (hT _) F.entry_object_getattribute (F.args_object_getattribute_2 _ _) (meets_getattribute_miss_none  name _ hmiss hsz) ⟨hA, fun h' tk' e hx => ?_⟩) | wp_step))
  obtain ⟨t', u', he⟩ := hx.there
  show wpAny _ _ (getattributeRaised _ _ _ _ _ _ _) _ _ _
  unfold getattributeRaised
  repeat (any_goals (first | assumption | wp_step))
  exact h _ _ hx.keeps
theorem hasattr_none  {tk : Tok} {name : Str} {Q : Value → Shared → Prop} (hmiss : typeLookup (.type "NoneType") name = pure none) (hA : A.handled = none)
    (h : ∀ h' tk', (∀ b o, s.heap.get? b = some o → h'.get? b = some o) → Q (.bool false) { s with heap := h', toks := tk' }) (hsz : name.length + 100 ≤ sizeLine) :
    wpAny (model prog w) A (call (.builtin "hasattr") [.none, .str name tk]) Q E s := by
  refine Calls.call_function_entry kind_hasattr plain_hasattr entry_hasattr (args_hasattr2 _ _) ?_
  unfold Builtin.«hasattr»
  refine wpAny_bind (m := someArgs "hasattr" 2 2 _) (wpAny_pure ?_)
  dsimp only
  refine wpAny_bind (wpAny_bind (wpAny_pure ?_))
  show wpAny _ _ (pure _) _ _ _
  refine wpAny_pure ?_
  show wpAny _ _ (typeOf .none >>= _) _ _ _
  refine wpAny_bind (m := typeOf .none) (wpAny_pure (a := Value.type "NoneType") ?_)
  dsimp only
  refine wpAny_bind (m := asStr? _) (wpAny_pure ?_)
  dsimp only
  rw [hmiss]
  refine wpAny_bind (wpAny_pure ?_)
  dsimp only
  refine wpAny_bind (wpAny_pure (a := 0) ?_)
  show wpAny _ _ (getAttrBy? _ _ >>= _) _ _ _
  refine wpAny_bind (getBy_miss_none (A := A.in1) hmiss hA (fun h' tk' hk => ?_) hsz)
  show wpAny _ _ (ret (.bool false)) _ _ _
  exact wpAny_pure ⟨_, rfl, h h' tk' hk⟩
theorem getBy_miss_list {a : Addr} {xs : Array Value} {k : Nat} {sl : Array (Option Value)} {tk : Tok} {name : Str} {Q : Option Value → Shared → Prop} (hx : s.heap.get? a = some { cls := .type "list", dict := none, data := .seq xs k, slots := sl }) (hmiss : typeLookup (.type "list") name = pure none) (hname : (["__module__", "__name__", "__qualname__", "__doc__", "__annotations__"] : List Str).contains name = false) (hA : A.handled = none)
    (h : ∀ h' tk', (∀ b o, s.heap.get? b = some o → h'.get? b = some o) → Q none { s with heap := h', toks := tk' }) (hsz : name.length + 100 ≤ sizeLine) :
    wpAny (model prog w) A (getAttrBy? (.ref a) (.str name tk)) Q E s := by
  obtain ⟨hp, g, d, tk0, os⟩ := s
  have hT : ∀ tk', (⟨hp, g, d, tk', os⟩ : Shared).TypeIs (.ref a) "list" := fun _ => ⟨_, hx, rfl⟩
  have f1 := sub_AttributeError
  have f3 := F.slot_list_getattribute.lookup
  have f4 := F.slot_list_getattribute.bind (.ref a)
  have f5 := am_list_getattr_none
  unfold getAttrBy? getAttrBy
  repeat (any_goals (first | assumption | exact hT _ | ((with_reducible show wpAny _ _ (call (Value.builtin "list.__getattribute__") _ _) _ _ _); refine call_meets F.slot_list_getattribute (hT _) am_entry_list_getattribute (F.args_list_getattribute_2 _ _) (meets_getattribute_miss_list a xs k sl name _ hmiss hname hsz) ⟨hx, hA, fun h' tk' e hx' => ?_⟩) | wp_step))
  obtain ⟨t', u', he⟩ := hx'.there
  show wpAny _ _ (getattributeRaised _ _ _ _ _ _ _) _ _ _
  unfold getattributeRaised
  repeat (any_goals (first | assumption | wp_step))
  exact h _ _ hx'.keeps
theorem getBy_miss_dict {a : Addr} {es : Array DictEntry} {k : Nat} {sl : Array (Option Value)} {tk : Tok} {name : Str} {Q : Option Value → Shared → Prop} (hx : s.heap.get? a = some { cls := .type "dict", dict := none, data := .dict es k, slots := sl }) (hmiss : typeLookup (.type "dict") name = pure none) (hname : (["__module__", "__name__", "__qualname__", "__doc__", "__annotations__"] : List Str).contains name = false) (hA : A.handled = none)
    (h : ∀ h' tk', (∀ b o, s.heap.get? b = some o → h'.get? b = some o) → Q none { s with heap := h', toks := tk' }) (hsz : name.length + 100 ≤ sizeLine) :
    wpAny (model prog w) A (getAttrBy? (.ref a) (.str name tk)) Q E s := by
  obtain ⟨hp, g, d, tk0, os⟩ := s
  have hT : ∀ tk', (⟨hp, g, d, tk', os⟩ : Shared).TypeIs (.ref a) "dict" := fun _ => ⟨_, hx, rfl⟩
  have f1 := sub_AttributeError
  have f3 := F.slot_dict_getattribute.lookup
  have f4 := F.slot_dict_getattribute.bind (.ref a)
  have f5 := am_dict_getattr_none
  unfold getAttrBy? getAttrBy
  repeat (any_goals (first | assumption | exact hT _ | ((with_reducible show wpAny _ _ (call (Value.builtin "dict.__getattribute__") _ _) _ _ _); refine call_meets F.slot_dict_getattribute (hT _) am_entry_dict_getattribute (F.args_dict_getattribute_2 _ _) (meets_getattribute_miss_dict a es k sl name _ hmiss hname hsz) ⟨hx, hA, fun h' tk' e hx' => ?_⟩) | wp_step))
  obtain ⟨t', u', he⟩ := hx'.there
  show wpAny _ _ (getattributeRaised _ _ _ _ _ _ _) _ _ _
  unfold getattributeRaised
  repeat (any_goals (first | assumption | wp_step))
  exact h _ _ hx'.keeps
end
end Mine


namespace Mine
section
variable {prog : Program} {w : World} {A : Around} {E : Value → Shared → Prop} {s : Shared} {K : Frag} {x C L f : Addr} {h₀ : Heap} {m : Str → Option Value} {ox : Obj} {od : Option Obj}
/-- a written class's name is short -/
def nameIn (K : Frag) (C : Addr) : Bool := (clsIn K C).any fun cd => decide (cd.name.cps.foldl (fun k c => k + (Str.utf8Of c).length) 0 ≤ 50) && decide (cd.name.toString.length ≤ 100)
theorem name_inst {Q : String → Shared → Prop} (X : K.In s.heap) (I : W.InstAt s.heap x ox C od) (hn : nameIn K C = true) (h : ∀ n : String, n.length ≤ 100 → Q n s) : wpAny (model prog w) A (PySem.typeNameOf (.ref x)) Q E s := by
  obtain ⟨cd, hc, hb⟩ := any_some hn
  simp only [Bool.and_eq_true, decide_eq_true_eq] at hb
  unfold PySem.typeNameOf PySem.shownTypeOf
  refine wpAny_bind (wpAny_bind (I.type.here ?_))
  simp only [show (Value.ref C == Value.type "builtin_function_or_method") = false from rfl, Bool.false_eq_true, if_false]
  refine wpAny_pure ?_
  unfold PySem.typeName
  refine wpAny_bind ((looks_clsIn X hc).here ?_)
  dsimp only
  rw [if_neg (by omega)]
  exact wpAny_pure (h _ hb.2)
theorem msg_fits {a b : String} (ha : a.length ≤ 100) (hb : b.length ≤ 100) : (Str.ofString s!"'{"<"}' not supported between instances of '{a}' and '{b}'").length ≤ sizeLine := by
  rw [PySem.ofString_length, sizeLine_eq]
  simp only [String.length_append, toString]
  have e1 : "'".length ≤ 100 := by decide
  have e2 : "<".length ≤ 100 := by decide
  have e3 : "' not supported between instances of '".length ≤ 100 := by decide
  have e4 : "' and '".length ≤ 100 := by decide
  omega
theorem asInt_no {Q : Option Int → Shared → Prop} (hx : s.heap.get? x = some ox) (hnp : ∀ p, ox.data ≠ .prim p) (h : Q none s) : wpAny (model prog w) A (asInt? (.ref x)) Q E s := by
  unfold asInt?
  refine wpAny_bind (wpAny_load hx ?_)
  split
  · rename_i h1; exact absurd h1 (hnp _)
  · exact wpAny_pure h
/-- an int at the left of <, a thing of an own class at the right -/
theorem lt_int_inst {Q : Value → Shared → Prop} {i : Int} {t : Tok} (hh : A.handled = none) (hu : A.units < cLine) (F : Fr h₀ L s.heap m) (X₀ : K.In h₀) (I : W.InstAt s.heap x ox C od)
    (hg : findIn K (.ref C) "__gt__" = some (some (.builtin "object.__gt__"))) (hm : mroIn K C (.type "object") = some true) (hi : mroIn K C (.type "int") = some false) (hn : nameIn K C = true) (hnp : ∀ p, ox.data ≠ .prim p)
    (h : ∀ h' tk e, Heap.NewExc s.heap h' e "TypeError" → E (.ref e) { s with heap := h', toks := tk }) : wpAny (model prog w) A (compareOp .Lt (.int i t) (.ref x)) Q E s := by
  have X := X₀.keeps F.keep
  refine cmp_ofLt ?_
  have hT : ∀ s' : Shared, s'.TypeIs (.int i t) "int" := fun _ => rfl
  simp only [richCompare, cmpInfo, (hT s).oneThing_none]
  refine wpAny_holding (wpAny_bind (wpAny_cRoomFor hu ?_))
  refine wpAny_bind (wpAny_typeOf (hT s) (wpAny_bind (I.type.here ?_)))
  simp only [show (Value.type "int" != Value.ref C) = true from rfl, if_true]
  refine wpAny_bind ((looks_mroIn X hi).here ?_)
  simp only [Bool.false_eq_true, if_false, Bool.not_false, if_true]
  refine wpAny_bind (wpAny_tryCompare_declines (hT s) PySem.F.slot_int_lt ?_)
  refine wpAny_call_entry PySem.F.slot_int_lt (hT s) PySem.F.entry_int_lt ?_ (PySem.F.args_int_lt_2 _ _)
  show wpAny _ _ (Builtin.Int.intBinary "__lt__" (fun x y => ret (.bool (decide (x < y)))) false _) _ _ _
  unfold Builtin.Int.intBinary
  refine wpAny_bind (m := slotArgs "__lt__" 1 _) (wpAny_pure (a := (Value.int i t, [Value.ref x])) ?_)
  refine wpAny_bind (m := Builtin.Int.intOfSelf _) (wpAny_pure (a := i) ?_)
  refine wpAny_bind (m := asInt? (.ref x)) (asInt_no I.at_ hnp ?_)
  refine wpAny_bind (wpAny_rule (wpAny_pure ⟨_, rfl, rfl, ?_⟩))
  dsimp only
  refine wpAny_bind (gt_declined X I hg hm ?_)
  dsimp only
  refine wpAny_bind (wpAny_rule (wpAny_bind (wpAny_typeNameOf' (hT _) (by decide) (wpAny_bind (name_inst X I hn fun n hl => ?_)))))
  exact wpAny_raiseTypeError hh h (msg_fits (by decide) hl)
end
end Mine


namespace Mine
section
variable {p1 p2 p3 p4 p5 p6 p7 p8 p9 pa pb pc pd pe pf q : Prop}
theorem and1 (h : p1 ∧ q) : q := h.2
theorem and2 (h : p1 ∧ p2 ∧ q) : q := h.2.2
theorem and3 (h : p1 ∧ p2 ∧ p3 ∧ q) : q := h.2.2.2
theorem and4 (h : p1 ∧ p2 ∧ p3 ∧ p4 ∧ q) : q := h.2.2.2.2
theorem and5 (h : p1 ∧ p2 ∧ p3 ∧ p4 ∧ p5 ∧ q) : q := h.2.2.2.2.2
theorem and6 (h : p1 ∧ p2 ∧ p3 ∧ p4 ∧ p5 ∧ p6 ∧ q) : q := h.2.2.2.2.2.2
theorem and7 (h : p1 ∧ p2 ∧ p3 ∧ p4 ∧ p5 ∧ p6 ∧ p7 ∧ q) : q := h.2.2.2.2.2.2.2
theorem and8 (h : p1 ∧ p2 ∧ p3 ∧ p4 ∧ p5 ∧ p6 ∧ p7 ∧ p8 ∧ q) : q := h.2.2.2.2.2.2.2.2
theorem and9 (h : p1 ∧ p2 ∧ p3 ∧ p4 ∧ p5 ∧ p6 ∧ p7 ∧ p8 ∧ p9 ∧ q) : q := h.2.2.2.2.2.2.2.2.2
theorem anda (h : p1 ∧ p2 ∧ p3 ∧ p4 ∧ p5 ∧ p6 ∧ p7 ∧ p8 ∧ p9 ∧ pa ∧ q) : q := h.2.2.2.2.2.2.2.2.2.2
theorem andb (h : p1 ∧ p2 ∧ p3 ∧ p4 ∧ p5 ∧ p6 ∧ p7 ∧ p8 ∧ p9 ∧ pa ∧ pb ∧ q) : q := h.2.2.2.2.2.2.2.2.2.2.2
theorem andc (h : p1 ∧ p2 ∧ p3 ∧ p4 ∧ p5 ∧ p6 ∧ p7 ∧ p8 ∧ p9 ∧ pa ∧ pb ∧ pc ∧ q) : q := h.2.2.2.2.2.2.2.2.2.2.2.2
theorem andd (h : p1 ∧ p2 ∧ p3 ∧ p4 ∧ p5 ∧ p6 ∧ p7 ∧ p8 ∧ p9 ∧ pa ∧ pb ∧ pc ∧ pd ∧ q) : q := h.2.2.2.2.2.2.2.2.2.2.2.2.2
theorem ande (h : p1 ∧ p2 ∧ p3 ∧ p4 ∧ p5 ∧ p6 ∧ p7 ∧ p8 ∧ p9 ∧ pa ∧ pb ∧ pc ∧ pd ∧ pe ∧ q) : q := h.2.2.2.2.2.2.2.2.2.2.2.2.2.2
end
def Offs (I : Addr) (l : List (Addr × Obj)) : Prop := ∀ p ∈ l, p.1 ≠ I
theorem offs_cons {I : Addr} {p : Addr × Obj} {r : List (Addr × Obj)} (h : p.1 ≠ I) (t : Offs I r) : Offs I (p :: r) := fun q hq => by
  rcases List.mem_cons.mp hq with rfl | hq
  · exact h
  · exact t q hq
theorem allLt_mem {d : Nat} : ∀ {l : List (Addr × Obj)}, AllLt d l → ∀ p ∈ l, @LT.lt Nat _ p.1 d
  | [], _, _, h => nomatch h
  | _ :: _, x, p, h => by
    rcases List.mem_cons.mp h with rfl | h
    · exact x.1
    · exact allLt_mem x.2 p h
theorem allLt_le {d e : Nat} {l : List (Addr × Obj)} (h : ∀ p ∈ l, @LT.lt Nat _ p.1 d) (hle : d ≤ e) : AllLt e l := allLt_of fun p hp => Nat.lt_of_lt_of_le (h p hp) hle
theorem offs_tail {I : Addr} {r : List (Addr × Obj)} (h : AllLt I r) : Offs I r := fun p hp e => absurd (allLt_mem h p hp) (by rw [show p.1 = I from e]; exact Nat.lt_irrefl _)
/-- nw is news and new things -/
def Grown (news nw : List (Addr × Obj)) : Prop := (∀ p ∈ news, p ∈ nw) ∧ ∀ p ∈ nw, p ∈ news ∨ AllLt p.1 news
theorem grown_nil {news : List (Addr × Obj)} : Grown news news := ⟨fun _ h => h, fun _ h => .inl h⟩
theorem grown_cons {news nw : List (Addr × Obj)} {p : Addr × Obj} (h : AllLt p.1 news) (g : Grown news nw) : Grown news (p :: nw) := ⟨fun q hq => .tail _ (g.1 q hq), fun q hq => by
  rcases List.mem_cons.mp hq with rfl | hq
  · exact .inr h
  · exact g.2 q hq⟩
/-- nw is the new things, then news -/
def Made (news nw new : List (Addr × Obj)) : Prop := nw = new ++ news ∧ ∀ p ∈ new, AllLt p.1 news
theorem made_nil {news : List (Addr × Obj)} : Made news news [] := ⟨rfl, fun _ h => nomatch h⟩
theorem made_cons {news nw new : List (Addr × Obj)} {p : Addr × Obj} (h : AllLt p.1 news) (g : Made news nw new) : Made news (p :: nw) (p :: new) := ⟨by rw [g.1]; rfl, fun q hq => by
  rcases List.mem_cons.mp hq with rfl | hq
  · exact h
  · exact g.2 q hq⟩
section
variable {h₀ : Heap} {L I : Addr} {it : Obj} {rest : (Str → Option Value) → List (Addr × Obj) → Prop} {s₁ : Shared} {h' : Heap} {tk : Nat} {m' : Str → Option Value} {a1 a2 a3 a4 a5 a6 a7 a8 a9 : Addr × Obj} {post : List (Addr × Obj)}
theorem unr_of (F : Fr h₀ L h' m') (pre : List (Addr × Obj)) (N : News h₀ L h' (pre ++ (I, it) :: post)) (off : Offs I (pre ++ post)) (r : rest m' (pre ++ post)) : UnrEnd h₀ L s₁ I it rest { s₁ with heap := h', toks := tk } :=
  UnrEnd.intro F N (pre ++ post) (fun p hp => by
    rcases List.mem_cons.mp hp with rfl | hp
    · exact List.mem_append_right _ (.head _)
    · rcases List.mem_append.mp hp with hp | hp
      · exact List.mem_append_left _ hp
      · exact List.mem_append_right _ (.tail _ hp)) off r
theorem unr0 (F : Fr h₀ L h' m') (N : News h₀ L h' ((I, it) :: post)) (off : Offs I post) (r : rest m' post) : UnrEnd h₀ L s₁ I it rest { s₁ with heap := h', toks := tk } := unr_of F [] N off r
theorem unr1 (F : Fr h₀ L h' m') (N : News h₀ L h' (a1 :: (I, it) :: post)) (off : Offs I (a1 :: post)) (r : rest m' (a1 :: post)) : UnrEnd h₀ L s₁ I it rest { s₁ with heap := h', toks := tk } := unr_of F [a1] N off r
theorem unr2 (F : Fr h₀ L h' m') (N : News h₀ L h' (a1 :: a2 :: (I, it) :: post)) (off : Offs I (a1 :: a2 :: post)) (r : rest m' (a1 :: a2 :: post)) : UnrEnd h₀ L s₁ I it rest { s₁ with heap := h', toks := tk } := unr_of F [a1, a2] N off r
theorem unr3 (F : Fr h₀ L h' m') (N : News h₀ L h' (a1 :: a2 :: a3 :: (I, it) :: post)) (off : Offs I (a1 :: a2 :: a3 :: post)) (r : rest m' (a1 :: a2 :: a3 :: post)) : UnrEnd h₀ L s₁ I it rest { s₁ with heap := h', toks := tk } := unr_of F [a1, a2, a3] N off r
theorem unr4 (F : Fr h₀ L h' m') (N : News h₀ L h' (a1 :: a2 :: a3 :: a4 :: (I, it) :: post)) (off : Offs I (a1 :: a2 :: a3 :: a4 :: post)) (r : rest m' (a1 :: a2 :: a3 :: a4 :: post)) : UnrEnd h₀ L s₁ I it rest { s₁ with heap := h', toks := tk } := unr_of F [a1, a2, a3, a4] N off r
end
end Mine


namespace Mine
/-! a list comprehension by an invariant over what is built and the ledger -/
section
variable {prog : Program} {w : World} {A : Around} {s : Shared} {h₀ : Heap} {L : Addr} {m : Str → Option Value} {env : Env} {elt : PySem.Expr} {x : Str} {scope : Scope} {cl : List (Str × Addr)} {S : List (Addr × Obj) → Prop} {P : Nat → Value → Prop} {Fin : List Value → List (Addr × Obj) → Prop}
theorem comp_inv {n : Nat} (J : Nat → List Value → List (Addr × Obj) → Prop)
    (step : ∀ i ys news, i < n → J i ys news → ∀ v I oI C oC D m₂ h tk (E' : Value → Shared → Prop), P i v → LCg.NsObj oC m₂ → m₂ x = some v → Fr h₀ L h m → News h₀ L h ((I, oI) :: (C, oC) :: (D, LCg.lst ys) :: news) → LCg.Off3 I C D news → ((@Ne Nat I C) ∧ (@Ne Nat I D) ∧ (@Ne Nat C D)) →
      wpAny (model prog w) A (eval elt (compEnvC scope cl C env)) (LCg.CompEnd h₀ L m { s with heap := h, toks := tk } I oI C oC D (LCg.lst ys) S (fun y news' => J (i + 1) (ys ++ [y]) news')) E' { s with heap := h, toks := tk })
    (fin : ∀ ys news, J n ys news → Fin ys news) : ∀ k i ys news, i + k = n → J i ys news → LCg.CompRest prog w A h₀ L m env elt x scope cl s S P Fin k i ys news
  | 0, i, ys, news, e, hj => .zero (fin ys news ((show i = n by omega) ▸ hj))
  | k + 1, i, ys, news, e, hj => .succ (fun v I oI C oC D m₂ h tk E' h1 h2 h3 h4 h5 h6 h7 => by
      refine wpAny_mono (step i ys news (by omega) hj v I oI C oC D m₂ h tk E' h1 h2 h3 h4 h5 h6 h7) (fun y s₂ z => ?_) fun _ _ e => e
      obtain ⟨h', tk', news', a1, a2, a3, a4, a5, a6⟩ := z
      exact ⟨h', tk', news', a1, a2, a3, a4, a5, comp_inv J step fin k (i + 1) (ys ++ [y]) news' (by omega) a6⟩)
theorem comp_inv0 {n : Nat} {news : List (Addr × Obj)} (J : Nat → List Value → List (Addr × Obj) → Prop) (hj : J 0 [] news)
    (step : ∀ i ys news, i < n → J i ys news → ∀ v I oI C oC D m₂ h tk (E' : Value → Shared → Prop), P i v → LCg.NsObj oC m₂ → m₂ x = some v → Fr h₀ L h m → News h₀ L h ((I, oI) :: (C, oC) :: (D, LCg.lst ys) :: news) → LCg.Off3 I C D news → ((@Ne Nat I C) ∧ (@Ne Nat I D) ∧ (@Ne Nat C D)) →
      wpAny (model prog w) A (eval elt (compEnvC scope cl C env)) (LCg.CompEnd h₀ L m { s with heap := h, toks := tk } I oI C oC D (LCg.lst ys) S (fun y news' => J (i + 1) (ys ++ [y]) news')) E' { s with heap := h, toks := tk })
    (fin : ∀ ys news, J n ys news → Fin ys news) : LCg.CompRest prog w A h₀ L m env elt x scope cl s S P Fin n 0 [] news := comp_inv J step fin n 0 [] news (Nat.zero_add n) hj
theorem off3_made {I C D : Addr} {oI oC oD : Obj} {news new nw : List (Addr × Obj)} (h : Made ((I, oI) :: (C, oC) :: (D, oD) :: news) nw new) (ho : LCg.Off3 I C D news) : LCg.Off3 I C D (new ++ news) := LCg.Off3.of fun p hp => by
  rcases List.mem_append.mp hp with hp | hp
  · have := allLt_mem (h.2 p hp)
    exact ⟨fun e => Nat.lt_irrefl _ (e ▸ this (I, oI) (.head _)), fun e => Nat.lt_irrefl _ (e ▸ this (C, oC) (.tail _ (.head _))), fun e => Nat.lt_irrefl _ (e ▸ this (D, oD) (.tail _ (.tail _ (.head _))))⟩
  · exact ho.mem p hp
theorem news_made {I C D : Addr} {oI oC oD : Obj} {news new nw : List (Addr × Obj)} {h : Heap} (hm : Made ((I, oI) :: (C, oC) :: (D, oD) :: news) nw new) (N : News h₀ L h nw) : News h₀ L h ((I, oI) :: (C, oC) :: (D, oD) :: (new ++ news)) := fun p hp => by
  refine N p ?_
  rw [hm.1]
  rcases List.mem_cons.mp hp with rfl | hp
  · exact List.mem_append_right _ (.head _)
  · rcases List.mem_cons.mp hp with rfl | hp
    · exact List.mem_append_right _ (.tail _ (.head _))
    · rcases List.mem_cons.mp hp with rfl | hp
      · exact List.mem_append_right _ (.tail _ (.tail _ (.head _)))
      · rcases List.mem_append.mp hp with hp | hp
        · exact List.mem_append_left _ hp
        · exact List.mem_append_right _ (.tail _ (.tail _ (.tail _ hp)))
end
end Mine


namespace Mine
theorem fr_f1 {h₀ h : Heap} {L : Addr} {m : Str → Option Value} {k1 : Str} {v1 : Value} (F : Fr h₀ L h m) (e1 : m k1 = some v1) : Fr h₀ L h (fun y => if y = k1 then some v1 else m y) := by
  rw [show (fun y => if y = k1 then some v1 else m y) = m from funext fun y => by simp only [fill1 e1]]; exact F
theorem fr_f2 {h₀ h : Heap} {L : Addr} {m : Str → Option Value} {k1 k2 : Str} {v1 v2 : Value} (F : Fr h₀ L h m) (e1 : m k1 = some v1) (e2 : m k2 = some v2) : Fr h₀ L h (fun y => if y = k1 then some v1 else if y = k2 then some v2 else m y) := by
  rw [show (fun y => if y = k1 then some v1 else if y = k2 then some v2 else m y) = m from funext fun y => by simp only [fill1 e1, fill1 e2]]; exact F
theorem fr_f3 {h₀ h : Heap} {L : Addr} {m : Str → Option Value} {k1 k2 k3 : Str} {v1 v2 v3 : Value} (F : Fr h₀ L h m) (e1 : m k1 = some v1) (e2 : m k2 = some v2) (e3 : m k3 = some v3) : Fr h₀ L h (fun y => if y = k1 then some v1 else if y = k2 then some v2 else if y = k3 then some v3 else m y) := by
  rw [show (fun y => if y = k1 then some v1 else if y = k2 then some v2 else if y = k3 then some v3 else m y) = m from funext fun y => by simp only [fill1 e1, fill1 e2, fill1 e3]]; exact F
theorem fr_f4 {h₀ h : Heap} {L : Addr} {m : Str → Option Value} {k1 k2 k3 k4 : Str} {v1 v2 v3 v4 : Value} (F : Fr h₀ L h m) (e1 : m k1 = some v1) (e2 : m k2 = some v2) (e3 : m k3 = some v3) (e4 : m k4 = some v4) : Fr h₀ L h (fun y => if y = k1 then some v1 else if y = k2 then some v2 else if y = k3 then some v3 else if y = k4 then some v4 else m y) := by
  rw [show (fun y => if y = k1 then some v1 else if y = k2 then some v2 else if y = k3 then some v3 else if y = k4 then some v4 else m y) = m from funext fun y => by simp only [fill1 e1, fill1 e2, fill1 e3, fill1 e4]]; exact F
theorem fr_f5 {h₀ h : Heap} {L : Addr} {m : Str → Option Value} {k1 k2 k3 k4 k5 : Str} {v1 v2 v3 v4 v5 : Value} (F : Fr h₀ L h m) (e1 : m k1 = some v1) (e2 : m k2 = some v2) (e3 : m k3 = some v3) (e4 : m k4 = some v4) (e5 : m k5 = some v5) : Fr h₀ L h (fun y => if y = k1 then some v1 else if y = k2 then some v2 else if y = k3 then some v3 else if y = k4 then some v4 else if y = k5 then some v5 else m y) := by
  rw [show (fun y => if y = k1 then some v1 else if y = k2 then some v2 else if y = k3 then some v3 else if y = k4 then some v4 else if y = k5 then some v5 else m y) = m from funext fun y => by simp only [fill1 e1, fill1 e2, fill1 e3, fill1 e4, fill1 e5]]; exact F
theorem fr_f6 {h₀ h : Heap} {L : Addr} {m : Str → Option Value} {k1 k2 k3 k4 k5 k6 : Str} {v1 v2 v3 v4 v5 v6 : Value} (F : Fr h₀ L h m) (e1 : m k1 = some v1) (e2 : m k2 = some v2) (e3 : m k3 = some v3) (e4 : m k4 = some v4) (e5 : m k5 = some v5) (e6 : m k6 = some v6) : Fr h₀ L h (fun y => if y = k1 then some v1 else if y = k2 then some v2 else if y = k3 then some v3 else if y = k4 then some v4 else if y = k5 then some v5 else if y = k6 then some v6 else m y) := by
  rw [show (fun y => if y = k1 then some v1 else if y = k2 then some v2 else if y = k3 then some v3 else if y = k4 then some v4 else if y = k5 then some v5 else if y = k6 then some v6 else m y) = m from funext fun y => by simp only [fill1 e1, fill1 e2, fill1 e3, fill1 e4, fill1 e5, fill1 e6]]; exact F
theorem fr_f7 {h₀ h : Heap} {L : Addr} {m : Str → Option Value} {k1 k2 k3 k4 k5 k6 k7 : Str} {v1 v2 v3 v4 v5 v6 v7 : Value} (F : Fr h₀ L h m) (e1 : m k1 = some v1) (e2 : m k2 = some v2) (e3 : m k3 = some v3) (e4 : m k4 = some v4) (e5 : m k5 = some v5) (e6 : m k6 = some v6) (e7 : m k7 = some v7) : Fr h₀ L h (fun y => if y = k1 then some v1 else if y = k2 then some v2 else if y = k3 then some v3 else if y = k4 then some v4 else if y = k5 then some v5 else if y = k6 then some v6 else if y = k7 then some v7 else m y) := by
  rw [show (fun y => if y = k1 then some v1 else if y = k2 then some v2 else if y = k3 then some v3 else if y = k4 then some v4 else if y = k5 then some v5 else if y = k6 then some v6 else if y = k7 then some v7 else m y) = m from funext fun y => by simp only [fill1 e1, fill1 e2, fill1 e3, fill1 e4, fill1 e5, fill1 e6, fill1 e7]]; exact F
theorem fr_f8 {h₀ h : Heap} {L : Addr} {m : Str → Option Value} {k1 k2 k3 k4 k5 k6 k7 k8 : Str} {v1 v2 v3 v4 v5 v6 v7 v8 : Value} (F : Fr h₀ L h m) (e1 : m k1 = some v1) (e2 : m k2 = some v2) (e3 : m k3 = some v3) (e4 : m k4 = some v4) (e5 : m k5 = some v5) (e6 : m k6 = some v6) (e7 : m k7 = some v7) (e8 : m k8 = some v8) : Fr h₀ L h (fun y => if y = k1 then some v1 else if y = k2 then some v2 else if y = k3 then some v3 else if y = k4 then some v4 else if y = k5 then some v5 else if y = k6 then some v6 else if y = k7 then some v7 else if y = k8 then some v8 else m y) := by
  rw [show (fun y => if y = k1 then some v1 else if y = k2 then some v2 else if y = k3 then some v3 else if y = k4 then some v4 else if y = k5 then some v5 else if y = k6 then some v6 else if y = k7 then some v7 else if y = k8 then some v8 else m y) = m from funext fun y => by simp only [fill1 e1, fill1 e2, fill1 e3, fill1 e4, fill1 e5, fill1 e6, fill1 e7, fill1 e8]]; exact F
theorem fr_f9 {h₀ h : Heap} {L : Addr} {m : Str → Option Value} {k1 k2 k3 k4 k5 k6 k7 k8 k9 : Str} {v1 v2 v3 v4 v5 v6 v7 v8 v9 : Value} (F : Fr h₀ L h m) (e1 : m k1 = some v1) (e2 : m k2 = some v2) (e3 : m k3 = some v3) (e4 : m k4 = some v4) (e5 : m k5 = some v5) (e6 : m k6 = some v6) (e7 : m k7 = some v7) (e8 : m k8 = some v8) (e9 : m k9 = some v9) : Fr h₀ L h (fun y => if y = k1 then some v1 else if y = k2 then some v2 else if y = k3 then some v3 else if y = k4 then some v4 else if y = k5 then some v5 else if y = k6 then some v6 else if y = k7 then some v7 else if y = k8 then some v8 else if y = k9 then some v9 else m y) := by
  rw [show (fun y => if y = k1 then some v1 else if y = k2 then some v2 else if y = k3 then some v3 else if y = k4 then some v4 else if y = k5 then some v5 else if y = k6 then some v6 else if y = k7 then some v7 else if y = k8 then some v8 else if y = k9 then some v9 else m y) = m from funext fun y => by simp only [fill1 e1, fill1 e2, fill1 e3, fill1 e4, fill1 e5, fill1 e6, fill1 e7, fill1 e8, fill1 e9]]; exact F
theorem fr_f10 {h₀ h : Heap} {L : Addr} {m : Str → Option Value} {k1 k2 k3 k4 k5 k6 k7 k8 k9 k10 : Str} {v1 v2 v3 v4 v5 v6 v7 v8 v9 v10 : Value} (F : Fr h₀ L h m) (e1 : m k1 = some v1) (e2 : m k2 = some v2) (e3 : m k3 = some v3) (e4 : m k4 = some v4) (e5 : m k5 = some v5) (e6 : m k6 = some v6) (e7 : m k7 = some v7) (e8 : m k8 = some v8) (e9 : m k9 = some v9) (e10 : m k10 = some v10) : Fr h₀ L h (fun y => if y = k1 then some v1 else if y = k2 then some v2 else if y = k3 then some v3 else if y = k4 then some v4 else if y = k5 then some v5 else if y = k6 then some v6 else if y = k7 then some v7 else if y = k8 then some v8 else if y = k9 then some v9 else if y = k10 then some v10 else m y) := by
  rw [show (fun y => if y = k1 then some v1 else if y = k2 then some v2 else if y = k3 then some v3 else if y = k4 then some v4 else if y = k5 then some v5 else if y = k6 then some v6 else if y = k7 then some v7 else if y = k8 then some v8 else if y = k9 then some v9 else if y = k10 then some v10 else m y) = m from funext fun y => by simp only [fill1 e1, fill1 e2, fill1 e3, fill1 e4, fill1 e5, fill1 e6, fill1 e7, fill1 e8, fill1 e9, fill1 e10]]; exact F
theorem fr_f11 {h₀ h : Heap} {L : Addr} {m : Str → Option Value} {k1 k2 k3 k4 k5 k6 k7 k8 k9 k10 k11 : Str} {v1 v2 v3 v4 v5 v6 v7 v8 v9 v10 v11 : Value} (F : Fr h₀ L h m) (e1 : m k1 = some v1) (e2 : m k2 = some v2) (e3 : m k3 = some v3) (e4 : m k4 = some v4) (e5 : m k5 = some v5) (e6 : m k6 = some v6) (e7 : m k7 = some v7) (e8 : m k8 = some v8) (e9 : m k9 = some v9) (e10 : m k10 = some v10) (e11 : m k11 = some v11) : Fr h₀ L h (fun y => if y = k1 then some v1 else if y = k2 then some v2 else if y = k3 then some v3 else if y = k4 then some v4 else if y = k5 then some v5 else if y = k6 then some v6 else if y = k7 then some v7 else if y = k8 then some v8 else if y = k9 then some v9 else if y = k10 then some v10 else if y = k11 then some v11 else m y) := by
  rw [show (fun y => if y = k1 then some v1 else if y = k2 then some v2 else if y = k3 then some v3 else if y = k4 then some v4 else if y = k5 then some v5 else if y = k6 then some v6 else if y = k7 then some v7 else if y = k8 then some v8 else if y = k9 then some v9 else if y = k10 then some v10 else if y = k11 then some v11 else m y) = m from funext fun y => by simp only [fill1 e1, fill1 e2, fill1 e3, fill1 e4, fill1 e5, fill1 e6, fill1 e7, fill1 e8, fill1 e9, fill1 e10, fill1 e11]]; exact F
theorem fr_f12 {h₀ h : Heap} {L : Addr} {m : Str → Option Value} {k1 k2 k3 k4 k5 k6 k7 k8 k9 k10 k11 k12 : Str} {v1 v2 v3 v4 v5 v6 v7 v8 v9 v10 v11 v12 : Value} (F : Fr h₀ L h m) (e1 : m k1 = some v1) (e2 : m k2 = some v2) (e3 : m k3 = some v3) (e4 : m k4 = some v4) (e5 : m k5 = some v5) (e6 : m k6 = some v6) (e7 : m k7 = some v7) (e8 : m k8 = some v8) (e9 : m k9 = some v9) (e10 : m k10 = some v10) (e11 : m k11 = some v11) (e12 : m k12 = some v12) : Fr h₀ L h (fun y => if y = k1 then some v1 else if y = k2 then some v2 else if y = k3 then some v3 else if y = k4 then some v4 else if y = k5 then some v5 else if y = k6 then some v6 else if y = k7 then some v7 else if y = k8 then some v8 else if y = k9 then some v9 else if y = k10 then some v10 else if y = k11 then some v11 else if y = k12 then some v12 else m y) := by
  rw [show (fun y => if y = k1 then some v1 else if y = k2 then some v2 else if y = k3 then some v3 else if y = k4 then some v4 else if y = k5 then some v5 else if y = k6 then some v6 else if y = k7 then some v7 else if y = k8 then some v8 else if y = k9 then some v9 else if y = k10 then some v10 else if y = k11 then some v11 else if y = k12 then some v12 else m y) = m from funext fun y => by simp only [fill1 e1, fill1 e2, fill1 e3, fill1 e4, fill1 e5, fill1 e6, fill1 e7, fill1 e8, fill1 e9, fill1 e10, fill1 e11, fill1 e12]]; exact F
theorem fr_f13 {h₀ h : Heap} {L : Addr} {m : Str → Option Value} {k1 k2 k3 k4 k5 k6 k7 k8 k9 k10 k11 k12 k13 : Str} {v1 v2 v3 v4 v5 v6 v7 v8 v9 v10 v11 v12 v13 : Value} (F : Fr h₀ L h m) (e1 : m k1 = some v1) (e2 : m k2 = some v2) (e3 : m k3 = some v3) (e4 : m k4 = some v4) (e5 : m k5 = some v5) (e6 : m k6 = some v6) (e7 : m k7 = some v7) (e8 : m k8 = some v8) (e9 : m k9 = some v9) (e10 : m k10 = some v10) (e11 : m k11 = some v11) (e12 : m k12 = some v12) (e13 : m k13 = some v13) : Fr h₀ L h (fun y => if y = k1 then some v1 else if y = k2 then some v2 else if y = k3 then some v3 else if y = k4 then some v4 else if y = k5 then some v5 else if y = k6 then some v6 else if y = k7 then some v7 else if y = k8 then some v8 else if y = k9 then some v9 else if y = k10 then some v10 else if y = k11 then some v11 else if y = k12 then some v12 else if y = k13 then some v13 else m y) := by
  rw [show (fun y => if y = k1 then some v1 else if y = k2 then some v2 else if y = k3 then some v3 else if y = k4 then some v4 else if y = k5 then some v5 else if y = k6 then some v6 else if y = k7 then some v7 else if y = k8 then some v8 else if y = k9 then some v9 else if y = k10 then some v10 else if y = k11 then some v11 else if y = k12 then some v12 else if y = k13 then some v13 else m y) = m from funext fun y => by simp only [fill1 e1, fill1 e2, fill1 e3, fill1 e4, fill1 e5, fill1 e6, fill1 e7, fill1 e8, fill1 e9, fill1 e10, fill1 e11, fill1 e12, fill1 e13]]; exact F
theorem fr_f14 {h₀ h : Heap} {L : Addr} {m : Str → Option Value} {k1 k2 k3 k4 k5 k6 k7 k8 k9 k10 k11 k12 k13 k14 : Str} {v1 v2 v3 v4 v5 v6 v7 v8 v9 v10 v11 v12 v13 v14 : Value} (F : Fr h₀ L h m) (e1 : m k1 = some v1) (e2 : m k2 = some v2) (e3 : m k3 = some v3) (e4 : m k4 = some v4) (e5 : m k5 = some v5) (e6 : m k6 = some v6) (e7 : m k7 = some v7) (e8 : m k8 = some v8) (e9 : m k9 = some v9) (e10 : m k10 = some v10) (e11 : m k11 = some v11) (e12 : m k12 = some v12) (e13 : m k13 = some v13) (e14 : m k14 = some v14) : Fr h₀ L h (fun y => if y = k1 then some v1 else if y = k2 then some v2 else if y = k3 then some v3 else if y = k4 then some v4 else if y = k5 then some v5 else if y = k6 then some v6 else if y = k7 then some v7 else if y = k8 then some v8 else if y = k9 then some v9 else if y = k10 then some v10 else if y = k11 then some v11 else if y = k12 then some v12 else if y = k13 then some v13 else if y = k14 then some v14 else m y) := by
  rw [show (fun y => if y = k1 then some v1 else if y = k2 then some v2 else if y = k3 then some v3 else if y = k4 then some v4 else if y = k5 then some v5 else if y = k6 then some v6 else if y = k7 then some v7 else if y = k8 then some v8 else if y = k9 then some v9 else if y = k10 then some v10 else if y = k11 then some v11 else if y = k12 then some v12 else if y = k13 then some v13 else if y = k14 then some v14 else m y) = m from funext fun y => by simp only [fill1 e1, fill1 e2, fill1 e3, fill1 e4, fill1 e5, fill1 e6, fill1 e7, fill1 e8, fill1 e9, fill1 e10, fill1 e11, fill1 e12, fill1 e13, fill1 e14]]; exact F
theorem fr_g1 {h₀ h : Heap} {L : Addr} {m : Str → Option Value} {x k1 : Str} {v v1 : Value} (F : Fr h₀ L h (fun y => if y = x then some v else m y)) (e1 : m k1 = some v1) : Fr h₀ L h (fun y => if y = x then some v else if y = k1 then some v1 else m y) := by
  rw [show (fun y => if y = x then some v else if y = k1 then some v1 else m y) = (fun y => if y = x then some v else m y) from funext fun y => by simp only [fill1 e1]]; exact F
theorem fr_g2 {h₀ h : Heap} {L : Addr} {m : Str → Option Value} {x k1 k2 : Str} {v v1 v2 : Value} (F : Fr h₀ L h (fun y => if y = x then some v else m y)) (e1 : m k1 = some v1) (e2 : m k2 = some v2) : Fr h₀ L h (fun y => if y = x then some v else if y = k1 then some v1 else if y = k2 then some v2 else m y) := by
  rw [show (fun y => if y = x then some v else if y = k1 then some v1 else if y = k2 then some v2 else m y) = (fun y => if y = x then some v else m y) from funext fun y => by simp only [fill1 e1, fill1 e2]]; exact F
theorem fr_g3 {h₀ h : Heap} {L : Addr} {m : Str → Option Value} {x k1 k2 k3 : Str} {v v1 v2 v3 : Value} (F : Fr h₀ L h (fun y => if y = x then some v else m y)) (e1 : m k1 = some v1) (e2 : m k2 = some v2) (e3 : m k3 = some v3) : Fr h₀ L h (fun y => if y = x then some v else if y = k1 then some v1 else if y = k2 then some v2 else if y = k3 then some v3 else m y) := by
  rw [show (fun y => if y = x then some v else if y = k1 then some v1 else if y = k2 then some v2 else if y = k3 then some v3 else m y) = (fun y => if y = x then some v else m y) from funext fun y => by simp only [fill1 e1, fill1 e2, fill1 e3]]; exact F
theorem fr_g4 {h₀ h : Heap} {L : Addr} {m : Str → Option Value} {x k1 k2 k3 k4 : Str} {v v1 v2 v3 v4 : Value} (F : Fr h₀ L h (fun y => if y = x then some v else m y)) (e1 : m k1 = some v1) (e2 : m k2 = some v2) (e3 : m k3 = some v3) (e4 : m k4 = some v4) : Fr h₀ L h (fun y => if y = x then some v else if y = k1 then some v1 else if y = k2 then some v2 else if y = k3 then some v3 else if y = k4 then some v4 else m y) := by
  rw [show (fun y => if y = x then some v else if y = k1 then some v1 else if y = k2 then some v2 else if y = k3 then some v3 else if y = k4 then some v4 else m y) = (fun y => if y = x then some v else m y) from funext fun y => by simp only [fill1 e1, fill1 e2, fill1 e3, fill1 e4]]; exact F
theorem fr_g5 {h₀ h : Heap} {L : Addr} {m : Str → Option Value} {x k1 k2 k3 k4 k5 : Str} {v v1 v2 v3 v4 v5 : Value} (F : Fr h₀ L h (fun y => if y = x then some v else m y)) (e1 : m k1 = some v1) (e2 : m k2 = some v2) (e3 : m k3 = some v3) (e4 : m k4 = some v4) (e5 : m k5 = some v5) : Fr h₀ L h (fun y => if y = x then some v else if y = k1 then some v1 else if y = k2 then some v2 else if y = k3 then some v3 else if y = k4 then some v4 else if y = k5 then some v5 else m y) := by
  rw [show (fun y => if y = x then some v else if y = k1 then some v1 else if y = k2 then some v2 else if y = k3 then some v3 else if y = k4 then some v4 else if y = k5 then some v5 else m y) = (fun y => if y = x then some v else m y) from funext fun y => by simp only [fill1 e1, fill1 e2, fill1 e3, fill1 e4, fill1 e5]]; exact F
theorem fr_g6 {h₀ h : Heap} {L : Addr} {m : Str → Option Value} {x k1 k2 k3 k4 k5 k6 : Str} {v v1 v2 v3 v4 v5 v6 : Value} (F : Fr h₀ L h (fun y => if y = x then some v else m y)) (e1 : m k1 = some v1) (e2 : m k2 = some v2) (e3 : m k3 = some v3) (e4 : m k4 = some v4) (e5 : m k5 = some v5) (e6 : m k6 = some v6) : Fr h₀ L h (fun y => if y = x then some v else if y = k1 then some v1 else if y = k2 then some v2 else if y = k3 then some v3 else if y = k4 then some v4 else if y = k5 then some v5 else if y = k6 then some v6 else m y) := by
  rw [show (fun y => if y = x then some v else if y = k1 then some v1 else if y = k2 then some v2 else if y = k3 then some v3 else if y = k4 then some v4 else if y = k5 then some v5 else if y = k6 then some v6 else m y) = (fun y => if y = x then some v else m y) from funext fun y => by simp only [fill1 e1, fill1 e2, fill1 e3, fill1 e4, fill1 e5, fill1 e6]]; exact F
theorem fr_g7 {h₀ h : Heap} {L : Addr} {m : Str → Option Value} {x k1 k2 k3 k4 k5 k6 k7 : Str} {v v1 v2 v3 v4 v5 v6 v7 : Value} (F : Fr h₀ L h (fun y => if y = x then some v else m y)) (e1 : m k1 = some v1) (e2 : m k2 = some v2) (e3 : m k3 = some v3) (e4 : m k4 = some v4) (e5 : m k5 = some v5) (e6 : m k6 = some v6) (e7 : m k7 = some v7) : Fr h₀ L h (fun y => if y = x then some v else if y = k1 then some v1 else if y = k2 then some v2 else if y = k3 then some v3 else if y = k4 then some v4 else if y = k5 then some v5 else if y = k6 then some v6 else if y = k7 then some v7 else m y) := by
  rw [show (fun y => if y = x then some v else if y = k1 then some v1 else if y = k2 then some v2 else if y = k3 then some v3 else if y = k4 then some v4 else if y = k5 then some v5 else if y = k6 then some v6 else if y = k7 then some v7 else m y) = (fun y => if y = x then some v else m y) from funext fun y => by simp only [fill1 e1, fill1 e2, fill1 e3, fill1 e4, fill1 e5, fill1 e6, fill1 e7]]; exact F
theorem fr_g8 {h₀ h : Heap} {L : Addr} {m : Str → Option Value} {x k1 k2 k3 k4 k5 k6 k7 k8 : Str} {v v1 v2 v3 v4 v5 v6 v7 v8 : Value} (F : Fr h₀ L h (fun y => if y = x then some v else m y)) (e1 : m k1 = some v1) (e2 : m k2 = some v2) (e3 : m k3 = some v3) (e4 : m k4 = some v4) (e5 : m k5 = some v5) (e6 : m k6 = some v6) (e7 : m k7 = some v7) (e8 : m k8 = some v8) : Fr h₀ L h (fun y => if y = x then some v else if y = k1 then some v1 else if y = k2 then some v2 else if y = k3 then some v3 else if y = k4 then some v4 else if y = k5 then some v5 else if y = k6 then some v6 else if y = k7 then some v7 else if y = k8 then some v8 else m y) := by
  rw [show (fun y => if y = x then some v else if y = k1 then some v1 else if y = k2 then some v2 else if y = k3 then some v3 else if y = k4 then some v4 else if y = k5 then some v5 else if y = k6 then some v6 else if y = k7 then some v7 else if y = k8 then some v8 else m y) = (fun y => if y = x then some v else m y) from funext fun y => by simp only [fill1 e1, fill1 e2, fill1 e3, fill1 e4, fill1 e5, fill1 e6, fill1 e7, fill1 e8]]; exact F
theorem fr_g9 {h₀ h : Heap} {L : Addr} {m : Str → Option Value} {x k1 k2 k3 k4 k5 k6 k7 k8 k9 : Str} {v v1 v2 v3 v4 v5 v6 v7 v8 v9 : Value} (F : Fr h₀ L h (fun y => if y = x then some v else m y)) (e1 : m k1 = some v1) (e2 : m k2 = some v2) (e3 : m k3 = some v3) (e4 : m k4 = some v4) (e5 : m k5 = some v5) (e6 : m k6 = some v6) (e7 : m k7 = some v7) (e8 : m k8 = some v8) (e9 : m k9 = some v9) : Fr h₀ L h (fun y => if y = x then some v else if y = k1 then some v1 else if y = k2 then some v2 else if y = k3 then some v3 else if y = k4 then some v4 else if y = k5 then some v5 else if y = k6 then some v6 else if y = k7 then some v7 else if y = k8 then some v8 else if y = k9 then some v9 else m y) := by
  rw [show (fun y => if y = x then some v else if y = k1 then some v1 else if y = k2 then some v2 else if y = k3 then some v3 else if y = k4 then some v4 else if y = k5 then some v5 else if y = k6 then some v6 else if y = k7 then some v7 else if y = k8 then some v8 else if y = k9 then some v9 else m y) = (fun y => if y = x then some v else m y) from funext fun y => by simp only [fill1 e1, fill1 e2, fill1 e3, fill1 e4, fill1 e5, fill1 e6, fill1 e7, fill1 e8, fill1 e9]]; exact F
theorem fr_g10 {h₀ h : Heap} {L : Addr} {m : Str → Option Value} {x k1 k2 k3 k4 k5 k6 k7 k8 k9 k10 : Str} {v v1 v2 v3 v4 v5 v6 v7 v8 v9 v10 : Value} (F : Fr h₀ L h (fun y => if y = x then some v else m y)) (e1 : m k1 = some v1) (e2 : m k2 = some v2) (e3 : m k3 = some v3) (e4 : m k4 = some v4) (e5 : m k5 = some v5) (e6 : m k6 = some v6) (e7 : m k7 = some v7) (e8 : m k8 = some v8) (e9 : m k9 = some v9) (e10 : m k10 = some v10) : Fr h₀ L h (fun y => if y = x then some v else if y = k1 then some v1 else if y = k2 then some v2 else if y = k3 then some v3 else if y = k4 then some v4 else if y = k5 then some v5 else if y = k6 then some v6 else if y = k7 then some v7 else if y = k8 then some v8 else if y = k9 then some v9 else if y = k10 then some v10 else m y) := by
  rw [show (fun y => if y = x then some v else if y = k1 then some v1 else if y = k2 then some v2 else if y = k3 then some v3 else if y = k4 then some v4 else if y = k5 then some v5 else if y = k6 then some v6 else if y = k7 then some v7 else if y = k8 then some v8 else if y = k9 then some v9 else if y = k10 then some v10 else m y) = (fun y => if y = x then some v else m y) from funext fun y => by simp only [fill1 e1, fill1 e2, fill1 e3, fill1 e4, fill1 e5, fill1 e6, fill1 e7, fill1 e8, fill1 e9, fill1 e10]]; exact F
theorem fr_g11 {h₀ h : Heap} {L : Addr} {m : Str → Option Value} {x k1 k2 k3 k4 k5 k6 k7 k8 k9 k10 k11 : Str} {v v1 v2 v3 v4 v5 v6 v7 v8 v9 v10 v11 : Value} (F : Fr h₀ L h (fun y => if y = x then some v else m y)) (e1 : m k1 = some v1) (e2 : m k2 = some v2) (e3 : m k3 = some v3) (e4 : m k4 = some v4) (e5 : m k5 = some v5) (e6 : m k6 = some v6) (e7 : m k7 = some v7) (e8 : m k8 = some v8) (e9 : m k9 = some v9) (e10 : m k10 = some v10) (e11 : m k11 = some v11) : Fr h₀ L h (fun y => if y = x then some v else if y = k1 then some v1 else if y = k2 then some v2 else if y = k3 then some v3 else if y = k4 then some v4 else if y = k5 then some v5 else if y = k6 then some v6 else if y = k7 then some v7 else if y = k8 then some v8 else if y = k9 then some v9 else if y = k10 then some v10 else if y = k11 then some v11 else m y) := by
  rw [show (fun y => if y = x then some v else if y = k1 then some v1 else if y = k2 then some v2 else if y = k3 then some v3 else if y = k4 then some v4 else if y = k5 then some v5 else if y = k6 then some v6 else if y = k7 then some v7 else if y = k8 then some v8 else if y = k9 then some v9 else if y = k10 then some v10 else if y = k11 then some v11 else m y) = (fun y => if y = x then some v else m y) from funext fun y => by simp only [fill1 e1, fill1 e2, fill1 e3, fill1 e4, fill1 e5, fill1 e6, fill1 e7, fill1 e8, fill1 e9, fill1 e10, fill1 e11]]; exact F
theorem fr_g12 {h₀ h : Heap} {L : Addr} {m : Str → Option Value} {x k1 k2 k3 k4 k5 k6 k7 k8 k9 k10 k11 k12 : Str} {v v1 v2 v3 v4 v5 v6 v7 v8 v9 v10 v11 v12 : Value} (F : Fr h₀ L h (fun y => if y = x then some v else m y)) (e1 : m k1 = some v1) (e2 : m k2 = some v2) (e3 : m k3 = some v3) (e4 : m k4 = some v4) (e5 : m k5 = some v5) (e6 : m k6 = some v6) (e7 : m k7 = some v7) (e8 : m k8 = some v8) (e9 : m k9 = some v9) (e10 : m k10 = some v10) (e11 : m k11 = some v11) (e12 : m k12 = some v12) : Fr h₀ L h (fun y => if y = x then some v else if y = k1 then some v1 else if y = k2 then some v2 else if y = k3 then some v3 else if y = k4 then some v4 else if y = k5 then some v5 else if y = k6 then some v6 else if y = k7 then some v7 else if y = k8 then some v8 else if y = k9 then some v9 else if y = k10 then some v10 else if y = k11 then some v11 else if y = k12 then some v12 else m y) := by
  rw [show (fun y => if y = x then some v else if y = k1 then some v1 else if y = k2 then some v2 else if y = k3 then some v3 else if y = k4 then some v4 else if y = k5 then some v5 else if y = k6 then some v6 else if y = k7 then some v7 else if y = k8 then some v8 else if y = k9 then some v9 else if y = k10 then some v10 else if y = k11 then some v11 else if y = k12 then some v12 else m y) = (fun y => if y = x then some v else m y) from funext fun y => by simp only [fill1 e1, fill1 e2, fill1 e3, fill1 e4, fill1 e5, fill1 e6, fill1 e7, fill1 e8, fill1 e9, fill1 e10, fill1 e11, fill1 e12]]; exact F
theorem fr_g13 {h₀ h : Heap} {L : Addr} {m : Str → Option Value} {x k1 k2 k3 k4 k5 k6 k7 k8 k9 k10 k11 k12 k13 : Str} {v v1 v2 v3 v4 v5 v6 v7 v8 v9 v10 v11 v12 v13 : Value} (F : Fr h₀ L h (fun y => if y = x then some v else m y)) (e1 : m k1 = some v1) (e2 : m k2 = some v2) (e3 : m k3 = some v3) (e4 : m k4 = some v4) (e5 : m k5 = some v5) (e6 : m k6 = some v6) (e7 : m k7 = some v7) (e8 : m k8 = some v8) (e9 : m k9 = some v9) (e10 : m k10 = some v10) (e11 : m k11 = some v11) (e12 : m k12 = some v12) (e13 : m k13 = some v13) : Fr h₀ L h (fun y => if y = x then some v else if y = k1 then some v1 else if y = k2 then some v2 else if y = k3 then some v3 else if y = k4 then some v4 else if y = k5 then some v5 else if y = k6 then some v6 else if y = k7 then some v7 else if y = k8 then some v8 else if y = k9 then some v9 else if y = k10 then some v10 else if y = k11 then some v11 else if y = k12 then some v12 else if y = k13 then some v13 else m y) := by
  rw [show (fun y => if y = x then some v else if y = k1 then some v1 else if y = k2 then some v2 else if y = k3 then some v3 else if y = k4 then some v4 else if y = k5 then some v5 else if y = k6 then some v6 else if y = k7 then some v7 else if y = k8 then some v8 else if y = k9 then some v9 else if y = k10 then some v10 else if y = k11 then some v11 else if y = k12 then some v12 else if y = k13 then some v13 else m y) = (fun y => if y = x then some v else m y) from funext fun y => by simp only [fill1 e1, fill1 e2, fill1 e3, fill1 e4, fill1 e5, fill1 e6, fill1 e7, fill1 e8, fill1 e9, fill1 e10, fill1 e11, fill1 e12, fill1 e13]]; exact F
theorem fr_g14 {h₀ h : Heap} {L : Addr} {m : Str → Option Value} {x k1 k2 k3 k4 k5 k6 k7 k8 k9 k10 k11 k12 k13 k14 : Str} {v v1 v2 v3 v4 v5 v6 v7 v8 v9 v10 v11 v12 v13 v14 : Value} (F : Fr h₀ L h (fun y => if y = x then some v else m y)) (e1 : m k1 = some v1) (e2 : m k2 = some v2) (e3 : m k3 = some v3) (e4 : m k4 = some v4) (e5 : m k5 = some v5) (e6 : m k6 = some v6) (e7 : m k7 = some v7) (e8 : m k8 = some v8) (e9 : m k9 = some v9) (e10 : m k10 = some v10) (e11 : m k11 = some v11) (e12 : m k12 = some v12) (e13 : m k13 = some v13) (e14 : m k14 = some v14) : Fr h₀ L h (fun y => if y = x then some v else if y = k1 then some v1 else if y = k2 then some v2 else if y = k3 then some v3 else if y = k4 then some v4 else if y = k5 then some v5 else if y = k6 then some v6 else if y = k7 then some v7 else if y = k8 then some v8 else if y = k9 then some v9 else if y = k10 then some v10 else if y = k11 then some v11 else if y = k12 then some v12 else if y = k13 then some v13 else if y = k14 then some v14 else m y) := by
  rw [show (fun y => if y = x then some v else if y = k1 then some v1 else if y = k2 then some v2 else if y = k3 then some v3 else if y = k4 then some v4 else if y = k5 then some v5 else if y = k6 then some v6 else if y = k7 then some v7 else if y = k8 then some v8 else if y = k9 then some v9 else if y = k10 then some v10 else if y = k11 then some v11 else if y = k12 then some v12 else if y = k13 then some v13 else if y = k14 then some v14 else m y) = (fun y => if y = x then some v else m y) from funext fun y => by simp only [fill1 e1, fill1 e2, fill1 e3, fill1 e4, fill1 e5, fill1 e6, fill1 e7, fill1 e8, fill1 e9, fill1 e10, fill1 e11, fill1 e12, fill1 e13, fill1 e14]]; exact F
/-- a cut behind a statement -/
theorem seq_cutP {M : Model} {A : Around} {E : Value → Shared → Prop} {s : Shared} {env : Env} {st : Stmt} {rest : List Stmt} {Q : Flow → Shared → Prop} {h₀ : Heap} {L : Addr} {m : Str → Option Value} (_F : Fr h₀ L s.heap m) (P : (Str → Option Value) → List (Addr × Obj) → Prop)
    (h1 : wpAny M A (exec st env) (fun f s' => f = .next ∧ ∃ h tk m' nw, s' = { s with heap := h, toks := tk } ∧ Fr h₀ L h m' ∧ News h₀ L h nw ∧ P m' nw) E s)
    (h2 : ∀ h tk m' nw, P m' nw → Fr h₀ L h m' → News h₀ L h nw → wpAny M A (execs rest env) Q E { s with heap := h, toks := tk }) :
    wpAny M A (execs (st :: rest) env) Q E s := seq_cut _ h1 fun s' h => by
  obtain ⟨h, tk, m', nw, rfl, F', N', p⟩ := h
  exact h2 h tk m' nw p F' N'
theorem small_range {a b : Int} (ha : -(2 ^ 40) ≤ a) (ha' : a ≤ 2 ^ 40) (hb : -(2 ^ 40) ≤ b) (hb' : b ≤ 2 ^ 40) : Builtin.Range.small a b 1 = true := by
  have h := rangeSize_one a b
  unfold Builtin.Range.small
  simp only [Builtin.Range.rangeFitsLong, h]
  split <;> simp <;> omega
theorem range_n {n : Nat} : Builtin.Range.rangeSize 0 (n : Int) 1 = (n : Int) := by
  rw [rangeSize_nat]; simp
theorem last_led {prog : Program} {w : World} {A : Around} {E : Value → Shared → Prop} {s : Shared} {h₀ : Heap} {L : Addr} {news : List (Addr × Obj)} {value slice : PySem.Expr} {l : Addr} {vs : List Value} {n : Nat} {u : Tok} {v : Value} {Q : Value → Shared → Prop} (N : News h₀ L s.heap news)
    (hl : (l, W.listOf vs.toArray n) ∈ news) (hx : vs.getLast? = some v) (h : Q v s)
    (hs : subscripted slice false (.ref l) (.int (-1) u) = operate [.ref l, .int (-1) u] (getItem (.ref l) (.int (-1) u)) := by with_unfolding_all rfl) :
    wpAny (model prog w) A (subscriptTail value slice (.ref l) (.int (-1) u)) Q E s := by
  have hne : 0 < vs.length := by cases vs with | nil => cases hx | cons => simp
  refine tail_any (News.isList N hl).typeIs slot_list_getitem.lookup (wpAny_getItem_list_neg (News.isList N hl) (by decide) ?_ (by decide) ?_ h) hs
  · rw [List.size_toArray]; omega
  · rw [List.getLast?_eq_getElem?] at hx
    rw [List.size_toArray, List.getElem?_toArray, ← hx]
    congr 1
    omega
end Mine


namespace Mine
/-! loops whose target is any, by an invariant -/
section
variable {prog : Program} {w : World} {A : Around} {E : Value → Shared → Prop} {s : Shared} {env : Env} {h₀ : Heap} {target : PySem.Expr} {body : List Stmt} {Q : Flow → Shared → Prop}
def EndW (h₀ : Heap) (L : Addr) (J : (Str → Option Value) → List (Addr × Obj) → Prop) (own : List (Addr × Obj)) (wr : List Addr) (s₁ s₂ : Shared) : Prop :=
  ∃ h' tk m' news', s₂ = { s₁ with heap := h', toks := tk } ∧ Fr h₀ L h' m' ∧ News h₀ L h' (news' ++ own) ∧ (∀ p ∈ news', p.1 ∉ wr) ∧ J m' news'
def PostW (h₀ : Heap) (L : Addr) (J : (Str → Option Value) → List (Addr × Obj) → Prop) (own : List (Addr × Obj)) (wr : List Addr) (s₁ : Shared) (Q : Flow → Shared → Prop) (f : Flow) (s₂ : Shared) : Prop :=
  match f with
  | .ret v => Q (.ret v) s₂
  | .brk => Q .next s₂
  | _ => EndW h₀ L J own wr s₁ s₂
theorem postW_step {L : Addr} {wr : List Addr} {J : (Str → Option Value) → List (Addr × Obj) → Prop} {own : List (Addr × Obj)} {s₁ s₂ : Shared} {f : Flow} (h : PostW h₀ L J own wr s₁ Q f s₂) :
    LoopStepV h₀ L wr own J s₁ (fun v s' => Q (.ret v) s') (fun s' => Q .next s') f s₂ := by
  have fin : EndW h₀ L J own wr s₁ s₂ → LoopStepU h₀ L wr own J s₁ .next s₂ := by
    rintro ⟨h', tk, m', news', e, F', N', hn, hj⟩
    exact ⟨rfl, h', tk, m', news', e, F', news_comm N', hn, hj⟩
  cases f with
  | ret v => exact .ret h
  | brk => exact .brk h
  | next => exact .next (fin h)
  | cont => exact .cont (fin h)
theorem iter_listT {l : Addr} {vs : List Value} {m₀ : Str → Option Value} {news : List (Addr × Obj)} (J : Nat → (Str → Option Value) → List (Addr × Obj) → Prop)
    (hh : A.handled = none) (hl : s.heap.IsList l vs.toArray) (hlL : l ≠ env.locals) (F : Fr h₀ env.locals s.heap m₀) (N : News h₀ env.locals s.heap news) (hj : J 0 m₀ news)
    (turn : ∀ I i v m₁ news₁ h tk own, vs[i]? = some v → J i m₁ news₁ → (∀ p ∈ news₁, p.1 ∉ [I]) → (∀ p ∈ own, p.1 = I ∨ p.1 = l) → (∃ o, (I, o) ∈ own) → (∀ p ∈ news, p.1 < I) → l < I → Fr h₀ env.locals h m₁ → News h₀ env.locals h (news₁ ++ own) →
      wpAny (model prog w) A (assign target env v) (fun _ s₃ => wpAny (model prog w) A (execs body env) (PostW h₀ env.locals (J (i + 1)) own [I] { s with heap := h, toks := tk } Q) E s₃) E { s with heap := h, toks := tk })
    (done : ∀ m₁ news₁ h tk, J vs.length m₁ news₁ → Fr h₀ env.locals h m₁ → News h₀ env.locals h news₁ → Q .next { s with heap := h, toks := tk }) :
    wpAny (model prog w) A (pyIter (.ref l)) (fun it s₂ => TurnsAt prog w A h₀ env target body Q E it s₂) E s := by
  obtain ⟨ol, hol, _⟩ := id hl
  have hlt : l < s.heap.objs.size := Heap.lt_size hol
  refine wpAny_pyIter_list hl ?_
  have W := Walks.list (prog := prog) (w := w) hh s.heap.objs.size l (Nat.ne_of_lt hlt) vs.toArray
  have hlen : vs.toArray.size = vs.length := by simp
  rw [hlen] at W
  refine ⟨_, _, _, vs.length, _, _, _, m₀, news, J, rfl, KTurns.ofWalks W fun i v s Q E st q => letGo_listiter st.1 q, ?_, ?_, ?_, ⟨⟨_, Heap.get?_push_size _ rfl, rfl, rfl⟩, hl.at fun o e => Heap.get?_push_of_some _ e⟩, F.push _, (fun p hp => ⟨Heap.get?_push_of_some _ (N p hp).1, (N p hp).2⟩), hj, ?_, ?_⟩
  · intro hm
    rcases List.mem_cons.mp hm with e | hm
    · exact absurd F.ns.lt (e ▸ Nat.lt_irrefl _)
    · exact hlL (List.mem_singleton.mp hm).symm
  · intro b hb
    rw [List.mem_singleton.mp hb]
    exact next_is_new F
  · intro p hp hI
    exact absurd (Heap.lt_size (N p hp).1) ((List.mem_singleton.mp hI) ▸ Nat.lt_irrefl _)
  · rintro i v m₁ news₁ h₁ tk₁ own hin hP hJ hoff hown _ hall hst F₁ N₁
    have hIo : ∃ o, (s.heap.objs.size, o) ∈ own := by
      obtain ⟨⟨o, ho, _⟩, _⟩ := hst
      exact ⟨o, hall _ (.head _) (next_is_new F) o ho⟩
    refine wpAny_mono (turn s.heap.objs.size i v m₁ news₁ h₁ tk₁ own (by simpa using hP) hJ hoff (fun p hp => ?_) hIo (fun p hp => Heap.lt_size (N p hp).1) hlt F₁ (news_comm N₁)) (fun _ s₂ p => wpAny_mono p (fun _ _ q => postW_step q) fun _ _ e => e) fun _ _ e => e
    rcases List.mem_cons.mp (hown p hp) with h1 | h1
    · exact .inl h1
    · exact .inr (List.mem_singleton.mp h1)
  · rintro h' tk m' news' F' N' _ hJ
    exact done m' news' h' tk hJ F' N'
theorem iter_enumT {elts : List PySem.Expr} {k : Nat} {pos : Pos} {l : Addr} {vs : List Value} {m₀ : Str → Option Value} {news : List (Addr × Obj)} (J : Nat → (Str → Option Value) → List (Addr × Obj) → Prop)
    (hh : A.handled = none) (hl : s.heap.IsList l vs.toArray) (hlL : l ≠ env.locals) (F : Fr h₀ env.locals s.heap m₀) (N : News h₀ env.locals s.heap news) (hj : J 0 m₀ news)
    (turn : ∀ I i v m₁ news₁ h tk own T t, vs[i]? = some v → J i m₁ news₁ → (∀ p ∈ news₁, p.1 ∉ [I + 1, I]) → (∀ p ∈ own, p.1 = I + 1 ∨ p.1 = I ∨ p.1 = l) → (∃ o, (I, o) ∈ own) → (∃ o, (I + 1, o) ∈ own) → (∀ p ∈ news, p.1 < I) → l < I → Fr h₀ env.locals h m₁ → News h₀ env.locals h (news₁ ++ own) → IsTup h T #[.int (i : Int) t, v] →
      wpAny (model prog w) A (assign (.Tuple elts k pos) env (.ref T)) (fun _ s₃ => wpAny (model prog w) A (execs body env) (PostW h₀ env.locals (J (i + 1)) own [I + 1, I] { s with heap := h, toks := tk } Q) E s₃) E { s with heap := h, toks := tk })
    (done : ∀ m₁ news₁ h tk, J vs.length m₁ news₁ → Fr h₀ env.locals h m₁ → News h₀ env.locals h news₁ → Q .next { s with heap := h, toks := tk }) :
    wpAny (model prog w) A (call (.type "enumerate") [.ref l]) (fun xv s₁ => wpAny (model prog w) A (pyIter xv) (fun it s₂ => TurnsAt prog w A h₀ env (.Tuple elts k pos) body Q E it s₂) E s₁) E s := by
  obtain ⟨ol, hol, _⟩ := id hl
  have hlt : l < s.heap.objs.size := Heap.lt_size hol
  have hLs : env.locals < s.heap.objs.size := F.ns.lt
  refine call_enumerate_list hl fun h' hE hI hsz hk => ?_
  refine wpAny_pyIter_enum hE ?_
  have W := KTurns.ofWalksU (elts := elts) (k := k) (pos := pos) (WalksT.enumerate (prog := prog) (w := w) hh (s.heap.objs.size + 1) s.heap.objs.size l (Nat.succ_ne_self _) (ktu_ne 1 hlt) (Nat.ne_of_lt hlt) vs.toArray).toU
  have hlen : vs.toArray.size = vs.length := by simp
  rw [hlen] at W
  refine ⟨_, _, _, vs.length, _, _, _, m₀, news, J, rfl, W, ?_, ?_, ?_, ⟨⟨.none, hE⟩, hI, hl.at fun o e => hk l o e⟩, F.keeps hk, N.grown hk, hj, ?_, ?_⟩
  · intro hI'
    have hb' : env.locals = s.heap.objs.size + 1 ∨ env.locals = s.heap.objs.size ∨ env.locals = l := by simpa using hI'
    rcases hb' with e | e | e
    · exact ktu_ne 1 hLs e
    · exact Nat.ne_of_lt hLs e
    · exact hlL e.symm
  · intro b hb
    have hb' : b = s.heap.objs.size + 1 ∨ b = s.heap.objs.size := by simpa using hb
    rcases hb' with rfl | rfl
    · exact ktu_new F (Nat.le_add_right _ _)
    · exact ktu_new F (Nat.le_refl _)
  · intro p hp hI'
    have hb' : p.1 = s.heap.objs.size + 1 ∨ p.1 = s.heap.objs.size := by simpa using hI'
    have hlp := Heap.lt_size (N p hp).1
    rcases hb' with e | e
    · exact ktu_ne 1 hlp e
    · exact Nat.ne_of_lt hlp e
  · rintro i v m₁ news₁ h₁ tk₁ own hin ⟨T, vals, rfl, ⟨t, x, hx, rfl⟩, hT⟩ hJ hoff hown _ hall hst F₁ N₁
    obtain ⟨⟨old, he⟩, ⟨oi, hoi, _⟩, _⟩ := hst
    refine wpAny_mono (turn s.heap.objs.size i x m₁ news₁ h₁ tk₁ own T t (by simpa using hx) hJ hoff (fun p hp => ?_) ⟨oi, hall _ (.tail _ (.head _)) (ktu_new F (Nat.le_refl _)) _ hoi⟩ ⟨_, hall _ (.head _) (ktu_new F (Nat.le_add_right _ _)) _ he⟩ (fun p hp => Heap.lt_size (N p hp).1) hlt F₁ (news_comm N₁) hT) (fun _ s₂ p => wpAny_mono p (fun _ _ q => postW_step q) fun _ _ e => e) fun _ _ e => e
    have := hown p hp
    simpa using this
  · rintro h' tk m' news' F' N' _ hJ
    exact done m' news' h' tk hJ F' N'
end
end Mine


namespace Mine
/-! the list sort under 64 items is stable: by what it asks -/
def gp (p : Array Nat) (x : Nat) : Nat := p.getD x 0
theorem gp_eq (p : Array Nat) (x : Nat) : gp p x = (p[x]?).getD 0 := by simp [gp, Array.getD_eq_getD_getElem?]
theorem gp_rev {p : Array Nat} {i j : Nat} (hj : j ≤ p.size) (x : Nat) : gp (kas_rev p i j) x = if i ≤ x ∧ x < j then gp p (i + j - 1 - x) else gp p x := by
  rw [gp_eq]
  unfold kas_rev
  rw [getElem?_mirror_all hj]
  split <;> rw [gp_eq]
theorem gp_bubble {p : Array Nat} {k d : Nat} (hk : k < p.size) (hd : d ≤ k) (x : Nat) : gp (bubble p k d) x = if x = k - d then gp p k else if k - d < x ∧ x ≤ k then gp p (x - 1) else gp p x := by
  rw [gp_eq, getElem?_bubble hk d hd]
  repeat' split
  all_goals rw [gp_eq]
structure Pre (n m : Nat) (p : Array Nat) : Prop where
  size : p.size = n
  perm : p.toList.Perm (List.range n)
  low : ∀ x, x < m → gp p x < m
  high : ∀ x, m ≤ x → x < n → gp p x = x
def Ltk (a b : Nat → Int) (i j : Nat) : Prop := a i < a j ∨ a i = a j ∧ b i < b j
def Rk (a b : Nat → Int) (i j : Nat) : Prop := a i < a j ∨ a i = a j ∧ (b i < b j ∨ b i = b j ∧ i < j)
def Up (a b : Nat → Int) (p : Array Nat) (m : Nat) : Prop := ∀ x y, x < y → y < m → Rk a b (gp p x) (gp p y)
def Dn (a b : Nat → Int) (p : Array Nat) (m : Nat) : Prop := ∀ x y, x < y → y < m → Rk a b (gp p y) (gp p x)
theorem Pre.rev {n m i j : Nat} {p : Array Nat} (h : Pre n m p) (hj : j ≤ m) (hm : m ≤ n) : Pre n m (kas_rev p i j) := by
  have hz : j ≤ p.size := by rw [h.size]; omega
  refine ⟨(mirror_size _ _ _ _).trans h.size, (mirror_perm _ _ _ _).toList.trans h.perm, fun x hx => ?_, fun x h1 h2 => ?_⟩
  · rw [gp_rev hz]
    split
    · exact h.low _ (by omega)
    · exact h.low _ hx
  · rw [gp_rev hz, if_neg (by omega)]
    exact h.high x h1 h2
theorem Pre.succ {n m : Nat} {p : Array Nat} (h : Pre n m p) (hm : m < n) : Pre n (m + 1) p :=
  ⟨h.size, h.perm, fun x hx => by
    by_cases e : x < m
    · have := h.low x e; omega
    · have : x = m := by omega
      subst this
      rw [h.high x (Nat.le_refl _) hm]; omega, fun x h1 h2 => h.high x (by omega) h2⟩
/-- a comparison answers by the keys, and keeps what holds -/
def Asks (n : Nat) (a b : Nat → Int) (I : Shared → Prop) (cmp : Nat → Nat → (Bool → Shared → Prop) → Shared → Prop) : Prop :=
  ∀ i j, i < n → j < n → ∀ (C : Bool → Shared → Prop) s, I s → (Ltk a b i j → ∀ s', I s' → C true s') → (¬ Ltk a b i j → ∀ s', I s' → C false s') → cmp i j C s
section
variable {n : Nat} {a b : Nat → Int} {I : Shared → Prop} {cmp : Nat → Nat → (Bool → Shared → Prop) → Shared → Prop} (H : Asks n a b I cmp)
include H
theorem wp_asc {p : Array Nat} {G : Nat → Shared → Prop} (hG : ∀ m s, I s → 1 ≤ m → m ≤ n → Pre n m p → Up a b p m → (m < n → Ltk a b (gp p m) (gp p (m - 1))) → G m s) :
    ∀ f m s, m + f = n → 1 ≤ m → Pre n m p → Up a b p m → I s → (kas_asc p f m).kasWp cmp G s
  | 0, m, s, e, h1, hp, hu, hi => hG m s hi h1 (by omega) hp hu (by omega)
  | f + 1, m, s, e, h1, hp, hu, hi => by
    have g1 : gp p m = m := hp.high m (Nat.le_refl _) (by omega)
    have g2 : gp p (m - 1) < m := hp.low _ (by omega)
    refine H (gp p m) (gp p (m - 1)) (by omega) (by omega) _ s hi (fun hl s' hi' => ?_) fun hl s' hi' => ?_
    · show (KasT.ret m).kasWp cmp G s'
      exact hG m s' hi' h1 (by omega) hp hu fun _ => hl
    · show (kas_asc p f (m + 1)).kasWp cmp G s'
      refine wp_asc hG f (m + 1) s' (by omega) (by omega) (hp.succ (by omega)) ?_ hi'
      intro x y hxy hy
      by_cases ey : y < m
      · exact hu x y hxy ey
      · have ey' : y = m := by omega
        subst ey'
        have g3 : gp p x < y := hp.low _ hxy
        unfold Ltk at hl
        rw [g1] at hl ⊢
        by_cases ex : x = y - 1
        · subst ex
          unfold Rk
          omega
        · have := hu x (y - 1) (by omega) (by omega)
          unfold Rk at this ⊢
          omega
omit H in
theorem rev_one {p : Array Nat} {m : Nat} (hm : m < p.size) (x : Nat) : gp (kas_rev p m (m + 1)) x = gp p x := by
  rw [gp_rev (by omega)]
  split
  · congr 1; omega
  · rfl
/-- a falling prefix whose last block of equals still rises -/
structure Desc (n : Nat) (a b : Nat → Int) (p : Array Nat) (m q : Nat) : Prop where
  pre : Pre n m p
  le : m ≤ n
  blk : q + 1 ≤ m
  dn : Dn a b (kas_rev p (m - (q + 1)) m) m
  eq : ∀ x, m - (q + 1) ≤ x → x < m → a (gp p x) = a (gp p (m - 1)) ∧ b (gp p x) = b (gp p (m - 1))
  strict : ∀ x, x < m - (q + 1) → Ltk a b (gp p (m - 1)) (gp p x)
omit H in
theorem Desc.flat {p : Array Nat} {m q : Nat} (h : Desc n a b p m q) : Dn a b (if q > 0 then kas_rev p (m - (q + 1)) m else p) m ∧ Pre n m (if q > 0 then kas_rev p (m - (q + 1)) m else p) := by
  have h1 := h.blk
  have h2 := h.le
  have h3 := h.pre.size
  split
  · exact ⟨h.dn, h.pre.rev (Nat.le_refl _) h.le⟩
  · have hq : q = 0 := by omega
    subst hq
    refine ⟨fun x y hxy hy => ?_, h.pre⟩
    have := h.dn x y hxy hy
    obtain ⟨k, rfl⟩ : ∃ k, m = k + 1 := ⟨m - 1, by omega⟩
    rw [show k + 1 - (0 + 1) = k by omega, rev_one (by omega), rev_one (by omega)] at this
    exact this
omit H in
theorem Desc.down {p : Array Nat} {m q : Nat} (h : Desc n a b p m q) (hm : m < n) (hl : Ltk a b (gp p m) (gp p (m - 1))) : Desc n a b (if q > 0 then kas_rev p (m - (q + 1)) m else p) (m + 1) 0 := by
  obtain ⟨hd, hp⟩ := h.flat
  have hblk := h.blk
  have hsz := h.pre.size
  have hlast : ∃ x, m - (q + 1) ≤ x ∧ x < m ∧ gp (if q > 0 then kas_rev p (m - (q + 1)) m else p) (m - 1) = gp p x := by
    split
    · refine ⟨m - (q + 1), by omega, by omega, ?_⟩
      rw [gp_rev (by omega), if_pos (by omega)]
      congr 1; omega
    · exact ⟨m - 1, by omega, by omega, rfl⟩
  obtain ⟨x0, hx1, hx2, hx3⟩ := hlast
  have he := h.eq x0 hx1 hx2
  rw [← hx3] at he
  have hgm : gp (if q > 0 then kas_rev p (m - (q + 1)) m else p) m = gp p m := by
    split
    · rw [gp_rev (by omega), if_neg (by omega)]
    · rfl
  generalize (if q > 0 then kas_rev p (m - (q + 1)) m else p) = p1 at hd hp hx3 he hgm
  have hs1 : p1.size = n := hp.size
  have hlt : Ltk a b (gp p1 m) (gp p1 (m - 1)) := by
    rw [hgm]; unfold Ltk at hl ⊢; omega
  have hall : ∀ x, x < m → Ltk a b (gp p1 m) (gp p1 x) := fun x hx => by
    by_cases e : x = m - 1
    · rw [e]; exact hlt
    · have := hd x (m - 1) (by omega) (by omega)
      unfold Rk at this; unfold Ltk at hlt ⊢; omega
  refine ⟨hp.succ hm, by omega, by omega, fun x y hxy hy => ?_, fun x h1 h2 => ?_, fun x hx => ?_⟩
  · rw [show m + 1 - (0 + 1) = m by omega, rev_one (by omega), rev_one (by omega)]
    by_cases e : y < m
    · exact hd x y hxy e
    · have : y = m := by omega
      subst this
      have := hall x hxy
      unfold Ltk at this; unfold Rk; omega
  · have : x = m := by omega
    subst this
    exact ⟨rfl, rfl⟩
  · exact hall x (by omega)
omit H in
theorem Desc.same {p : Array Nat} {m q : Nat} (h : Desc n a b p m q) (hm : m < n) (hl : ¬ Ltk a b (gp p m) (gp p (m - 1))) (hl2 : ¬ Ltk a b (gp p (m - 1)) (gp p m)) : Desc n a b p (m + 1) (q + 1) := by
  have hblk := h.blk
  have hsz := h.pre.size
  have hg : gp p m = m := h.pre.high m (Nat.le_refl _) hm
  have heq : a (gp p m) = a (gp p (m - 1)) ∧ b (gp p m) = b (gp p (m - 1)) := by unfold Ltk at hl hl2; omega
  refine ⟨h.pre.succ hm, by omega, by omega, fun x y hxy hy => ?_, fun x h1 h2 => ?_, fun x hx => ?_⟩
  · have hD := h.dn
    rw [gp_rev (by omega), gp_rev (by omega)]
    have old : ∀ z, z < m → gp (kas_rev p (m - (q + 1)) m) z = if m - (q + 1) ≤ z then gp p (m - (q + 1) + m - 1 - z) else gp p z := fun z hz => by
      rw [gp_rev (by omega)]
      by_cases e : m - (q + 1) ≤ z
      · rw [if_pos ⟨e, hz⟩, if_pos e]
      · rw [if_neg (fun c => e c.1), if_neg e]
    by_cases ey : m + 1 - (q + 1 + 1) ≤ y
    · rw [if_pos ⟨ey, by omega⟩]
      by_cases ex : m + 1 - (q + 1 + 1) ≤ x
      · rw [if_pos ⟨ex, by omega⟩]
        by_cases e0 : x = m - (q + 1)
        · -- the new one first
          have e1 : m + 1 - (q + 1 + 1) + (m + 1) - 1 - x = m := by omega
          rw [e1, hg]
          have b1 := h.eq (m + 1 - (q + 1 + 1) + (m + 1) - 1 - y) (by omega) (by omega)
          have b2 := h.pre.low (m + 1 - (q + 1 + 1) + (m + 1) - 1 - y) (by omega)
          rw [hg] at heq
          unfold Rk; omega
        · have := hD (x - 1) (y - 1) (by omega) (by omega)
          rw [old _ (by omega), old _ (by omega), if_pos (by omega), if_pos (by omega)] at this
          rw [show m + 1 - (q + 1 + 1) + (m + 1) - 1 - y = m - (q + 1) + m - 1 - (y - 1) by omega, show m + 1 - (q + 1 + 1) + (m + 1) - 1 - x = m - (q + 1) + m - 1 - (x - 1) by omega]
          exact this
      · rw [if_neg (fun c => ex c.1)]
        have hs := h.strict x (by omega)
        by_cases e0 : y = m - (q + 1)
        · have e1 : m + 1 - (q + 1 + 1) + (m + 1) - 1 - y = m := by omega
          rw [e1]
          unfold Ltk at hs; unfold Rk; omega
        · have b1 := h.eq (m + 1 - (q + 1 + 1) + (m + 1) - 1 - y) (by omega) (by omega)
          unfold Ltk at hs; unfold Rk; omega
    · rw [if_neg (fun c => ey c.1), if_neg (by omega)]
      have := hD x y hxy (by omega)
      rw [old _ (by omega), old _ (by omega), if_neg (by omega), if_neg (by omega)] at this
      exact this
  · by_cases e : x < m
    · have := h.eq x (by omega) e
      show a (gp p x) = a (gp p m) ∧ b (gp p x) = b (gp p m)
      omega
    · have : x = m := by omega
      subst this
      exact ⟨rfl, rfl⟩
  · have hs := h.strict x (by omega)
    show Ltk a b (gp p m) (gp p x)
    unfold Ltk at hs ⊢; omega
theorem wp_desc {G : Array Nat × Nat × Nat → Shared → Prop} (hG : ∀ p m q s, I s → Desc n a b p m q → G (p, m, q) s) :
    ∀ f p m q s, m + f = n → Desc n a b p m q → I s → (kas_desc f p m q).kasWp cmp G s
  | 0, p, m, q, s, e, hd, hi => hG p m q s hi hd
  | f + 1, p, m, q, s, e, hd, hi => by
    have hb := hd.blk
    have g1 : gp p m = m := hd.pre.high m (Nat.le_refl _) (by omega)
    have g2 : gp p (m - 1) < m := hd.pre.low _ (by omega)
    refine H (gp p m) (gp p (m - 1)) (by omega) (by omega) _ s hi (fun hl s' hi' => ?_) fun hl s' hi' => ?_
    · show (if q > 0 then kas_desc f (kas_rev p (m - (q + 1)) m) (m + 1) 0 else kas_desc f p (m + 1) 0).kasWp cmp G s'
      have hd' := hd.down (by omega) hl
      by_cases hq : q > 0
      · rw [if_pos hq] at hd' ⊢
        exact wp_desc hG f _ (m + 1) 0 s' (by omega) hd' hi'
      · rw [if_neg hq] at hd' ⊢
        exact wp_desc hG f _ (m + 1) 0 s' (by omega) hd' hi'
    · show cmp (gp p (m - 1)) (gp p m) (fun d s'' => (if d = true then KasT.ret (p, m, q) else kas_desc f p (m + 1) (q + 1)).kasWp cmp G s'') s'
      refine H (gp p (m - 1)) (gp p m) (by omega) (by omega) _ s' hi' (fun hl2 s'' hi'' => ?_) fun hl2 s'' hi'' => ?_
      · show (KasT.ret (p, m, q)).kasWp cmp G s''
        exact hG p m q s'' hi'' hd
      · show (kas_desc f p (m + 1) (q + 1)).kasWp cmp G s''
        exact wp_desc hG f p (m + 1) (q + 1) s'' (by omega) (hd.same (by omega) hl hl2) hi''
theorem wp_tail3 {G : Nat × Array Nat → Shared → Prop} (hG : ∀ p m s, I s → 1 ≤ m → m ≤ n → Pre n m p → Up a b p m → G (m, p) s) {p : Array Nat} {m : Nat} {s : Shared} (h1 : 1 ≤ m) (hm : m ≤ n) (hp : Pre n m p) (hd : Dn a b p m) (hi : I s) :
    (kas_tail3 m n p).kasWp cmp G s := by
  unfold kas_tail3
  rw [KasT.kasWp_bind]
  have hsz := hp.size
  refine wp_asc H (p := kas_rev p 0 m) (fun k s' hi' k1 k2 hp' hu' _ => hG _ k s' hi' k1 k2 hp' hu') (n - m) m s (by omega) h1 (hp.rev (Nat.le_refl _) hm) ?_ hi
  intro x y hxy hy
  rw [gp_rev (by omega), gp_rev (by omega), if_pos (by omega), if_pos (by omega)]
  exact hd _ _ (by omega) (by omega)
theorem wp_descPart {G : Nat × Array Nat → Shared → Prop} (hG : ∀ p m s, I s → 1 ≤ m → m ≤ n → Pre n m p → Up a b p m → G (m, p) s) {p : Array Nat} {m : Nat} {s : Shared} (h1 : 1 ≤ m) (hm : m < n) (hp : Pre n m p) (hd : Dn a b p m) (hl : Ltk a b (gp p m) (gp p (m - 1))) (hi : I s) :
    (kas_descPart m n p).kasWp cmp G s := by
  unfold kas_descPart
  rw [KasT.kasWp_bind]
  have hsz := hp.size
  have hall : ∀ x, x < m → Ltk a b (gp p m) (gp p x) := fun x hx => by
    by_cases e : x = m - 1
    · rw [e]; exact hl
    · have := hd x (m - 1) (by omega) (by omega)
      unfold Rk at this; unfold Ltk at hl ⊢; omega
  have h0 : Desc n a b p (m + 1) 0 := by
    refine ⟨hp.succ hm, by omega, by omega, fun x y hxy hy => ?_, fun x h1 h2 => ?_, fun x hx => hall x (by omega)⟩
    · rw [show m + 1 - (0 + 1) = m by omega, rev_one (by omega), rev_one (by omega)]
      by_cases e : y < m
      · exact hd x y hxy e
      · have : y = m := by omega
        subst this
        have := hall x hxy
        unfold Ltk at this; unfold Rk; omega
    · have : x = m := by omega
      subst this
      exact ⟨rfl, rfl⟩
  refine wp_desc H (fun p' k q s' hi' hd' => ?_) (n - (m + 1)) p (m + 1) 0 s (by omega) h0 hi
  obtain ⟨d1, d2⟩ := hd'.flat
  have hb := hd'.blk
  show (if q > 0 then kas_tail3 k n (kas_rev p' (k - (q + 1)) k) else kas_tail3 k n p').kasWp cmp G s'
  by_cases hq : q > 0
  · rw [if_pos hq] at d1 d2 ⊢
    exact wp_tail3 H hG (by omega) hd'.le d2 d1 hi'
  · rw [if_neg hq] at d1 d2 ⊢
    exact wp_tail3 H hG (by omega) hd'.le d2 d1 hi'
theorem wp_count {G : Nat × Array Nat → Shared → Prop} (hG : ∀ p m s, I s → 1 ≤ m → m ≤ n → Pre n m p → Up a b p m → G (m, p) s) {p : Array Nat} {s : Shared} (hn : 1 ≤ n) (hp : Pre n 1 p) (hi : I s) : (kas_count n p).kasWp cmp G s := by
  unfold kas_count
  rw [KasT.kasWp_bind]
  have hsz := hp.size
  refine wp_asc H (fun m s' hi' h1 hm hp' hu hl => ?_) (n - 1) 1 s (by omega) (Nat.le_refl _) hp (fun x y _ hy => by omega) hi
  show (if (m == n) = true then KasT.ret (m, p) else if m > 1 then KasT.ask (gp p 0) (gp p (m - 1)) fun c => if c = true then KasT.ret (m, p) else kas_descPart m n (kas_rev p 0 m) else kas_descPart m n p).kasWp cmp G s'
  by_cases e : m = n
  · rw [if_pos (by simp [e])]
    exact hG p m s' hi' h1 hm hp' hu
  · rw [if_neg (by simp [e])]
    by_cases e2 : m > 1
    · rw [if_pos e2]
      have g0 := hp'.low 0 (by omega)
      have g1 := hp'.low (m - 1) (by omega)
      refine H (gp p 0) (gp p (m - 1)) (by omega) (by omega) _ s' hi' (fun _ s'' hi'' => ?_) fun hl2 s'' hi'' => ?_
      · show (KasT.ret (m, p)).kasWp cmp G s''
        exact hG p m s'' hi'' h1 hm hp' hu
      · show (kas_descPart m n (kas_rev p 0 m)).kasWp cmp G s''
        have hflat : ∀ x, x < m → a (gp p x) = a (gp p 0) ∧ b (gp p x) = b (gp p 0) := fun x hx => by
          by_cases x0 : x = 0
          · rw [x0]; exact ⟨rfl, rfl⟩
          · have r1 := hu 0 x (by omega) hx
            by_cases x1 : x = m - 1
            · rw [← x1] at hl2
              unfold Rk at r1; unfold Ltk at hl2; omega
            · have r2 := hu x (m - 1) (by omega) (by omega)
              unfold Rk at r1 r2; unfold Ltk at hl2; omega
        refine wp_descPart H hG h1 (by omega) (hp'.rev (Nat.le_refl _) hm) (fun x y hxy hy => ?_) ?_ hi''
        · rw [gp_rev (by omega), gp_rev (by omega), if_pos (by omega), if_pos (by omega)]
          exact hu _ _ (by omega) (by omega)
        · rw [gp_rev (by omega), gp_rev (by omega), if_neg (by omega), if_pos (by omega)]
          have := hl (by omega)
          have f1 := hflat (0 + m - 1 - (m - 1)) (by omega)
          have f2 := hflat (m - 1) (by omega)
          unfold Ltk at this ⊢; omega
    · rw [if_neg e2]
      have : m = 1 := by omega
      subst this
      exact wp_descPart H hG (Nat.le_refl _) (by omega) hp' (fun x y _ hy => by omega) (hl (by omega)) hi'
theorem wp_place {p : Array Nat} {k : Nat} {G : Nat → Shared → Prop} (hk : k < n) (hp : Pre n k p) (hu : Up a b p k) (hG : ∀ l s, I s → l ≤ k → (∀ x, x < l → ¬ Ltk a b (gp p k) (gp p x)) → (∀ x, l ≤ x → x < k → Ltk a b (gp p k) (gp p x)) → G l s) :
    ∀ f l r s, r - l ≤ f → l ≤ r → r ≤ k → (∀ x, x < l → ¬ Ltk a b (gp p k) (gp p x)) → (∀ x, r ≤ x → x < k → Ltk a b (gp p k) (gp p x)) → I s → (kas_place p k f l r).kasWp cmp G s
  | 0, l, r, s, e, h1, h2, h3, h4, hi => hG l s hi (by omega) h3 fun x hx => h4 x (by omega)
  | f + 1, l, r, s, e, h1, h2, h3, h4, hi => by
    show (if l ≥ r then KasT.ret l else KasT.ask (gp p k) (gp p ((l + r) / 2)) fun c => if c = true then kas_place p k f l ((l + r) / 2) else kas_place p k f ((l + r) / 2 + 1) r).kasWp cmp G s
    by_cases q : l ≥ r
    · rw [if_pos q]
      exact hG l s hi (by omega) h3 fun x hx => h4 x (by omega)
    · rw [if_neg q]
      have g1 : gp p k = k := hp.high k (Nat.le_refl _) hk
      have g2 : gp p ((l + r) / 2) < k := hp.low _ (by omega)
      refine H (gp p k) (gp p ((l + r) / 2)) (by omega) (by omega) _ s hi (fun hl s' hi' => ?_) fun hl s' hi' => ?_
      · show (kas_place p k f l ((l + r) / 2)).kasWp cmp G s'
        refine wp_place hk hp hu hG f l ((l + r) / 2) s' (by omega) (by omega) (by omega) h3 (fun x hx1 hx2 => ?_) hi'
        by_cases e2 : x = (l + r) / 2
        · rw [e2]; exact hl
        · have := hu ((l + r) / 2) x (by omega) hx2
          unfold Rk at this; unfold Ltk at hl ⊢; omega
      · show (kas_place p k f ((l + r) / 2 + 1) r).kasWp cmp G s'
        refine wp_place hk hp hu hG f ((l + r) / 2 + 1) r s' (by omega) (by omega) h2 (fun x hx => ?_) h4 hi'
        by_cases e2 : x = (l + r) / 2
        · rw [e2]; exact hl
        · have := hu x ((l + r) / 2) (by omega) (by omega)
          unfold Rk at this; unfold Ltk at hl ⊢; omega
theorem wp_bin {G : Array Nat → Shared → Prop} (hG : ∀ p s, I s → Pre n n p → Up a b p n → G p s) : ∀ f p k s, k + f = n → Pre n k p → Up a b p k → I s → (kas_bin f p k).kasWp cmp G s
  | 0, p, k, s, e, hp, hu, hi => by
    have : k = n := by omega
    subst this
    exact hG p s hi hp hu
  | f + 1, p, k, s, e, hp, hu, hi => by
    show ((kas_place p k k 0 k).bind fun l => kas_bin f (bubble p k (k - l)) (k + 1)).kasWp cmp G s
    rw [KasT.kasWp_bind]
    have hsz := hp.size
    have g1 : gp p k = k := hp.high k (Nat.le_refl _) (by omega)
    refine wp_place H (by omega) hp hu (fun l s' hi' hl h3 h4 => ?_) k 0 k s (by omega) (by omega) (Nat.le_refl _) (fun x hx => by omega) (fun x h1 h2 => by omega) hi
    have gb : ∀ x, gp (bubble p k (k - l)) x = if x = l then k else if l < x ∧ x ≤ k then gp p (x - 1) else gp p x := fun x => by
      rw [gp_bubble (by omega) (by omega), show k - (k - l) = l by omega, g1]
    refine wp_bin hG f _ (k + 1) s' (by omega) ⟨(bubble_size _ _ _).trans hp.size, (bubble_perm _ _ _).toList.trans hp.perm, fun x hx => ?_, fun x h1 h2 => ?_⟩ (fun x y hxy hy => ?_) hi'
    · rw [gb]
      repeat' split
      · omega
      · have := hp.low (x - 1) (by omega); omega
      · have := hp.low x (by omega); omega
    · rw [gb, if_neg (by omega), if_neg (by omega)]
      exact hp.high x (by omega) h2
    · rw [gb, gb]
      by_cases ex : x = l
      · rw [if_pos ex, if_neg (by omega), if_pos (by omega)]
        have := h4 (y - 1) (by omega) (by omega)
        rw [g1] at this
        unfold Ltk at this; unfold Rk; omega
      · rw [if_neg ex]
        by_cases ey : y = l
        · rw [if_pos ey, if_neg (by omega)]
          have := h3 x (by omega)
          have lo := hp.low x (by omega)
          rw [g1] at this
          unfold Ltk at this; unfold Rk; omega
        · rw [if_neg ey]
          by_cases bx : l < x ∧ x ≤ k
          · rw [if_pos bx, if_pos (by omega)]
            exact hu _ _ (by omega) (by omega)
          · rw [if_neg bx]
            by_cases by_ : l < y ∧ y ≤ k
            · rw [if_pos by_]
              by_cases e3 : x = y - 1
              · omega
              · exact hu _ _ (by omega) (by omega)
            · rw [if_neg by_]
              exact hu _ _ hxy (by omega)
/-- the sort's tree ends in the stable order -/
theorem wp_sort {G : Array Nat → Shared → Prop} {s : Shared} (hn : 1 ≤ n) (hG : ∀ p s, I s → Pre n n p → Up a b p n → G p s) (hi : I s) : (kas_sort n).kasWp cmp G s := by
  unfold kas_sort
  rw [KasT.kasWp_bind]
  have gr : ∀ x, x < n → gp (List.toArray (List.range n)) x = x := fun x hx => by
    rw [gp_eq]; simp [hx]
  refine wp_count H (fun p m s' hi' h1 hm hp hu => ?_) hn ⟨by simp, by simp, fun x hx => ?_, fun x _ h2 => gr x h2⟩ hi
  · show (if m < n then kas_bin (n - max m 1) p (max m 1) else KasT.ret p).kasWp cmp G s'
    have hmx : max m 1 = m := by omega
    by_cases e : m < n
    · rw [if_pos e, hmx]
      exact wp_bin H hG (n - m) p m s' (by omega) hp hu hi'
    · rw [if_neg e]
      have : m = n := by omega
      subst this
      exact hG p s' hi' hp hu
  · rw [gr x (by omega)]; exact hx
end
end Mine


namespace Mine
section
variable {prog : Program} {w : World} {A : Around} {E : Value → Shared → Prop} {s : Shared} {h₀ : Heap} {L D : Addr} {m : Str → Option Value} {rest : List (Addr × Obj)}
/-- a list of none or one is sorted -/
theorem sort_short {vs : List Value} {n : Nat} {Q : Value → Shared → Prop} (F : Fr h₀ L s.heap m) (N : News h₀ L s.heap ((D, W.listOf vs.toArray n) :: rest)) (hoff : ∀ p ∈ rest, p.1 ≠ D) (h2 : vs.length < 2)
    (h : ∀ h' c, Fr h₀ L h' m → News h₀ L h' ((D, W.listOf vs.toArray c) :: rest) → Q .none { s with heap := h' }) : wpAny (model prog w) A (call (.builtin "list.sort") [.ref D]) Q E s := by
  have nz := N _ (.head _)
  have ho : s.heap.get? D = some (seqObj "list" vs.toArray n) := nz.1
  have N₀ : News h₀ L s.heap rest := fun p hp => N p (.tail _ hp)
  refine wpAny_call_entry slot_list_sort ⟨_, nz.1, rfl⟩ entry_list_sort ?_ (args_list_sort _)
  have s1 := Heap.SameBut.update s.heap D (Obj.mapSeq fun _ => (#[] : Array Value))
  obtain ⟨e1, ho1⟩ : ∃ e1, (s.heap.update D (Obj.mapSeq fun _ => (#[] : Array Value))).get? D = some (seqObj "list" #[] e1) := ⟨_, get?_update_seq ho fun _ => #[]⟩
  have F3 : Fr h₀ L (((s.heap.update D (Obj.mapSeq fun _ => (#[] : Array Value))).push (seqObj "tuple" vs.toArray 0)).push (seqObj "list" #[] 0)) m := ((kas_fr F s1 nz.2.1 nz.2.2).push _).push _
  have N2 : News h₀ L (((s.heap.update D (Obj.mapSeq fun _ => (#[] : Array Value))).push (seqObj "tuple" vs.toArray 0)).push (seqObj "list" #[] 0)) rest :=
    (kas_news N₀ s1 hoff).grown fun b x e => Heap.get?_push_of_some _ (Heap.get?_push_of_some _ e)
  have hD3 : (((s.heap.update D (Obj.mapSeq fun _ => (#[] : Array Value))).push (seqObj "tuple" vs.toArray 0)).push (seqObj "list" #[] 0)).get? D = some (seqObj "list" #[] e1) := Heap.get?_push_of_some _ (Heap.get?_push_of_some _ ho1)
  rw [list_sort_plain]
  refine wpAny_bind (listItems_at ho rfl ?_)
  refine wpAny_bind (listUpdate_at ho rfl ?_ (by rw [List.size_toArray, sizeLine_eq]; omega) (Nat.zero_le _))
  refine wpAny_bind (seqEpoch_at ho1 rfl ?_)
  refine wpAny_bind (wpAny_newTuple ?_ (by show vs.length ≤ _; rw [sizeLine_eq]; omega))
  refine wpAny_bind (wpAny_newList ?_ (Nat.zero_le _))
  refine wpAny_holding ?_
  show wpAny (model prog w) _ _ _ E { s with heap := ((s.heap.update D (Obj.mapSeq fun _ => (#[] : Array Value))).push (seqObj "tuple" vs.toArray 0)).push (seqObj "list" #[] 0) }
  dsimp only
  have hn2 : vs.toArray.size < 2 := by rw [List.size_toArray]; omega
  rw [if_pos hn2, if_pos hn2]
  refine wpAny_bind (wpAny_pure ?_)
  refine wpAny_bind (wpAny_pure ?_)
  dsimp only
  have hz : (arrOf (SortSt.mk' general' (vs.toArray.zip vs.toArray) #[] 7 none)).map (·.2) = vs.toArray := by
    show (vs.toArray.zip vs.toArray).map (·.2) = vs.toArray
    apply Array.toList_inj.mp
    simp only [Array.toList_map, Array.toList_zip]
    exact List.map_snd_zip (by simp)
  rw [hz]
  generalize ((s.heap.update D (Obj.mapSeq fun _ => (#[] : Array Value))).push (seqObj "tuple" vs.toArray 0)).push (seqObj "list" #[] 0) = H at F3 N2 hD3 ⊢
  have s2 := Heap.SameBut.update H D (Obj.mapSeq fun _ => vs.toArray)
  obtain ⟨c2, hc2⟩ : ∃ c2, (H.update D (Obj.mapSeq fun _ => vs.toArray)).get? D = some (seqObj "list" vs.toArray c2) := ⟨_, get?_update_seq hD3 fun _ => vs.toArray⟩
  refine wpAny_bind (seqEpoch_at hD3 rfl ?_)
  refine wpAny_bind (listUpdate_at hD3 rfl ?_ (Nat.zero_le _) (by rw [List.size_toArray, sizeLine_eq]; omega))
  show wpAny _ _ (if (e1 != e1) = true then _ else _) _ _ _
  rw [if_neg (by simp)]
  refine wpAny_pure ⟨_, rfl, h _ c2 (kas_fr F3 s2 nz.2.1 nz.2.2) fun p hp => ?_⟩
  rcases List.mem_cons.mp hp with rfl | hp
  · exact ⟨hc2, nz.2.1, nz.2.2⟩
  · have := kas_news N2 s2 hoff
    exact this p hp
/-- a pair of ints in the ledger: its place, its two ints -/
structure PR where
  t : Addr
  o : Int
  k : Int
def PairIn (nw : List (Addr × Obj)) (r : PR) : Prop := ∃ n t u, (r.t, { cls := .type "tuple", data := .seq #[.int r.o t, .int r.k u] n }) ∈ nw
def refsP (R : List PR) : List Value := R.map fun r => Value.ref r.t
def PLt (r r' : PR) : Prop := r.o < r'.o ∨ r.o = r'.o ∧ r.k < r'.k
theorem pairs_tups {h : Heap} {nw : List (Addr × Obj)} (N : News h₀ L h nw) : ∀ {R : List PR}, (∀ r ∈ R, PairIn nw r) → ∃ fs, KatTups h (refsP R) fs ∧ fs.length = R.length ∧ ∀ v ∈ fs, ∃ i t, v = .int i t
  | [], _ => ⟨[], trivial, rfl, fun _ h => nomatch h⟩
  | r :: R, hin => by
    obtain ⟨fs, h1, h2, h3⟩ := pairs_tups N (R := R) fun r hr => hin r (.tail _ hr)
    obtain ⟨n, t, u, hm⟩ := hin r (.head _)
    refine ⟨.int r.o t :: fs, .cons (N _ hm).1 rfl rfl rfl h1, by simp [h2], fun v hv => ?_⟩
    rcases List.mem_cons.mp hv with rfl | hv
    · exact ⟨_, _, rfl⟩
    · exact h3 v hv
theorem pair_lt {s : Shared} {nw : List (Addr × Obj)} (N : News h₀ L s.heap nw) {r r' : PR} (hr : PairIn nw r) (hr' : PairIn nw r') {C : Bool → Shared → Prop} (hy : PLt r r' → C true s) (hn : ¬ PLt r r' → C false s) :
    wpAny (model prog w) A (keyLt' (tuples' true) (.ref r.t) (.ref r'.t)) C E s := by
  obtain ⟨n, t, u, h1⟩ := hr
  obtain ⟨n', t', u', h2⟩ := hr'
  refine kat_lt (N _ h1).1 rfl (N _ h2).1 rfl ?_
  refine kat_cons (wpAny_eqBool_int ?_)
  refine kat_go (fun e => kat_yes (kat_cons (wpAny_eqBool_int (kat_go (fun e2 => kat_yes (kat_nil ?_)) fun e2 => kat_no (kat_one _ _ (lt_int ?_)))))) fun e => kat_no (oneLt_int ?_)
  · simp at e e2
    exact hn (by unfold PLt; omega)
  · simp at e e2
    show C (decide (r.k < r'.k)) s
    by_cases q : r.k < r'.k
    · rw [decide_eq_true q]; exact hy (by unfold PLt; omega)
    · rw [decide_eq_false q]; exact hn (by unfold PLt; omega)
  · simp at e
    by_cases q : r.o < r'.o
    · rw [decide_eq_true q]; exact hy (by unfold PLt; omega)
    · rw [decide_eq_false q]; exact hn (by unfold PLt; omega)
/-- p's list of places, through a list -/
theorem picked {α β : Type} (f : α → β) (R : List α) (d : β) (d' : α) (hd : d = d) (p : List Nat) (hp : ∀ i ∈ p, i < R.length) : p.map (fun i => (R.map f).getD i d) = (p.map fun i => R.getD i d').map f := by
  rw [List.map_map]
  refine List.map_congr_left fun i hi => ?_
  have := hp i hi
  simp [List.getD, this]
theorem picked_perm {α : Type} (R : List α) (d : α) {p : List Nat} (hp : p.Perm (List.range R.length)) : (p.map fun i => R.getD i d).Perm R := by
  refine (hp.map _).trans (List.Perm.of_eq ?_)
  apply List.ext_getElem?
  intro i
  by_cases h : i < R.length
  · simp [h, List.getD]
  · simp [h]
/-- list.sort on pairs of ints -/
theorem sort_pairs {R : List PR} {n : Nat} {Q : Value → Shared → Prop} (F : Fr h₀ L s.heap m) (N : News h₀ L s.heap ((D, W.listOf (refsP R).toArray n) :: rest)) (hoff : ∀ p ∈ rest, p.1 ≠ D) (hin : ∀ r ∈ R, PairIn rest r) (h64 : R.length < 64)
    (hdist : R.Pairwise fun r r' => r.k ≠ r'.k)
    (h : ∀ h' c R', R'.Perm R → R'.Pairwise PLt → Fr h₀ L h' m → News h₀ L h' ((D, W.listOf (refsP R').toArray c) :: rest) → Q .none { s with heap := h' }) :
    wpAny (model prog w) A (call (.builtin "list.sort") [.ref D]) Q E s := by
  have hl : (refsP R).length = R.length := by simp [refsP]
  by_cases h2 : 2 ≤ R.length
  · refine kat_lsort (vs := refsP R) F N (.head hoff) (by simp) (by omega) (by omega) fun e1 h' F' N' => ?_
    obtain ⟨fs, t1, t2, t3⟩ := pairs_tups N' (R := R) fun r hr => let ⟨a, b, c, q⟩ := hin r hr; ⟨a, b, c, .tail _ q⟩
    refine kat_kind t1 (by omega) (T := .type "int") (fun v hv => by obtain ⟨i, t, rfl⟩ := t3 v hv; exact Looks.of_pure rfl) (by decide) ?_
    show (kas_sort (refsP R).length).kasWp (kas_ask prog w A.in1 (tuples' true) (refsP R)) _ _
    let dr : PR := ⟨0, 0, 0⟩
    rw [hl]
    refine wp_sort (n := R.length) (a := fun i => (R.getD i dr).o) (b := fun i => (R.getD i dr).k) (I := fun s' => s' = { s with heap := h' }) ?_ (by omega) (fun p s' hi hp hu => ?_) rfl
    · intro i j hi hj C s' e hy hn
      subst e
      have g : ∀ x, x < R.length → (refsP R).getD x Value.none = .ref (R.getD x dr).t := fun x hx => by simp [refsP, List.getD, hx]
      show wpAny _ _ (keyLt' (tuples' true) ((refsP R).getD i Value.none) ((refsP R).getD j Value.none)) C _ _
      rw [g i hi, g j hj]
      have mem : ∀ x, x < R.length → PairIn ((D, seqObj "list" #[] e1) :: rest) (R.getD x dr) := fun x hx => by
        have : R.getD x dr ∈ R := by simp [List.getD, hx]
        obtain ⟨a, b, c, q⟩ := hin _ this
        exact ⟨a, b, c, .tail _ q⟩
      exact pair_lt N' (mem i hi) (mem j hj) (fun q => hy q _ rfl) fun q => hn q _ rfl
    · subst hi
      have hpm : ∀ i ∈ p.toList, i < R.length := fun i hi => by simpa using hp.perm.mem_iff.mp hi
      refine KasFin.intro F' N' (.head hoff) fun h'' c F'' N'' => ?_
      have e : (p.toList.map fun i => (refsP R).getD i Value.none) = refsP (p.toList.map fun i => R.getD i dr) := picked _ R _ dr rfl _ hpm
      rw [e] at N''
      refine h h'' c _ (picked_perm R dr hp.perm) ?_ F'' N''
      rw [List.pairwise_map, List.pairwise_iff_getElem]
      intro i j hi hj hij
      have hz : p.size = R.length := hp.size
      have := hu i j hij (by simpa [hz] using hj)
      have ei : gp p i = p.toList[i] := by rw [gp_eq]; simp at hi; simp [hi]
      have ej : gp p j = p.toList[j] := by rw [gp_eq]; simp at hj; simp [hj]
      rw [ei, ej] at this
      have hne : p.toList[i] ≠ p.toList[j] := by
        have nd : p.toList.Nodup := hp.perm.nodup_iff.mpr List.nodup_range
        exact List.pairwise_iff_getElem.mp nd i j (by simpa using hi) (by simpa using hj) hij
      have hi' := hpm _ (List.getElem_mem hi)
      have hj' := hpm _ (List.getElem_mem hj)
      generalize p.toList[i] = x at *
      generalize p.toList[j] = y at *
      have hkk : (R.getD x dr).k ≠ (R.getD y dr).k := by
        have gx : R.getD x dr = R[x] := by simp [List.getD, hi']
        have gy : R.getD y dr = R[y] := by simp [List.getD, hj']
        rw [gx, gy]
        have pw := List.pairwise_iff_getElem.mp hdist
        rcases Nat.lt_or_gt_of_ne hne with q | q
        · exact pw x y hi' hj' q
        · exact (pw y x hj' hi' q).symm
      unfold Rk at this
      unfold PLt
      dsimp only at this
      omega
  · refine sort_short F N hoff (by omega) fun h' c F' N' => h h' c R (.refl _) ?_ F' N'
    match R, h2 with
    | [], _ => exact .nil
    | [r], _ => exact List.pairwise_singleton _ _
    | _ :: _ :: _, h2 => exact absurd (by simp) h2
end
end Mine


namespace Mine
/-! a generator expression over enumerate of a list, its element pure -/
section
variable {prog : Program} {w : World} {A : Around} {E : Value → Shared → Prop} {s : Shared} {h₁ h₀ : Heap} {c P L l : Addr} {ps : Array Value} {m : Str → Option Value} {env : Env} {elt : PySem.Expr} {scope : Scope} {cl : List (Str × Addr)} {xa xb : Str} {pos : Pos} {Q : Value → Shared → Prop} {vs : List Value}
theorem src_enum (F : Nat → Value → Prop) (hl : s.heap.IsList l vs.toArray) (F₀ : Fr h₀ L s.heap m) (G : AllBare s.gens) (hlim : s.heap.NoLimit) (hPl : P < s.heap.objs.size) (hPne : P ≠ l)
    (hel : ∀ (c' C : Addr) (A' : Around) E' (i : Nat) tk v (t : Shared) m₂, A'.handled = none → A'.depth ≤ A.depth + 1 → A'.units ≤ A.units + 8 → vs[i]? = some v → Fr (regrown h₀ P (ps ++ #[rawInt pos.line, rawInt pos.col, .ref c'])) C t.heap m₂ → m₂ xa = some (.int (i : Int) tk) → m₂ xb = some v → L < C →
      (∀ b o, b ≠ P → b < s.heap.objs.size → s.heap.get? b = some o → t.heap.get? b = some o) →
      wpAny (model prog w) A' (eval elt (genEnv scope cl C (.ref c') builtinsNs env)) (fun y s₃ => F i y ∧ Keeps t s₃) E' t)
    (hQ : ∀ (c' a : Addr) (s₅ : Shared), Based h₁ (regrown h₀ P (ps ++ #[rawInt pos.line, rawInt pos.col, .ref c'])) c P (ps ++ #[rawInt pos.line, rawInt pos.col, .ref c']) →
      Fr (regrown h₀ P (ps ++ #[rawInt pos.line, rawInt pos.col, .ref c'])) L s₅.heap m → AllBare s₅.gens → s₅.os = s.os → (∀ b o, b ≠ P → s.heap.get? b = some o → s₅.heap.get? b = some o) →
      Gen prog w A (s.heap.objs.size - 1) a vs.length (fun j y => ∃ i, (List.range vs.length)[j]? = some i ∧ F i y) s₅ → Q (.ref a) s₅) :
    wpAny (model prog w) A (call (.type "enumerate") [.ref l]) (fun xv s₁ => wpAny (model prog w) A (pyIter xv) (GenPostT prog w A h₁ h₀ c P ps L m env scope cl xa xb [] elt pos Q) E s₁) E s := by
  obtain ⟨ol, hol, _⟩ := id hl
  have hlt : l < s.heap.objs.size := Heap.lt_size hol
  have hLs : L < s.heap.objs.size := F₀.ns.lt
  refine call_enumerate_list hl fun h' hE hI hsz hk => ?_
  refine wpAny_pyIter_enum hE ?_
  have hsz' : s.heap.objs.size < h'.objs.size := by
    obtain ⟨o, q, _⟩ := hI
    exact Heap.lt_size q
  have hsz2 : s.heap.objs.size + 1 < h'.objs.size := Heap.lt_size hE
  have hlen : vs.toArray.size = vs.length := by simp
  have hpass : passing (fun _ => true) vs.length 0 = List.range vs.length := by
    unfold passing
    simp
  refine ⟨F₀.keeps hk, G, hlim.keeps hk, s.heap.objs.size - 1, s.heap.objs.size + 1, _, _, vs.length, _, _, _, (fun _ => true), F, Nat.le_sub_one_of_lt hLs, Nat.lt_of_le_of_lt (Nat.sub_le _ _) hsz', rfl,
    (fun A' hA => hlen ▸ (WalksT.enumerate (prog := prog) (w := w) hA (s.heap.objs.size + 1) s.heap.objs.size l (Nat.succ_ne_self _) (ktu_ne 1 hlt) (Nat.ne_of_lt hlt) vs.toArray).toU), ?_, ⟨⟨.none, hE⟩, hI, hl.at fun o e => hk l o e⟩, ?_, ?_, ?_, ?_, ?_, ?_⟩
  · rintro i vals ⟨t, x, hx, rfl⟩
    exact ⟨_, _, rfl⟩
  · intro b hb
    have hb' : b = s.heap.objs.size + 1 ∨ b = s.heap.objs.size ∨ b = l := by simpa using hb
    rcases hb' with rfl | rfl | rfl
    · exact hsz2
    · exact hsz'
    · exact Nat.lt_trans hlt hsz'
  · intro hb
    have hb' : P = s.heap.objs.size + 1 ∨ P = s.heap.objs.size ∨ P = l := by simpa using hb
    rcases hb' with e | e | e
    · exact absurd hPl (by rw [e]; exact Nat.not_lt.mpr (Nat.le_succ _))
    · exact absurd hPl (by rw [e]; exact Nat.lt_irrefl _)
    · exact hPne e
  · intro b hb
    have hb' : b = s.heap.objs.size + 1 ∨ b = s.heap.objs.size := by simpa using hb
    have hp : 0 < s.heap.objs.size := Nat.lt_of_le_of_lt (Nat.zero_le _) hLs
    rcases hb' with rfl | rfl
    · exact Nat.lt_succ_of_lt (Nat.sub_lt hp Nat.one_pos)
    · exact Nat.sub_lt hp Nat.one_pos
  · intro c' C A' E' i va vb t m₂ _ _ _ _ _ _ _ _ _
    exact wpAny_pure ⟨rfl, _, _, rfl, fun _ _ e => e⟩
  · rintro c' C A' E' i va vb t m₂ hA hD hU ⟨tk, x, hx, e⟩ _ F' hma hmb hLC hkp
    obtain ⟨e1, e2⟩ : va = .int i tk ∧ vb = x := by simpa using congrArg Array.toList e
    subst e1 e2
    refine hel c' C A' E' i tk _ t m₂ hA hD hU (by simpa using hx) F' hma hmb hLC fun b o hbP hbs e => hkp b o hbP (fun hw => ?_) (hk b o e)
    have hb' : b = s.heap.objs.size + 1 ∨ b = s.heap.objs.size := by simpa using hw
    rcases hb' with rfl | rfl
    · exact absurd hbs (Nat.not_lt.mpr (Nat.le_succ _))
    · exact absurd hbs (Nat.lt_irrefl _)
  · intro c' a s₅ B₅ F₅ G₅ hos hk₅ X
    refine hQ c' a s₅ B₅ F₅ G₅ hos (fun b o hb e => hk₅ b o hb (hk b o e)) ?_
    rw [hpass, List.length_range] at X
    exact X
/-- all over such a generator whose elements are all True -/
theorem all_true {K a : Addr} {n : Nat} (Fh : Fr h₀ L s.heap m) (G : AllBare s.gens) (X : Gen prog w A K a n (fun j y => ∃ i, (List.range n)[j]? = some i ∧ y = .bool true) s) (hLK : L ≤ K)
    (hQ : ∀ s', Fr h₀ L s'.heap m → AllBare s'.gens → s'.os = s.os → (∀ b o, b ≤ K → s.heap.get? b = some o → s'.heap.get? b = some o) → Q (.bool true) s') : wpAny (model prog w) A (call (.builtin "all") [.ref a]) Q E s := by
  refine all_rowsK Fh G X hLK (fun _ => true) ?_ fun s' F' G' hos hk => ?_
  · rintro j v s Q E ⟨i, _, rfl⟩ hQ
    exact wpAny_truthy_bool hQ
  · have : (List.range n).all (fun _ => true) = true := by simp
    rw [this]
    exact hQ s' F' G' hos hk
theorem gen_T {iter : PySem.Expr} {pa pb pt : Pos} {kt : Nat} {ifs : List PySem.Expr} {mg : Str → Option Value} {bm : Addr} {ob : Obj} (_F : Fr h₀ L s.heap m)
    (B : Based h₁ h₀ c P ps) (M : BMod h₀ env.globals mg bm ob) (hcode : env.code = .ref c) (hnf : codeAmong pos ps.toList = none)
    (hh : A.handled = none) (hco : scope.isCoroutine = false) (hclos : closureFor scope env = pure cl) (hcell : ∀ y ∈ scope.names, y.2 ≠ .cell) (h0 : scope.names.lookup (".0" : Str) = some NameKind.local)
    (hxa : scope.names.lookup xa = some .local) (hxb : scope.names.lookup xb = some .local) (hab : xa ≠ xb) (hkind : scope.kind = .function) (hroom : A.depth < recursionLimit)
    (h : wpAny (model prog w) A (eval iter env) (fun xv s₁ => wpAny (model prog w) A (pyIter xv) (GenPostT prog w A h₁ h₀ c P ps L m env scope cl xa xb ifs elt pos Q) E s₁) E s)
    (hs : ∀ x, genFold iter env x = pure x) :
    wpAny (model prog w) A (eval (.GeneratorExp elt [⟨.Tuple [.Name xa pa, .Name xb pb] kt pt, iter, ifs, 0⟩] scope pos) env) Q E s :=
  GeneratorExp_rowsTP (L := L) (m := m) B M hcode hnf hh hco hclos hcell h0 hxa hxb hab hkind hroom h hs
theorem item_isl {value slice : PySem.Expr} {k : Int} {u : Tok} {v : Value} (hl : s.heap.IsList l vs.toArray) (h0 : 0 ≤ k) (hhi : k < 2 ^ 63) (hx : vs[k.toNat]? = some v) (h : Q v s)
    (hs : subscripted slice false (.ref l) (.int k u) = operate [.ref l, .int k u] (getItem (.ref l) (.int k u)) := by with_unfolding_all rfl) :
    wpAny (model prog w) A (subscriptTail value slice (.ref l) (.int k u)) Q E s :=
  tail_any hl.typeIs slot_list_getitem.lookup (wpAny_getItem_list hl h0 hhi (by simpa using hx) h) hs
theorem based_lt {h : Heap} (B : Based h₁ h₀ c P ps) (F : Fr h₀ L h m) : P < h.objs.size := Heap.lt_size (B.tabAt F).2
theorem based_ne {h : Heap} {news : List (Addr × Obj)} {a : Addr} {o : Obj} (B : Based h₁ h₀ c P ps) (N : News h₀ L h news) (hm : (a, o) ∈ news) : P ≠ a := fun e => by
  have h1 := B.tab.2
  have h2 := (N _ hm).2.2
  rw [e] at h1
  rw [h2] at h1
  cases h1
theorem bare_nil {g : Array GenState} (h : g = #[]) : AllBare g := by subst h; exact AllBare.empty
end
end Mine


namespace Mine
/-! sorted, list.sort: of things by a comparison of their own, up or down; by a key that gives pairs of ints; any length under 64 -/
section
variable {prog : Program} {w : World} {A : Around} {E : Value → Shared → Prop} {s : Shared} {h₀ : Heap} {L D : Addr} {m : Str → Option Value} {rest : List (Addr × Obj)} {vs : List Value}
/-- sorted is: collect, a new list, its sort -/
theorem sorted_open {v : Value} {kw : List (Str × Value)} {Q : Value → Shared → Prop} (ha : argsOk "sorted" ⟨[v], kw⟩)
    (h : wpAny (model prog w) A.in1 (collect v) (fun (us : List Value) s1 => us.length ≤ 64 ∧ wpAny (model prog w) A.in1 (call (.builtin "list.sort") [.ref s1.heap.objs.size] kw) (fun _ s2 => Q (.ref s1.heap.objs.size) s2) E { s1 with heap := s1.heap.push (seqObj "list" us.toArray 0) }) E s) :
    wpAny (model prog w) A (call (.builtin "sorted") [v] kw) Q E s := by
  refine call_function_entry_kw kind_sorted plain_sorted entry_sorted ha ?_
  unfold Builtin.«sorted»
  refine wpAny_bind (m := checkCount "sorted" 1 1 _) (wpAny_pure ?_)
  refine wpAny_bind (wpAny_mono h (fun us s1 hs => ?_) fun _ _ e => e)
  obtain ⟨hz, hc⟩ := hs
  refine wpAny_bind (wpAny_newList ?_ (by rw [sizeLine_eq]; omega))
  refine wpAny_bind (wpAny_holding (wpAny_mono hc (fun _ s2 hq => ?_) fun _ _ e => e))
  exact wpAny_pure ⟨_, rfl, hq⟩
theorem collect_rangeK {r : Addr} {a b c : Int} {t u v : Tok} {n : Nat} {Q : List Value → Shared → Prop} (hh : A.handled = none) (hr : IsRange s.heap r a b c t u v) (hsmall : Builtin.Range.small a b c = true)
    (hn : Builtin.Range.rangeSize a b c = n) (hlen : n ≤ 2 ^ 20)
    (h : ∀ h' tk (us : List Value), (∀ b o, s.heap.get? b = some o → h'.get? b = some o) → us.length = n → (∀ (i : Nat) (x : Value), us[i]? = some x → ∃ t, x = .int (a + i * c) t) → Q us { s with heap := h', toks := tk }) : wpAny (model prog w) A (collect (.ref r)) Q E s := by
  unfold collect
  refine wpAny_bind (wpAny_runValue (codeAny_builtin entry_proto_collect' ?_))
  show wpAny _ _ (do again (.builtin "list.__iadd__" ⟨[← newList [], .ref r], []⟩)) _ _ s
  refine wpAny_bind (wpAny_newList (wpAny_pure ⟨Code.quiet_builtin _ (by decide +kernel), codeAny_builtin entry_list_iadd' ?_⟩))
  have hr' : IsRange (s.heap.push (seqObj "list" #[] 0)) r a b c t u v := Heap.get?_push_of_some _ hr
  rw [Around.under_plainId F.plain_list_iadd _]
  show wpAny _ A.in1 (Builtin.List.listExtendWith (.ref s.heap.objs.size) (.ref r) (.ref s.heap.objs.size)) _ _ _
  refine wpAny_extend_range (R := fun res s' => match res with
    | .ok (.ret v) => wpAny (model prog w) A (match v with | .ref a => (do let o ← load a; match o.data with | .seq xs _ => pure xs.toList | _ => unsupported "internal:collect") | _ => unsupported "internal:collect") Q E s'
    | .ok _ => False
    | .error e => E e s') (s := { s with heap := s.heap.push (seqObj "list" #[] 0) }) hh hr' hsmall hn (by omega) s.heap.objs.size (.ref s.heap.objs.size) 0 (Heap.get?_push_size _ rfl) fun h' tk acc' c' hk hS hI => ?_
  show wpAny (model prog w) A (do
      let o ← load s.heap.objs.size
      match o.data with
      | .seq xs _ => pure xs.toList
      | _ => unsupported "internal:collect") Q E _
  refine wpAny_bind (wpAny_load hS ?_)
  refine wpAny_pure (h h' tk acc'.toList (fun b o e => hk b o (Nat.ne_of_lt (Heap.lt_size e)) (Heap.get?_push_of_some _ e)) (by rw [Array.length_toList]; exact hI.1) fun i v hv => hI.2 i v (by rw [← hv, Array.getElem?_toList]))
def revTree (a : Addr) (b : Bool) : Sem PySem.Fin := do
  let items ← Builtin.List.listItems (.ref a)
  Builtin.List.listUpdate (.ref a) fun _ => #[]
  let before ← seqEpoch a
  let held ← newTuple items.toList
  let keyStore ← newList []
  holding [held, keyStore] do
    if b then rule "list.sort.reverse"
    let kind ← if items.size < 2 then pure general' else keyKind' items
    let ((), s) ← (if items.size < 2 then pure () else sortRuns').run (SortSt.mk' kind (if b then (items.zip items).reverse else items.zip items) #[] 7 none)
    let sorted := (arrOf s).map (·.2)
    let touched := (← seqEpoch a) != before
    Builtin.List.listUpdate (.ref a) fun _ => if b then sorted.reverse else sorted
    if let some e := failedOf s then rule "list.sort.comparison-raised"; throw e
    if touched then rule "list.sort.modified"; raiseError "ValueError" "list modified during sort"
    ret .none
theorem revTree_kw (a : Addr) (b : Bool) : Builtin.«list.sort» ⟨[.ref a], [(Str.ofString "reverse", .bool b)]⟩ = revTree a b := list_sort_rev a b
theorem revTree_nil (a : Addr) : Builtin.«list.sort» ⟨[.ref a], []⟩ = revTree a false := by
  rw [list_sort_plain]; rfl
theorem katRev_rev (b : Bool) (l : List Value) : katRev b (katRev b l) = l := by unfold katRev; split <;> simp
/-- the order that sorted gives: up, or down; equals as they stood -/
def SortedBy (b : Bool) (os : Nat → Int) (i j : Nat) : Prop := (if b then os j < os i else os i < os j) ∨ os i = os j ∧ i < j
/-- how the comparison answers -/
def AsksV (prog : Program) (w : World) (A : Around) (h₀ : Heap) (L : Addr) (m : Str → Option Value) (rest : List (Addr × Obj)) (s : Shared) (vs : List Value) (os : Nat → Int) : Prop :=
  ∀ κ, (κ = oneType' ∨ κ = general') → ∀ nw h tk i j (C : Bool → Shared → Prop), (∀ p ∈ rest, p ∈ nw) → i < vs.length → j < vs.length → Fr h₀ L h m → News h₀ L h nw →
    (∀ h' tk', Fr h₀ L h' m → News h₀ L h' nw → C (decide (os i < os j)) { s with heap := h', toks := tk' }) →
    wpAny (model prog w) A (keyLt' κ (vs.getD i Value.none) (vs.getD j Value.none)) C (fun _ _ => False) { s with heap := h, toks := tk }
theorem getD_rev {b : Bool} {i : Nat} (h : i < vs.length) : (katRev b vs).getD i Value.none = vs.getD (if b then vs.length - 1 - i else i) Value.none := by
  unfold katRev
  cases b with
  | false => rfl
  | true =>
    simp only [if_true]
    rw [List.getD_eq_getElem?_getD, List.getD_eq_getElem?_getD, List.getElem?_reverse h]
theorem lsort_tree {b : Bool} {n : Nat} {P : PySem.Fin → Shared → Prop} {os : Nat → Int} (F : Fr h₀ L s.heap m) (N : News h₀ L s.heap rest) (ho : s.heap.get? D = some (seqObj "list" vs.toArray n)) (haL : D ≠ L) (ha0 : h₀.get? D = none) (hna : ∀ p ∈ rest, p.1 ≠ D)
    (h64 : vs.length < 64)
    (kind : 2 ≤ vs.length → ∀ h (Q : SortKind → Shared → Prop), Fr h₀ L h m → News h₀ L h rest → (∀ κ, (κ = oneType' ∨ κ = general') → Q κ { s with heap := h }) → wpAny (model prog w) A (keyKind' vs.toArray) Q (fun _ _ => False) { s with heap := h })
    (ask : AsksV prog w A h₀ L m rest s vs os)
    (done : ∀ h' tk c (p : List Nat), p.Perm (List.range vs.length) → p.Pairwise (SortedBy b os) → Fr h₀ L h' m → News h₀ L h' ((D, W.listOf (p.map fun i => vs.getD i Value.none).toArray c) :: rest) → P (.done (.ret .none)) { s with heap := h', toks := tk }) :
    wpAny (model prog w) A (revTree D b) P E s := by
  have ha : D < s.heap.objs.size := Heap.lt_size ho
  have s1 := Heap.SameBut.update s.heap D (Obj.mapSeq fun _ => (#[] : Array Value))
  obtain ⟨e1, ho1⟩ : ∃ e1, (s.heap.update D (Obj.mapSeq fun _ => (#[] : Array Value))).get? D = some (seqObj "list" #[] e1) := ⟨_, get?_update_seq ho fun _ => #[]⟩
  have F3 : Fr h₀ L (((s.heap.update D (Obj.mapSeq fun _ => (#[] : Array Value))).push (seqObj "tuple" vs.toArray 0)).push (seqObj "list" #[] 0)) m := ((kas_fr F s1 haL ha0).push _).push _
  have N2 : News h₀ L (((s.heap.update D (Obj.mapSeq fun _ => (#[] : Array Value))).push (seqObj "tuple" vs.toArray 0)).push (seqObj "list" #[] 0)) rest :=
    (kas_news N s1 hna).grown fun b x e => Heap.get?_push_of_some _ (Heap.get?_push_of_some _ e)
  have N3 : News h₀ L (((s.heap.update D (Obj.mapSeq fun _ => (#[] : Array Value))).push (seqObj "tuple" vs.toArray 0)).push (seqObj "list" #[] 0)) ((D, seqObj "list" #[] e1) :: rest) := fun p hp => by
    rcases List.mem_cons.mp hp with rfl | hp
    · exact ⟨Heap.get?_push_of_some _ (Heap.get?_push_of_some _ ho1), haL, ha0⟩
    · exact N2 p hp
  unfold revTree
  refine wpAny_bind (listItems_at ho rfl ?_)
  refine wpAny_bind (listUpdate_at ho rfl ?_ (by rw [List.size_toArray, sizeLine_eq]; omega) (Nat.zero_le _))
  refine wpAny_bind (seqEpoch_at ho1 rfl ?_)
  refine wpAny_bind (wpAny_newTuple ?_ (by show vs.length ≤ _; rw [sizeLine_eq]; omega))
  refine wpAny_bind (wpAny_newList ?_ (Nat.zero_le _))
  refine wpAny_holding ?_
  show wpAny (model prog w) A _ P E { s with heap := ((s.heap.update D (Obj.mapSeq fun _ => (#[] : Array Value))).push (seqObj "tuple" vs.toArray 0)).push (seqObj "list" #[] 0) }
  generalize ((s.heap.update D (Obj.mapSeq fun _ => (#[] : Array Value))).push (seqObj "tuple" vs.toArray 0)).push (seqObj "list" #[] 0) = H at F3 N2 N3 ⊢
  have step : ∀ t : Sem PySem.Fin, wpAny (model prog w) A t P E { s with heap := H } → wpAny (model prog w) A (if b = true then (do let _ ← rule "list.sort.reverse"; t) else t) P E { s with heap := H } := by
    intro t ht
    split
    · exact wpAny_bind (wpAny_rule ht)
    · exact ht
  have fin : ∀ (st' : SortSt) (p : List Nat) h' tk, (arrOf st').map (·.2) = List.toArray (p.map fun i => (katRev b vs).getD i Value.none) → failedOf st' = none → p.Perm (List.range vs.length) → p.Pairwise (fun i j => SortedBy false (fun i => os (if b then vs.length - 1 - i else i)) i j) →
      Fr h₀ L h' m → News h₀ L h' ((D, seqObj "list" #[] e1) :: rest) →
      wpAny (model prog w) A (do
        let touched := (← seqEpoch D) != e1
        Builtin.List.listUpdate (.ref D) fun _ => if b then ((arrOf st').map (·.2)).reverse else (arrOf st').map (·.2)
        if let some e := failedOf st' then rule "list.sort.comparison-raised"; throw e
        if touched then rule "list.sort.modified"; raiseError "ValueError" "list modified during sort"
        ret .none) P E { s with heap := h', toks := tk } := by
    intro st' p h' tk hout hf hp hs F' N'
    have na := N' _ (.head _)
    have hmem : ∀ i ∈ p, i < vs.length := fun i hi => by simpa using hp.mem_iff.mp hi
    have hlen : p.length = vs.length := by simpa using hp.length_eq
    rw [hout, kat_outs]
    have e2 : katRev b (p.map fun i => (katRev b vs).getD i Value.none) = (if b then p.reverse.map (fun i => vs.length - 1 - i) else p).map fun i => vs.getD i Value.none := by
      have e3 : (p.map fun i => (katRev b vs).getD i Value.none) = p.map fun i => vs.getD (if b then vs.length - 1 - i else i) Value.none := List.map_congr_left fun i hi => getD_rev (hmem i hi)
      rw [e3]
      unfold katRev
      cases b with
      | false => rfl
      | true => simp only [if_true, List.map_map, ← List.map_reverse]; rfl
    rw [e2]
    have hz : ((if b then p.reverse.map (fun i => vs.length - 1 - i) else p).map fun i => vs.getD i Value.none).length = vs.length := by cases b <;> simp [hlen]
    have s2 := Heap.SameBut.update h' D (Obj.mapSeq fun _ => List.toArray ((if b then p.reverse.map (fun i => vs.length - 1 - i) else p).map fun i => vs.getD i Value.none))
    obtain ⟨c2, hc2⟩ : ∃ c2, (h'.update D (Obj.mapSeq fun _ => List.toArray ((if b then p.reverse.map (fun i => vs.length - 1 - i) else p).map fun i => vs.getD i Value.none))).get? D = some (seqObj "list" (List.toArray ((if b then p.reverse.map (fun i => vs.length - 1 - i) else p).map fun i => vs.getD i Value.none)) c2) := ⟨_, get?_update_seq na.1 fun _ => _⟩
    refine wpAny_bind (seqEpoch_at na.1 rfl ?_)
    refine wpAny_bind (listUpdate_at na.1 rfl ?_ (Nat.zero_le _) (by rw [List.size_toArray, hz, sizeLine_eq]; omega))
    rw [hf]
    simp only [bne_self_eq_false, Bool.false_eq_true, if_false]
    refine wpAny_pure (done _ tk c2 (if b then p.reverse.map (fun i => vs.length - 1 - i) else p) ?_ ?_ (kas_fr F' s2 na.2.1 na.2.2) fun q hq => ?_)
    · cases b with
      | false => exact hp
      | true =>
        simp only [if_true]
        refine ((List.reverse_perm p).map _).trans ((hp.map _).trans ?_)
        refine (List.Perm.of_eq ?_ : List.Perm _ (List.range vs.length).reverse).trans (List.reverse_perm _)
        apply List.ext_getElem?
        intro i
        by_cases hi : i < vs.length
        · rw [List.getElem?_map, List.getElem?_range hi, List.getElem?_reverse (by simpa using hi), List.length_range, List.getElem?_range (by omega)]; rfl
        · rw [List.getElem?_eq_none (by simpa using hi), List.getElem?_eq_none (by simpa using hi)]
    · cases b with
      | false => simpa using hs
      | true =>
        simp only [if_true]
        rw [List.pairwise_map, List.pairwise_reverse]
        refine hs.imp_of_mem fun {i j} hi hj q => ?_
        have hi' := hmem i hi
        have hj' := hmem j hj
        unfold SortedBy at q ⊢
        simp only [if_true, Bool.false_eq_true, if_false] at q ⊢
        omega
    · rcases List.mem_cons.mp hq with rfl | hq
      · exact ⟨hc2, na.2.1, na.2.2⟩
      · exact kas_news (fun p hp => N' p (.tail _ hp)) s2 hna q hq
  dsimp only
  refine step _ ?_
  by_cases h2 : vs.toArray.size < 2
  · rw [if_pos h2, if_pos h2]
    rw [List.size_toArray] at h2
    refine wpAny_bind (wpAny_pure ?_)
    rw [StateT.run_pure]
    refine wpAny_bind (wpAny_pure ?_)
    dsimp only
    refine fin (SortSt.mk' general' (if b = true then (vs.toArray.zip vs.toArray).reverse else vs.toArray.zip vs.toArray) #[] 7 none) (List.range vs.length) H s.toks ?_ rfl (.refl _) ?_ F3 N3
    · show (if b = true then (vs.toArray.zip vs.toArray).reverse else vs.toArray.zip vs.toArray).map (·.2) = _
      rw [kat_pairs b rfl]
      apply Array.toList_inj.mp
      simp only [Array.toList_map, ksk_zip]
      rw [List.map_snd_zip (by simp)]
      apply List.ext_getElem?
      intro i
      have hl := kat_len b vs
      by_cases hi : i < vs.length
      · simp [List.getElem?_range hi, hl, hi]
      · rw [List.getElem?_eq_none (by rw [hl]; omega), List.getElem?_eq_none (by simpa using hi)]
    · match hv : vs, h2 with
      | [], _ => exact .nil
      | [_], _ => exact List.pairwise_singleton _ _
      | _ :: _ :: _, h2 => exact absurd h2 (by simp)
  · rw [if_neg h2, if_neg h2]
    rw [List.size_toArray] at h2
    refine wpAny_bind (wpAny_mono (kind (by omega) H (fun κ s' => s' = { s with heap := H } ∧ (κ = oneType' ∨ κ = general')) F3 N2 fun κ hκ => ⟨rfl, hκ⟩) (fun κ s' hk => ?_) fun _ _ x => x.elim)
    obtain ⟨rfl, hκ⟩ := hk
    rw [kat_pairs b rfl]
    have tree : (kas_sort (katRev b vs).length).kasWp (kas_ask prog w A κ (katRev b vs)) (fun p s' => ∃ h' tk, s' = { s with heap := h', toks := tk } ∧ p.toList.Perm (List.range vs.length) ∧ p.toList.Pairwise (SortedBy false (fun i => os (if b then vs.length - 1 - i else i))) ∧ Fr h₀ L h' m ∧ News h₀ L h' ((D, seqObj "list" #[] e1) :: rest)) { s with heap := H } := by
      rw [kat_len]
      refine wp_sort (n := vs.length) (a := fun i => os (if b then vs.length - 1 - i else i)) (b := fun _ => 0) (I := fun s' => ∃ h' tk, s' = { s with heap := h', toks := tk } ∧ Fr h₀ L h' m ∧ News h₀ L h' ((D, seqObj "list" #[] e1) :: rest)) ?_ (by omega) (fun p s' hi hp hu => ?_) ⟨H, s.toks, rfl, F3, N3⟩
      · rintro i j hi hj C s' ⟨h', tk', rfl, F', N'⟩ hy hn
        show wpAny _ _ (keyLt' κ ((katRev b vs).getD i Value.none) ((katRev b vs).getD j Value.none)) C _ _
        rw [getD_rev hi, getD_rev hj]
        refine ask κ hκ _ h' tk' _ _ C (fun p hp => .tail _ hp) (by split <;> omega) (by split <;> omega) F' N' fun h'' tk'' F'' N'' => ?_
        by_cases q : os (if b then vs.length - 1 - i else i) < os (if b then vs.length - 1 - j else j)
        · rw [decide_eq_true q]; exact hy (by unfold Ltk; exact .inl q) _ ⟨_, _, rfl, F'', N''⟩
        · rw [decide_eq_false q]; exact hn (by unfold Ltk; simp only; omega) _ ⟨_, _, rfl, F'', N''⟩
      · obtain ⟨h', tk', rfl, F', N'⟩ := hi
        refine ⟨h', tk', rfl, hp.perm, ?_, F', N'⟩
        rw [List.pairwise_iff_getElem]
        intro i j hi hj hij
        have hz : p.size = vs.length := hp.size
        have := hu i j hij (by simpa [hz] using hj)
        have ei : gp p i = p.toList[i] := by rw [gp_eq]; simp at hi; simp [hi]
        have ej : gp p j = p.toList[j] := by rw [gp_eq]; simp at hj; simp [hj]
        rw [ei, ej] at this
        unfold Rk at this
        unfold SortedBy
        simp only [Bool.false_eq_true, if_false]
        dsimp only at this
        omega
    have hl : (katRev b vs).length = vs.length := kat_len b vs
    refine wpAny_bind (wpAny_mono (kat_run (Q := fun st' s' => ∃ h' tk, ∃ p : Array Nat, s' = { s with heap := h', toks := tk } ∧ arrOf st' = p.map (kas_item ((List.toArray (katRev b vs)).zip (List.toArray (katRev b vs)))) ∧ failedOf st' = none ∧
        p.toList.Perm (List.range vs.length) ∧ p.toList.Pairwise (SortedBy false (fun i => os (if b then vs.length - 1 - i else i))) ∧ Fr h₀ L h' m ∧ News h₀ L h' ((D, seqObj "list" #[] e1) :: rest))
      rfl (by omega) (by omega) (fun p' st' s' _ a2 a3 a4 => by obtain ⟨h', tk, rfl, b1, b2, b3, b4⟩ := a4; exact ⟨h', tk, p', rfl, a2, a3, b1, b2, b3, b4⟩) tree) ?_ fun _ _ e => e)
    rintro ⟨⟨⟩, st'⟩ s' ⟨h', tk, p, rfl, har, hf, c1, c2, c3, c4⟩
    exact fin st' p.toList h' tk (kat_snds rfl har) hf c1 c2 c3 c4
/-- list.sort of things by their own comparison -/
theorem lsort_by {b : Bool} {n : Nat} {kw : List (Str × Value)} {Q : Value → Shared → Prop} {os : Nat → Int} (ha : argsOk "list.sort" ⟨[.ref D], kw⟩) (ht : Builtin.«list.sort» ⟨[.ref D], kw⟩ = revTree D b)
    (F : Fr h₀ L s.heap m) (N : News h₀ L s.heap ((D, W.listOf vs.toArray n) :: rest)) (hna : ∀ p ∈ rest, p.1 ≠ D) (h64 : vs.length < 64)
    (kind : 2 ≤ vs.length → ∀ h (Q : SortKind → Shared → Prop), Fr h₀ L h m → News h₀ L h rest → (∀ κ, (κ = oneType' ∨ κ = general') → Q κ { s with heap := h }) → wpAny (model prog w) A.in1 (keyKind' vs.toArray) Q (fun _ _ => False) { s with heap := h })
    (ask : AsksV prog w A.in1 h₀ L m rest s vs os)
    (done : ∀ h' tk c (p : List Nat), p.Perm (List.range vs.length) → p.Pairwise (SortedBy b os) → Fr h₀ L h' m → News h₀ L h' ((D, W.listOf (p.map fun i => vs.getD i Value.none).toArray c) :: rest) → Q .none { s with heap := h', toks := tk }) :
    wpAny (model prog w) A (call (.builtin "list.sort") [.ref D] kw) Q E s := by
  have nz := N _ (.head _)
  refine wpAny_call_entry_kw slot_list_sort ⟨_, nz.1, rfl⟩ entry_list_sort ?_ ha
  show wpAny (model prog w) A.in1 (Builtin.«list.sort» ⟨[.ref D], kw⟩) _ _ _
  rw [ht]
  exact lsort_tree F (fun p hp => N p (.tail _ hp)) nz.1 nz.2.1 nz.2.2 hna h64 kind ask fun h' tk c p a1 a2 a3 a4 => ⟨_, rfl, done h' tk c p a1 a2 a3 a4⟩
end
end Mine


namespace Mine
/-! list.sort by a key that gives pairs of ints -/
section
variable {prog : Program} {w : World} {A : Around} {E : Value → Shared → Prop} {s : Shared} {h₀ : Heap} {L D kS : Addr} {m : Str → Option Value} {rest : List (Addr × Obj)} {vs : List Value} {ka kb : Nat → Int} {f : Value}
/-- the key's call: a new pair -/
def Keyed2 (prog : Program) (w : World) (A : Around) (h₀ : Heap) (L : Addr) (m : Str → Option Value) (rest : List (Addr × Obj)) (s : Shared) (f : Value) (vs : List Value) (ka kb : Nat → Int) : Prop :=
  ∀ i v nw h tk, vs[i]? = some v → (∀ p ∈ rest, p ∈ nw) → Fr h₀ L h m → News h₀ L h nw →
    wpAny (model prog w) A (call f [v]) (fun k s' => ∃ h' tk' T n t u, k = .ref T ∧ s' = { s with heap := h', toks := tk' } ∧ Fr h₀ L h' m ∧ News h₀ L h' ((T, { cls := .type "tuple", data := .seq #[.int (ka i) t, .int (kb i) u] n }) :: nw) ∧ ∀ p ∈ nw, p.1 ≠ T) (fun _ _ => False) { s with heap := h, toks := tk }
structure KeyR (ka kb : Nat → Int) (tups : List (Addr × Obj)) (R : List PR) : Prop where
  at_ : ∀ i r, R[i]? = some r → r.o = ka i ∧ r.k = kb i
  in_ : ∀ r ∈ R, PairIn tups r
theorem keys_go {e1 : Nat} {Fin : List Value → Nat → Shared → Prop} (call : Keyed2 prog w A h₀ L m rest s f vs ka kb) (hkD : kS ≠ D)
    (fin : ∀ R e tups h tk, R.length = vs.length → KeyR ka kb tups R → (∀ p ∈ tups ++ rest, p.1 ≠ kS ∧ p.1 ≠ D) → Fr h₀ L h m → News h₀ L h ((kS, seqObj "list" (refsP R).toArray e) :: (D, seqObj "list" #[] e1) :: (tups ++ rest)) → Fin (refsP R) e { s with heap := h, toks := tk }) :
    ∀ (r pre : List Value) (R : List PR) (e : Nat) (tups : List (Addr × Obj)) (h : Heap) (tk : Nat), vs = pre ++ r → R.length = pre.length → KeyR ka kb tups R → (∀ p ∈ tups ++ rest, p.1 ≠ kS ∧ p.1 ≠ D) → Fr h₀ L h m →
      News h₀ L h ((kS, seqObj "list" (refsP R).toArray e) :: (D, seqObj "list" #[] e1) :: (tups ++ rest)) → KatKeys prog w A h₀ L m kS f Fin r (refsP R) e { s with heap := h, toks := tk }
  | [], pre, R, e, tups, h, tk, hv, hl, hR, hoff, F, N => KatKeys.nil (fin R e tups h tk (by rw [hv, hl]; simp) hR hoff F N)
  | v :: r, pre, R, e, tups, h, tk, hv, hl, hR, hoff, F, N => by
    have hvi : vs[pre.length]? = some v := by rw [hv]; simp
    refine KatKeys.cons (wpAny_mono (call pre.length v _ h tk hvi (fun p hp => .tail _ (.tail _ (List.mem_append_right _ hp))) F N) (fun k s' hk => ?_) fun _ _ x => x)
    obtain ⟨h', tk', T, n, t, u, rfl, rfl, F', N', hT⟩ := hk
    have hTk : kS ≠ T := hT _ (.head _)
    have hTD : D ≠ T := hT _ (.tail _ (.head _))
    refine KatBack.intro F' N' (.tail hTk.symm (.head fun p hp => ?_)) fun h2 c2 F2 N2 => ?_
    · rcases List.mem_cons.mp hp with rfl | hp
      · exact hkD.symm
      · exact (hoff p hp).1
    have hR' : KeyR ka kb ((T, ({ cls := .type "tuple", data := .seq #[.int (ka pre.length) t, .int (kb pre.length) u] n } : Obj)) :: tups) (R ++ [⟨T, ka pre.length, kb pre.length⟩]) := by
      refine ⟨fun i r hr => ?_, fun r hr => ?_⟩
      · by_cases hi : i < R.length
        · rw [List.getElem?_append_left hi] at hr
          exact hR.at_ i r hr
        · rw [List.getElem?_append_right (by omega)] at hr
          have hi0 : i - R.length = 0 := by
            rcases Nat.eq_zero_or_pos (i - R.length) with q | q
            · exact q
            · rw [List.getElem?_eq_none (by show 1 ≤ _; omega)] at hr; cases hr
          rw [hi0] at hr
          obtain rfl := Option.some.inj hr
          have : i = pre.length := by omega
          subst this
          exact ⟨rfl, rfl⟩
      · rcases List.mem_append.mp hr with hr | hr
        · obtain ⟨a, b, c, q⟩ := hR.in_ r hr
          exact ⟨a, b, c, .tail _ q⟩
        · rw [List.mem_singleton.mp hr]
          exact ⟨_, _, _, .head _⟩
    have e : refsP (R ++ [⟨T, ka pre.length, kb pre.length⟩]) = refsP R ++ [Value.ref T] := by simp [refsP]
    have go := keys_go call hkD fin r (pre ++ [v]) (R ++ [⟨T, ka pre.length, kb pre.length⟩]) c2 ((T, { cls := .type "tuple", data := .seq #[.int (ka pre.length) t, .int (kb pre.length) u] n }) :: tups) h2 tk' (by rw [hv]; simp) (by simp [hl]) hR' ?_ F2 ?_
    · rw [e] at go
      exact go
    · intro p hp
      rcases List.mem_cons.mp hp with rfl | hp
      · exact ⟨hTk.symm, hTD.symm⟩
      · exact hoff p hp
    · rw [e]
      intro p hp
      refine N2 p ?_
      rcases List.mem_cons.mp hp with rfl | hp
      · exact .tail _ (.head _)
      · rcases List.mem_cons.mp hp with rfl | hp
        · exact .tail _ (.tail _ (.head _))
        · rcases List.mem_cons.mp hp with rfl | hp
          · exact .head _
          · exact .tail _ (.tail _ (.tail _ hp))
theorem key_rest {e1 : Nat} {P : PySem.Fin → Shared → Prop} (hk : s.heap.get? kS = some (seqObj "list" #[] 0)) (h64 : vs.length < 64)
    (h : KatKeys prog w A h₀ L m kS f (fun ks e s' => if vs.length < 2 then KatFin h₀ L m kS D ks e e1 vs (fun s4 => P (.done (.ret .none)) s4) s' else
      wpAny (model prog w) A (keyKind' (List.toArray ks)) (fun κ s'' => (kas_sort vs.length).kasWp (kas_ask prog w A κ ks) (fun p s3 => KatFin h₀ L m kS D ks e e1 (p.toList.map fun i => vs.getD i Value.none) (fun s4 => P (.done (.ret .none)) s4) s3) s'') (fun _ _ => False) s') vs [] 0 s) :
    wpAny (model prog w) A (ksk_rest D f false vs.toArray e1 (.ref kS)) P E s := by
  by_cases h2 : vs.length < 2
  · simp only [h2, if_true] at h
    unfold ksk_rest
    refine wpAny_bind (wpAny_rule ?_)
    rw [List.forIn_toArray]
    refine wpAny_bind (wpAny_mono (kat_fold h64 (fun x ks e s' C hz hx => ?_) vs [] 0 s (by simp) hk h) (fun _ s' hd => ?_) fun _ _ x => x)
    · refine wpAny_bind (wpAny_attempt (wpAny_mono hx (fun k s'' hk => ?_) fun _ _ hF => hF.elim))
      obtain ⟨news', g, F', N', U, c⟩ := hk
      obtain ⟨pre, post, e0, hg, x1, x2⟩ := U.split
      rw [e0] at N'
      have nk := N' (kS, seqObj "list" (List.toArray ks) e) (List.mem_append_right _ (.head _))
      have s1 := Heap.SameBut.update s''.heap kS (Obj.mapSeq (·.push k))
      have ea : (List.toArray ks).push k = List.toArray (ks ++ [k]) := by simp
      obtain ⟨c2, hc2⟩ : ∃ c2, (s''.heap.update kS (Obj.mapSeq (·.push k))).get? kS = some (seqObj "list" (List.toArray (ks ++ [k])) c2) := ⟨_, by rw [← ea]; exact get?_update_seq nk.1 (·.push k)⟩
      try dsimp only
      refine wpAny_bind (listUpdate_at nk.1 rfl ?_ (by rw [List.size_toArray, sizeLine_eq]; omega) (Nat.le_trans (Nat.le_of_eq (Array.size_push ..)) (by rw [List.size_toArray, sizeLine_eq]; omega)))
      exact wpAny_pure ⟨rfl, k, c2, hc2, c _ c2 (kas_fr F' s1 nk.2.1 nk.2.2) (by rw [hg]; exact news_set N' x1 x2 s1 hc2)⟩
    · obtain ⟨ks, e, hk', hl, fin⟩ := hd
      try dsimp only
      refine wpAny_bind (listItems_at hk' rfl ?_)
      unfold ksk_end
      dsimp only
      have hn2 : vs.toArray.size < 2 := by rw [List.size_toArray]; omega
      rw [if_neg (by simp), if_pos hn2, if_pos hn2]
      refine wpAny_bind (wpAny_pure ?_)
      rw [StateT.run_pure]
      refine wpAny_bind (wpAny_pure ?_)
      dsimp only
      refine kat_tail (b := false) (out := vs) (ks := ks) (e := e) (st := SortSt.mk' general' (if false = true then ((List.toArray ks).zip vs.toArray).reverse else (List.toArray ks).zip vs.toArray) #[] 7 none) ?_ h64 (by omega) rfl fin
      show (if false = true then ((List.toArray ks).zip vs.toArray).reverse else (List.toArray ks).zip vs.toArray).map (·.2) = _
      rw [if_neg (by simp)]
      apply Array.toList_inj.mp
      simp only [Array.toList_map, ksk_zip]
      exact List.map_snd_zip (by simp [hl])
  · simp only [h2, if_false] at h
    exact kat_rest (b := false) hk (by omega) h64 h
/-- list.sort by a key of pairs -/
theorem lsort_key {n : Nat} {kw : List (Str × Value)} {Q : Value → Shared → Prop} (ha : argsOk "list.sort" ⟨[.ref D], kw⟩) (ht : Builtin.«list.sort» ⟨[.ref D], kw⟩ = ksk_tree D f false)
    (F : Fr h₀ L s.heap m) (N : News h₀ L s.heap ((D, W.listOf vs.toArray n) :: rest)) (hna : ∀ p ∈ rest, p.1 ≠ D) (h64 : vs.length < 64)
    (call : Keyed2 prog w A.in1 h₀ L m rest s f vs ka kb)
    (done : ∀ h' tk c (p : List Nat), p.Perm (List.range vs.length) → p.Pairwise (Rk ka kb) → Fr h₀ L h' m → News h₀ L h' ((D, W.listOf (p.map fun i => vs.getD i Value.none).toArray c) :: rest) → Q .none { s with heap := h', toks := tk }) :
    wpAny (model prog w) A (PySem.call (.builtin "list.sort") [.ref D] kw) Q E s := by
  have nz := N _ (.head _)
  have ho : s.heap.get? D = some (seqObj "list" vs.toArray n) := nz.1
  have N₀ : News h₀ L s.heap rest := fun p hp => N p (.tail _ hp)
  refine wpAny_call_entry_kw slot_list_sort ⟨_, nz.1, rfl⟩ entry_list_sort ?_ ha
  show wpAny (model prog w) A.in1 (Builtin.«list.sort» ⟨[.ref D], kw⟩) _ _ _
  rw [ht]
  have haa : D < s.heap.objs.size := Heap.lt_size ho
  have s1 := Heap.SameBut.update s.heap D (Obj.mapSeq fun _ => (#[] : Array Value))
  obtain ⟨e1, ho1⟩ : ∃ e1, (s.heap.update D (Obj.mapSeq fun _ => (#[] : Array Value))).get? D = some (seqObj "list" #[] e1) := ⟨_, get?_update_seq ho fun _ => #[]⟩
  have F1 := kas_fr F s1 nz.2.1 nz.2.2
  have N1 := kas_news N₀ s1 hna
  have hkS : ((s.heap.update D (Obj.mapSeq fun _ => (#[] : Array Value))).push (seqObj "tuple" vs.toArray 0)).objs.size = s.heap.objs.size + 1 := by rw [size_push', Heap.size_update]
  have hLk : L < ((s.heap.update D (Obj.mapSeq fun _ => (#[] : Array Value))).push (seqObj "tuple" vs.toArray 0)).objs.size := (F1.push _).ns.lt
  unfold ksk_tree
  refine wpAny_bind (listItems_at ho rfl ?_)
  refine wpAny_bind (listUpdate_at ho rfl ?_ (by rw [List.size_toArray, sizeLine_eq]; omega) (Nat.zero_le _))
  refine wpAny_bind (seqEpoch_at ho1 rfl ?_)
  refine wpAny_bind (wpAny_newTuple ?_ (by show vs.length ≤ _; rw [sizeLine_eq]; omega))
  refine wpAny_bind (wpAny_newList ?_ (Nat.zero_le _))
  refine wpAny_holding ?_
  have hkD : ((s.heap.update D (Obj.mapSeq fun _ => (#[] : Array Value))).push (seqObj "tuple" vs.toArray 0)).objs.size ≠ D := by rw [hkS]; exact (Nat.ne_of_lt (Nat.lt_succ_of_lt haa)).symm
  refine key_rest (h₀ := h₀) (L := L) (m := m) (s := { s with heap := ((s.heap.update D (Obj.mapSeq fun _ => (#[] : Array Value))).push (seqObj "tuple" vs.toArray 0)).push (seqObj "list" #[] 0) }) (kS := ((s.heap.update D (Obj.mapSeq fun _ => (#[] : Array Value))).push (seqObj "tuple" vs.toArray 0)).objs.size)
    (Heap.get?_push_size _ rfl) h64 ?_
  have hsub : ∀ (R : List PR) e tups h tk (p : List Nat), (∀ p ∈ tups ++ rest, p.1 ≠ ((s.heap.update D (Obj.mapSeq fun _ => (#[] : Array Value))).push (seqObj "tuple" vs.toArray 0)).objs.size ∧ p.1 ≠ D) → Fr h₀ L h m →
      News h₀ L h ((((s.heap.update D (Obj.mapSeq fun _ => (#[] : Array Value))).push (seqObj "tuple" vs.toArray 0)).objs.size, seqObj "list" (refsP R).toArray e) :: (D, seqObj "list" #[] e1) :: (tups ++ rest)) →
      p.Perm (List.range vs.length) → p.Pairwise (Rk ka kb) → KatFin h₀ L m ((s.heap.update D (Obj.mapSeq fun _ => (#[] : Array Value))).push (seqObj "tuple" vs.toArray 0)).objs.size D (refsP R) e e1 (p.map fun i => vs.getD i Value.none) (fun s4 => ∃ v, PySem.Fin.done (.ret Value.none) = .done (.ret v) ∧ Q v s4) { s with heap := h, toks := tk } := by
    intro R e tups h tk p hoff F' N' hp hs
    refine KatFin.intro F' N' (.head fun q hq => ?_) fun h2 c2 F2 N2 => KasFin.intro F2 N2 (.tail hkD (.head fun q hq => (hoff q hq).2)) fun h3 c3 F3 N3 => ⟨_, rfl, done h3 tk c3 p hp hs F3 fun q hq => N3 q ?_⟩
    · rcases List.mem_cons.mp hq with rfl | hq
      · exact hkD.symm
      · exact (hoff q hq).1
    · rcases List.mem_cons.mp hq with rfl | hq
      · exact .tail _ (.head _)
      · exact .tail _ (.tail _ (List.mem_append_right _ hq))
  refine keys_go (e1 := e1) call hkD (fun R e tups h tk hl hR hoff F' N' => ?_) vs [] [] 0 [] _ s.toks rfl rfl ⟨fun i r h => by simp at h, fun r h => nomatch h⟩ (fun p hp => ?_) ((F1.push _).push _) fun p hp => ?_
  · have hlr : (refsP R).length = R.length := by simp [refsP]
    split
    · rename_i h2
      have e0 : vs = (List.range vs.length).map fun i => vs.getD i Value.none := by
        apply List.ext_getElem?
        intro i
        by_cases hi : i < vs.length
        · simp [hi]
        · rw [List.getElem?_eq_none (by omega), List.getElem?_eq_none (by simpa using hi)]
      have := hsub R e tups h tk (List.range vs.length) hoff F' N' (.refl _) (by
        match hv : vs, h2 with
        | [], _ => exact .nil
        | [_], _ => exact List.pairwise_singleton _ _
        | _ :: _ :: _, h2 => exact absurd h2 (by simp))
      rw [← e0] at this
      exact this
    · rename_i h2
      obtain ⟨fs, t1, t2, t3⟩ := pairs_tups N' (R := R) fun r hr => let ⟨a, b, c, q⟩ := hR.in_ r hr; ⟨a, b, c, .tail _ (.tail _ (List.mem_append_left _ q))⟩
      refine kat_kind t1 (by omega) (T := .type "int") (fun v hv => by obtain ⟨i, t, rfl⟩ := t3 v hv; exact Looks.of_pure rfl) (by decide) ?_
      show (kas_sort vs.length).kasWp (kas_ask prog w A.in1 (tuples' true) (refsP R)) _ _
      let dr : PR := ⟨0, 0, 0⟩
      refine wp_sort (n := vs.length) (a := ka) (b := kb) (I := fun s' => s' = { s with heap := h, toks := tk }) ?_ (by omega) (fun p s' hi hp hu => ?_) rfl
      · intro i j hi hj C s' e hy hn
        subst e
        have g : ∀ x, x < vs.length → (refsP R).getD x Value.none = .ref (R.getD x dr).t ∧ (R.getD x dr).o = ka x ∧ (R.getD x dr).k = kb x ∧ R.getD x dr ∈ R := fun x hx => by
          have hx' : x < R.length := by omega
          have e1 : R[x]? = some (R.getD x dr) := by simp [List.getD, hx']
          exact ⟨by simp [refsP, List.getD, hx'], (hR.at_ x _ e1).1, (hR.at_ x _ e1).2, List.mem_of_getElem? e1⟩
        obtain ⟨g1, g2, g3, g4⟩ := g i hi
        obtain ⟨k1, k2, k3, k4⟩ := g j hj
        show wpAny _ _ (keyLt' (tuples' true) ((refsP R).getD i Value.none) ((refsP R).getD j Value.none)) C _ _
        rw [g1, k1]
        have mem : ∀ r ∈ R, PairIn ((((s.heap.update D (Obj.mapSeq fun _ => (#[] : Array Value))).push (seqObj "tuple" vs.toArray 0)).objs.size, seqObj "list" (refsP R).toArray e) :: (D, seqObj "list" #[] e1) :: (tups ++ rest)) r := fun r hr => by
          obtain ⟨a, b, c, q⟩ := hR.in_ r hr
          exact ⟨a, b, c, .tail _ (.tail _ (List.mem_append_left _ q))⟩
        refine pair_lt N' (mem _ g4) (mem _ k4) (fun q => hy ?_ _ rfl) fun q => hn (fun q' => q ?_) _ rfl
        · unfold PLt at q; unfold Ltk; rw [g2, g3, k2, k3] at q; exact q
        · unfold Ltk at q'; unfold PLt; rw [g2, g3, k2, k3]; exact q'
      · subst hi
        refine hsub R e tups h tk p.toList hoff F' N' hp.perm ?_
        rw [List.pairwise_iff_getElem]
        intro i j hi hj hij
        have hz : p.size = vs.length := hp.size
        have := hu i j hij (by simpa [hz] using hj)
        have ei : gp p i = p.toList[i] := by rw [gp_eq]; simp at hi; simp [hi]
        have ej : gp p j = p.toList[j] := by rw [gp_eq]; simp at hj; simp [hj]
        rw [ei, ej] at this
        exact this
  · refine ⟨?_, hna p hp⟩
    rw [hkS]
    exact Nat.ne_of_lt (Nat.lt_succ_of_lt (Heap.lt_size (N₀ p hp).1))
  · rcases List.mem_cons.mp hp with rfl | hp
    · exact ⟨Heap.get?_push_size _ rfl, Nat.ne_of_gt hLk, Heap.get?_none_of_le (Nat.le_trans F.above (Nat.le_of_lt hLk))⟩
    · rcases List.mem_cons.mp hp with rfl | hp
      · exact ⟨Heap.get?_push_of_some _ (Heap.get?_push_of_some _ ho1), nz.2.1, nz.2.2⟩
      · exact ⟨Heap.get?_push_of_some _ (Heap.get?_push_of_some _ (N1 p hp).1), (N1 p hp).2⟩
end
end Mine


namespace Mine
theorem intsAre_of : ∀ {us : List Value} {ns : List Int}, us.length = ns.length → (∀ (i : Nat) (k : Int) (x : Value), ns[i]? = some k → us[i]? = some x → ∃ t, x = .int k t) → IntsAre us ns
  | [], [], _, _ => .nil
  | [], _ :: _, h, _ => by simp at h
  | _ :: _, [], h, _ => by simp at h
  | u :: us, k :: ns, h, hi => by
    obtain ⟨t, rfl⟩ := hi 0 k u rfl rfl
    exact .cons k t (intsAre_of (by simpa using h) fun i k' x h1 h2 => hi (i + 1) k' x (by simpa using h1) (by simpa using h2))
theorem intsAre_get {us : List Value} {ns : List Int} (h : IntsAre us ns) {i : Nat} {k : Int} (hk : ns[i]? = some k) : ∃ t, us[i]? = some (.int k t) := by
  have hl := h.length
  have hi : i < us.length := by have := (List.getElem?_eq_some_iff.mp hk).1; omega
  obtain ⟨n, t, e, hn⟩ := IntsAre.at h i us[i] (by simp [hi])
  rw [hk] at hn
  obtain rfl := Option.some.inj hn
  exact ⟨t, by rw [← e]; simp [hi]⟩
section
variable {prog : Program} {w : World} {A : Around} {E : Value → Shared → Prop} {s : Shared} {h₀ : Heap} {L : Addr} {m : Str → Option Value} {rest : List (Addr × Obj)}
theorem news_push_list {h : Heap} {us : List Value} (F : Fr h₀ L h m) (N : News h₀ L h rest) : News h₀ L (h.push (seqObj "list" us.toArray 0)) ((h.objs.size, W.listOf us.toArray 0) :: rest) := fun p hp => by
  rcases List.mem_cons.mp hp with rfl | hp
  · exact ⟨Heap.get?_push_size _ rfl, Nat.ne_of_gt F.ns.lt, Heap.get?_none_of_le (Nat.le_trans F.above (Nat.le_of_lt F.ns.lt))⟩
  · exact ⟨Heap.get?_push_of_some _ (N p hp).1, (N p hp).2⟩
/-- what the key's call must give -/
def KeyPost (h₀ : Heap) (L : Addr) (m : Str → Option Value) (nw : List (Addr × Obj)) (s : Shared) (a b : Int) (k : Value) (s' : Shared) : Prop :=
  ∃ h' tk' T n t u, k = .ref T ∧ s' = { s with heap := h', toks := tk' } ∧ Fr h₀ L h' m ∧ News h₀ L h' ((T, { cls := .type "tuple", data := .seq #[.int a t, .int b u] n }) :: nw) ∧ ∀ p ∈ nw, p.1 ≠ T
theorem keyPost_of {nw all : List (Addr × Obj)} {h' : Heap} {tk T n : Nat} {a b : Int} {t u : Tok} (F : Fr h₀ L h' m) (N : News h₀ L h' ((T, { cls := .type "tuple", data := .seq #[.int a t, .int b u] n }) :: all)) (hs : ∀ p ∈ nw, p ∈ all) (hne : ∀ p ∈ nw, p.1 ≠ T) :
    KeyPost h₀ L m nw s a b (.ref T) { s with heap := h', toks := tk } := ⟨h', tk, T, n, t, u, rfl, rfl, F, (fun p hp => N p ((List.mem_cons.mp hp).elim (fun e => by rw [e]; exact .head _) fun q => .tail _ (hs p q))), hne⟩
theorem sorted_range_key {r : Addr} {q : Addr} {n : Nat} {t u v : Tok} {ka kb : Nat → Int} {Q : Value → Shared → Prop} (hh : A.handled = none) (F : Fr h₀ L s.heap m) (N : News h₀ L s.heap rest) (hr : IsRange s.heap r 0 (n : Int) 1 t u v) (hn : n < 64)
    (call : ∀ (i : Nat) t nw h tk, i < n → (∀ p ∈ rest, p ∈ nw) → Fr h₀ L h m → News h₀ L h nw →
      wpAny (model prog w) A.in1.in1 (call (.ref q) [.int (i : Int) t]) (KeyPost h₀ L m nw s (ka i) (kb i)) (fun _ _ => False) { s with heap := h, toks := tk })
    (done : ∀ h' tk D c (us : List Value) (p : List Nat), p.Perm (List.range n) → p.Pairwise (Rk ka kb) → IntsAre us (p.map fun i : Nat => (i : Int)) → Fr h₀ L h' m → News h₀ L h' ((D, W.listOf us.toArray c) :: rest) → (∀ q ∈ rest, q.1 < D) → Q (.ref D) { s with heap := h', toks := tk }) :
    wpAny (model prog w) A (PySem.call (.builtin "sorted") [.ref r] [(Str.ofString "key", .ref q)]) Q E s := by
  refine sorted_open (ksk_s1 _ _) (collect_rangeK (A := A.in1) hh hr (small_range (by decide) (by decide) (by omega) (by omega)) range_n (by omega) fun h' tk us hk hl hi => ⟨by omega, ?_⟩)
  have F' := F.keeps hk
  have N' := N.grown hk
  have hlt : ∀ q ∈ rest, q.1 < h'.objs.size := fun q hq => Heap.lt_size (N' q hq).1
  refine lsort_key (n := 0) (ka := ka) (kb := kb) (f := .ref q) (s := { s with heap := h'.push (seqObj "list" us.toArray 0), toks := tk }) (ksk_l1 _ _) (ksk_t1 _ _) (F'.push _) (news_push_list F' N') (fun p hp => Nat.ne_of_lt (hlt p hp)) (by omega) ?_ fun h2 tk2 c p hp hs F2 N2 => ?_
  · intro i x nw h2 tk2 hx hsub F2 N2
    obtain ⟨t, rfl⟩ := hi i x hx
    have hi' : i < n := by have := (List.getElem?_eq_some_iff.mp hx).1; omega
    have := call i t nw h2 tk2 hi' hsub F2 N2
    rw [show (0 + (i : Int) * 1) = (i : Int) by omega]
    exact this
  · rw [hl] at hp
    refine done h2 tk2 h'.objs.size c _ p hp hs ?_ F2 N2 hlt
    refine intsAre_of (by simp) fun i k x h1 h3 => ?_
    rw [List.getElem?_map] at h1 h3
    cases e : p[i]? with
    | none => rw [e] at h1; cases h1
    | some j =>
      rw [e] at h1 h3
      obtain rfl := Option.some.inj h1
      obtain rfl := Option.some.inj h3
      have hj : j < n := by simpa using hp.mem_iff.mp (List.mem_of_getElem? e)
      have hj' : j < us.length := by omega
      obtain ⟨t, ht⟩ := hi j us[j] (by simp [hj'])
      refine ⟨t, ?_⟩
      simp only [List.getD_eq_getElem?_getD, List.getElem?_eq_getElem hj', Option.getD_some]
      rw [ht]
      congr 1
      omega
/-- sorted of a list of things by their own comparison -/
theorem sorted_list_by {b : Bool} {l : Addr} {vs : List Value} {os : Nat → Int} {kw : List (Str × Value)} {Q : Value → Shared → Prop} (ha : argsOk "sorted" ⟨[.ref l], kw⟩) (ha2 : ∀ x, argsOk "list.sort" ⟨[.ref x], kw⟩) (ht : ∀ x, Builtin.«list.sort» ⟨[.ref x], kw⟩ = revTree x b)
    (F : Fr h₀ L s.heap m) (N : News h₀ L s.heap rest) (hl : s.heap.IsList l vs.toArray) (hn : vs.length < 64)
    (kind : 2 ≤ vs.length → ∀ h (Q : SortKind → Shared → Prop), Fr h₀ L h m → News h₀ L h rest → (∀ κ, (κ = oneType' ∨ κ = general') → Q κ { s with heap := h }) → wpAny (model prog w) A.in1.in1 (keyKind' vs.toArray) Q (fun _ _ => False) { s with heap := h })
    (ask : AsksV prog w A.in1.in1 h₀ L m rest s vs os)
    (done : ∀ h' tk D c (p : List Nat), p.Perm (List.range vs.length) → p.Pairwise (SortedBy b os) → Fr h₀ L h' m → News h₀ L h' ((D, W.listOf (p.map fun i => vs.getD i Value.none).toArray c) :: rest) → (∀ q ∈ rest, q.1 < D) → Q (.ref D) { s with heap := h', toks := tk }) :
    wpAny (model prog w) A (PySem.call (.builtin "sorted") [.ref l] kw) Q E s := by
  refine sorted_open ha (collect_list (A := A.in1) hl ⟨by omega, ?_⟩ (by rw [sizeLine_eq]; omega))
  have hsz : ((s.heap.push (seqObj "list" #[] 0)).update s.heap.objs.size (Obj.mapSeq (· ++ vs.toArray))).objs.size = s.heap.objs.size + 1 := by
    rw [Heap.size_update, size_push']
  have keep : ∀ b o, s.heap.get? b = some o → ((s.heap.push (seqObj "list" #[] 0)).update s.heap.objs.size (Obj.mapSeq (· ++ vs.toArray))).get? b = some o := fun b o q => by
    have hlt : b < s.heap.objs.size := Heap.lt_size q
    rw [Heap.get?_update_ne _ _ _ _ (Nat.ne_of_lt hlt), Heap.get?_push_ne _ _ _ (Nat.ne_of_lt hlt)]
    exact q
  have F' := F.keeps keep
  have N' := N.grown keep
  generalize (s.heap.push (seqObj "list" #[] 0)).update s.heap.objs.size (Obj.mapSeq (· ++ vs.toArray)) = H at F' N' hsz keep ⊢
  have hlt : ∀ q ∈ rest, q.1 < H.objs.size := fun q hq => Heap.lt_size (N' q hq).1
  exact lsort_by (n := 0) (b := b) (os := os) (s := { s with heap := H.push (seqObj "list" vs.toArray 0) }) (ha2 _) (ht _) (F'.push _) (news_push_list F' N') (fun p hp => Nat.ne_of_lt (hlt p hp)) hn kind ask fun h2 tk2 c p hp hs F2 N2 => done h2 tk2 H.objs.size c p hp hs F2 N2 hlt
end
end Mine


namespace Mine
/-! del x.name for a thing of an own class -/
theorem oda_eq (self : Value) (name : Str) (tk : Tok) : Builtin.«object.__delattr__» ⟨[self, .str name tk], []⟩ = (Builtin.ObjectAttr.refuseIfOverridden self "__delattr__" >>= fun _ => typeOf self >>= fun tp => typeLookup tp name >>= fun attr => Builtin.ObjectAttr.storeTaker? attr >>= fun r =>
    match r with | some a => Builtin.ObjectAttr.deleteByDescriptor a self | none => Builtin.ObjectAttr.deleteInOwnDict self tp name attr.isSome) := by kernel_rfl
theorem refuse_onlyD (self : Value) : ∀ {l : List Value}, onlyObject l = true → refuseLoop self "__delattr__" l = pure ()
  | [.type n], e => by rw [show n = "object" from beq_iff_eq.mp e]; kernel_rfl
  | .ref c :: r, e => by rw [refuseLoop_ref]; exact refuse_onlyD self (by cases r <;> first | exact e | cases e)
theorem oda_split : splitId "object.__delattr__" = some ("object", "__delattr__") := by decide +kernel
theorem oda_kind : builtinKind "object.__delattr__" = some .slot := by decide +kernel
theorem oda_args (a b : Value) : argsOk "object.__delattr__" ⟨[a, b], []⟩ := by unfold argsOk; kernel_rfl
section
variable {prog : Program} {w : World} {A : Around} {E : Value → Shared → Prop} {s : Shared} {K : Frag} {x C L f : Addr} {h₀ : Heap} {m : Str → Option Value} {ox : Obj} {od : Option Obj}
theorem del_plain {name : Str} {Q : Unit → Shared → Prop} (X : K.In s.heap) (I : W.InstAt s.heap x ox C od) (hs : findIn K (.ref C) "__delattr__" = some (some (.builtin "object.__delattr__")))
    (h : codeAny (model prog w) A (.call (.builtin "object.__delattr__") ⟨[.ref x, .str name s.toks], []⟩) (fun r s' => match r with | .ok (.ret _) => Q () s' | .ok _ => False | .error e => E e s') { s with toks := s.toks + 1 }) :
    wpAny (model prog w) A (delAttr (.ref x) name) Q E s := by
  refine wpAny_bind (wpAny_mkText (wpAny_bind (wpAny_bind (wpAny_bind (I.type _ _ _ _ (fun _ _ e => e) (looks_findIn X hs _ _ _ _ (fun _ _ e => e) (wpAny_holding ?_)))))))
  rw [PySem.F.slot_object_delattr.bind]
  refine wpAny_bind (wpAny_pure (wpAny_bind (wpAny_call (codeAny_mono h fun r s' z => ?_))))
  rcases r with e | (v | _ | _ | _) <;> first | exact z | exact wpAny_pure (wpAny_pure z)
theorem oda_dict {name : Str} {R : Result → Shared → Prop} {dx : Addr} {hsh : Int} {tk tq : Tok} {v : Value} {n : Nat} {rest : List (Addr × Obj)} (F : Fr h₀ L s.heap m) (X : K.In s.heap) (N : News h₀ L s.heap ((dx, dictOf [⟨hsh, .str name tk, v⟩] n) :: rest))
    (I : W.InstAt s.heap x ox C (some (dictOf [⟨hsh, .str name tk, v⟩] n))) (hd : ox.dict = some dx) (hp : plainOver K C = true) (ht : takerIn K C name = some none) (hh : hasDictIn K C = true)
    (hoff : ∀ p ∈ rest, p.1 ≠ dx) (h : ∀ h', Fr h₀ L h' m → News h₀ L h' ((dx, dictOf [] (n + 1)) :: rest) → R (.ok (.ret .none)) { s with heap := h' }) :
    codeAny (model prog w) A (.call (.builtin "object.__delattr__") ⟨[.ref x, .str name tq], []⟩) R s := by
  obtain ⟨cd, hc, ho⟩ := any_some hp
  obtain ⟨cd', hc', hd'⟩ := any_some hh
  have ecd : cd' = cd := by rw [hc] at hc'; exact (Option.some.inj hc').symm
  subst ecd
  have ne : cd'.mro.isEmpty = false := by cases q : cd'.mro with | nil => rw [q] at ho; cases ho | cons _ _ => rfl
  have sub : Looks (model prog w) s.heap (isInstance (.ref x) (.type "object")) true := I.type.andThen (looks_mroIn X (by unfold mroIn; rw [hc, Option.bind_some, if_neg (by rw [ne]; decide), only_has ho]))
  refine codeAny_call_builtin PySem.F.slot_object_delattr.plain PySem.F.entry_object_delattr (@check_slot (model prog w) _ _ _ "object.__delattr__" "object" "__delattr__" (.ref x) [.str name tq] [] _ oda_kind oda_split sub (oda_args _ _) ?_)
  obtain ⟨attr, ha, hr⟩ := Option.bind_eq_some_iff.mp ht
  have hm : Looks (model prog w) s.heap (mroOf (.ref C)) cd'.mro := (looks_clsIn X hc).andThen .now
  have L3 : Looks (model prog w) s.heap (Builtin.ObjectAttr.storeTaker? attr) none := by
    cases attr with
    | none => exact .now
    | some a =>
      obtain ⟨b, hb, hb2⟩ := Option.map_eq_some_iff.mp hr
      cases b with
      | true => cases hb2
      | false => exact (looks_takesIn X hb).andThen .now
  rw [oda_eq, refuse_eq]
  refine wpAny_bind (wpAny_bind (I.type.here (wpAny_bind (hm.here ?_))))
  rw [refuse_onlyD _ ho]
  refine wpAny_pure (wpAny_bind (I.type.here (wpAny_bind ((looks_findIn X ha).here (wpAny_bind (L3.here ?_))))))
  dsimp only
  obtain ⟨hx, hcl, hn, -⟩ := I
  obtain ⟨oc, odi, oda, osl⟩ := ox
  dsimp only at hcl hd
  subst hcl hd
  have nz := N _ (.head _)
  have D := nz.1
  have s1 := Heap.SameBut.update s.heap dx (Obj.dropName name)
  have isn : (Value.str name tk).isStrByCps name.cps.size name.cps.toList = true := by rw [Value.isStrByCps_eq]; simp [Value.isStr]
  have edrop : Obj.dropName name (dictOf [⟨hsh, .str name tk, v⟩] n) = dictOf [] (n + 1) := by
    unfold Obj.dropName dictOf
    simp only [nsDropIn, isn, if_true]
  have D1 : (s.heap.update dx (Obj.dropName name)).get? dx = some (dictOf [] (n + 1)) := by
    have := Heap.get?_update_self (Obj.dropName name) D (by show (Obj.dropName name (dictOf [⟨hsh, .str name tk, v⟩] n)).isFreed = false; rw [edrop]; rfl)
    rw [this, edrop]
  refine wpAny_bind (wpAny_pure (wpAny_bind (wpAny_bind (wpAny_loadPart hx (wpAny_bind ((looks_clsIn X hc).here ?_))))))
  rw [hd']
  refine wpAny_pure (a := some dx) ?_
  show wpAny _ _ (Builtin.ObjectAttr.deleteInDict dx (.ref x) (.ref C) name) _ _ _
  unfold Builtin.ObjectAttr.deleteInDict
  rw [if_neg (by simp)]
  refine wpAny_bind ?_
  unfold nsDel
  refine wpAny_bind (wpAny_loadPart D ?_)
  have ehas : nsHas name (dictOf [⟨hsh, .str name tk, v⟩] n) = pure true := by
    unfold nsHas dictOf
    simp only [nsNameIn, isn, if_true]
  rw [ehas]
  refine wpAny_bind (wpAny_pure ?_)
  rw [if_pos rfl]
  refine wpAny_bind (wpAny_updatePart D ?_)
  refine wpAny_pure ?_
  rw [if_pos rfl]
  refine wpAny_pure (h _ (kas_fr F s1 nz.2.1 nz.2.2) fun p hp => ?_)
  rcases List.mem_cons.mp hp with rfl | hp
  · exact ⟨D1, nz.2.1, nz.2.2⟩
  · exact kas_news (fun p hp => N p (.tail _ hp)) s1 hoff p hp
theorem del_dict {name : Str} {Q : Unit → Shared → Prop} {dx : Addr} {hsh : Int} {tk : Tok} {v : Value} {n : Nat} {rest : List (Addr × Obj)} (F : Fr h₀ L s.heap m) (X₀ : K.In h₀) (N : News h₀ L s.heap ((dx, dictOf [⟨hsh, .str name tk, v⟩] n) :: rest))
    (I : W.InstAt s.heap x ox C (some (dictOf [⟨hsh, .str name tk, v⟩] n))) (hd : ox.dict = some dx) (hs : findIn K (.ref C) "__delattr__" = some (some (.builtin "object.__delattr__"))) (hp : plainOver K C = true) (ht : takerIn K C name = some none) (hh : hasDictIn K C = true)
    (hoff : ∀ p ∈ rest, p.1 ≠ dx) (h : ∀ h' tk', Fr h₀ L h' m → News h₀ L h' ((dx, dictOf [] (n + 1)) :: rest) → Q () { s with heap := h', toks := tk' }) :
    wpAny (model prog w) A (delAttr (.ref x) name) Q E s := by
  have X := X₀.keeps F.keep
  exact del_plain X I hs (oda_dict (s := { s with toks := s.toks + 1 }) F X N I hd hp ht hh hoff fun h' F' N' => h h' _ F' N')
theorem exec_del {M : Model} {env : Env} {o : PySem.Expr} {attr : Str} {p pos : Pos} {Q : Flow → Shared → Prop} (h : wpAny M A (eval o env) (fun ov s₁ => wpAny M A (delAttr ov attr) (fun _ s₂ => Q .next s₂) E s₁) E s) :
    wpAny M A (exec (.Delete [.Attribute o attr p] pos) env) Q E s := by
  refine wpAny_Delete (wpAny_deleteEach_cons ?_)
  rw [arm_delete_Attribute]
  exact wpAny_bind (wpAny_mono h (fun ov s₁ h₁ => wpAny_bind (wpAny_standAt (wpAny_holding (wpAny_mono h₁ (fun _ s₂ h₂ => wpAny_deleteEach_nil h₂) fun _ _ e => e)))) fun _ _ e => e)
end
end Mine


namespace Mine
/-! a generator expression where the code's table is laid aside (the law makes lambdas too) -/
theorem regrown_self {h₀ : Heap} {P : Addr} {ps : Array Value} (hP : P < h₀.objs.size) : (regrown h₀ P ps).get? P = some (tabObj ps) := by
  obtain ⟨objs, l⟩ := h₀
  show Heap.get? ⟨objs.modify P _, l⟩ P = _
  unfold Heap.get?
  have hs : P < (objs.modify P fun _ => tabObj ps).size := by simpa using hP
  show (match (objs.modify P fun _ => tabObj ps)[P]? with | some ⟨_, _, .freed, _⟩ => none | o => o) = _
  rw [Array.getElem?_eq_getElem hs, Array.getElem_modify_self]
theorem regrown_ne {h₀ : Heap} {P b : Addr} {ps : Array Value} (hb : b ≠ P) : (regrown h₀ P ps).get? b = h₀.get? b := Heap.get?_update_other _ _ (Ne.symm hb)
theorem regrown_size {h₀ : Heap} {P : Addr} {ps : Array Value} : (regrown h₀ P ps).objs.size = h₀.objs.size := (Heap.SameBut.update h₀ P _).1
section
variable {prog : Program} {w : World} {A : Around} {E : Value → Shared → Prop} {s : Shared} {h₀ h : Heap} {c P L : Addr} {ps ps' : Array Value} {m mg mb : Str → Option Value} {news : List (Addr × Obj)} {p : Program} {loose : List Str} {mean : ExcName → Option Value}
theorem ghost_up (F : Fr h₀ L h m) (N : News h₀ L h news) (hm : (P, tabObj ps) ∈ news) (hP : P < h₀.objs.size) : Fr (regrown h₀ P ps) L h m := by
  refine ⟨F.ns, fun b o e => ?_, by rw [regrown_size]; exact F.above⟩
  by_cases hb : b = P
  · subst hb
    rw [regrown_self hP] at e
    exact (Option.some.inj e) ▸ (N _ hm).1
  · rw [regrown_ne hb] at e
    exact F.keep b o e
theorem ghost_down (hn : h₀.get? P = none) (F : Fr (regrown (regrown h₀ P ps) P ps') L h m) : Fr h₀ L h m := by
  refine ⟨F.ns, fun b o e => ?_, by have := F.above; rw [regrown_size, regrown_size] at this; exact this⟩
  have hb : b ≠ P := fun q => by rw [q, hn] at e; cases e
  exact F.keep b o (by rw [regrown_ne hb, regrown_ne hb]; exact e)
theorem ghost_tab (hP : P < h₀.objs.size) (F : Fr (regrown (regrown h₀ P ps) P ps') L h m) : h.get? P = some (tabObj ps') :=
  F.keep _ _ (regrown_self (by rw [regrown_size]; exact hP))
theorem ghost_based (C : CodeHd h₀ c P) (T : Top p loose mean mg mb h₀) (hn : h₀.get? P = none) (hP : P < h₀.objs.size) (ht : TriplesOk ps.toList) : Based (regrown h₀ P ps) (regrown h₀ P ps) c P ps := by
  have hk : ∀ b o, h₀.get? b = some o → (regrown h₀ P ps).get? b = some o := fun b o e => by
    rw [regrown_ne (fun q => by rw [q, hn] at e; cases e)]; exact e
  have C' := C.keeps hk
  refine .start (C'.code (regrown_self hP) ht) (C'.tab (regrown_self hP)) fun q => ?_
  obtain ⟨mc, ⟨o, es, ep, e, _⟩, _⟩ := T.nolimit
  rw [q] at hn
  have e' : h₀.get? cStatics = some o := e
  rw [hn] at e'
  cases e'
theorem any_false {K a : Addr} {n : Nat} {Q : Value → Shared → Prop} (Fh : Fr h₀ L s.heap m) (G : AllBare s.gens) (X : Gen prog w A K a n (fun j y => ∃ i, (List.range n)[j]? = some i ∧ y = .bool false) s) (hLK : L ≤ K)
    (hQ : ∀ s', Fr h₀ L s'.heap m → AllBare s'.gens → s'.os = s.os → (∀ b o, b ≤ K → s.heap.get? b = some o → s'.heap.get? b = some o) → Q (.bool false) s') : wpAny (model prog w) A (call (.builtin "any") [.ref a]) Q E s := by
  refine any_rowsK Fh G X hLK (fun _ => false) ?_ fun s' F' G' hos hk => ?_
  · rintro j v s Q E ⟨i, _, rfl⟩ hQ
    exact wpAny_truthy_bool hQ
  · have : (List.range n).any (fun _ => false) = false := by simp
    rw [this]
    exact hQ s' F' G' hos hk
end
/-- the end of a law that makes defs or lambdas and runs generators -/
def GoodV (cw : ClaimW) (cl : Str → Option Addr) (mean : ExcName → Option Value) (args : List WData) (s₁ : Shared) (tabs : List (Addr × Addr)) (r : Result) (s' : Shared) : Prop :=
  (GoodW cw cl mean args s₁ r { s' with gens := #[] } ∧ GrownAll tabs s'.heap) ∧ AllBare s'.gens
theorem kn_post2 {M : Model} {A : Around} {cd : Code} {s s₁ : Shared} {cw : ClaimW} {cl : Str → Option Addr} {mean : ExcName → Option Value} {args : List WData} {tabs : List (Addr × Addr)} (hT : TabsAt tabs s₁.heap) (hr : ∀ a x, cw.raises a x = false)
    (h : codeAny M A cd (GoodV cw cl mean args { s₁ with heap := ghostOf s₁.heap tabs } tabs) s) : codeAny M A cd (GoodWG cw cl mean args s₁) s :=
  codeAny_mono h fun r s' ⟨⟨⟨hc, hk, hos, _⟩, hgr⟩, hb⟩ => by
    have keep : ∀ b o, b ∉ tabs.map (·.2) → s₁.heap.get? b = some o → s'.heap.get? b = some o := fun b o hb e => hk b o (ghost_ne e hb)
    have grown : ∀ b o, b ∈ tabs.map (·.2) → s₁.heap.get? b = some o → isCodeTable s₁.heap b ∧ o = tabObj #[] ∧ ∃ ps, s'.heap.get? b = some (tabObj ps) := fun b o hb e => by
      obtain ⟨q, hq, rfl⟩ := List.mem_map.mp hb
      have e2 := (hT q hq).2
      rw [e] at e2
      exact ⟨((hT q hq).1.tab (hT q hq).2).isCodeTable, Option.some.inj e2, hgr.get q hq⟩
    refine ⟨?_, ⟨fun b o e => ?_, fun b o e => ?_⟩, hos, hb⟩
    · rcases hc with ⟨v, d, as, r1, r2, r3, r4, r5⟩ | ⟨e, ob, x, _, _, _, r4, _⟩
      · refine .inl ⟨v, d, as, r1, r2, r3, r4, fun q => ⟨(r5 q).1, fun a ha => ?_⟩⟩
        cases q1 : s₁.heap.get? a with
        | none => rfl
        | some o =>
          by_cases hb : a ∈ tabs.map (·.2)
          · obtain ⟨_, _, ps, hP⟩ := grown a o hb q1
            exact absurd ha (readsW_apart hP rfl r3)
          · have e3 := (r5 q).2 a ha
            rw [show (ghostOf s₁.heap tabs).get? a = some o from ghost_ne q1 hb] at e3
            cases e3
      · rw [hr] at r4; cases r4
    · by_cases hb : b ∈ tabs.map (·.2)
      · obtain ⟨ht, rfl, ps, hP⟩ := grown b o hb e
        exact .inr (.inl ⟨ht, rfl, #[], ps, rfl, by rw [Array.empty_append]; exact hP⟩)
      · exact .inl (keep b o hb e)
    · by_cases hb : b ∈ tabs.map (·.2)
      · obtain ⟨_, _, ps, hP⟩ := grown b o hb e
        exact ⟨_, hP⟩
      · exact ⟨o, keep b o hb e⟩
end Mine


namespace Mine
theorem perm_unique {α : Type} {r : α → α → Prop} (as : ∀ a b, r a b → ¬ r b a) : ∀ {l l' : List α}, l.Perm l' → l.Pairwise r → l'.Pairwise r → l = l'
  | [], l', h, _, _ => (List.Perm.nil_eq h)
  | a :: t, [], h, _, _ => absurd h.length_eq (by simp)
  | a :: t, b :: t', h, h1, h2 => by
    have e : a = b := by
      have ha : a ∈ b :: t' := h.mem_iff.mp (.head _)
      have hb : b ∈ a :: t := h.mem_iff.mpr (.head _)
      rcases List.mem_cons.mp ha with q | q
      · exact q
      · rcases List.mem_cons.mp hb with q' | q'
        · exact q'.symm
        · exact absurd ((List.pairwise_cons.mp h2).1 a q) (as _ _ ((List.pairwise_cons.mp h1).1 b q'))
    subst e
    rw [perm_unique as ((List.perm_cons a).mp h) (List.pairwise_cons.mp h1).2 (List.pairwise_cons.mp h2).2]
theorem sortedBy_asymm {b : Bool} {os : Nat → Int} (i j : Nat) (h : SortedBy b os i j) : ¬ SortedBy b os j i := by
  unfold SortedBy at *
  cases b <;> simp only [if_true, Bool.false_eq_true, if_false] at * <;> omega
theorem rk_sortedBy {os : Nat → Int} {i j : Nat} (h : Rk os (fun i => (i : Int)) i j) : SortedBy false os i j := by
  unfold Rk at h; unfold SortedBy
  simp only [Bool.false_eq_true, if_false]
  dsimp only at h
  omega
theorem isNot_self {M : Model} {A : Around} {E : Value → Shared → Prop} {s : Shared} {a : Addr} {Q : Value → Shared → Prop} (h : Q (.bool false) s) : wpAny M A (compareOp .IsNot (.ref a) (.ref a)) Q E s := by
  show wpAny M A (do return .bool (!(← isSame (.ref a) (.ref a)))) Q E s
  exact wpAny_bind (wpAny_isSame_ref_self (wpAny_pure h))
/-- the ledger behind a generator: the code's table has grown -/
theorem news_after {h₀ h h' : Heap} {L P : Addr} {ps ps' : Array Value} {news news' : List (Addr × Obj)} (N : News h₀ L h news) (hk : ∀ b o, b ≠ P → b < h.objs.size → h.get? b = some o → h'.get? b = some o) (ht : h'.get? P = some (tabObj ps'))
    (U : Upd P (tabObj ps) (tabObj ps') news news') : News h₀ L h' news' := by
  obtain ⟨pre, post, e0, e1, x1, x2⟩ := U.split
  subst e0 e1
  have nz := N (P, tabObj ps) (List.mem_append_right _ (.head _))
  intro p hp
  rcases List.mem_append.mp hp with hp | hp
  · have q := N p (List.mem_append_left _ hp)
    exact ⟨hk _ _ (x1 p hp) (Heap.lt_size q.1) q.1, q.2⟩
  · rcases List.mem_cons.mp hp with rfl | hp
    · exact ⟨ht, nz.2⟩
    · have q := N p (List.mem_append_right _ (.tail _ hp))
      exact ⟨hk _ _ (x2 p hp) (Heap.lt_size q.1) q.1, q.2⟩
theorem ghost_bmod {h₀ : Heap} {P g bm : Addr} {ps : Array Value} {mg : Str → Option Value} {ob : Obj} (hn : h₀.get? P = none) (x : BMod h₀ g mg bm ob) : BMod (regrown h₀ P ps) g mg bm ob :=
  x.keeps fun b o e => by rw [regrown_ne (fun q => by rw [q, hn] at e; cases e)]; exact e
end Mine


namespace Mine
/-! a dict by ints: what a store leaves -/
theorem find_keep {K : Type} [DecidableEq K] (f : K × Value → K × Value) (hf : ∀ kv, (f kv).1 = kv.1) (k : K) : ∀ kvs : List (K × Value), (kvs.map f).find? (fun kv => kv.1 = k) = (kvs.find? fun kv => kv.1 = k).map f
  | [] => rfl
  | kv :: r => by
    rw [List.map_cons, List.find?_cons, List.find?_cons, hf, find_keep f hf k r]
    split <;> rfl
theorem valueAt_stored {K : Type} [DecidableEq K] (kvs : List (K × Value)) (k k' : K) (v : Value) : valueAt (stored kvs k v) k' = if k' = k then some v else valueAt kvs k' := by
  unfold stored
  split
  · rename_i ha
    unfold valueAt
    rw [find_keep (fun kv => if kv.1 = k then (kv.1, v) else kv) (fun kv => by split <;> rfl)]
    cases hq : kvs.find? (fun kv => decide (kv.1 = k')) with
    | none =>
      rw [if_neg]
      · rfl
      · intro e
        subst e
        rw [List.find?_eq_none] at hq
        obtain ⟨kv, h1, h2⟩ := List.any_eq_true.mp ha
        exact hq kv h1 h2
    | some kv =>
      have hk : kv.1 = k' := by simpa using List.find?_some hq
      by_cases e : k' = k
      · rw [if_pos e]
        simp [hk, e]
      · rw [if_neg e]
        simp [hk, e]
  · rename_i ha
    unfold valueAt
    rw [List.find?_append]
    by_cases e : k' = k
    · subst e
      have : kvs.find? (fun kv => decide (kv.1 = k')) = none := by
        rw [List.find?_eq_none]
        intro kv hkv hq
        exact ha (List.any_eq_true.mpr ⟨kv, hkv, hq⟩)
      rw [this, if_pos rfl]
      simp
    · rw [if_neg e]
      have hk : ¬ k = k' := fun q => e q.symm
      cases kvs.find? (fun kv => decide (kv.1 = k')) <;> simp [hk]
end Mine


namespace Mine
theorem fill : PySem.Challenge.rw_dn0254_03.row.prog = PySem.Challenge.rw_dn0254_03.row.prog ∧ Mine.hd.heap_39 = Mine.hd.heap_39 := by
  w_top off
  k_fill
  exact ⟨rfl, rfl⟩
def OrdV (C : Addr) (es : List DictEntry) (v : Value) : Prop :=
  (C = 52 ∧ getL "handler_order" es = some none ∧ v = .int 500 208) ∨ (C = 73 ∧ getL "handler_order" es = some none ∧ v = .int 1000 253) ∨ ((C = 52 ∨ C = 73) ∧ getL "handler_order" es = some (some v))
def HdV (news : List (Addr × Obj)) (x : Addr) (v : Value) : Prop := ∃ C dx es n, (x, instObj C dx) ∈ news ∧ (dx, dictOf es n) ∈ news ∧ OrdV C es v
section
variable {w : World} {A : Around} {E : Value → Shared → Prop} {s : Shared} {x y L : Addr} {h₀ : Heap} {m : Str → Option Value} {news : List (Addr × Obj)} {v : Value}
theorem find_order (w : World) {C : Addr} {es : List DictEntry} {n : Nat} (hO : OrdV C es v) : findObj (Mine.hd.heap_39 w.params) C (some (dictOf es n)) "handler_order" = some (.value v) := by
  rcases hO with ⟨rfl, h, rfl⟩ | ⟨rfl, h, rfl⟩ | ⟨rfl | rfl, h⟩
  · exact findObj_cls (by k_is) (by k_is) (by k_is) rfl (by decide +kernel) h
  · exact findObj_cls (by k_is) (by k_is) (by k_is) rfl (by decide +kernel) h
  · exact findObj_own (attr := some (.int 500 208)) (by k_is) (by k_is) (by k_is) h
  · exact findObj_own (attr := some (.int 1000 253)) (by k_is) (by k_is) (by k_is) h
theorem hd_cls {C : Addr} {es : List DictEntry} (hO : OrdV C es v) : C = 52 ∨ C = 73 := by
  rcases hO with ⟨rfl, _⟩ | ⟨rfl, _⟩ | ⟨h, _⟩
  · exact .inl rfl
  · exact .inr rfl
  · exact h
theorem hd_ga (w : World) {C : Addr} (h : C = 52 ∨ C = 73) : findIn (Mine.hd.heap_39 w.params) (.ref C) "__getattribute__" = some (some (.builtin "object.__getattribute__")) ∧ mroIn (Mine.hd.heap_39 w.params) C (.type "module") = some false := by
  rcases h with rfl | rfl
  · exact ⟨by k_is, by k_is⟩
  · exact ⟨by k_is, by k_is⟩
theorem get_order {expr : Bool} {Q : Value → Shared → Prop} (F : Fr h₀ L s.heap m) (X : (Mine.hd.heap_39 w.params).In h₀) (N : News h₀ L s.heap news) (H : HdV news x v) (hv : handedIn v = true)
    (h : Q v { s with toks := s.toks + 1 }) : wpAny (model PySem.Challenge.rw_dn0254_03.row.prog w) A (getAttr (.ref x) "handler_order" expr) Q E s := by
  obtain ⟨C, dx, es, n, h1, h2, hO⟩ := H
  exact get_value (X.keeps F.keep) (InstAt.of_news N h1 h2) (hd_ga w (hd_cls hO)).1 (find_order w (n := n) hO) hv h
theorem has_order {Q : Value → Shared → Prop} {tk : Tok} (F : Fr h₀ L s.heap m) (X : (Mine.hd.heap_39 w.params).In h₀) (N : News h₀ L s.heap news) (H : HdV news x v) (hv : handedIn v = true)
    (h : Q (.bool true) s) : wpAny (model PySem.Challenge.rw_dn0254_03.row.prog w) A (call (.builtin "hasattr") [.ref x, .str "handler_order" tk]) Q E s := by
  obtain ⟨C, dx, es, n, h1, h2, hO⟩ := H
  exact hasattr_yes F X (InstAt.of_news N h1 h2) (hd_ga w (hd_cls hO)).1 (hd_ga w (hd_cls hO)).2 (find_order w (n := n) hO) hv h
local macro_rules | `(tactic| walk_at "getAttr ref") => `(tactic| (k_here; (with_reducible show wpAny _ _ (getAttr (Value.ref _) (PySem.Str.ofString "handler_order") _) _ _ _); k_dflt (refine' get_order ?k1 ?k2 ?k3 ?k4 ?k5 ?_; (case k1 => k_asm); (case k2 => k_asm); (case k3 => k_asm); (case k4 => assumption); (case k5 => rfl); k_whole)))
local macro_rules | `(tactic| walk_at "call builtin:hasattr") => `(tactic| (k_here; k_dflt (refine' has_order ?k1 ?k2 ?k3 ?k4 ?k5 ?_; (case k1 => k_asm); (case k2 => k_asm); (case k3 => k_asm); (case k4 => assumption); (case k5 => rfl); k_whole)))
theorem lt_call {Q : Value → Shared → Prop} {p : Program} {loose : List Str} {mean : ExcName → Option Value} {mg mb : Str → Option Value} {dp un : Nat} {gd : Option (List Code)} {cn : Str} {cs : Scope} {a : Addr} {ccd : Value} {cl : List (Str × Addr)} {outer : List Env} {A₀ : Around} {base : Heap} {o o' : Int} {t t' : Tok}
    (B : Below A₀ base outer h₀) (F : Fr h₀ L s.heap m) (X : (Mine.hd.heap_39 w.params).In h₀) (N : News h₀ L s.heap news) (T : Top p loose mean mg mb h₀) (hk : cs.kind = .function) (hx : HdV news x (.int o t)) (hy : HdV news y (.int o' t')) (hd : dp + 1 < recursionLimit) (hu : un + 8 < cLine)
    (ret : ∀ h' tk', Fr h₀ L h' m → News h₀ L h' news → Q (.bool (decide (o < o'))) { s with heap := h', toks := tk' }) :
    wpAny (model PySem.Challenge.rw_dn0254_03.row.prog w) (ktrTop dp un gd cn cs L a ccd cl outer) (call (.ref 49) [.ref x, .ref y]) Q E s := by
  refine wpAny_call ?_
  k_dflt ktr_enter
  k_steps
  exact ret _ _ (by k_asm) (by k_asm)
theorem lt_cmp {Q : Value → Shared → Prop} {p : Program} {loose : List Str} {mean : ExcName → Option Value} {mg mb : Str → Option Value} {dp un : Nat} {gd : Option (List Code)} {cn : Str} {cs : Scope} {a : Addr} {ccd : Value} {cl : List (Str × Addr)} {outer : List Env} {A₀ : Around} {base : Heap} {o o' : Int} {t t' : Tok}
    (B : Below A₀ base outer h₀) (F : Fr h₀ L s.heap m) (X : (Mine.hd.heap_39 w.params).In h₀) (N : News h₀ L s.heap news) (T : Top p loose mean mg mb h₀) (hk : cs.kind = .function) (hx : HdV news x (.int o t)) (hy : HdV news y (.int o' t')) (hd : dp + 1 < recursionLimit) (hu : un + 8 < cLine)
    (ret : ∀ h' tk', Fr h₀ L h' m → News h₀ L h' news → Q (.bool (decide (o < o'))) { s with heap := h', toks := tk' }) :
    wpAny (model PySem.Challenge.rw_dn0254_03.row.prog w) (ktrTop dp un gd cn cs L a ccd cl outer) (compareOp .Lt (.ref x) (.ref y)) Q E s := by
  have c := lt_call (E := E) (Q := W.CmpBack Q) (gd := gd) (cn := cn) (a := a) (ccd := ccd) (cl := cl) B F X N T hk hx hy hd hu ret
  obtain ⟨C, dx, es, n, h1, h2, hO⟩ := hx
  obtain ⟨D, dy, es', n', g1, g2, gO⟩ := hy
  have I := InstAt.of_news N h1 h2
  have J := InstAt.of_news N g1 g2
  refine cmp_ofLt ?_
  have hu' : (ktrTop dp un gd cn cs L a ccd cl outer).units < cLine := by show un < cLine; omega
  rcases hd_cls hO with rfl | rfl <;> rcases hd_cls gO with rfl | rfl
  · exact lt_inst hu' F X I J.type (.inl rfl) (by k_is) (by k_is) c
  · exact lt_inst hu' F X I J.type (.inr (.inr ⟨_, _, _, _, rfl, rfl, J, by k_is, by k_is, by k_is⟩)) (by k_is) (by k_is) c
  · exact lt_inst hu' F X I J.type (.inr (.inl (by k_is))) (by k_is) (by k_is) c
  · exact lt_inst hu' F X I J.type (.inl rfl) (by k_is) (by k_is) c
theorem allLt_ne {d : Addr} : ∀ {l : List (Addr × Obj)}, W.AllLt d l → ∀ p ∈ l, p.1 ≠ d
  | [], _, _, h => nomatch h
  | _ :: _, h, _, .head _ => Nat.ne_of_lt h.1
  | _ :: _, h, p, .tail _ hp => allLt_ne h.2 p hp
local macro_rules | `(tactic| k_all) => `(tactic| exact allLt_ne (by assumption))
local macro_rules | `(tactic| keq_rows) => `(tactic| first | exact and1 (by assumption) | exact and2 (by assumption) | exact and3 (by assumption) | exact and4 (by assumption) | exact allLt_of (by assumption) | exact allLt_le (by assumption) (Nat.le_of_lt (by assumption)))
theorem own_call {Q : Value → Shared → Prop} {p : Program} {loose : List Str} {mean : ExcName → Option Value} {mg mb : Str → Option Value} {dp un : Nat} {gd : Option (List Code)} {cn : Str} {cs : Scope} {a : Addr} {ccd : Value} {cl : List (Str × Addr)} {outer : List Env} {A₀ : Around} {base : Heap}
    {n : Int} {t : Tok}
    (B : Below A₀ base outer h₀) (F : Fr h₀ L s.heap m) (X : (Mine.hd.heap_39 w.params).In h₀) (N : News h₀ L s.heap news) (T : Top p loose mean mg mb h₀) (hk : cs.kind = .function) (hd : dp + 5 < recursionLimit) (hu : un + 50 < cLine)
    (ret0 : ∀ h' tk', Int.fmod (Int.fdiv n 2) 3 = 0 → Fr h₀ L h' m → News h₀ L h' news → Q .none { s with heap := h', toks := tk' })
    (ret1 : ∀ h' tk' o t', Int.fmod (Int.fdiv n 2) 3 ≠ 0 → Fr h₀ L h' m → News h₀ L h' news → Q (.int o t') { s with heap := h', toks := tk' }) :
    wpAny (model PySem.Challenge.rw_dn0254_03.row.prog w) (ktrTop dp un gd cn cs L a ccd cl outer) (call (.ref 82) [.int n t]) Q E s := by
  refine wpAny_call ?_
  k_dflt ktr_enter
  k_steps
  · exact ret0 _ _ (by assumption) (by assumption) (by assumption)
  · exact ret1 _ _ _ _ (by assumption) (by assumption) (news_sub (by assumption) fun p hp => .tail _ hp)
  · exact ret1 _ _ _ _ (by assumption) (by assumption) (by assumption)
end
end Mine


namespace Mine
/-- a handler that was made: its place, its dict's place, the number, its own order -/
structure HM where
  x : Addr
  dx : Addr
  n : Int
  own : Option Int
def clsOf (n : Int) : Addr := if n.fmod 2 = 0 then 52 else 73
def ordOf (r : HM) : Int := r.own.getD (if r.n.fmod 2 = 0 then 500 else 1000)
inductive DOwn : Option Int → Obj → Prop
  | none (n : Nat) : DOwn none (dictOf [] n)
  | some (o : Int) (hsh : Int) (tk t : Tok) (n : Nat) : DOwn (some o) (dictOf [⟨hsh, .str "handler_order" tk, .int o t⟩] n)
def HdAt (T : List (Addr × Obj)) (r : HM) : Prop := (r.x, instObj (clsOf r.n) r.dx) ∈ T ∧ ∃ o, (r.dx, o) ∈ T ∧ DOwn r.own o
structure Core (T : List (Addr × Obj)) (M : List HM) : Prop where
  hd : ∀ r ∈ M, HdAt T r
  ap : M.Pairwise fun r r' => r.dx ≠ r'.dx ∧ r.x ≠ r'.x
  xd : ∀ r ∈ M, ∀ r' ∈ M, r.x ≠ r'.dx
def hmAt (M : List HM) (i : Nat) : HM := M.getD i ⟨0, 0, 0, none⟩
theorem hmAt_get {M : List HM} {i : Nat} (h : i < M.length) : M[i]? = some (hmAt M i) := by simp [hmAt, List.getD, h]
theorem hmAt_mem {M : List HM} {i : Nat} (h : i < M.length) : hmAt M i ∈ M := List.mem_of_getElem? (hmAt_get h)
def ordAt (M : List HM) (i : Nat) : Int := (M.map ordOf).getD i 0
theorem ordAt_eq {M : List HM} {i : Nat} (h : i < M.length) : ordAt M i = ordOf (hmAt M i) := by simp [ordAt, hmAt, List.getD, h]
def OwnsOk (M : List HM) : Prop := ∀ r ∈ M, r.own = none ↔ (r.n.fdiv 2).fmod 3 = 0
def madeV (M : List HM) : List Value := M.map fun r => Value.ref r.x
theorem HdAt.mono {a b : List (Addr × Obj)} {r : HM} (hs : ∀ p ∈ a, p ∈ b) (h : HdAt a r) : HdAt b r := let ⟨h1, o, h2, h3⟩ := h; ⟨hs _ h1, o, hs _ h2, h3⟩
theorem Core.mono {a b : List (Addr × Obj)} {M : List HM} (hs : ∀ p ∈ a, p ∈ b) (h : Core a M) : Core b M := ⟨fun r hr => (h.hd r hr).mono hs, h.ap, h.xd⟩
theorem Core.nil {T : List (Addr × Obj)} : Core T [] := ⟨(fun _ h => nomatch h), .nil, (fun _ h => nomatch h)⟩
/-- such a handler has an order -/
theorem HdAt.ord {T : List (Addr × Obj)} {r : HM} (h : HdAt T r) : ∃ t, HdV T r.x (.int (ordOf r) t) := by
  obtain ⟨h1, o, h2, h3⟩ := h
  unfold clsOf at h1
  unfold ordOf
  cases e : r.own with
  | none =>
    rw [e] at h3
    cases h3 with
    | none n =>
      by_cases hn : r.n.fmod 2 = 0
      · rw [if_pos hn] at h1
        exact ⟨208, _, _, _, _, h1, h2, .inl ⟨rfl, rfl, by rw [if_pos hn]; rfl⟩⟩
      · rw [if_neg hn] at h1
        exact ⟨253, _, _, _, _, h1, h2, .inr (.inl ⟨rfl, rfl, by rw [if_neg hn]; rfl⟩)⟩
  | some o =>
    rw [e] at h3
    cases h3 with
    | some o hsh tk t n =>
      refine ⟨t, _, _, _, _, h1, h2, .inr (.inr ⟨?_, ?_⟩)⟩
      · split
        · exact .inl rfl
        · exact .inr rfl
      · rfl
def LoopS (lo lm ls c5 c4 c3 c2 c1 : Nat) (os o5 o4 o3 o2 o1 : Obj) (ns : List Int) (i : Nat) (m₁ : Str → Option Value) (nw : List (Addr × Obj)) : Prop :=
  ∃ M T vo no nm, nw = (lo, W.listOf vo.toArray no) :: (lm, W.listOf (madeV M).toArray nm) :: (ls, os) :: (c5, o5) :: (c4, o4) :: (c3, o3) :: (c2, o2) :: (c1, o1) :: (84, tabObj #[]) :: T ∧ Core T M ∧ OwnsOk M ∧ IntsAre vo (M.map ordOf) ∧ M.map (·.n) = ns.take i ∧
    (∀ p ∈ T, @LT.lt Nat _ lo p.1) ∧ m₁ "script" = some (.ref ls)
abbrev nsOf {vs : List Value} {ns : List Int} (_ : IntsAre vs ns) : List Int := ns
theorem news_range {h₀ h h' : Heap} {L : Addr} {news : List (Addr × Obj)} {a b c : Int} {t u v : Tok} (hL : L < h.objs.size) (ha : h₀.objs.size ≤ L) (N : News h₀ L h' news) (hr : IsRange h' h.objs.size a b c t u v) :
    News h₀ L h' ((h.objs.size, { cls := .type "range", data := .fields #[.int a t, .int b u, .int c v] }) :: news) := fun p hp => by
  rcases List.mem_cons.mp hp with rfl | hp
  · exact ⟨hr, Nat.ne_of_gt hL, Heap.get?_none_of_le (Nat.le_trans ha (Nat.le_of_lt hL))⟩
  · exact N p hp
theorem drop3 {h₀ h : Heap} {L : Addr} {a b1 b2 b3 : Addr × Obj} {l : List (Addr × Obj)} (_N : News h₀ L h (a :: b1 :: b2 :: b3 :: l)) : ∀ p ∈ a :: l, p ∈ a :: b1 :: b2 :: b3 :: l := fun p hp =>
  (List.mem_cons.mp hp).elim (fun e => by rw [e]; exact .head _) fun q => .tail _ (.tail _ (.tail _ (.tail _ q)))
theorem tail10 {a1 a2 a3 a4 a5 a6 a7 a8 a9 a10 : Addr × Obj} {T : List (Addr × Obj)} : ∀ p ∈ T, p ∈ a1 :: a2 :: a3 :: a4 :: a5 :: a6 :: a7 :: a8 :: a9 :: a10 :: T := fun p hp =>
  .tail _ (.tail _ (.tail _ (.tail _ (.tail _ (.tail _ (.tail _ (.tail _ (.tail _ (.tail _ hp)))))))))
theorem tab10 {h₀ h : Heap} {L : Addr} {a1 a2 a3 a4 a5 a6 a7 a8 a9 a10 x : Addr × Obj} {T : List (Addr × Obj)} (_N : News h₀ L h (a1 :: a2 :: a3 :: a4 :: a5 :: a6 :: a7 :: a8 :: a9 :: a10 :: x :: T)) : x ∈ a1 :: a2 :: a3 :: a4 :: a5 :: a6 :: a7 :: a8 :: a9 :: a10 :: x :: T :=
  .tail _ (.tail _ (.tail _ (.tail _ (.tail _ (.tail _ (.tail _ (.tail _ (.tail _ (.tail _ (.head _))))))))))
theorem tail14 {a1 a2 a3 a4 a5 a6 a7 a8 a9 a10 a11 a12 a13 a14 : Addr × Obj} {T : List (Addr × Obj)} : ∀ p ∈ T, p ∈ a1 :: a2 :: a3 :: a4 :: a5 :: a6 :: a7 :: a8 :: a9 :: a10 :: a11 :: a12 :: a13 :: a14 :: T := fun _ hp =>
  .tail _ (.tail _ (.tail _ (.tail _ (.tail _ (.tail _ (.tail _ (.tail _ (.tail _ (.tail _ (.tail _ (.tail _ (.tail _ (.tail _ hp)))))))))))))
theorem tab14 {h₀ h : Heap} {L : Addr} {a1 a2 a3 a4 a5 a6 a7 a8 a9 a10 a11 a12 a13 a14 x : Addr × Obj} {T : List (Addr × Obj)} (_N : News h₀ L h (a1 :: a2 :: a3 :: a4 :: a5 :: a6 :: a7 :: a8 :: a9 :: a10 :: a11 :: a12 :: a13 :: a14 :: x :: T)) : x ∈ a1 :: a2 :: a3 :: a4 :: a5 :: a6 :: a7 :: a8 :: a9 :: a10 :: a11 :: a12 :: a13 :: a14 :: x :: T :=
  .tail _ (.tail _ (.tail _ (.tail _ (.tail _ (.tail _ (.tail _ (.tail _ (.tail _ (.tail _ (.tail _ (.tail _ (.tail _ (.tail _ (.head _))))))))))))))
theorem lt_range {h₀ h : Heap} {L : Addr} {news : List (Addr × Obj)} (N : News h₀ L h news) : ∀ p ∈ news, @LT.lt Nat _ p.1 h.objs.size := fun p hp => Heap.lt_size (N p hp).1
end Mine


namespace Mine
theorem fill3 : PySem.Challenge.rw_dn0254_03.row.prog = PySem.Challenge.rw_dn0254_03.row.prog ∧ Mine.hd.heap_39 = Mine.hd.heap_39 := by
  w_top off
  k_fill
  exact ⟨rfl, rfl⟩
section
variable {Mo : Model} {A : Around} {E : Value → Shared → Prop} {s : Shared}
theorem mapM_by {α β : Type} {f : α → Sem β} (g : α → β) : ∀ (l : List α) {Q : List β → Shared → Prop}, (∀ v ∈ l, ∀ (Q' : β → Shared → Prop), Q' (g v) s → wpAny Mo A (f v) Q' E s) → Q (l.map g) s → wpAny Mo A (l.mapM f) Q E s
  | [], _, _, h => by rw [List.mapM_nil]; exact wpAny_pure h
  | x :: l, Q, hf, h => by
    rw [List.mapM_cons]
    exact wpAny_bind (hf x (.head _) _ (wpAny_bind (mapM_by g l (Q := fun bs s' => wpAny Mo A (pure (g x :: bs)) Q E s') (fun v hv => hf v (.tail _ hv)) (wpAny_pure h))))
theorem kind_refs {vs : List Value} {Q : SortKind → Shared → Prop} (h2 : 2 ≤ vs.length) (hT : ∀ v ∈ vs, ∃ a, Looks Mo s.heap (typeOf v) (.ref a)) (hQ : ∀ κ, (κ = oneType' ∨ κ = general') → Q κ s) : wpAny Mo A (keyKind' vs.toArray) Q E s := by
  obtain ⟨v₁, rest, rfl⟩ : ∃ v₁ rest, vs = v₁ :: rest := by
    match vs, h2 with
    | [], h2 => simp at h2
    | v₁ :: rest, _ => exact ⟨v₁, rest, rfl⟩
  rw [keyKind'_eq, List.mapM_toArray, map_eq_pure_bind]
  refine wpAny_bind (wpAny_bind (mapM_by (fun _ => none) _ (fun v hv Q' hq => ?_) (wpAny_pure ?_)))
  · rw [kas_first_eq]
    obtain ⟨a, ha⟩ := hT v hv
    refine wpAny_bind (ha.here ?_)
    rw [if_pos (by simp)]
    exact wpAny_pure hq
  · rw [if_neg (by simp), if_neg (by simp)]
    rw [oneTypeOnly'_eq, List.mapM_toArray, map_eq_pure_bind]
    classical
    let g : Value → Value := fun v => if h : ∃ a, Looks Mo s.heap (typeOf v) (.ref a) then .ref (Classical.choose h) else .none
    refine wpAny_bind (wpAny_bind (wpAny_bind (mapM_by g _ (fun v hv Q' hq => ?_) (wpAny_pure ?_))))
    · have hv' := hT v hv
      have e : g v = .ref (Classical.choose hv') := by show (if h : _ then _ else _) = _; rw [dif_pos hv']
      rw [e] at hq
      exact (Classical.choose_spec hv').here hq
    · have fin : ∀ o : Option Value, wpAny Mo A (pure (if o.isSome then oneType' else general') : Sem SortKind) Q E s := fun o => wpAny_pure (hQ _ (by cases o <;> simp))
      split
      · exact wpAny_pure (fin _)
      · exact wpAny_pure (fin _)
end
section
variable {w : World} {E : Value → Shared → Prop} {s : Shared} {L : Addr} {h₀ : Heap} {m : Str → Option Value} {rest : List (Addr × Obj)} {M : List HM}
theorem lt_key {κ : SortKind} {x y : Addr} {news : List (Addr × Obj)} {Q : Bool → Shared → Prop} {p : Program} {loose : List Str} {mean : ExcName → Option Value} {mg mb : Str → Option Value} {dp un : Nat} {gd : Option (List Code)} {cn : Str} {cs : Scope} {a : Addr} {ccd : Value} {cl : List (Str × Addr)} {outer : List Env} {A₀ : Around} {base : Heap} {o o' : Int} {t t' : Tok}
    (hκ : κ = oneType' ∨ κ = general') (B : Below A₀ base outer h₀) (F : Fr h₀ L s.heap m) (X : (Mine.hd.heap_39 w.params).In h₀) (N : News h₀ L s.heap news) (T : Top p loose mean mg mb h₀) (hk : cs.kind = .function) (hx : HdV news x (.int o t)) (hy : HdV news y (.int o' t')) (hd : dp + 1 < recursionLimit) (hu : un + 8 < cLine)
    (ret : ∀ h' tk', Fr h₀ L h' m → News h₀ L h' news → Q (decide (o < o')) { s with heap := h', toks := tk' }) :
    wpAny (model PySem.Challenge.rw_dn0254_03.row.prog w) (ktrTop dp un gd cn cs L a ccd cl outer) (keyLt' κ (.ref x) (.ref y)) Q E s := by
  rcases hκ with rfl | rfl
  · have c := lt_call (E := E) (Q := W.BoolBack Q) (gd := gd) (cn := cn) (a := a) (ccd := ccd) (cl := cl) B F X N T hk hx hy hd hu ret
    obtain ⟨C, dx, es, n, h1, h2, hO⟩ := hx
    have I := InstAt.of_news N h1 h2
    have hu' : (ktrTop dp un gd cn cs L a ccd cl outer).units < cLine := by show un < cLine; omega
    rcases hd_cls hO with rfl | rfl
    · exact kas_lt_inst hu' F X I (by k_is) (by k_is) c
    · exact kas_lt_inst hu' F X I (by k_is) (by k_is) c
  · exact kat_one _ _ (lt_cmp (E := E) (Q := W.BoolBack Q) (gd := gd) (cn := cn) (a := a) (ccd := ccd) (cl := cl) B F X N T hk hx hy hd hu ret)
theorem madeV_get {i : Nat} (h : i < M.length) : (madeV M).getD i Value.none = .ref (hmAt M i).x := by simp [madeV, hmAt, List.getD, h]
theorem ask_hm {p : Program} {loose : List Str} {mean : ExcName → Option Value} {mg mb : Str → Option Value} {dp un : Nat} {gd : Option (List Code)} {cn : Str} {cs : Scope} {a : Addr} {ccd : Value} {cl : List (Str × Addr)} {outer : List Env} {A₀ : Around} {base : Heap}
    (B : Below A₀ base outer h₀) (X : (Mine.hd.heap_39 w.params).In h₀) (T : Top p loose mean mg mb h₀) (hk : cs.kind = .function) (hd : dp + 1 < recursionLimit) (hu : un + 8 < cLine) (hm : ∀ r ∈ M, HdAt rest r) :
    AsksV PySem.Challenge.rw_dn0254_03.row.prog w (ktrTop dp un gd cn cs L a ccd cl outer) h₀ L m rest s (madeV M) (ordAt M) := by
  intro κ hκ nw h tk i j C hsub hi hj F N ret
  have hl : (madeV M).length = M.length := by rw [madeV, List.length_map]
  rw [hl] at hi hj
  rw [madeV_get hi, madeV_get hj]
  obtain ⟨t, ht⟩ := (hm _ (hmAt_mem hi)).ord
  obtain ⟨u, hu'⟩ := (hm _ (hmAt_mem hj)).ord
  have mono : ∀ {x v}, HdV rest x v → HdV nw x v := fun {x v} ⟨C, dx, es, n, h1, h2, h3⟩ => ⟨C, dx, es, n, hsub _ h1, hsub _ h2, h3⟩
  rw [ordAt_eq hi, ordAt_eq hj] at ret
  exact lt_key (s := { s with heap := h, toks := tk }) hκ B F X N T hk (mono ht) (mono hu') hd hu fun h' tk' F' N' => ret h' tk' F' N'
theorem kind_hm {A : Around} (hm : ∀ r ∈ M, HdAt rest r) : 2 ≤ (madeV M).length → ∀ h (Q : SortKind → Shared → Prop), Fr h₀ L h m → News h₀ L h rest → (∀ κ, (κ = oneType' ∨ κ = general') → Q κ { s with heap := h }) → wpAny (model PySem.Challenge.rw_dn0254_03.row.prog w) A (keyKind' (madeV M).toArray) Q (fun _ _ => False) { s with heap := h } := by
  intro h2 h Q _ N hQ
  refine kind_refs h2 (fun v hv => ?_) hQ
  obtain ⟨r, hr, rfl⟩ := List.mem_map.mp hv
  obtain ⟨h1, o, h3, _⟩ := hm r hr
  exact ⟨_, (InstAt.of_news N h1 h3).type⟩
end
end Mine


namespace Mine
theorem fill4 : PySem.Challenge.rw_dn0254_03.row.prog = PySem.Challenge.rw_dn0254_03.row.prog ∧ Mine.hd.heap_39 = Mine.hd.heap_39 := by
  w_top off
  k_fill
  exact ⟨rfl, rfl⟩
/-- the change of the second loop -/
def turn2 (r : HM) : HM := if (r.n.fdiv 6).fmod 2 = 0 then r else if (r.n.fdiv 2).fmod 3 = 0 then { r with own := some 750 } else { r with own := none }
def turnTo (M : List HM) (i : Nat) : List HM := (M.take i).map turn2 ++ M.drop i
theorem turn2_x (r : HM) : (turn2 r).x = r.x := by unfold turn2; split <;> (try split) <;> rfl
theorem turn2_dx (r : HM) : (turn2 r).dx = r.dx := by unfold turn2; split <;> (try split) <;> rfl
theorem turn2_n (r : HM) : (turn2 r).n = r.n := by unfold turn2; split <;> (try split) <;> rfl
theorem turnTo_zero (M : List HM) : turnTo M 0 = M := by simp [turnTo]
theorem turnTo_len (M : List HM) (i : Nat) : (turnTo M i).length = M.length := by simp [turnTo]; omega
theorem turnTo_all (M : List HM) : turnTo M M.length = M.map turn2 := by simp [turnTo]
theorem turnTo_split {M : List HM} {i : Nat} {r : HM} (h : M[i]? = some r) : turnTo M i = (M.take i).map turn2 ++ r :: M.drop (i + 1) ∧ turnTo M (i + 1) = (M.take i).map turn2 ++ turn2 r :: M.drop (i + 1) := by
  obtain ⟨hi, e⟩ := List.getElem?_eq_some_iff.mp h
  constructor
  · unfold turnTo
    rw [List.drop_eq_getElem_cons hi, e]
  · unfold turnTo
    rw [List.take_succ_eq_append_getElem hi, e]
    simp
theorem madeV_turn (M : List HM) : madeV (M.map turn2) = madeV M := by simp [madeV, turn2_x]
theorem Core.set {T : List (Addr × Obj)} {A B : List HM} {r r' : HM} {o' : Obj} (h : Core T (A ++ r :: B)) (hx : r'.x = r.x) (hd : r'.dx = r.dx) (hn : r'.n = r.n) (ho : DOwn r'.own o') : Core ((r.dx, o') :: off r.dx T) (A ++ r' :: B) := by
  have hr : r ∈ A ++ r :: B := by simp
  have ap := h.ap
  rw [List.pairwise_append, List.pairwise_cons] at ap
  have mem : ∀ q ∈ A ++ r' :: B, q = r' ∨ (q ∈ A ++ r :: B ∧ q.dx ≠ r.dx) := fun q hq => by
    rcases List.mem_append.mp hq with hq | hq
    · exact .inr ⟨List.mem_append_left _ hq, (ap.2.2 q hq r (.head _)).1⟩
    · rcases List.mem_cons.mp hq with rfl | hq
      · exact .inl rfl
      · exact .inr ⟨List.mem_append_right _ (.tail _ hq), fun e => (ap.2.1.1 q hq).1 e.symm⟩
  refine ⟨fun q hq => ?_, ?_, fun q hq q' hq' => ?_⟩
  · rcases mem q hq with rfl | ⟨hq, hne⟩
    · obtain ⟨h1, _⟩ := h.hd r hr
      refine ⟨.tail _ (mem_off.mpr ⟨?_, ?_⟩), o', ?_, ho⟩
      · rw [hx, hn, hd]; exact h1
      · rw [hx]; exact h.xd r hr r hr
      · rw [hd]; exact .head _
    · obtain ⟨h1, o, h2, h3⟩ := h.hd q hq
      exact ⟨.tail _ (mem_off.mpr ⟨h1, h.xd q hq r hr⟩), o, .tail _ (mem_off.mpr ⟨h2, hne⟩), h3⟩
  · rw [List.pairwise_append, List.pairwise_cons]
    refine ⟨ap.1, ⟨fun q hq => ?_, ap.2.1.2⟩, fun q hq q' hq' => ?_⟩
    · rw [hx, hd]; exact ap.2.1.1 q hq
    · rcases List.mem_cons.mp hq' with rfl | hq'
      · rw [hx, hd]; exact ap.2.2 q hq r (.head _)
      · exact ap.2.2 q hq q' (.tail _ hq')
  · have back : ∀ q ∈ A ++ r' :: B, ∃ q₀ ∈ A ++ r :: B, q.x = q₀.x ∧ q.dx = q₀.dx := fun q hq => by
      rcases mem q hq with rfl | ⟨hq, _⟩
      · exact ⟨r, hr, hx, hd⟩
      · exact ⟨q, hq, rfl, rfl⟩
    obtain ⟨a, ha, e1, _⟩ := back q hq
    obtain ⟨b, hb, _, e2⟩ := back q' hq'
    rw [e1, e2]
    exact h.xd a ha b hb
/-- the ledger behind a change of one dict -/
theorem led_upd {h₀ h : Heap} {L dx : Addr} {o' : Obj} {pre T own : List (Addr × Obj)} (N : News h₀ L h ((dx, o') :: off dx (pre ++ (T ++ own)))) (hpre : ∀ p ∈ pre, p.1 ≠ dx) (hown : ∀ p ∈ own, p.1 ≠ dx) : News h₀ L h (pre ++ ((dx, o') :: off dx T ++ own)) := fun p hp => N p (by
  rcases List.mem_append.mp hp with hp | hp
  · exact .tail _ (mem_off.mpr ⟨List.mem_append_left _ hp, hpre p hp⟩)
  · rcases List.mem_append.mp hp with hp | hp
    · rcases List.mem_cons.mp hp with rfl | hp
      · exact .head _
      · exact .tail _ (mem_off.mpr ⟨List.mem_append_right _ (List.mem_append_left _ (mem_off.mp hp).1), (mem_off.mp hp).2⟩)
    · exact .tail _ (mem_off.mpr ⟨List.mem_append_right _ (List.mem_append_right _ hp), hown p hp⟩))
section
variable {w : World} {A : Around} {E : Value → Shared → Prop} {s : Shared} {x dx L C : Addr} {h₀ : Heap} {m : Str → Option Value} {pre T own : List (Addr × Obj)} {v : Value} {n : Nat}
theorem set_ord {Q : Unit → Shared → Prop} (F : Fr h₀ L s.heap m) (X : (Mine.hd.heap_39 w.params).In h₀) (N : News h₀ L s.heap (pre ++ (T ++ own))) (h1 : (x, instObj C dx) ∈ T) (h2 : (dx, dictOf [] n) ∈ T) (hC : C = 52 ∨ C = 73)
    (hpre : ∀ p ∈ pre, p.1 ≠ dx) (hown : ∀ p ∈ own, p.1 ≠ dx)
    (h : ∀ h' tk hsh tq n', Fr h₀ L h' m → News h₀ L h' (pre ++ ((dx, dictOf [⟨hsh, .str "handler_order" tq, v⟩] n') :: off dx T ++ own)) → Q () { s with heap := h', toks := tk }) :
    wpAny (model PySem.Challenge.rw_dn0254_03.row.prog w) A (setAttr (.ref x) "handler_order" v) Q E s := by
  have m1 : (x, instObj C dx) ∈ pre ++ (T ++ own) := List.mem_append_right _ (List.mem_append_left _ h1)
  have m2 : (dx, dictOf [] n) ∈ pre ++ (T ++ own) := List.mem_append_right _ (List.mem_append_left _ h2)
  have I := InstAt.of_news N m1 m2
  rcases hC with rfl | rfl
  · exact set_dict F X (news_front N m2) I rfl (by k_is) (by k_is) (by k_is) (by k_is) rfl rfl (.head off_ne) (Nat.le_of_ble_eq_true rfl) fun h' F' N' => h h' _ _ _ _ F' (led_upd N' hpre hown)
  · exact set_dict F X (news_front N m2) I rfl (by k_is) (by k_is) (by k_is) (by k_is) rfl rfl (.head off_ne) (Nat.le_of_ble_eq_true rfl) fun h' F' N' => h h' _ _ _ _ F' (led_upd N' hpre hown)
theorem del_ord {Q : Unit → Shared → Prop} {hsh : Int} {tq : Tok} (F : Fr h₀ L s.heap m) (X : (Mine.hd.heap_39 w.params).In h₀) (N : News h₀ L s.heap (pre ++ (T ++ own))) (h1 : (x, instObj C dx) ∈ T) (h2 : (dx, dictOf [⟨hsh, .str "handler_order" tq, v⟩] n) ∈ T) (hC : C = 52 ∨ C = 73)
    (hpre : ∀ p ∈ pre, p.1 ≠ dx) (hown : ∀ p ∈ own, p.1 ≠ dx)
    (h : ∀ h' tk n', Fr h₀ L h' m → News h₀ L h' (pre ++ ((dx, dictOf [] n') :: off dx T ++ own)) → Q () { s with heap := h', toks := tk }) :
    wpAny (model PySem.Challenge.rw_dn0254_03.row.prog w) A (delAttr (.ref x) "handler_order") Q E s := by
  have m1 : (x, instObj C dx) ∈ pre ++ (T ++ own) := List.mem_append_right _ (List.mem_append_left _ h1)
  have m2 : (dx, dictOf [⟨hsh, .str "handler_order" tq, v⟩] n) ∈ pre ++ (T ++ own) := List.mem_append_right _ (List.mem_append_left _ h2)
  have I := InstAt.of_news N m1 m2
  rcases hC with rfl | rfl
  · exact del_dict F X (news_front N m2) I rfl (by k_is) (by k_is) (by k_is) (by k_is) off_ne fun h' tk F' N' => h h' tk _ F' (led_upd N' hpre hown)
  · exact del_dict F X (news_front N m2) I rfl (by k_is) (by k_is) (by k_is) (by k_is) off_ne fun h' tk F' N' => h h' tk _ F' (led_upd N' hpre hown)
end
def LoopT (la lr lu lo lm ls c5 c4 c3 c2 c1 : Nat) (orow oup oord omade os o5 o4 o3 o2 o1 tab : Obj) (M : List HM) (i : Nat) (m₁ : Str → Option Value) (nw : List (Addr × Obj)) : Prop :=
  ∃ T vl nl, nw = (la, W.listOf vl.toArray nl) :: (lr, orow) :: (lu, oup) :: (lo, oord) :: (lm, omade) :: (ls, os) :: (c5, o5) :: (c4, o4) :: (c3, o3) :: (c2, o2) :: (c1, o1) :: (84, tab) :: T ∧ Core T (turnTo M i) ∧ IntsAre vl ((M.take i).map fun r => ordOf (turn2 r)) ∧
    (∀ p ∈ T, @LT.lt Nat _ lo p.1 ∧ @LT.lt Nat _ p.1 lu) ∧ m₁ "up" = some (.ref lu)
theorem clsOf_two (n : Int) : clsOf n = 52 ∨ clsOf n = 73 := by unfold clsOf; split <;> simp
theorem pre_ne {a1 a2 a3 a4 a5 a6 a7 a8 a9 a10 a11 a12 d : Nat} {o1 o2 o3 o4 o5 o6 o7 o8 o9 o10 o11 o12 : Obj} (h : a1 ≠ d ∧ a2 ≠ d ∧ a3 ≠ d ∧ a4 ≠ d ∧ a5 ≠ d ∧ a6 ≠ d ∧ a7 ≠ d ∧ a8 ≠ d ∧ a9 ≠ d ∧ a10 ≠ d ∧ a11 ≠ d ∧ a12 ≠ d) : ∀ p ∈ ([(a1, o1), (a2, o2), (a3, o3), (a4, o4), (a5, o5), (a6, o6), (a7, o7), (a8, o8), (a9, o9), (a10, o10), (a11, o11), (a12, o12)] : List (Addr × Obj)), p.1 ≠ d := by
  intro p hp
  simp only [List.mem_cons, List.not_mem_nil, or_false] at hp
  obtain ⟨h1, h2, h3, h4, h5, h6, h7, h8, h9, h10, h11, h12⟩ := h
  rcases hp with rfl | rfl | rfl | rfl | rfl | rfl | rfl | rfl | rfl | rfl | rfl | rfl <;> assumption
theorem rest_ne {a1 a2 a3 a4 a5 a6 a7 a8 a9 a10 a11 d : Nat} {o1 o2 o3 o4 o5 o6 o7 o8 o9 o10 o11 : Obj} {tail : List (Addr × Obj)} (h : a1 ≠ d ∧ a2 ≠ d ∧ a3 ≠ d ∧ a4 ≠ d ∧ a5 ≠ d ∧ a6 ≠ d ∧ a7 ≠ d ∧ a8 ≠ d ∧ a9 ≠ d ∧ a10 ≠ d ∧ a11 ≠ d) (ht : ∀ p ∈ tail, p.1 ≠ d) : ∀ p ∈ ((a1, o1) :: (a2, o2) :: (a3, o3) :: (a4, o4) :: (a5, o5) :: (a6, o6) :: (a7, o7) :: (a8, o8) :: (a9, o9) :: (a10, o10) :: (a11, o11) :: tail : List (Addr × Obj)), p.1 ≠ d := by
  intro p hp
  simp only [List.mem_cons] at hp
  obtain ⟨h1, h2, h3, h4, h5, h6, h7, h8, h9, h10, h11⟩ := h
  rcases hp with rfl | rfl | rfl | rfl | rfl | rfl | rfl | rfl | rfl | rfl | rfl | hp
  all_goals first | assumption | exact ht p hp
theorem endT {h₀ h' : Heap} {L I : Addr} {s₁ : Shared} {Q : Flow → Shared → Prop} {tk nl : Nat} {la lr lu lo lm ls c5 c4 c3 c2 c1 : Nat} {orow oup oord omade os o5 o4 o3 o2 o1 tab : Obj} {M : List HM} {i : Nat} {r : HM} {m' : Str → Option Value} {T own : List (Addr × Obj)} {vl : List Value} {z : Int} {t : Tok}
    (F : Fr h₀ L h' m') (N : News h₀ L h' ((la, W.listOf (vl ++ [Value.int z t]).toArray nl) :: (lr, orow) :: (lu, oup) :: (lo, oord) :: (lm, omade) :: (ls, os) :: (c5, o5) :: (c4, o4) :: (c3, o3) :: (c2, o2) :: (c1, o1) :: (84, tab) :: (T ++ own)))
    (hr : M[i]? = some r) (hC : Core T (turnTo M (i + 1))) (hvl : IntsAre vl ((M.take i).map fun r => ordOf (turn2 r))) (hz : z = ordOf (turn2 r)) (hT : ∀ p ∈ T, @LT.lt Nat _ lo p.1 ∧ @LT.lt Nat _ p.1 lu) (hm : m' "up" = some (.ref lu))
    (hlt : @LT.lt Nat _ la I ∧ @LT.lt Nat _ lr I ∧ @LT.lt Nat _ lu I ∧ @LT.lt Nat _ lo I ∧ @LT.lt Nat _ lm I ∧ @LT.lt Nat _ ls I ∧ @LT.lt Nat _ c5 I ∧ @LT.lt Nat _ c4 I ∧ @LT.lt Nat _ c3 I ∧ @LT.lt Nat _ c2 I ∧ @LT.lt Nat _ c1 I ∧ @LT.lt Nat _ 84 I) :
    PostW h₀ L (LoopT la lr lu lo lm ls c5 c4 c3 c2 c1 orow oup oord omade os o5 o4 o3 o2 o1 tab M (i + 1)) own [I + 1, I] s₁ Q .next { s₁ with heap := h', toks := tk } := by
  refine ⟨h', tk, m', (la, W.listOf (vl ++ [Value.int z t]).toArray nl) :: (lr, orow) :: (lu, oup) :: (lo, oord) :: (lm, omade) :: (ls, os) :: (c5, o5) :: (c4, o4) :: (c3, o3) :: (c2, o2) :: (c1, o1) :: (84, tab) :: T, rfl, F, N, fun p hp => ?_, T, vl ++ [Value.int z t], nl, rfl, hC, ?_, hT, hm⟩
  · have hpI : @LT.lt Nat _ p.1 I := by
      simp only [List.mem_cons] at hp
      rcases hp with rfl | rfl | rfl | rfl | rfl | rfl | rfl | rfl | rfl | rfl | rfl | rfl | hp
      all_goals first | (have := (hT p hp).2; omega) | (dsimp only; omega)
    intro hq
    simp only [List.mem_cons, List.not_mem_nil, or_false] at hq
    rcases hq with e | e
    · have e' : @Eq Nat p.1 (I + 1) := e
      omega
    · have e' : @Eq Nat p.1 I := e
      omega
  · obtain ⟨hi, e⟩ := List.getElem?_eq_some_iff.mp hr
    rw [List.take_succ_eq_append_getElem hi, e, List.map_append, List.map_cons, List.map_nil, ← hz]
    exact ksk_snoc hvl
end Mine


namespace Mine
def LoopR (prog : Program) (w : World) (ld lu : Nat) (Rest : List (Addr × Obj)) (p : List Nat) (i : Nat) (m₁ : Str → Option Value) (nw : List (Addr × Obj)) : Prop :=
  ∃ od kvs, nw = (ld, od) :: Rest ∧ Obj.IsDictOf (intKind prog w) od kvs ∧ kvs.length ≤ i ∧ (∀ j k, j < i → p[j]? = some k → ∃ t, valueAt kvs (k : Int) = some (.int (j : Int) t)) ∧ m₁ "up" = some (.ref lu)
theorem endR {prog : Program} {w : World} {h₀ h' : Heap} {L I : Addr} {s₁ : Shared} {Q : Flow → Shared → Prop} {tk : Nat} {ld lu : Nat} {Rest own : List (Addr × Obj)} {p : List Nat} {i k : Nat} {m' : Str → Option Value} {od : Obj} {kvs : List (Int × Value)} {t : Tok}
    (F : Fr h₀ L h' m') (N : News h₀ L h' ((ld, od) :: (Rest ++ own))) (hd : Obj.IsDictOf (intKind prog w) od (stored kvs (k : Int) (.int (i : Int) t))) (hl : kvs.length ≤ i) (hnd : p.Nodup) (hk : p[i]? = some k)
    (hv : ∀ j k, j < i → p[j]? = some k → ∃ t, valueAt kvs (k : Int) = some (.int (j : Int) t)) (hm : m' "up" = some (.ref lu)) (hlt : ∀ p ∈ (ld, od) :: Rest, @LT.lt Nat _ p.1 I) :
    PostW h₀ L (LoopR prog w ld lu Rest p (i + 1)) own [I + 1, I] s₁ Q .next { s₁ with heap := h', toks := tk } := by
  refine ⟨h', tk, m', (ld, od) :: Rest, rfl, F, N, fun q hq => ?_, od, _, rfl, hd, Nat.le_trans (stored_length_le _ _ _) (by omega), fun j k' hj hk' => ?_, hm⟩
  · have hpI := hlt q hq
    intro hq
    simp only [List.mem_cons, List.not_mem_nil, or_false] at hq
    rcases hq with e | e
    · have e' : @Eq Nat q.1 (I + 1) := e
      omega
    · have e' : @Eq Nat q.1 I := e
      omega
  · rw [valueAt_stored]
    by_cases e : j = i
    · subst e
      rw [hk] at hk'
      obtain rfl := Option.some.inj hk'
      exact ⟨t, by rw [if_pos rfl]⟩
    · have hne : k' ≠ k := fun q => e (by
        subst q
        obtain ⟨b1, e1⟩ := List.getElem?_eq_some_iff.mp hk'
        obtain ⟨b2, e2⟩ := List.getElem?_eq_some_iff.mp hk
        exact (List.getElem_inj hnd).mp (e1.trans e2.symm))
      rw [if_neg (by omega)]
      exact hv j k' (by omega) hk'
theorem idx_of {p : List Nat} {n k : Nat} (hp : p.Perm (List.range n)) (hk : k < n) : p[p.idxOf k]? = some k := by
  have hm : k ∈ p := hp.mem_iff.mpr (by simpa using hk)
  have := List.idxOf_lt_length_iff.mpr hm
  rw [List.getElem?_eq_getElem this, List.getElem_idxOf this]
def rowM (M : List HM) (p : List Nat) : List HM := p.map fun i => turn2 (hmAt M i)
theorem rowM_len (M : List HM) (p : List Nat) : (rowM M p).length = p.length := by simp [rowM]
theorem rowM_at {M : List HM} {p : List Nat} {q : Nat} (h : q < p.length) : hmAt (rowM M p) q = turn2 (hmAt M (p.getD q 0)) := by
  simp [hmAt, rowM, List.getD, h]
theorem rowM_made {M : List HM} {p : List Nat} (hb : ∀ i ∈ p, i < M.length) : madeV (rowM M p) = p.map fun i => (madeV M).getD i Value.none := by
  simp only [madeV, rowM, List.map_map]
  refine List.map_congr_left fun i hi => ?_
  have h := hb i hi
  have e := madeV_get h
  unfold madeV at e
  rw [e]
  simp [turn2_x]
theorem turn_mem {M : List HM} {i : Nat} (h : i < M.length) : turn2 (hmAt M i) ∈ M.map turn2 := List.mem_map_of_mem (hmAt_mem h)
theorem rk_asymm {a b : Nat → Int} (i j : Nat) (h : Rk a b i j) : ¬ Rk a b j i := by unfold Rk at *; omega
theorem down_eq {M : List HM} {p2 p3 p4 : List Nat} (hp2 : p2.Perm (List.range M.length)) (hp3 : p3.Perm (List.range M.length)) (hs3 : p3.Pairwise (Rk (fun i => -(ordOf (turn2 (hmAt M i)))) (fun i => (p2.idxOf i : Int))))
    (hp4 : p4.Perm (List.range M.length)) (hs4 : p4.Pairwise (SortedBy true (ordAt (rowM M p2)))) : p3 = p4.map (fun q => p2.getD q 0) := by
  have hl2 : p2.length = M.length := by simpa using hp2.length_eq
  have nd2 : p2.Nodup := hp2.nodup_iff.mpr List.nodup_range
  have hb4 : ∀ q ∈ p4, q < p2.length := fun q hq => by rw [hl2]; simpa using hp4.mem_iff.mp hq
  have hix : ∀ q, q < p2.length → p2.idxOf (p2.getD q 0) = q := fun q hq => by
    have e : p2.getD q 0 = p2[q] := by simp [List.getD, hq]
    rw [e]
    exact List.Nodup.idxOf_getElem nd2 q hq
  refine perm_unique (fun a b => rk_asymm a b) ?_ hs3 ?_
  · refine hp3.trans (hp2.symm.trans ?_)
    have h1 := picked_perm p2 0 (p := p4) (by rw [hl2]; exact hp4)
    exact h1.symm
  · rw [List.pairwise_map]
    refine hs4.imp_of_mem fun {a b} ha hb q => ?_
    have ha' := hb4 a ha
    have hb' := hb4 b hb
    unfold SortedBy at q
    simp only [if_true] at q
    have ea := ordAt_eq (M := rowM M p2) (i := a) (by rw [rowM_len]; exact ha')
    have eb := ordAt_eq (M := rowM M p2) (i := b) (by rw [rowM_len]; exact hb')
    rw [rowM_at ha'] at ea
    rw [rowM_at hb'] at eb
    rw [ea, eb] at q
    unfold Rk
    dsimp only
    rw [hix a ha', hix b hb']
    omega
theorem post_true (ns : List Int) : PySem.Challenge.rw_dn0254_03.row.claim.post [ofPy (PyData.list (List.map PyData.int ns))] (.bool true) [ofPy (PyData.list (List.map PyData.int ns))] = true := by
  first | rfl | wrow_post
end Mine


namespace Mine
theorem Core.add {T : List (Addr × Obj)} {M : List HM} {x d : Nat} {n : Int} {ow : Option Int} {od : Obj} (h : Core T M) (ho : DOwn ow od) (hl : ∀ p ∈ T, @LT.lt Nat _ p.1 d) (hxd : @LT.lt Nat _ d x) :
    Core ((x, instObj (clsOf n) d) :: (d, od) :: T) (M ++ [⟨x, d, n, ow⟩]) := by
  have bd : ∀ r ∈ M, @LT.lt Nat _ r.x d ∧ @LT.lt Nat _ r.dx d := fun r hr => by
    obtain ⟨h1, o, h2, _⟩ := h.hd r hr
    exact ⟨hl _ h1, hl _ h2⟩
  refine ⟨fun r hr => ?_, ?_, fun r hr r' hr' => ?_⟩
  · rcases List.mem_append.mp hr with hr | hr
    · exact (h.hd r hr).mono fun p hp => .tail _ (.tail _ hp)
    · rw [List.mem_singleton.mp hr]
      exact ⟨.head _, od, .tail _ (.head _), ho⟩
  · rw [List.pairwise_append]
    refine ⟨h.ap, List.pairwise_singleton _ _, fun r hr r' hr' => ?_⟩
    rw [List.mem_singleton.mp hr']
    have := bd r hr
    exact ⟨neN (by dsimp only; omega), neN (by dsimp only; omega)⟩
  · rcases List.mem_append.mp hr with hr | hr <;> rcases List.mem_append.mp hr' with hr' | hr'
    · exact h.xd r hr r' hr'
    · rw [List.mem_singleton.mp hr']
      have := bd r hr
      exact neN (by dsimp only; omega)
    · rw [List.mem_singleton.mp hr]
      have := bd r' hr'
      exact neN (by dsimp only; omega)
    · rw [List.mem_singleton.mp hr, List.mem_singleton.mp hr']
      exact neN (by dsimp only; omega)
theorem endS {h₀ h' : Heap} {L I : Addr} {s₁ : Shared} {Q : Flow → Shared → Prop} {tk no nm no' nm' : Nat} {lo lm ls c5 c4 c3 c2 c1 x d C : Nat} {os o5 o4 o3 o2 o1 od : Obj} {M : List HM} {ns : List Int} {i : Nat} {m' : Str → Option Value} {T own : List (Addr × Obj)} {vo : List Value} {z n : Int} {t : Tok} (ow : Option Int)
    (F : Fr h₀ L h' m') (N : News h₀ L h' ((x, instObj C d) :: (d, od) :: (lo, W.listOf (vo ++ [Value.int z t]).toArray no') :: (lm, W.listOf (madeV M ++ [Value.ref x]).toArray nm') :: (ls, os) :: (c5, o5) :: (c4, o4) :: (c3, o3) :: (c2, o2) :: (c1, o1) :: (84, tabObj #[]) :: (T ++ own)))
    (hCl : C = clsOf n) (ho : DOwn ow od) (hw : ow = none ↔ (n.fdiv 2).fmod 3 = 0) (hz : z = ordOf ⟨x, d, n, ow⟩) (hC : Core T M) (hOw : OwnsOk M) (hvo : IntsAre vo (M.map ordOf)) (hMn : M.map (·.n) = ns.take i) (hk : ns[i]? = some n)
    (hTl : ∀ p ∈ T, @LT.lt Nat _ lo p.1) (hlo : @LT.lt Nat _ lo d) (hal : AllLt d (T ++ own)) (hxd : @LT.lt Nat _ d x)
    (hoI : ∀ p ∈ (lo, W.listOf vo.toArray no) :: (lm, W.listOf (madeV M).toArray nm) :: (ls, os) :: (c5, o5) :: (c4, o4) :: (c3, o3) :: (c2, o2) :: (c1, o1) :: (84, tabObj #[]) :: T, p.1 ≠ I) (hIo : ∃ o, (I, o) ∈ own) (hm : m' "script" = some (.ref ls)) :
    PostJ h₀ L (LoopS lo lm ls c5 c4 c3 c2 c1 os o5 o4 o3 o2 o1 ns (i + 1)) own I s₁ Q .next { s₁ with heap := h', toks := tk } := by
  subst hCl
  have hId : @LT.lt Nat _ I d := by
    obtain ⟨o, hI⟩ := hIo
    exact allLt_mem hal (I, o) (List.mem_append_right _ hI)
  refine ⟨h', tk, m', (lo, W.listOf (vo ++ [Value.int z t]).toArray no') :: (lm, W.listOf (madeV M ++ [Value.ref x]).toArray nm') :: (ls, os) :: (c5, o5) :: (c4, o4) :: (c3, o3) :: (c2, o2) :: (c1, o1) :: (84, tabObj #[]) :: ((x, instObj (clsOf n) d) :: (d, od) :: T), rfl, F, fun p hp => N p ?_, fun p hp => ?_,
    M ++ [⟨x, d, n, ow⟩], (x, instObj (clsOf n) d) :: (d, od) :: T, vo ++ [Value.int z t], no', nm', by simp [madeV], hC.add ho (fun p hp => allLt_mem hal p (List.mem_append_left _ hp)) hxd, fun r hr => ?_, ?_, ?_, fun p hp => ?_, hm⟩
  · simp only [List.cons_append, List.mem_cons] at hp ⊢
    rcases hp with q | q | q | q | q | q | q | q | q | q | q | q
    · exact .inr (.inr (.inl q))
    · exact .inr (.inr (.inr (.inl q)))
    · exact .inr (.inr (.inr (.inr (.inl q))))
    · exact .inr (.inr (.inr (.inr (.inr (.inl q)))))
    · exact .inr (.inr (.inr (.inr (.inr (.inr (.inl q))))))
    · exact .inr (.inr (.inr (.inr (.inr (.inr (.inr (.inl q)))))))
    · exact .inr (.inr (.inr (.inr (.inr (.inr (.inr (.inr (.inl q))))))))
    · exact .inr (.inr (.inr (.inr (.inr (.inr (.inr (.inr (.inr (.inl q)))))))))
    · exact .inr (.inr (.inr (.inr (.inr (.inr (.inr (.inr (.inr (.inr (.inl q))))))))))
    · exact .inl q
    · exact .inr (.inl q)
    · exact .inr (.inr (.inr (.inr (.inr (.inr (.inr (.inr (.inr (.inr (.inr q))))))))))
  · simp only [List.mem_cons] at hp
    rcases hp with rfl | rfl | rfl | rfl | rfl | rfl | rfl | rfl | rfl | rfl | rfl | hp
    · exact (hoI (lo, W.listOf vo.toArray no) (.head _) : _)
    · exact (hoI (lm, W.listOf (madeV M).toArray nm) (.tail _ (.head _)) : _)
    · exact hoI (ls, _) (.tail _ (.tail _ (.head _)))
    · exact hoI (c5, _) (.tail _ (.tail _ (.tail _ (.head _))))
    · exact hoI (c4, _) (.tail _ (.tail _ (.tail _ (.tail _ (.head _)))))
    · exact hoI (c3, _) (.tail _ (.tail _ (.tail _ (.tail _ (.tail _ (.head _))))))
    · exact hoI (c2, _) (.tail _ (.tail _ (.tail _ (.tail _ (.tail _ (.tail _ (.head _)))))))
    · exact hoI (c1, _) (.tail _ (.tail _ (.tail _ (.tail _ (.tail _ (.tail _ (.tail _ (.head _))))))))
    · exact hoI (84, _) (.tail _ (.tail _ (.tail _ (.tail _ (.tail _ (.tail _ (.tail _ (.tail _ (.head _)))))))))
    · exact neN (by dsimp only; omega)
    · exact neN (by dsimp only; omega)
    · exact hoI p (.tail _ (.tail _ (.tail _ (.tail _ (.tail _ (.tail _ (.tail _ (.tail _ (.tail _ hp)))))))))
  · rcases List.mem_append.mp hr with hr | hr
    · exact hOw r hr
    · rw [List.mem_singleton.mp hr]; exact hw
  · rw [List.map_append, List.map_cons, List.map_nil, ← hz]
    exact ksk_snoc hvo
  · obtain ⟨hi, e⟩ := List.getElem?_eq_some_iff.mp hk
    rw [List.map_append, hMn, List.take_succ_eq_append_getElem hi, e]
    rfl
  · rcases List.mem_cons.mp hp with rfl | hp
    · dsimp only; omega
    · rcases List.mem_cons.mp hp with rfl | hp
      · exact hlo
      · exact hTl p hp
end Mine


namespace Mine
theorem fill9 : PySem.Challenge.rw_dn0254_03.row.prog = PySem.Challenge.rw_dn0254_03.row.prog ∧ Mine.hd.heap_39 = Mine.hd.heap_39 := by
  k_fill
  exact ⟨rfl, rfl⟩
local macro_rules | `(tactic| keq_rows) => `(tactic| first | (k_unfold; (try dsimp only)) | walk1 | (dsimp only; walk1))
local macro_rules | `(tactic| bits_by_make) => `(tactic| repeat' ((fail_if_success (with_reducible show wpAny _ _ (pyIter _) _ _ _)); keq_rows))
local macro_rules | `(tactic| keq_hits) => `(tactic| repeat' ((fail_if_success (with_reducible show wpAny _ _ (call (Value.builtin "sorted") _ _) _ _ _)); keq_rows))
local macro_rules | `(tactic| walk_at "exec For Name Name cons nil") => `(tactic| (k_here; (rename Fr _ _ _ _ => lF'); (with_unfolding_all refine' For_invVF lF' ?k1 ?k2 ?_; (case k1 => exact rfl); (case k2 => exact rfl); k_whole)))
local macro_rules | `(tactic| kn_posts) => `(tactic| refine kn_post2 (by assumption) (fun _ _ => rfl) ?_)
local macro_rules | `(tactic| ktr_rel) => `(tactic| repeat' ((fail_if_success (with_reducible show wpAny _ _ (eval (PySem.Expr.Lambda _ _ _ _) _) _ _ _)); keq_rows))
local macro_rules | `(tactic| ktr_unf) => `(tactic| repeat' ((fail_if_success (with_reducible show wpAny _ _ (eval (PySem.Expr.GeneratorExp _ _ _ _) _) _ _ _)); keq_rows))
local macro_rules | `(tactic| k_all) => `(tactic| assumption)
local macro_rules | `(tactic| walk_at "PostJ") => `(tactic| (dsimp only [PostJ]))
local macro_rules | `(tactic| k_mem) => `(tactic| ((with_reducible show List.Mem _ (_ ++ _)); assumption))
local macro_rules | `(tactic| walk_at "call builtin:len") => `(tactic| (k_here; (with_reducible show wpAny _ _ (call (Value.builtin "len") [Value.ref _]) _ _ _); k_dflt (refine' len_led ?k1 ?k2 ?k3 ?_; (case k1 => k_asm); (case k2 => k_mem); (case k3 => assumption); k_whole)))
local macro_rules | `(tactic| walk_at "subscriptTail") => `(tactic| (k_here; (with_reducible show wpAny _ _ (subscriptTail _ _ (Value.ref _) (Value.int _ _)) _ _ _); k_dflt (refine' item_led ?k1 ?k2 ?k3 ?k4 ?k5 ?_ ?k6; (case k1 => k_asm); (case k2 => k_mem); (case k5 => assumption); (case k3 => assumption); (case k4 => assumption); (case k6 => with_unfolding_all rfl); k_whole)))
local macro_rules | `(tactic| walk_at "eval Name") => `(tactic| ((with_reducible show wpAny _ _ (eval (PySem.Expr.Name _ _) (genEnv _ _ _ _ _ _)) _ _ _); k_dflt (first | (refine ldVarG (by assumption) (by assumption) ?_) | (refine ldFreeG rfl (by assumption) ?_))))
local macro_rules | `(tactic| kwd_less) => `(tactic| repeat' ((fail_if_success (with_reducible show wpAny _ _ (subscriptTail _ _ _ _) _ _ _)); (fail_if_success (with_reducible show wpAny _ _ (compareOp _ _ _) _ _ _)); keq_rows))
local macro_rules | `(tactic| tb_rel) => `(tactic| repeat' ((fail_if_success (with_reducible show wpAny _ _ (call (Value.type "enumerate") _) _ _ _)); keq_rows))
local macro_rules | `(tactic| walk_at "exec For Tuple Call cons nil") => `(tactic| (k_here; (rename Fr _ _ _ _ => lF'); (with_unfolding_all refine' For_turns lF' ?_; k_whole)))
local macro_rules | `(tactic| ksw_less) => `(tactic| repeat' ((fail_if_success (with_reducible show wpAny _ _ (subscriptTail _ _ _ _) _ _ _)); (fail_if_success (with_reducible show wpAny _ _ (delAttr _ _) _ _ _)); (fail_if_success (with_reducible show wpAny _ _ (setAttr _ _ _) _ _ _)); (fail_if_success (with_reducible show wpAny _ _ (call (Value.builtin "list.append") _) _ _ _)); (fail_if_success (with_reducible show PostW _ _ _ _ _ _ _ _ _)); keq_rows))
local macro_rules | `(tactic| walk_at "exec Delete") => `(tactic| (k_here; k_dflt (refine exec_del ?_)))
local macro_rules | `(tactic| tbn_conj) => `(tactic| repeat' ((fail_if_success (with_reducible show wpAny _ _ (setItem _ _ _) _ _ _)); (fail_if_success (with_reducible show PostW _ _ _ _ _ _ _ _ _)); keq_rows))
local macro_rules | `(tactic| walk_at "call builtin:list.append") => `(tactic| (k_here; (with_reducible show wpAny _ _ (call (Value.builtin _) [Value.ref _, _]) _ _ _); k_dflt (refine' append_led ?F ?N ?z ?U ?_; (case F => k_asm); (case N => k_asm); (case U => k_upd); (case z => assumption)); intro h' F' N'))
local macro_rules | `(tactic| walk_at "call ref") => `(tactic| (k_here; (with_reducible show wpAny _ _ (call (Value.ref 82) [Value.int _ _]) _ _ _); k_dflt (refine' own_call ?k1 ?k2 ?k3 ?k4 ?k5 ?k6 ?k7 ?k8 (fun h' tk' hn' F' N' => ?_) (fun h' tk' o' t' hn' F' N' => ?_); (case k1 => k_asm); (case k2 => k_asm); (case k3 => k_asm); (case k4 => k_asm); (case k5 => k_asm); (case k6 => exact rfl); (case k7 => ktr_room); (case k8 => ktr_units))))
theorem t : PySem.Challenge.rw_dn0254_03.Holds := hd (by
  w_strict (
    k_go0
    (all_goals try k_fold)
    bits_by_make
    rename Fr _ _ _ _ => F1
    rename News _ _ _ _ => N1
    rename IntsAre _ (List.take _ _) => hI
    rename _ = min _ _ => hmin
    have hwl := hI.length
    rename Shared => sB
    rename_i ls ws _ _ _ _ lm _ _ _ om dm lo _ _ _ oo dOo
    have ho : @LT.lt Nat _ ls lm ∧ @LT.lt Nat _ lm lo := by omega
    refine iter_listJ (LoopS _ _ _ _ _ _ _ _ _ _ _ _ _ _ (nsOf hI)) rfl (News.isList N1 (by k_mem)) (N1 _ (.tail _ (.tail _ (.head _)))).2.1 F1 N1 ⟨[], [], [], _, _, rfl, .nil, (fun _ h => nomatch h), .nil, rfl, (fun _ h => nomatch h), rfl⟩ ?turn ?done
    case turn =>
      intro I i v m₁ nw h tk own hv hJ hoI hown hIo hltI hlI F2 N2
      obtain ⟨M, T, vo, no, nm, rfl, hC, hOw, hvo, hMn, hTl, m1⟩ := hJ
      obtain ⟨n, t, rfl, hk⟩ := IntsAre.at hI i v hv
      replace F2 := fr_g1 F2 m1
      simp only [List.cons_append] at N2
      clear F1 N1
      have hi40 : i < 40 := by
        have := (List.getElem?_eq_some_iff.mp hv).1
        omega
      have hMl : M.length ≤ i := by
        have := congrArg List.length hMn
        rw [List.length_map, List.length_take] at this
        omega
      have lM : (madeV M).length ≤ 2 ^ 20 := by rw [madeV, List.length_map]; omega
      have lO : vo.length ≤ 2 ^ 20 := by
        have := hvo.length
        rw [List.length_map] at this
        omega
      have hIm : @LT.lt Nat _ lo I := hltI _ (.head _)
      have hoff : ∀ p ∈ T ++ own, @Ne Nat p.1 lo ∧ @Ne Nat p.1 lm := fun p hp => by
        rcases List.mem_append.mp hp with hp | hp
        · have q := hTl p hp
          omega
        · rcases hown p hp with e | e
          · have e' : @Eq Nat p.1 I := e
            omega
          · have e' : @Eq Nat p.1 ls := e
            omega
      have hofo : ∀ p ∈ T ++ own, p.1 ≠ lo := fun p hp => (hoff p hp).1
      have hofm : ∀ p ∈ T ++ own, p.1 ≠ lm := fun p hp => (hoff p hp).2
      repeat' ((fail_if_success (with_reducible show PostJ _ _ _ _ _ _ _ _ _)); keq_rows)
      all_goals rename (_ ∧ _ ∧ _ ∧ _ ∧ _ ∧ _ ∧ _ ∧ _ ∧ _ ∧ AllLt _ (T ++ own)) => hD1
      · exact endS none (by assumption) (by assumption) (by unfold clsOf; rw [if_neg (by assumption)]) (.none _) ⟨fun _ => by assumption, fun _ => rfl⟩ (by unfold ordOf; rw [if_neg (by assumption)]; rfl) hC hOw hvo hMn hk hTl hD1.1 hD1.2.2.2.2.2.2.2.2.2 (by assumption) hoI hIo rfl
      · exact endS (some _) (by assumption) (by assumption) (by unfold clsOf; rw [if_neg (by assumption)]) (.some _ _ _ _ _) ⟨(fun h => nomatch h), fun h => absurd h (by assumption)⟩ rfl hC hOw hvo hMn hk hTl hD1.1 hD1.2.2.2.2.2.2.2.2.2 (by assumption) hoI hIo rfl
      · exact endS none (by assumption) (by assumption) (by unfold clsOf; rw [if_pos (by assumption)]) (.none _) ⟨fun _ => by assumption, fun _ => rfl⟩ (by unfold ordOf; rw [if_pos (by assumption)]; rfl) hC hOw hvo hMn hk hTl hD1.1 hD1.2.2.2.2.2.2.2.2.2 (by assumption) hoI hIo rfl
      · exact endS (some _) (by assumption) (by assumption) (by unfold clsOf; rw [if_pos (by assumption)]) (.some _ _ _ _ _) ⟨(fun h => nomatch h), fun h => absurd h (by assumption)⟩ rfl hC hOw hvo hMn hk hTl hD1.1 hD1.2.2.2.2.2.2.2.2.2 (by assumption) hoI hIo rfl
    case done =>
      intro m₁ nw h tk hJ F2 N2
      obtain ⟨M, T, vo, no, nm, rfl, hC, hOw, hvo, hMn, hTl, m1⟩ := hJ
      clear F1 N1
      replace F2 := fr_f1 F2 m1
      have hM40 : M.length ≤ 40 := by
        have := congrArg List.length hMn
        rw [List.length_map, List.length_take] at this
        omega
      have lM : (madeV M).length ≤ 2 ^ 20 := by rw [madeV, List.length_map]; omega
      have hltR := lt_range N2
      have hLs := F2.ns.lt
      have hab := F2.above
      dsimp only
      ktr_rel
      rename IsRange _ _ _ _ _ _ _ _ => hR1
      rename Fr _ _ _ _ => F3
      rename News _ _ _ _ => N3
      have hof : ∀ p ∈ T, @Ne Nat p.1 84 := fun p hp => by
        have := hTl p hp
        omega
      have hofA : ∀ p ∈ T, p.1 ≠ 84 := hof
      have hof1 : ∀ p ∈ T, p.1 ≠ sB.heap.objs.size + 1 := fun p hp => by
        have := hTl p hp
        exact neN (by omega)
      have hof4 : ∀ p ∈ T, p.1 ≠ sB.heap.objs.size + 1 + 1 + 1 + 1 := fun p hp => by
        have := hTl p hp
        exact neN (by omega)
      have hof5 : ∀ p ∈ T, p.1 ≠ sB.heap.objs.size + 1 + 1 + 1 + 1 + 1 := fun p hp => by
        have := hTl p hp
        exact neN (by omega)
      replace N3 := news_range hLs hab N3 hR1
      have hRr := hltR _ (.head _)
      keq_hits
      rename Fr _ _ _ _ => F4
      rename News _ _ _ _ => N4
      have hlm : (madeV M).length = M.length := by rw [madeV, List.length_map]
      have hR4 := (N4 _ (.tail _ (.tail _ (.head _)))).1
      rw [hlm] at hR4
      k_dflt (refine sorted_range_key (n := M.length) (ka := ordAt M) (kb := fun i => (i : Int)) rfl F4 N4 hR4 (by omega) ?call ?done1)
      case call =>
        intro i t nw h5 tk5 hi hsub F5 N5
        have N6 : News _ _ _ _ := fun p hp => (List.mem_append.mp hp).elim (fun q => N5 p (hsub p q)) fun q => N5 p q
        simp only [List.cons_append] at N6
        obtain ⟨ti, hvi⟩ := intsAre_get hvo (i := i) (k := ordOf (hmAt M i)) (by rw [List.getElem?_map, hmAt_get hi]; rfl)
        clear F4 N4 F3 N3
        have i0 : 0 ≤ (i : Int) := by omega
        have i1 : (i : Int) < 2 ^ 63 := by omega
        have i2 : vo[(i : Int).toNat]? = some (Value.int (ordOf (hmAt M i)) ti) := by rw [Int.toNat_natCast]; exact hvi
        repeat' keq_rows
        rename (_ ∧ _ ∧ _ ∧ _ ∧ _ ∧ _ ∧ _ ∧ _ ∧ _ ∧ _ ∧ _ ∧ _ ∧ AllLt _ (_ ++ _)) => hAl
        exact keyPost_of (by assumption) (by assumption) (fun p hp => by repeat (first | exact List.mem_append_right _ hp | apply List.Mem.tail)) fun p hp => allLt_ne hAl.2.2.2.2.2.2.2.2.2.2.2.2 p (List.mem_append_right _ hp)
      case done1 =>
        intro h5 tk5 lu cu us p hp hs hus F5 N5 hD5
        replace N5 := news_sub N5 (news' := _ :: _ :: _ :: _ :: _ :: _ :: _ :: _ :: _ :: _ :: T) (drop3 N5)
        clear F4 N4 F3 N3
        keq_hits
        rename Fr _ _ _ _ => F6
        rename News _ _ _ _ => N6
        have hm6 := N6
        k_dflt (refine sorted_list_by (b := false) (vs := madeV M) (os := ordAt M) (args_sorted1 _) (fun _ => args_list_sort _) revTree_nil F6 N6 (News.isList N6 (by k_mem)) (by omega) (kind_hm fun r hr => (hC.hd r hr).mono tail10) ?ask1 ?done2)
        case ask1 =>
          k_dflt (exact ask_hm (by k_asm) (by k_asm) (by k_asm) rfl (by ktr_room) (by ktr_units) fun r hr => (hC.hd r hr).mono tail10)
        case done2 =>
          intro h7 tk7 lr cr p2 hp2 hs2 F7 N7 hD7
          rw [hlm] at hp2
          have e2 : p2 = p := perm_unique (fun i j => sortedBy_asymm i j) (hp2.trans hp.symm) hs2 (hs.imp fun h => rk_sortedBy h)
          subst e2
          clear hp2 hs2 F6 N6 hm6
          k_lt hD5
          k_lt hD7
          ktr_unf
          rename Fr _ _ _ _ => F8
          rename News _ _ _ _ => N8
          rename Top topProg _ _ _ _ _ => hTop
          rename CodeHd _ _ _ => hCd
          have hm8 := tab10 N8
          obtain ⟨bm, ob, hBM⟩ := bmod_of_top hTop
          have hg8 := (N8 _ hm8).2.2
          have hPs : @LT.lt Nat _ 84 (ghostOf sB.heap [(88, 84)]).objs.size := by rw [hideAll_size]; omega
          (with_reducible apply gen_T (ghost_up F8 N8 hm8 hPs) (ghost_based hCd hTop hg8 hPs (by kn_triples)))
          (case M => exact ghost_bmod hg8 hBM)
          (case hcode => with_unfolding_all rfl)
          (case hnf => kn_among)
          (case hh => with_unfolding_all rfl)
          (case hco => with_unfolding_all rfl)
          (case hclos => with_unfolding_all rfl)
          (case hcell => decide)
          (case h0 => with_unfolding_all rfl)
          (case hxa => with_unfolding_all rfl)
          (case hxb => with_unfolding_all rfl)
          (case hab => decide)
          (case hkind => with_unfolding_all rfl)
          (case hroom => (simp only [depth_deeper, depth_caller]; decide))
          (case hs => intro _; with_unfolding_all rfl)
          repeat' ((fail_if_success (with_reducible show wpAny _ _ (call (Value.type "enumerate") _) _ _ _)); keq_rows)
          have h84u : @Ne Nat 84 lu := by omega
          k_dflt (refine src_enum (fun _ y => y = .bool false) (vs := us) (News.isList N8 (.tail _ (.head _))) (ghost_up F8 N8 hm8 hPs) (bare_nil (by assumption)) (hTop.nolimit.keeps F8.keep) (Heap.lt_size (N8 _ hm8).1) h84u ?hel ?hQ)
          case hel =>
            intro c' C A' E' i tk v t m₂ hA hD hU hvi F9 hma hmb hLC hkp
            obtain ⟨n, ti, rfl, hn⟩ := IntsAre.at hus i v hvi
            obtain ⟨k, hk, rfl⟩ : ∃ k : Nat, p2[i]? = some k ∧ n = (k : Int) := by
              rw [List.getElem?_map] at hn
              cases e : p2[i]? with
              | none => rw [e] at hn; cases hn
              | some k => rw [e] at hn; exact ⟨k, rfl, (Option.some.inj hn).symm⟩
            have hkM : k < M.length := by simpa using hp.mem_iff.mp (List.mem_of_getElem? hk)
            have hi64 : i < 64 := by
              have h1 := (List.getElem?_eq_some_iff.mp hk).1
              have h2 := hp.length_eq
              rw [List.length_range] at h2
              omega
            have kp : ∀ a o, (a, o) ∈ _ → @Ne Nat a 84 → t.heap.get? a = some o := fun a o hm hne => hkp a o hne (Heap.lt_size (N8 _ hm).1) (N8 _ hm).1
            have g1 : t.heap.IsList lm (madeV M).toArray := ⟨_, kp _ _ (.tail _ (.tail _ (.tail _ (.head _)))) (by omega), rfl, _, rfl⟩
            have g2 : t.heap.IsList lr (p2.map fun i => (madeV M).getD i Value.none).toArray := ⟨_, kp _ _ (.head _) (by omega), rfl, _, rfl⟩
            have g3 : t.heap.IsCell _ (some (.ref lr)) := ⟨_, kp _ _ (.tail _ (.tail _ (.tail _ (.tail _ (.tail _ (.head _)))))) (by omega), by assumption⟩
            have g4 : t.heap.IsCell _ (some (.ref lm)) := ⟨_, kp _ _ (.tail _ (.tail _ (.tail _ (.tail _ (.tail _ (.tail _ (.tail _ (.tail _ (.head _))))))))) (by omega), dm⟩
            have j0 : 0 ≤ (k : Int) := by omega
            have j1 : (k : Int) < 2 ^ 63 := by omega
            have j2 : (madeV M)[(k : Int).toNat]? = some (Value.ref (hmAt M k).x) := by
              rw [Int.toNat_natCast]
              simp [madeV, hmAt, List.getD, hkM]
            have i0 : 0 ≤ (i : Int) := by omega
            have i1 : (i : Int) < 2 ^ 63 := by omega
            have i2 : (p2.map fun i => (madeV M).getD i Value.none)[(i : Int).toNat]? = some (Value.ref (hmAt M k).x) := by
              rw [Int.toNat_natCast, List.getElem?_map, hk, Option.map_some, madeV_get hkM]
            clear F8 N8
            kwd_less
            k_dflt (refine item_isl g2 i0 i1 i2 ?_)
            kwd_less
            k_dflt (refine item_isl g1 j0 j1 j2 ?_)
            kwd_less
            k_dflt (refine isNot_self ?_)
            kwd_less
            all_goals first
              | rfl
              | exact ⟨_, _, rfl, fun _ _ e => e⟩
              | (refine isNot_self ?_; exact ⟨rfl, _, _, rfl, fun _ _ e => e⟩)
              | exact ⟨rfl, _, _, rfl, fun _ _ e => e⟩
          case hQ =>
            intro c' a s₅ B₅ F₅ G₅ hos hk₅ X
            have F5' := ghost_down hg8 F₅
            have hT5 := ghost_tab hPs F₅
            keq_rows
            k_dflt (refine any_false F5' G₅ (by simpa using X) (Nat.le_sub_one_of_lt F8.ns.lt) ?_)
            intro s' F' G' hos' hk'
            have h0sz : 0 < (Heap.objs _).size := Nat.lt_of_le_of_lt (Nat.zero_le _) F8.ns.lt
            have N9 := news_after (ps' := _) N8 (fun b o hb hlt e => hk' b o (Nat.le_sub_one_of_lt hlt) (hk₅ b o hb e)) (hk' _ _ (Nat.le_sub_one_of_lt (Heap.lt_size (N8 _ hm8).1)) hT5) (by k_upd)
            obtain ⟨h9, g9, d9, t9, o9⟩ := s'
            obtain ⟨h5, g5, d5, t5, o5⟩ := s₅
            dsimp only at hos hos' F' G' N9
            subst hos'
            clear F5' hT5 hk' hk₅ X F₅ G₅ B₅ F8 N8
            subst hos
            tb_rel
            rename Fr _ _ _ _ => F10
            rename News _ _ _ _ => N10
            rename (_ ∧ _ ∧ _ ∧ _ ∧ _ ∧ _ ∧ _ ∧ _ ∧ _ ∧ _ ∧ _ ∧ AllLt _ T) => hAT
            rename_i la _ _ oc1 dc1
            have hTla : ∀ p ∈ T, @LT.lt Nat _ p.1 la := allLt_mem hAT.2.2.2.2.2.2.2.2.2.2.2
            have hTlu : ∀ p ∈ T, @LT.lt Nat _ p.1 lu := allLt_mem hD5.2.2.2.2.2.2.2.2.2.2.2.2
            refine iter_enumT (LoopT _ _ _ _ _ _ _ _ _ _ _ _ _ _ _ _ _ _ _ _ _ _ M) rfl (News.isList N10 (by k_mem)) (N10 _ (.tail _ (.tail _ (.tail _ (.tail _ (.tail _ (.head _))))))).2.1 F10 N10 ⟨T, [], _, rfl, by rw [turnTo_zero]; exact hC, .nil, fun p hp => ⟨hTl p hp, hTlu p hp⟩, rfl⟩ ?turn2 ?done3
            case turn2 =>
              intro I i v m₃ nw h tk own TT t hv hJ hoI hown hIo hIo1 hltI hlI F11 N11 hTT
              obtain ⟨T', vl, nl, rfl, hC', hvl, hTl', m3⟩ := hJ
              obtain ⟨n, t', rfl, hn⟩ := IntsAre.at hI i v hv
              clear F10 N10
              replace F11 := fr_f1 F11 m3
              simp only [List.cons_append] at N11
              have hiw : i < ws.length := (List.getElem?_eq_some_iff.mp hv).1
              have hMl : M.length = ws.length := by
                have := congrArg List.length hMn
                rw [List.length_map, List.length_take, show (nsOf hI).length = ws.length by first | exact hI.length | exact hI.length.symm] at this
                omega
              obtain ⟨r, hr⟩ : ∃ r, M[i]? = some r := ⟨M[i], by simp⟩
              have hrn : r.n = n := by
                have e : (M.map (·.n))[i]? = ((nsOf hI).take ws.length)[i]? := by rw [hMn]
                rw [List.getElem?_map, hr, List.getElem?_take_of_lt hiw] at e
                exact Option.some.inj (e.trans hn)
              obtain ⟨to, hvi⟩ := intsAre_get hvo (i := i) (k := ordOf r) (by rw [List.getElem?_map, hr]; rfl)
              have i0 : 0 ≤ (i : Int) := by omega
              have i1 : (i : Int) < 2 ^ 63 := by omega
              have i2 : vo[(i : Int).toNat]? = some (Value.int (ordOf r) to) := by rw [Int.toNat_natCast]; exact hvi
              have i3 : (madeV M)[(i : Int).toNat]? = some (Value.ref r.x) := by rw [Int.toNat_natCast, madeV, List.getElem?_map, hr]; rfl
              have hsp := turnTo_split hr
              obtain ⟨hx1, od, hx2, hx3⟩ : HdAt T' r := hC'.hd r (by rw [hsp.1]; simp)
              have hb := hTl' _ hx2
              k_lt hltI
              have hltI' : @LT.lt Nat _ la I ∧ @LT.lt Nat _ lr I ∧ @LT.lt Nat _ lu I ∧ @LT.lt Nat _ lo I ∧ @LT.lt Nat _ lm I ∧ @LT.lt Nat _ ls I ∧ @LT.lt Nat _ (sB.heap.objs.size + 1 + 1 + 1 + 1 + 1) I ∧ @LT.lt Nat _ (sB.heap.objs.size + 1 + 1 + 1 + 1) I ∧ @LT.lt Nat _ (sB.heap.objs.size + 1 + 1 + 1) I ∧ @LT.lt Nat _ (sB.heap.objs.size + 1 + 1) I ∧ @LT.lt Nat _ (sB.heap.objs.size + 1) I ∧ @LT.lt Nat _ 84 I := by omega
              have hown' : ∀ p ∈ own, p.1 ≠ r.dx := fun p hp => by
                rcases hown p hp with e | e | e
                · have e' : @Eq Nat p.1 (I + 1) := e
                  exact neN (by omega)
                · have e' : @Eq Nat p.1 I := e
                  exact neN (by omega)
                · have e' : @Eq Nat p.1 ls := e
                  exact neN (by omega)
              have hla0 : ∀ p ∈ T' ++ own, p.1 ≠ la := fun p hp => by
                rcases List.mem_append.mp hp with hp | hp
                · have := (hTl' p hp).2
                  exact neN (by omega)
                · rcases hown p hp with e | e | e
                  · have e' : @Eq Nat p.1 (I + 1) := e
                    exact neN (by omega)
                  · have e' : @Eq Nat p.1 I := e
                    exact neN (by omega)
                  · have e' : @Eq Nat p.1 ls := e
                    exact neN (by omega)
              have hdla : @Ne Nat r.dx la := by omega
              have hla' : ∀ o, ∀ p ∈ (r.dx, o) :: (off r.dx T' ++ own), p.1 ≠ la := fun o p hp => by
                rcases List.mem_cons.mp hp with rfl | hp
                · exact hdla
                · rcases List.mem_append.mp hp with hp | hp
                  · exact hla0 p (List.mem_append_left _ (mem_off.mp hp).1)
                  · exact hla0 p (List.mem_append_right _ hp)
              have hT'' : ∀ o, ∀ p ∈ (r.dx, o) :: off r.dx T', @LT.lt Nat _ lo p.1 ∧ @LT.lt Nat _ p.1 lu := fun o p hp => by
                rcases List.mem_cons.mp hp with rfl | hp
                · exact hb
                · exact hTl' p (mem_off.mp hp).1
              have hvl20 : vl.length ≤ 2 ^ 20 := by
                have := hvl.length
                rw [List.length_map, List.length_take] at this
                omega
              kwd_less
              rename News _ _ _ _ => N12
              k_dflt (refine item_led N12 (.tail _ (.tail _ (.tail _ (.head _)))) i0 i1 i2 ?_)
              ksw_less
              all_goals rename Fr _ _ _ _ => F13
              all_goals rename News _ _ _ _ => N13
              · k_dflt (refine item_led N13 (.tail _ (.tail _ (.tail _ (.tail _ (.head _))))) i0 i1 i3 ?_)
                obtain ⟨o, ho⟩ : ∃ o, r.own = some o := by
                  cases e : r.own with
                  | none => exact absurd ((hOw r (List.mem_of_getElem? hr)).mp e) (by rw [hrn]; assumption)
                  | some o => exact ⟨o, rfl⟩
                rw [ho] at hx3
                cases hx3 with
                | some o hsh tq tv nv =>
                  k_dflt (refine del_ord (pre := [_, _, _, _, _, _, _, _, _, _, _, _]) F13 (by k_asm) N13 hx1 hx2 (clsOf_two _) (pre_ne (by omega)) hown' ?_)
                  intro h14 tk14 n14 F14 N14
                  simp only [List.cons_append, List.nil_append] at N14
                  ksw_less
                  all_goals rename Fr _ _ _ _ => F15
                  all_goals rename News _ _ _ _ => N15
                  all_goals k_dflt (refine append_led F15 N15 hvl20 (.head (rest_ne (by omega) (hla' _))) ?_)
                  all_goals intro h16 F16 N16
                  all_goals ksw_less
                  all_goals exact endT (T := (r.dx, _) :: off r.dx T') (by assumption) N16 hr (by rw [hsp.2]; rw [hsp.1] at hC'; exact hC'.set (turn2_x r) (turn2_dx r) (turn2_n r) (by unfold turn2; rw [hrn, if_neg (by assumption), if_neg (by assumption)]; exact .none _)) hvl (by unfold turn2 ordOf; rw [hrn, if_neg (by assumption), if_neg (by assumption)]; simp [*]) (hT'' _) rfl hltI'
              · k_dflt (refine item_led N13 (.tail _ (.tail _ (.tail _ (.tail _ (.head _))))) i0 i1 i3 ?_)
                have ho : r.own = none := (hOw r (List.mem_of_getElem? hr)).mpr (by rw [hrn]; assumption)
                rw [ho] at hx3
                cases hx3 with
                | none nv =>
                  k_dflt (refine set_ord (pre := [_, _, _, _, _, _, _, _, _, _, _, _]) F13 (by k_asm) N13 hx1 hx2 (clsOf_two _) (pre_ne (by omega)) hown' ?_)
                  intro h14 tk14 hsh tq n14 F14 N14
                  simp only [List.cons_append, List.nil_append] at N14
                  ksw_less
                  rename Fr _ _ _ _ => F15
                  rename News _ _ _ _ => N15
                  k_dflt (refine append_led F15 N15 hvl20 (.head (rest_ne (by omega) (hla' _))) ?_)
                  intro h16 F16 N16
                  ksw_less
                  exact endT (T := (r.dx, _) :: off r.dx T') (by assumption) N16 hr (by rw [hsp.2]; rw [hsp.1] at hC'; exact hC'.set (turn2_x r) (turn2_dx r) (turn2_n r) (by unfold turn2; rw [hrn, if_neg (by assumption), if_pos (by assumption)]; exact .some _ _ _ _ _)) hvl (by unfold turn2 ordOf; rw [hrn, if_neg (by assumption), if_pos (by assumption)]; rfl) (hT'' _) rfl hltI'
              · k_dflt (refine append_led F13 N13 hvl20 (.head (rest_ne (by omega) hla0)) ?_)
                intro h16 F16 N16
                ksw_less
                have hsame : turn2 r = r := by unfold turn2; rw [hrn, if_pos (by assumption)]
                exact endT (T := T') (by assumption) N16 hr (by rw [hsp.2, hsame, ← hsp.1]; exact hC') hvl (by rw [hsame]) hTl' rfl hltI'
            case done3 =>
              intro m₄ nw h17 tk17 hJ F17 N17
              obtain ⟨T', vl, nl, rfl, hC', hvl, hTl', m4⟩ := hJ
              have hMl : M.length = ws.length := by
                have := congrArg List.length hMn
                rw [List.length_map, List.length_take, show (nsOf hI).length = ws.length by first | exact hI.length | exact hI.length.symm] at this
                omega
              rw [← hMl, turnTo_all] at hC'
              rw [← hMl, List.take_length] at hvl
              replace F17 := fr_f1 F17 m4
              clear F10 N10
              have hof1' : ∀ p ∈ T', p.1 ≠ sB.heap.objs.size + 1 := fun p hp => by
                have := (hTl' p hp).1
                exact neN (by omega)
              have hof4' : ∀ p ∈ T', p.1 ≠ sB.heap.objs.size + 1 + 1 + 1 + 1 := fun p hp => by
                have := (hTl' p hp).1
                exact neN (by omega)
              have hof5' : ∀ p ∈ T', p.1 ≠ sB.heap.objs.size + 1 + 1 + 1 + 1 + 1 := fun p hp => by
                have := (hTl' p hp).1
                exact neN (by omega)
              have hof84 : ∀ p ∈ T', p.1 ≠ 84 := fun p hp => by
                have := (hTl' p hp).1
                exact neN (by omega)
              tb_rel
              rename Fr _ _ _ _ => F18
              rename News _ _ _ _ => N18
              rename Obj.IsDictOf (intKind _ _) _ _ => hdi
              rename (_ ∧ _ ∧ _ ∧ _ ∧ _ ∧ _ ∧ _ ∧ _ ∧ _ ∧ _ ∧ _ ∧ _ ∧ AllLt _ T') => hAd
              have hTd := allLt_mem hAd.2.2.2.2.2.2.2.2.2.2.2.2
              have hpnd : p2.Nodup := hp.nodup_iff.mpr List.nodup_range
              have hpl : p2.length = M.length := by simpa using hp.length_eq
              have hul : us.length = M.length := by rw [hus.length, List.length_map, hpl]
              refine iter_enumT (LoopR _ _ _ _ _ p2) rfl (News.isList N18 (.tail _ (.tail _ (.tail _ (.head _))))) (N18 _ (.tail _ (.tail _ (.tail _ (.head _))))).2.1 F18 N18 ⟨_, _, rfl, hdi, Nat.le_refl _, (fun j k hj => absurd hj (Nat.not_lt_zero _)), rfl⟩ ?turn3 ?done4
              case turn3 =>
                intro I i v m₅ nw h tk own TT t hv hJ hoI hown hIo hIo1 hltI hlI F19 N19 hTT
                obtain ⟨od2, kvs, rfl, hd2, hl2, hv2, m5⟩ := hJ
                obtain ⟨n, ti, rfl, hn⟩ := IntsAre.at hus i v hv
                obtain ⟨k, hk, rfl⟩ : ∃ k : Nat, p2[i]? = some k ∧ n = (k : Int) := by
                  rw [List.getElem?_map] at hn
                  cases e : p2[i]? with
                  | none => rw [e] at hn; cases hn
                  | some k => rw [e] at hn; exact ⟨k, rfl, (Option.some.inj hn).symm⟩
                clear F18 N18
                replace F19 := fr_f1 F19 m5
                simp only [List.cons_append] at N19
                have hkv : kvs.length ≤ sizeLine := by
                  have h1 := (List.getElem?_eq_some_iff.mp hk).1
                  rw [sizeLine_eq]; omega
                tbn_conj
                rename Fr _ _ _ _ => F20
                rename News _ _ _ _ => N20
                have hltd : @LT.lt Nat _ _ I := hltI _ (.head _)
                have hltu : @LT.lt Nat _ _ I := hltI _ (.tail _ (.tail _ (.tail _ (.head _))))
                dsimp only at hltd hltu
                k_dflt (refine kda_set (knd := PySem.intKind _ _) F20 N20 (.head (rest_ne (by omega) fun q hq => ?_)) hd2 (intKind_is _ _ _ _) hkv ?_)
                · rcases List.mem_cons.mp hq with rfl | hq
                  · exact neN (by omega)
                  · rcases List.mem_append.mp hq with hq | hq
                    · have := hTd q hq
                      exact neN (by omega)
                    · rcases hown q hq with e | e | e
                      · have e' : @Eq Nat q.1 (I + 1) := e
                        exact neN (by omega)
                      · have e' : @Eq Nat q.1 I := e
                        exact neN (by omega)
                      · have e' : @Eq Nat q.1 lu := e
                        exact neN (by omega)
                intro h21 o21 F21 N21 hd21
                tbn_conj
                exact endR (by assumption) (by assumption) hd21 hl2 hpnd hk hv2 rfl fun q hq => (List.mem_cons.mp hq).elim (fun e => by rw [e]; exact hltd) fun hq => hltI q (.tail _ hq)
              case done4 =>
                intro m₆ nw h22 tk22 hJ F22 N22
                obtain ⟨od2, kvs, rfl, hd2, hl2, hv2, m6⟩ := hJ
                replace F22 := fr_f1 F22 m6
                clear F18 N18
                rw [hul] at hv2
                have hrank : ∀ k : Nat, k < M.length → ∃ t, valueAt kvs (k : Int) = some (.int (p2.idxOf k : Int) t) := fun k hk => hv2 _ k (by rw [← hpl]; exact List.idxOf_lt_length_iff.mpr (hp.mem_iff.mpr (by simpa using hk))) (idx_of hp hk)
                have hltR := lt_range N22
                have hLs := F22.ns.lt
                have hab := F22.above
                ktr_rel
                rename IsRange _ _ _ _ _ _ _ _ => hR2
                rename Fr _ _ _ _ => F23
                rename News _ _ _ _ => N23
                replace N23 := news_range hLs hab N23 hR2
                have hRr2 := hltR _ (.head _)
                keq_hits
                rename Fr _ _ _ _ => F24
                rename News _ _ _ _ => N24
                have hR24 := (N24 _ (.tail _ (.tail _ (.head _)))).1
                rw [hlm] at hR24
                k_dflt (refine sorted_range_key (n := M.length) (ka := fun i => -(ordOf (turn2 (hmAt M i)))) (kb := fun i => (p2.idxOf i : Int)) rfl F24 N24 hR24 (by omega) ?call2 ?done5)
                case call2 =>
                  intro i t nw h5 tk5 hi hsub F5 N5
                  have N6 : News _ _ _ _ := fun p hp => (List.mem_append.mp hp).elim (fun q => N5 p (hsub p q)) fun q => N5 p q
                  simp only [List.cons_append] at N6
                  obtain ⟨ti, hvi⟩ := intsAre_get hvl (i := i) (k := ordOf (turn2 (hmAt M i))) (by rw [List.getElem?_map, hmAt_get hi]; rfl)
                  obtain ⟨tr, hri⟩ := hrank i hi
                  clear F24 N24 F23 N23
                  have i0 : 0 ≤ (i : Int) := by omega
                  have i1 : (i : Int) < 2 ^ 63 := by omega
                  have i2 : vl[(i : Int).toNat]? = some (Value.int (ordOf (turn2 (hmAt M i))) ti) := by rw [Int.toNat_natCast]; exact hvi
                  kwd_less
                  rename News _ _ _ _ => N7
                  k_dflt (refine item_led N7 (.tail _ (.tail _ (.tail _ (.tail _ (.head _))))) i0 i1 i2 ?_)
                  kwd_less
                  rename News _ _ _ _ => N8
                  have hszl : ∀ p ∈ T' ++ nw, @LT.lt Nat _ p.1 _ := fun p hp => Heap.lt_size (N8 p (by repeat (first | exact hp | apply List.Mem.tail))).1
                  k_dflt (refine kda_item (knd := PySem.intKind _ _) N8 (.tail _ (.tail _ (.tail _ (.head _)))) hd2 (intKind_is _ _ _ _) hri ?_)
                  repeat' keq_rows
                  exact keyPost_of (by assumption) (by assumption) (fun p hp => by repeat (first | exact List.mem_append_right _ hp | apply List.Mem.tail)) fun p hp => Nat.ne_of_lt (hszl p (List.mem_append_right _ hp))
                case done5 =>
                  intro h25 tk25 lw cw us2 p3 hp3 hs3 hus2 F25 N25 hD25
                  replace N25 := news_sub N25 (news' := _ :: _ :: _ :: _ :: _ :: _ :: _ :: _ :: _ :: _ :: _ :: _ :: _ :: _ :: T') (drop3 N25)
                  clear F24 N24 F23 N23
                  have hb2 : ∀ i ∈ p2, i < M.length := fun i hi => by simpa using hp.mem_iff.mp hi
                  have hrv := rowM_made (M := M) hb2
                  rw [← hrv] at N25
                  have hm2 : ∀ r ∈ rowM M p2, HdAt T' r := fun r hr => by
                    obtain ⟨i, hi, rfl⟩ := List.mem_map.mp hr
                    exact hC'.hd _ (turn_mem (hb2 i hi))
                  have hl2' : (madeV (rowM M p2)).length = M.length := by rw [madeV, List.length_map, rowM_len, hpl]
                  keq_hits
                  rename Fr _ _ _ _ => F26
                  rename News _ _ _ _ => N26
                  k_dflt (refine sorted_list_by (b := true) (vs := madeV (rowM M p2)) (os := ordAt (rowM M p2)) (args_sorted_rev _ _) (fun _ => args_list_sort_rev _ _) (fun _ => revTree_kw _ _) F26 N26 (News.isList N26 (.tail _ (.tail _ (.tail _ (.head _))))) (by omega) (kind_hm fun r hr => (hm2 r hr).mono tail14) ?ask2 ?done6)
                  case ask2 =>
                    k_dflt (exact ask_hm (by k_asm) (by k_asm) (by k_asm) rfl (by ktr_room) (by ktr_units) fun r hr => (hm2 r hr).mono tail14)
                  case done6 =>
                    intro h27 tk27 lr2 cr2 p4 hp4 hs4 F27 N27 hD27
                    rw [hl2'] at hp4
                    have e34 := down_eq hp hp3 hs3 hp4 hs4
                    k_lt hD25
                    k_lt hD27
                    clear F26 N26
                    ktr_unf
                    rename Fr _ _ _ _ => F28
                    rename News _ _ _ _ => N28
                    have hm28 := tab14 N28
                    have hg28 := (N28 _ hm28).2.2
                    (with_reducible apply gen_T (ghost_up F28 N28 hm28 hPs) (ghost_based hCd hTop hg28 hPs (by kn_triples)))
                    (case M => exact ghost_bmod hg28 hBM)
                    (case hcode => with_unfolding_all rfl)
                    (case hnf => kn_among)
                    (case hh => with_unfolding_all rfl)
                    (case hco => with_unfolding_all rfl)
                    (case hclos => with_unfolding_all rfl)
                    (case hcell => decide)
                    (case h0 => with_unfolding_all rfl)
                    (case hxa => with_unfolding_all rfl)
                    (case hxb => with_unfolding_all rfl)
                    (case hab => decide)
                    (case hkind => with_unfolding_all rfl)
                    (case hroom => (simp only [depth_deeper, depth_caller]; decide))
                    (case hs => intro _; with_unfolding_all rfl)
                    repeat' ((fail_if_success (with_reducible show wpAny _ _ (call (Value.type "enumerate") _) _ _ _)); keq_rows)
                    have h84w : @Ne Nat 84 lw := by omega
                    k_dflt (refine src_enum (fun _ y => y = .bool true) (vs := us2) (News.isList N28 (.tail _ (.head _))) (ghost_up F28 N28 hm28 hPs) G' (hTop.nolimit.keeps F28.keep) (Heap.lt_size (N28 _ hm28).1) h84w ?hel2 ?hQ2)
                    case hel2 =>
                      intro c' C A' E' i tk v t m₂ hA hD hU hvi F9 hma hmb hLC hkp
                      obtain ⟨n, ti, rfl, hn⟩ := IntsAre.at hus2 i v hvi
                      obtain ⟨q, hq, rfl⟩ : ∃ q : Nat, p4[i]? = some q ∧ n = ((p2.getD q 0 : Nat) : Int) := by
                        rw [e34, List.getElem?_map, List.getElem?_map] at hn
                        cases e : p4[i]? with
                        | none => rw [e] at hn; cases hn
                        | some q => rw [e] at hn; exact ⟨q, rfl, (Option.some.inj hn).symm⟩
                      have hqM : q < p2.length := by rw [hpl]; simpa using hp4.mem_iff.mp (List.mem_of_getElem? hq)
                      have hkM : p2.getD q 0 < M.length := hb2 _ (by simp [List.getD, hqM])
                      have hi64 : i < 64 := by
                        have h1 := (List.getElem?_eq_some_iff.mp hq).1
                        have h2 := hp4.length_eq
                        rw [List.length_range] at h2
                        omega
                      have kp : ∀ a o, (a, o) ∈ _ → @Ne Nat a 84 → t.heap.get? a = some o := fun a o hm hne => hkp a o hne (Heap.lt_size (N28 _ hm).1) (N28 _ hm).1
                      have g1 : t.heap.IsList lm (madeV M).toArray := ⟨_, kp _ _ (.tail _ (.tail _ (.tail _ (.tail _ (.tail _ (.tail _ (.tail _ (.head _)))))))) (by omega), rfl, _, rfl⟩
                      have g2 : t.heap.IsList lr2 (p4.map fun i => (madeV (rowM M p2)).getD i Value.none).toArray := ⟨_, kp _ _ (.head _) (by omega), rfl, _, rfl⟩
                      have g3 : t.heap.IsCell _ (some (.ref lr2)) := ⟨_, kp _ _ (.tail _ (.tail _ (.tail _ (.tail _ (.tail _ (.tail _ (.tail _ (.tail _ (.tail _ (.head _)))))))))) (by omega), by assumption⟩
                      have g4 : t.heap.IsCell _ (some (.ref lm)) := ⟨_, kp _ _ (.tail _ (.tail _ (.tail _ (.tail _ (.tail _ (.tail _ (.tail _ (.tail _ (.tail _ (.tail _ (.tail _ (.tail _ (.head _))))))))))))) (by omega), dm⟩
                      have j0 : 0 ≤ ((p2.getD q 0 : Nat) : Int) := by omega
                      have j1 : ((p2.getD q 0 : Nat) : Int) < 2 ^ 63 := by omega
                      have j2 : (madeV M)[((p2.getD q 0 : Nat) : Int).toNat]? = some (Value.ref (hmAt M (p2.getD q 0)).x) := by
                        rw [Int.toNat_natCast, madeV, List.getElem?_map, hmAt_get hkM]; rfl
                      have i0 : 0 ≤ (i : Int) := by omega
                      have i1 : (i : Int) < 2 ^ 63 := by omega
                      have i2 : (p4.map fun i => (madeV (rowM M p2)).getD i Value.none)[(i : Int).toNat]? = some (Value.ref (hmAt M (p2.getD q 0)).x) := by
                        rw [Int.toNat_natCast, List.getElem?_map, hq, Option.map_some, madeV_get (by rw [rowM_len]; exact hqM), rowM_at hqM, turn2_x]
                      clear F28 N28
                      kwd_less
                      k_dflt (refine item_isl g2 i0 i1 i2 ?_)
                      kwd_less
                      k_dflt (refine item_isl g1 j0 j1 j2 ?_)
                      kwd_less
                      k_dflt (refine wpAny_is_ref_self ?_)
                      kwd_less
                      all_goals first
                        | rfl
                        | exact ⟨_, _, rfl, fun _ _ e => e⟩
                        | exact ⟨rfl, _, _, rfl, fun _ _ e => e⟩
                    case hQ2 =>
                      intro c' a s₅ B₅ F₅ G₅ hos hk₅ X
                      have F5' := ghost_down hg28 F₅
                      have hT5 := ghost_tab hPs F₅
                      keq_rows
                      k_dflt (refine all_true F5' G₅ (by simpa using X) (Nat.le_sub_one_of_lt F28.ns.lt) ?_)
                      intro s' F' G'' hos' hk'
                      have N29 := news_after (ps' := _) N28 (fun b o hb hlt e => hk' b o (Nat.le_sub_one_of_lt hlt) (hk₅ b o hb e)) (hk' _ _ (Nat.le_sub_one_of_lt (Heap.lt_size (N28 _ hm28).1)) hT5) (by k_upd)
                      obtain ⟨h9, g9, d9, t9, o9⟩ := s'
                      obtain ⟨h5, g5, d5, t5, o5⟩ := s₅
                      dsimp only at hos hos' F' G'' N29
                      subst hos'
                      subst hos
                      clear F5' hT5 hk' hk₅ X F₅ G₅ B₅ F28 N28
                      refine ⟨⟨?gw, ⟨GrownAt.of N29 (tab14 N29), trivial⟩⟩, G''⟩
                      refine goodW_bool F' rfl (raisesW_false ?_) ?_
                      · wrow_none_raised
                      · exact post_true _
      ))
end Mine


theorem PySem.Challenge.cw_dn0254_03_holds : PySem.Challenge.rw_dn0254_03.Holds :=
  Mine.t
