import PyProof.Rows.All
import Wide.All
import OpenK.AllK
import Wide.FinOn
import PySem.Challenge.RW_dn0254_09
open PySem PySem.W PyProof.Rows PySem.Calls
set_option Elab.async false
set_option maxRecDepth 100000
namespace Mine
set_option maxHeartbeats 8000000
open_top hd for PySem.Challenge.rw_dn0254_09
end Mine
set_option maxHeartbeats 8000000

namespace Mine
theorem entry_hasattr : entryFor table "hasattr" = some Builtin.«hasattr» := entryFor_of_tree (by kernel_rfl)
theorem kind_hasattr : builtinKind "hasattr" = none := by decide +kernel
theorem plain_hasattr : plainId "hasattr" = true := by decide +kernel
theorem args_hasattr2 (a b : Value) : argsOk "hasattr" ⟨[a, b], []⟩ := by unfold argsOk; kernel_rfl

section
variable {prog : Program} {w : World} {A : Around} {E : Value → Shared → Prop} {s : Shared} {K : Frag} {x C L f : Addr} {h₀ : Heap} {m : Str → Option Value} {ox : Obj} {od : Option Obj}
theorem getBy_open {expr fill : Bool} {Q : Value → Shared → Prop} {name : Str} {tk : Tok} (X : K.In s.heap) (I : W.InstAt s.heap x ox C od) (hga : findIn K (.ref C) "__getattribute__" = some (some (.builtin "object.__getattribute__")))
    (h : wpAny (model prog w) A.in1 (Builtin.«proto.getattr_hooked» ⟨[.ref x, .str name tk], []⟩)
      (fun fin s' => match fin with | .done (.ret v) => wpAny (model prog w) A (handedOut v) Q E s' | _ => False) (fun e s' => wpAny (model prog w) A (noteIf fill (.ref x) (.str name tk) e) (fun _ s'' => E e s'') E s') s) :
    wpAny (model prog w) A (getAttrBy (.ref x) (.str name tk) fill expr) Q E s := by
  obtain ⟨hh, g, d, t, os⟩ := s
  have L0 := I.type (M := model prog w)
  have L1 := looks_findIn (M := model prog w) X hga
  unfold getAttrBy
  refine wpAny_holding (wpAny_bind (L0.at (wpAny_bind (L1.at ?_))))
  show wpAny _ _ (getAttrEveryday _ _ _) _ _ _
  refine wpAny_bind (wpAny_onRaise (wpAny_runValue (codeAny_builtin F.plainObj_entry_getattr_hooked (wpAny_mono h (fun fin s' z => ?_) fun _ _ z => z))))
  rcases fin with (_ | _ | _ | _) | _ <;> first | exact z | exact z.elim
theorem getBy_value {expr fill : Bool} {Q : Value → Shared → Prop} {name : Str} {tk : Tok} {v : Value} (X : K.In s.heap) (I : W.InstAt s.heap x ox C od) (hga : findIn K (.ref C) "__getattribute__" = some (some (.builtin "object.__getattribute__")))
    (hf : findObj K C od name = some (.value v)) (hh : handedIn v = true) (h : Q v s) : wpAny (model prog w) A (getAttrBy (.ref x) (.str name tk) fill expr) Q E s := by
  refine getBy_open X I hga ?_
  obtain ⟨hh', g, d, t, os⟩ := s
  have L0 := I.type (M := model prog w)
  have L1 := looks_find (M := model prog w) X I hf
  refine wpAny_bind (wpAny_pure (wpAny_bind (L0.at (wpAny_bind (L1.at ?_)))))
  refine wpAny_pure ?_
  show wpAny _ _ (handedOut v) _ _ _
  rw [handedOut_of hh]; exact wpAny_pure h
theorem hasattr_yes {Q : Value → Shared → Prop} {name : Str} {v : Value} {tk : Tok} (F : Fr h₀ L s.heap m) (X₀ : K.In h₀) (I : InstAt s.heap x ox C od)
    (hga : findIn K (.ref C) "__getattribute__" = some (some (.builtin "object.__getattribute__"))) (hmod : mroIn K C (.type "module") = some false)
    (hf : findObj K C od name = some (.value v)) (hh : handedIn v = true)
    (h : Q (.bool true) s) : wpAny (model prog w) A (call (.builtin "hasattr") [.ref x, .str name tk]) Q E s := by
  refine Calls.call_function_entry kind_hasattr plain_hasattr entry_hasattr (args_hasattr2 _ _) ?_
  have X := X₀.keeps F.keep
  obtain ⟨hh', g, d, t, os⟩ := s
  have L0 := I.type (M := model prog w)
  have L1 := looks_findIn (M := model prog w) X hga
  have L2 := looks_find (M := model prog w) X I hf
  have L3 := looks_mroIn (M := model prog w) X hmod
  unfold Builtin.«hasattr»
  refine wpAny_bind (m := someArgs "hasattr" 2 2 _) (wpAny_pure ?_)
  dsimp only
  refine wpAny_bind (wpAny_bind (wpAny_pure ?_))
  show wpAny _ _ (pure _) _ _ _
  refine wpAny_pure ?_
  show wpAny _ _ (do
    let y ← typeOf (Value.ref x)
    _) _ _ _
  refine wpAny_bind (L0.at ?_)
  dsimp only
  refine wpAny_bind ?_
  repeat ((fail_if_success (with_reducible show wpAny _ _ (getAttrBy? _ _) _ _ _)); lk)
  refine wpAny_bind (wpAny_attempt (getBy_value X I hga hf hh ?_))
  refine wpAny_pure ?_
  show wpAny _ _ (ret (Value.bool true)) _ _ _
  exact wpAny_pure ⟨_, rfl, h⟩
/-- object's own __gt__ declines -/
theorem gt_declined {Q : Option Value → Shared → Prop} {b : Value} (X : K.In s.heap) (I : W.InstAt s.heap x ox C od) (hg : findIn K (.ref C) "__gt__" = some (some (.builtin "object.__gt__"))) (hm : mroIn K C (.type "object") = some true)
    (h : Q none s) : wpAny (model prog w) A (tryCompare (.ref x) "__gt__" b) Q E s := by
  unfold tryCompare
  simp only [callSpecialIfBound?, bindSpecialIfBound?]
  refine wpAny_bind (wpAny_holding (wpAny_bind (wpAny_bind (wpAny_bind (I.type.here ((looks_findIn X hg).here ?_))))))
  refine wpAny_bind (wpAny_askSetting (wpAny_ite ?_))
  have fin : wpAny (model prog w) A (call (.builtin "object.__gt__") ([.ref x] ++ [b]) >>= fun v => pure (some v)) (fun a s' => wpAny (model prog w) A (match a with | some Value.notImplemented => pure none | none => pure none | some v => pure (some v)) Q E s') E s := by
    refine wpAny_bind (wpAny_call (codeAny_call_builtin F.slot_object_gt.plain F.entry_object_gt (check_slot (i := "object.__gt__") (owner := "object") (n := "__gt__") (by decide +kernel) (by decide +kernel) (I.type.andThen (looks_mroIn X hm)) (F.args_object_gt_2 _ _) ?_)))
    unfold Builtin.«object.__gt__»
    show wpAny _ _ (do let _ ← slotArgs "__gt__" 1 _; ret .notImplemented) _ _ _
    refine wpAny_bind (m := slotArgs "__gt__" 1 _) (wpAny_pure ?_)
    refine wpAny_pure ?_
    exact wpAny_pure (wpAny_pure h)
  split
  · exact wpAny_bind ((Looks.of_pure (F.slot_object_gt.bind _)).here (wpAny_pure (by exact fin)))
  · exact wpAny_tryCatch (wpAny_bind ((Looks.of_pure (F.slot_object_gt.bind _)).here (wpAny_pure (by exact fin))))
/-- a thing of an own class at the left of <, any at the right whose class's own __gt__ is object's where it is asked first -/
theorem lt_inst {Q : Value → Shared → Prop} {b tb : Value} (hu : A.units < cLine) (F : Fr h₀ L s.heap m) (X₀ : K.In h₀) (I : W.InstAt s.heap x ox C od) (hb : Looks (model prog w) s.heap (typeOf b) tb)
    (hn : tb = .ref C ∨ subIn K tb (.ref C) = some false ∨ ∃ y oy D dy, b = .ref y ∧ tb = .ref D ∧ W.InstAt s.heap y oy D dy ∧ findIn K (.ref D) "__gt__" = some (some (.builtin "object.__gt__")) ∧ mroIn K D (.type "object") = some true ∧ mroIn K D (.ref C) = some true)
    (hs : findIn K (.ref C) "__lt__" = some (some (.ref f))) (hf : isFn K (.ref f) = true)
    (h : wpAny (model prog w) A (call (.ref f) [.ref x, b]) (W.CmpBack Q) E s) : wpAny (model prog w) A (richCompare .Lt (.ref x) b) Q E s := by
  have X := X₀.keeps F.keep
  have one : wpAny (model prog w) A (tryCompare (.ref x) "__lt__" b) (fun r s' => ∃ v, r = some v ∧ Q v s') E s := by
    unfold tryCompare
    refine wpAny_bind (ifBound_K X I hs hf (wpAny_mono h (fun v s' hv => ?_) fun _ _ e => e))
    cases v <;> first | exact hv.elim | exact wpAny_pure ⟨_, rfl, hv⟩
  rcases hn with hn | hn
  · exact cmp_K hu F X₀ I hb (by rw [hn]; simp [notFirst]) hs hf h
  rcases hn with hn | ⟨y, oy, D, dy, rfl, rfl, J, hg, hm, hsub⟩
  · exact cmp_K hu F X₀ I hb (by simp [notFirst, hn]) hs hf h
  unfold richCompare
  simp only [oneThing_ref]
  refine wpAny_holding (wpAny_bind (wpAny_cRoomFor hu ?_))
  refine wpAny_bind (I.type.here (wpAny_bind (hb.here ?_)))
  split
  · refine wpAny_bind ((looks_mroIn X hsub).here ?_)
    simp only [if_true, cmpInfo]
    refine wpAny_bind (gt_declined X J hg hm ?_)
    refine wpAny_bind (wpAny_mono one (fun r s' z => ?_) fun _ _ e => e)
    obtain ⟨v, rfl, hq⟩ := z
    exact wpAny_pure hq
  · refine wpAny_bind (wpAny_pure ?_)
    simp only [Bool.false_eq_true, if_false]
    refine wpAny_bind (wpAny_mono one (fun r s' z => ?_) fun _ _ e => e)
    obtain ⟨v, rfl, hq⟩ := z
    exact wpAny_pure hq
end

/-! loops by an invariant over the frame's names and the ledger -/
section
variable {prog : Program} {w : World} {A : Around} {E : Value → Shared → Prop} {s : Shared} {env : Env} {h₀ : Heap} {x : Str} {body : List Stmt} {Q : Flow → Shared → Prop}
def EndJ (h₀ : Heap) (L : Addr) (J : (Str → Option Value) → List (Addr × Obj) → Prop) (own : List (Addr × Obj)) (I : Addr) (s₁ s₂ : Shared) : Prop :=
  ∃ h' tk m' news', s₂ = { s₁ with heap := h', toks := tk } ∧ Fr h₀ L h' m' ∧ News h₀ L h' (news' ++ own) ∧ (∀ p ∈ news', p.1 ≠ I) ∧ J m' news'
def PostJ (h₀ : Heap) (L : Addr) (J : (Str → Option Value) → List (Addr × Obj) → Prop) (own : List (Addr × Obj)) (I : Addr) (s₁ : Shared) (Q : Flow → Shared → Prop) (f : Flow) (s₂ : Shared) : Prop :=
  match f with
  | .ret v => Q (.ret v) s₂
  | .brk => Q .next s₂
  | _ => EndJ h₀ L J own I s₁ s₂
theorem news_comm {L : Addr} {h : Heap} {a b : List (Addr × Obj)} (N : News h₀ L h (a ++ b)) : News h₀ L h (b ++ a) := fun p hp => N p ((List.mem_append.mp hp).elim (fun h => List.mem_append.mpr (.inr h)) fun h => List.mem_append.mpr (.inl h))
theorem postJ_step {L I : Addr} {J : (Str → Option Value) → List (Addr × Obj) → Prop} {own : List (Addr × Obj)} {s₁ s₂ : Shared} {f : Flow} (h : PostJ h₀ L J own I s₁ Q f s₂) :
    LoopStepV h₀ L [I] own J s₁ (fun v s' => Q (.ret v) s') (fun s' => Q .next s') f s₂ := by
  have fin : EndJ h₀ L J own I s₁ s₂ → LoopStepU h₀ L [I] own J s₁ .next s₂ := by
    rintro ⟨h', tk, m', news', e, F', N', hn, hj⟩
    exact ⟨rfl, h', tk, m', news', e, F', news_comm N', fun p hp q => hn p hp (List.mem_singleton.mp q), hj⟩
  cases f with
  | ret v => exact .ret h
  | brk => exact .brk h
  | next => exact .next (fin h)
  | cont => exact .cont (fin h)
theorem iter_listJ {l : Addr} {vs : List Value} {m₀ : Str → Option Value} {news : List (Addr × Obj)} (J : Nat → (Str → Option Value) → List (Addr × Obj) → Prop)
    (hh : A.handled = none) (hl : s.heap.IsList l vs.toArray) (hlL : l ≠ env.locals) (F : Fr h₀ env.locals s.heap m₀) (N : News h₀ env.locals s.heap news) (hj : J 0 m₀ news)
    (turn : ∀ I i v m₁ news₁ h tk own, vs[i]? = some v → J i m₁ news₁ → (∀ p ∈ news₁, p.1 ≠ I) → (∀ p ∈ own, p.1 = I ∨ p.1 = l) → (∃ o, (I, o) ∈ own) → (∀ p ∈ news, p.1 < I) → l < I → Fr h₀ env.locals h (fun y => if y = x then some v else m₁ y) → News h₀ env.locals h (news₁ ++ own) →
      wpAny (model prog w) A (execs body env) (PostJ h₀ env.locals (J (i + 1)) own I { s with heap := h, toks := tk } Q) E { s with heap := h, toks := tk })
    (done : ∀ m₁ news₁ h tk, J vs.length m₁ news₁ → Fr h₀ env.locals h m₁ → News h₀ env.locals h news₁ → Q .next { s with heap := h, toks := tk }) :
    wpAny (model prog w) A (pyIter (.ref l)) (fun it s₂ => LoopAtV prog w A h₀ env x body Q E it s₂) E s := by
  obtain ⟨ol, hol, _⟩ := id hl
  have hlt : l < s.heap.objs.size := Heap.lt_size hol
  refine wpAny_pyIter_list hl ?_
  have W := Walks.list (prog := prog) (w := w) hh s.heap.objs.size l (Nat.ne_of_lt hlt) vs.toArray
  have hlen : vs.toArray.size = vs.length := by simp
  rw [hlen] at W
  refine ⟨_, _, _, vs.length, _, _, m₀, news, J, rfl, W, ?_, ?_, ?_, ⟨⟨_, Heap.get?_push_size _ rfl, rfl, rfl⟩, hl.at fun o e => Heap.get?_push_of_some _ e⟩, F.push _, (fun p hp => ⟨Heap.get?_push_of_some _ (N p hp).1, (N p hp).2⟩), hj, ?_, ?_⟩
  · intro hm
    rcases List.mem_cons.mp hm with e | hm
    · exact absurd F.ns.lt (e ▸ Nat.lt_irrefl _)
    · exact hlL (List.mem_singleton.mp hm).symm
  · intro b hb
    rw [List.mem_singleton.mp hb]
    exact next_is_new F
  · intro p hp hI
    exact absurd (Heap.lt_size (N p hp).1) ((List.mem_singleton.mp hI) ▸ Nat.lt_irrefl _)
  · rintro i v m₁ news₁ s₁ own ⟨hh', tk', rfl⟩ hin hP hJ hoff hown _ hall hst F₁ N₁
    have hIo : ∃ o, (s.heap.objs.size, o) ∈ own := by
      obtain ⟨⟨o, ho, _⟩, _⟩ := hst
      exact ⟨o, hall _ (.head _) (next_is_new F) o ho⟩
    refine wpAny_mono (turn s.heap.objs.size i v m₁ news₁ hh' tk' own (by simpa using hP) hJ (fun p hp q => hoff p hp (by rw [q]; exact .head _)) (fun p hp => ?_) hIo (fun p hp => Heap.lt_size (N p hp).1) hlt F₁ (news_comm N₁)) (fun f s₂ p => postJ_step p) fun _ _ e => e
    rcases List.mem_cons.mp (hown p hp) with h1 | h1
    · exact .inl h1
    · exact .inr (List.mem_singleton.mp h1)
  · rintro h' tk m' news' F' N' _ hJ
    exact done m' news' h' tk hJ F' N'
theorem iter_rangeJ {r : Addr} {a₀ b₀ : Int} {t₀ u₀ v₀ : Tok} {n : Nat} {m₀ : Str → Option Value} {news : List (Addr × Obj)} (J : Nat → (Str → Option Value) → List (Addr × Obj) → Prop)
    (hh : A.handled = none) (hr : IsRange s.heap r a₀ b₀ 1 t₀ u₀ v₀) (hsmall : Builtin.Range.small a₀ b₀ 1 = true) (hn : Builtin.Range.rangeSize a₀ b₀ 1 = (n : Int)) (F : Fr h₀ env.locals s.heap m₀) (N : News h₀ env.locals s.heap news) (hj : J 0 m₀ news)
    (turn : ∀ I (i : Nat) t m₁ news₁ h tk own, i < n → J i m₁ news₁ → (∀ p ∈ news₁, p.1 ≠ I) → (∀ p ∈ own, p.1 = I) → (∃ o, (I, o) ∈ own) → (∀ p ∈ news, p.1 < I) → Fr h₀ env.locals h (fun y => if y = x then some (.int (a₀ + i) t) else m₁ y) → News h₀ env.locals h (news₁ ++ own) →
      wpAny (model prog w) A (execs body env) (PostJ h₀ env.locals (J (i + 1)) own I { s with heap := h, toks := tk } Q) E { s with heap := h, toks := tk })
    (done : ∀ m₁ news₁ h tk, J n m₁ news₁ → Fr h₀ env.locals h m₁ → News h₀ env.locals h news₁ → Q .next { s with heap := h, toks := tk }) :
    wpAny (model prog w) A (pyIter (.ref r)) (fun it s₂ => LoopAtV prog w A h₀ env x body Q E it s₂) E s := by
  refine wpAny_pyIter_range hr hsmall ?_
  have W : Walks prog w A s.heap.objs.size [s.heap.objs.size] [s.heap.objs.size] n (fun i v => i < n ∧ ∃ t, v = .int (a₀ + i * 1) t)
      (fun i h => IsRangeIter h s.heap.objs.size (a₀ + (i : Nat) * 1) ((n : Int) - (i : Nat)) 1) := (Walks.range hh _ a₀ 1 n).bound
  refine ⟨_, _, _, n, _, _, m₀, news, J, rfl, W, ?_, ?_, ?_, (by show IsRangeIter _ _ _ _ _; rw [hn]; simpa using Heap.get?_push_size _ rfl), F.push _, (fun p hp => ⟨Heap.get?_push_of_some _ (N p hp).1, (N p hp).2⟩), hj, ?_, ?_⟩
  · intro hm
    exact absurd F.ns.lt ((List.mem_singleton.mp hm) ▸ Nat.lt_irrefl _)
  · intro b hb
    rw [List.mem_singleton.mp hb]
    exact next_is_new F
  · intro p hp hI
    exact absurd (Heap.lt_size (N p hp).1) ((List.mem_singleton.mp hI) ▸ Nat.lt_irrefl _)
  · rintro i v m₁ news₁ s₁ own ⟨hh', tk', rfl⟩ hin ⟨_, t, rfl⟩ hJ hoff hown _ hall hst F₁ N₁
    refine wpAny_mono (turn s.heap.objs.size i t m₁ news₁ hh' tk' own hin hJ (fun p hp q => hoff p hp (by rw [q]; exact .head _)) (fun p hp => List.mem_singleton.mp (hown p hp)) ⟨_, hall _ (.head _) (next_is_new F) _ hst⟩ (fun p hp => Heap.lt_size (N p hp).1) (by simpa using F₁) (news_comm N₁)) (fun f s₂ p => postJ_step p) fun _ _ e => e
  · rintro h' tk m' news' F' N' _ hJ
    exact done m' news' h' tk hJ F' N'
end

/-! a name put into a dict's entries -/
theorem isStr_str (a b : Str) (t : Tok) : (Value.str a t).isStr b = (a == b) := rfl
theorem isStr_two {k : Value} {a b : Str} (h : k.isStr a = true) (hne : b ≠ a) : k.isStr b = false := by
  cases k with
  | str x t =>
    have e : x = a := by simpa [Value.isStr] using h
    subst e
    simp only [Value.isStr]
    exact beq_false_of_ne (fun q => hne q.symm)
  | _ => cases h
theorem find_put_same (name : Str) (hsh : Int) (t : Tok) (v : Value) : ∀ es : List DictEntry, ((putL name hsh (.str name t) v es).find? (·.key.isStr name)).map (·.val) = some v
  | [] => by simp [putL, Value.isStr]
  | e :: r => by
    unfold putL
    split
    · rename_i h; simp [h]
    · rename_i h
      rw [List.find?_cons_of_neg (p := fun x : DictEntry => x.key.isStr name) h]
      exact find_put_same name hsh t v r
theorem find_put_other {name nm : Str} (hne : nm ≠ name) (hsh : Int) (t : Tok) (v : Value) : ∀ es : List DictEntry, (putL name hsh (.str name t) v es).find? (·.key.isStr nm) = es.find? (·.key.isStr nm)
  | [] => by
    unfold putL
    have : (name == nm) = false := beq_false_of_ne fun q => hne q.symm
    simp [Value.isStr, this]
  | e :: r => by
    unfold putL
    split
    · rename_i h
      have h2 := isStr_two h hne
      rw [List.find?_cons_of_neg (by simp [h2]), List.find?_cons_of_neg (by simp [h2])]
    · rename_i h
      rw [List.find?_cons, List.find?_cons, find_put_other hne hsh t v r]
theorem refKey_put (name : Str) (hsh : Int) (t : Tok) (v : Value) : ∀ es : List DictEntry, (putL name hsh (.str name t) v es).any (·.refKey) = es.any (·.refKey)
  | [] => by simp [putL]; rfl
  | e :: r => by
    unfold putL
    split
    · rfl
    · rw [List.any_cons, List.any_cons, refKey_put name hsh t v r]
theorem getL_put_same (name : Str) (hsh : Int) (t : Tok) (v : Value) (es : List DictEntry) : getL name (putL name hsh (.str name t) v es) = some (some v) := by
  have h := find_put_same name hsh t v es
  unfold getL
  cases q : (putL name hsh (.str name t) v es).find? (·.key.isStr name) with
  | none => rw [q] at h; cases h
  | some e => rw [q] at h; simp at h; simp [h]
theorem getL_put_other {name nm : Str} (hne : nm ≠ name) (hsh : Int) (t : Tok) (v : Value) (es : List DictEntry) : getL nm (putL name hsh (.str name t) v es) = getL nm es := by
  unfold getL
  rw [find_put_other hne, refKey_put]
theorem put_len (name : Str) (hsh : Int) (t : Tok) (v : Value) : ∀ es : List DictEntry, (putL name hsh (.str name t) v es).length = if (es.find? (·.key.isStr name)).isSome then es.length else es.length + 1
  | [] => by simp [putL]
  | e :: r => by
    unfold putL
    split
    · rename_i h; simp [h]
    · rename_i h
      rw [List.length_cons, put_len name hsh t v r, List.find?_cons_of_neg (p := fun x : DictEntry => x.key.isStr name) h]
      split <;> simp
/-- the ledger without one address -/
def off (d : Addr) (news : List (Addr × Obj)) : List (Addr × Obj) := news.filter fun p => p.1 != d
theorem mem_off {d : Addr} {news : List (Addr × Obj)} {p : Addr × Obj} : p ∈ off d news ↔ p ∈ news ∧ p.1 ≠ d := by
  unfold off; rw [List.mem_filter]; simp
theorem off_ne {d : Addr} {news : List (Addr × Obj)} : ∀ p ∈ off d news, p.1 ≠ d := fun _ hp => (mem_off.mp hp).2
theorem news_front {h₀ h : Heap} {L d : Addr} {o : Obj} {news : List (Addr × Obj)} (N : News h₀ L h news) (hm : (d, o) ∈ news) : News h₀ L h ((d, o) :: off d news) := fun p hp => by
  rcases List.mem_cons.mp hp with rfl | hp
  · exact N _ hm
  · exact N p (mem_off.mp hp).1
theorem news_sub {h₀ h : Heap} {L : Addr} {news news' : List (Addr × Obj)} (N : News h₀ L h news) (hs : ∀ p ∈ news', p ∈ news) : News h₀ L h news' := fun p hp => N p (hs p hp)
theorem news_one {h₀ h : Heap} {L d : Addr} {o o' : Obj} {news : List (Addr × Obj)} (N : News h₀ L h news) (h1 : (d, o) ∈ news) (h2 : (d, o') ∈ news) : o = o' := Option.some.inj ((N _ h1).1.symm.trans (N _ h2).1)

theorem fill1 {m : Str → Option Value} {k : Str} {v : Value} (h : m k = some v) (y : Str) : (if y = k then some v else m y) = m y := by
  split
  · rename_i e; rw [e, h]
  · rfl
section
variable {M : Model} {A : Around} {E : Value → Shared → Prop} {s : Shared} {h₀ : Heap} {L a b : Addr} {oa ob : Obj} {news : List (Addr × Obj)} {Q : Value → Shared → Prop}
theorem is_refs (N : News h₀ L s.heap news) (ha : (a, oa) ∈ news) (hb : (b, ob) ∈ news) (hnt : oa.cls ≠ .type "tuple") (h : Q (.bool (decide (a = b))) s) : wpAny M A (compareOp .Is (.ref a) (.ref b)) Q E s := by
  show wpAny M A (do return .bool (← isSame (.ref a) (.ref b))) Q E s
  by_cases e : a = b
  · subst e
    rw [decide_eq_true rfl] at h
    exact wpAny_bind (wpAny_isSame_ref_self (wpAny_pure h))
  · rw [decide_eq_false e] at h
    exact wpAny_bind (wpAny_isSame_ref_other e (N _ ha).1 (N _ hb).1 hnt (wpAny_pure h))
theorem isNot_refs (N : News h₀ L s.heap news) (ha : (a, oa) ∈ news) (hb : (b, ob) ∈ news) (hnt : oa.cls ≠ .type "tuple") (h : Q (.bool (!decide (a = b))) s) : wpAny M A (compareOp .IsNot (.ref a) (.ref b)) Q E s := by
  show wpAny M A (do return .bool (!(← isSame (.ref a) (.ref b)))) Q E s
  by_cases e : a = b
  · subst e
    rw [decide_eq_true rfl] at h
    exact wpAny_bind (wpAny_isSame_ref_self (wpAny_pure h))
  · rw [decide_eq_false e] at h
    exact wpAny_bind (wpAny_isSame_ref_other e (N _ ha).1 (N _ hb).1 hnt (wpAny_pure h))
end

section
variable {prog : Program} {w : World} {A : Around} {E : Value → Shared → Prop} {s : Shared} {h₀ : Heap} {L : Addr} {news : List (Addr × Obj)}
theorem item_led {value slice : PySem.Expr} {l : Addr} {vs : List Value} {n : Nat} {k : Int} {u : Tok} {v : Value} {Q : Value → Shared → Prop} (N : News h₀ L s.heap news)
    (hl : (l, W.listOf vs.toArray n) ∈ news) (h0 : 0 ≤ k) (hhi : k < 2 ^ 63) (hx : vs[k.toNat]? = some v) (h : Q v s)
    (hs : subscripted slice false (.ref l) (.int k u) = operate [.ref l, .int k u] (getItem (.ref l) (.int k u)) := by with_unfolding_all rfl) :
    wpAny (model prog w) A (subscriptTail value slice (.ref l) (.int k u)) Q E s :=
  tail_any (News.isList N hl).typeIs slot_list_getitem.lookup (wpAny_getItem_list (News.isList N hl) h0 hhi (by simpa using hx) h) hs
end

/-! lists of the ledger -/
section
variable {prog : Program} {w : World} {A : Around} {E : Value → Shared → Prop} {s : Shared} {h₀ : Heap} {L D : Addr} {m : Str → Option Value} {news news' : List (Addr × Obj)} {vs : List Value} {v : Value} {n : Nat}
theorem lineBig : 2 ^ 20 ≤ sizeLine := by decide
theorem len_led {Q : Value → Shared → Prop} (N : News h₀ L s.heap news) (hl : (D, W.listOf vs.toArray n) ∈ news) (hz : vs.length ≤ 2 ^ 20) (h : Q (.int vs.length (s.toks + 1)) { s with toks := s.toks + 1 + 1 }) : wpAny (model prog w) A (call (.builtin "len") [.ref D]) Q E s :=
  len_list (News.isList N hl) (by rw [List.size_toArray]; omega) (by rw [List.size_toArray]; exact h)
theorem truthy_led {Q : Bool → Shared → Prop} (N : News h₀ L s.heap news) (hl : (D, W.listOf vs.toArray n) ∈ news) (hz : vs.length ≤ 2 ^ 20) (h : Q (!vs.isEmpty) { s with toks := s.toks + 1 + 1 }) : wpAny (model prog w) A (truthy (.ref D)) Q E s :=
  wpAny_truthy_list (News.isList N hl) (by rw [List.size_toArray]; omega) (by rw [List.isEmpty_toArray]; exact h)
theorem fits_index {k : Int} (h0 : 0 ≤ k) (h1 : k < 2 ^ 62) : Builtin.List.listFitsIndex k = true := by
  unfold Builtin.List.listFitsIndex
  simp only [Bool.and_eq_true, decide_eq_true_eq]
  omega
theorem cut_at : ∀ (p : List Value) (y : Value) (q : List Value), kl_cut (p ++ y :: q) p.length = some (p, y, q)
  | [], _, _ => rfl
  | x :: p, y, q => by
    show (match kl_cut (p ++ y :: q) p.length with | some (p', y', q') => some (x :: p', y', q') | none => none) = _
    rw [cut_at p y q]
theorem popAt_led {p q : List Value} {y : Value} {k : Int} {u : Tok} {Q : Value → Shared → Prop} (F : Fr h₀ L s.heap m) (N : News h₀ L s.heap news) (hk : k = (p.length : Int)) (hz : (p ++ y :: q).length ≤ 2 ^ 20) (U : Upd D (W.listOf (p ++ y :: q).toArray n) (W.listOf (p ++ q).toArray (n + 1)) news news')
    (h : ∀ h', Fr h₀ L h' m → News h₀ L h' news' → Q y { s with heap := h' }) : wpAny (model prog w) A (call (.builtin "list.pop") [.ref D, .int k u]) Q E s := by
  have hz' := lineBig
  refine kl_popAt (k := p.length) F N (fits_index (by omega) (by simp only [List.length_append, List.length_cons] at hz; omega)) ?_ (cut_at p y q) U (by simpa using Nat.le_trans hz hz') h
  unfold seqIndex?
  subst hk
  simp
  omega
theorem pop0_led {u : Tok} {Q : Value → Shared → Prop} (F : Fr h₀ L s.heap m) (N : News h₀ L s.heap news) (hz : (v :: vs).length ≤ 2 ^ 20) (U : Upd D (W.listOf (v :: vs).toArray n) (W.listOf vs.toArray (n + 1)) news news')
    (h : ∀ h', Fr h₀ L h' m → News h₀ L h' news' → Q v { s with heap := h' }) : wpAny (model prog w) A (call (.builtin "list.pop") [.ref D, .int 0 u]) Q E s :=
  popAt_led (p := []) F N rfl hz U h
theorem insert_led {p q : List Value} {k : Int} {u : Tok} {y : Value} {Q : Value → Shared → Prop} (F : Fr h₀ L s.heap m) (N : News h₀ L s.heap news) (hk : k = (p.length : Int)) (hz : (p ++ q).length ≤ 2 ^ 20) (U : Upd D (W.listOf (p ++ q).toArray n) (W.listOf (p ++ y :: q).toArray (n + 1)) news news')
    (h : ∀ h', Fr h₀ L h' m → News h₀ L h' news' → Q .none { s with heap := h' }) : wpAny (model prog w) A (call (.builtin "list.insert") [.ref D, .int k u, y]) Q E s := by
  have hz' := lineBig
  refine kl_insert F N (fits_index (by omega) (by simp only [List.length_append] at hz; omega)) ?_ U (by simpa using Nat.le_trans hz hz') h
  unfold kl_ins
  subst hk
  rw [if_neg (by omega)]
  have : min ((p.length : Int).toNat) (p ++ q).toArray.toList.length = p.length := by simp
  rw [this]
  simp
theorem append_led {Q : Value → Shared → Prop} (F : Fr h₀ L s.heap m) (N : News h₀ L s.heap news) (hz : vs.length ≤ 2 ^ 20) (U : Upd D (W.listOf vs.toArray n) (W.listOf (vs ++ [v]).toArray (n + 1)) news news')
    (h : ∀ h', Fr h₀ L h' m → News h₀ L h' news' → Q .none { s with heap := h' }) : wpAny (model prog w) A (call (.builtin "list.append") [.ref D, v]) Q E s :=
  append_K (its := vs.toArray) F N (by rw [List.push_toArray]; exact U) h (by rw [List.size_toArray]; exact Nat.le_trans hz lineBig)
end
theorem seq_cut {M : Model} {A : Around} {E : Value → Shared → Prop} {s : Shared} {env : Env} {st : Stmt} {rest : List Stmt} {Q : Flow → Shared → Prop} (I : Shared → Prop) (h1 : wpAny M A (exec st env) (fun f s' => f = .next ∧ I s') E s) (h2 : ∀ s', I s' → wpAny M A (execs rest env) Q E s') :
    wpAny M A (execs (st :: rest) env) Q E s := wpAny_execs_cons (wpAny_mono h1 (fun f s' h => by obtain ⟨rfl, hi⟩ := h; exact h2 s' hi) fun _ _ e => e)
end Mine


namespace Mine
abbrev CB : Addr := 45
abbrev CH : Addr := 66
theorem fill : PySem.Challenge.rw_dn0254_09.row.prog = PySem.Challenge.rw_dn0254_09.row.prog ∧ Mine.hd.heap_39 = Mine.hd.heap_39 := by
  k_fill
  exact ⟨rfl, rfl⟩
def OrdOf (C : Addr) (es : List DictEntry) (o : Int) : Prop :=
  (C = 45 ∧ getL "handler_order" es = some none ∧ o = 500) ∨ (C = 66 ∧ getL "handler_order" es = some none ∧ o = 1000) ∨ ((C = 45 ∨ C = 66) ∧ ∃ t, getL "handler_order" es = some (some (.int o t)))
def Hd (news : List (Addr × Obj)) (x : Addr) (o : Int) : Prop := ∃ C dx es n, (x, instObj C dx) ∈ news ∧ (dx, dictOf es n) ∈ news ∧ OrdOf C es o
section
variable {w : World} {A : Around} {E : Value → Shared → Prop} {s : Shared} {x y L : Addr} {h₀ : Heap} {m : Str → Option Value} {news : List (Addr × Obj)} {o o' : Int}
theorem find_order (w : World) {C : Addr} {es : List DictEntry} {n : Nat} (hO : OrdOf C es o) : ∃ t, findObj (Mine.hd.heap_39 w.params) C (some (dictOf es n)) "handler_order" = some (.value (.int o t)) := by
  rcases hO with ⟨rfl, h, rfl⟩ | ⟨rfl, h, rfl⟩ | ⟨rfl | rfl, t, h⟩
  · exact ⟨201, findObj_cls (by k_is) (by k_is) (by k_is) rfl (by decide +kernel) h⟩
  · exact ⟨247, findObj_cls (by k_is) (by k_is) (by k_is) rfl (by decide +kernel) h⟩
  · exact ⟨t, findObj_own (attr := some (.int 500 201)) (by k_is) (by k_is) (by k_is) h⟩
  · exact ⟨t, findObj_own (attr := some (.int 1000 247)) (by k_is) (by k_is) (by k_is) h⟩
theorem hd_cls {C : Addr} {es : List DictEntry} (hO : OrdOf C es o) : C = 45 ∨ C = 66 := by
  rcases hO with ⟨rfl, _⟩ | ⟨rfl, _⟩ | ⟨h, _⟩
  · exact .inl rfl
  · exact .inr rfl
  · exact h
theorem hd_ga (w : World) {C : Addr} (h : C = 45 ∨ C = 66) : findIn (Mine.hd.heap_39 w.params) (.ref C) "__getattribute__" = some (some (.builtin "object.__getattribute__")) ∧ mroIn (Mine.hd.heap_39 w.params) C (.type "module") = some false := by
  rcases h with rfl | rfl
  · exact ⟨by k_is, by k_is⟩
  · exact ⟨by k_is, by k_is⟩
theorem get_order {expr : Bool} {Q : Value → Shared → Prop} (F : Fr h₀ L s.heap m) (X : (Mine.hd.heap_39 w.params).In h₀) (N : News h₀ L s.heap news) (H : Hd news x o)
    (h : ∀ t, Q (.int o t) { s with toks := s.toks + 1 }) : wpAny (model PySem.Challenge.rw_dn0254_09.row.prog w) A (getAttr (.ref x) "handler_order" expr) Q E s := by
  obtain ⟨C, dx, es, n, h1, h2, hO⟩ := H
  obtain ⟨t, ht⟩ := find_order w (n := n) hO
  exact get_value (X.keeps F.keep) (InstAt.of_news N h1 h2) (hd_ga w (hd_cls hO)).1 ht rfl (h t)
theorem has_order {Q : Value → Shared → Prop} {tk : Tok} (F : Fr h₀ L s.heap m) (X : (Mine.hd.heap_39 w.params).In h₀) (N : News h₀ L s.heap news) (H : Hd news x o)
    (h : Q (.bool true) s) : wpAny (model PySem.Challenge.rw_dn0254_09.row.prog w) A (call (.builtin "hasattr") [.ref x, .str "handler_order" tk]) Q E s := by
  obtain ⟨C, dx, es, n, h1, h2, hO⟩ := H
  obtain ⟨t, ht⟩ := find_order w (n := n) hO
  exact hasattr_yes F X (InstAt.of_news N h1 h2) (hd_ga w (hd_cls hO)).1 (hd_ga w (hd_cls hO)).2 ht rfl h
local macro_rules | `(tactic| walk_at "getAttr ref") => `(tactic| (k_here; (with_reducible show wpAny _ _ (getAttr (Value.ref _) (PySem.Str.ofString "handler_order") _) _ _ _); k_dflt (refine' get_order ?k1 ?k2 ?k3 ?k4 ?_; (case k1 => k_asm); (case k2 => k_asm); (case k3 => k_asm); (case k4 => assumption); k_whole); intro t'))
local macro_rules | `(tactic| walk_at "call builtin:hasattr") => `(tactic| (k_here; k_dflt (refine' has_order ?k1 ?k2 ?k3 ?k4 ?_; (case k1 => k_asm); (case k2 => k_asm); (case k3 => k_asm); (case k4 => assumption); k_whole)))
theorem lt_call {Q : Value → Shared → Prop} {p : Program} {loose : List Str} {mean : ExcName → Option Value} {mg mb : Str → Option Value} {dp un : Nat} {gd : Option (List Code)} {cn : Str} {cs : Scope} {a : Addr} {ccd : Value} {cl : List (Str × Addr)} {outer : List Env} {A₀ : Around} {base : Heap}
    (B : Below A₀ base outer h₀) (F : Fr h₀ L s.heap m) (X : (Mine.hd.heap_39 w.params).In h₀) (N : News h₀ L s.heap news) (T : Top p loose mean mg mb h₀) (hk : cs.kind = .function) (hx : Hd news x o) (hy : Hd news y o') (hd : dp + 1 < recursionLimit) (hu : un + 8 < cLine)
    (ret : ∀ h' tk', Fr h₀ L h' m → News h₀ L h' news → Q (.bool (decide (o < o'))) { s with heap := h', toks := tk' }) :
    wpAny (model PySem.Challenge.rw_dn0254_09.row.prog w) (ktrTop dp un gd cn cs L a ccd cl outer) (call (.ref 42) [.ref x, .ref y]) Q E s := by
  refine wpAny_call ?_
  k_dflt ktr_enter
  k_steps
  exact ret _ _ (by k_asm) (by k_asm)
theorem lt_cmp {Q : Value → Shared → Prop} {p : Program} {loose : List Str} {mean : ExcName → Option Value} {mg mb : Str → Option Value} {dp un : Nat} {gd : Option (List Code)} {cn : Str} {cs : Scope} {a : Addr} {ccd : Value} {cl : List (Str × Addr)} {outer : List Env} {A₀ : Around} {base : Heap}
    (B : Below A₀ base outer h₀) (F : Fr h₀ L s.heap m) (X : (Mine.hd.heap_39 w.params).In h₀) (N : News h₀ L s.heap news) (T : Top p loose mean mg mb h₀) (hk : cs.kind = .function) (hx : Hd news x o) (hy : Hd news y o') (hd : dp + 1 < recursionLimit) (hu : un + 8 < cLine)
    (ret : ∀ h' tk', Fr h₀ L h' m → News h₀ L h' news → Q (.bool (decide (o < o'))) { s with heap := h', toks := tk' }) :
    wpAny (model PySem.Challenge.rw_dn0254_09.row.prog w) (ktrTop dp un gd cn cs L a ccd cl outer) (compareOp .Lt (.ref x) (.ref y)) Q E s := by
  have c := lt_call (E := E) (Q := W.CmpBack Q) (gd := gd) (cn := cn) (a := a) (ccd := ccd) (cl := cl) B F X N T hk hx hy hd hu ret
  obtain ⟨C, dx, es, n, h1, h2, hO⟩ := hx
  obtain ⟨D, dy, es', n', g1, g2, gO⟩ := hy
  have I := InstAt.of_news N h1 h2
  have J := InstAt.of_news N g1 g2
  refine cmp_ofLt ?_
  have hu' : (ktrTop dp un gd cn cs L a ccd cl outer).units < cLine := by show un < cLine; omega
  rcases hd_cls hO with rfl | rfl <;> rcases hd_cls gO with rfl | rfl
  · exact lt_inst hu' F X I J.type (.inl rfl) (by k_is) (by k_is) c
  · exact lt_inst hu' F X I J.type (.inr (.inr ⟨_, _, _, _, rfl, rfl, J, by k_is, by k_is, by k_is⟩)) (by k_is) (by k_is) c
  · exact lt_inst hu' F X I J.type (.inr (.inl (by k_is))) (by k_is) (by k_is) c
  · exact lt_inst hu' F X I J.type (.inl rfl) (by k_is) (by k_is) c
/-- at most an order and a parent -/
def Only (es : List DictEntry) : Prop := ∀ nm : Str, nm ≠ "handler_order" → nm ≠ "parent" → getL nm es = some none
def ParOK (es : List DictEntry) : Prop := ((getL "parent" es = some none ∧ es.length ≤ 1) ∨ ((∃ v, getL "parent" es = some (some v)) ∧ es.length ≤ 2)) ∧ Only es
def SetPar (es es' : List DictEntry) (v : Value) : Prop := getL "parent" es' = some (some v) ∧ (∀ nm : Str, nm ≠ "parent" → getL nm es' = getL nm es) ∧ es'.length ≤ 2
theorem SetPar.ok {es es' : List DictEntry} {v : Value} (h : SetPar es es' v) (hp : ParOK es) : ParOK es' := ⟨.inr ⟨⟨v, h.1⟩, h.2.2⟩, fun nm h1 h2 => (h.2.1 nm h2).trans (hp.2 nm h1 h2)⟩
theorem SetPar.ord {es es' : List DictEntry} {v : Value} {C : Addr} (h : SetPar es es' v) (hO : OrdOf C es o) : OrdOf C es' o := by
  have e := h.2.1 "handler_order" (by decide)
  rcases hO with ⟨a, b, c⟩ | ⟨a, b, c⟩ | ⟨a, t, b⟩
  · exact .inl ⟨a, e.trans b, c⟩
  · exact .inr (.inl ⟨a, e.trans b, c⟩)
  · exact .inr (.inr ⟨a, t, e.trans b⟩)
theorem set_par {Q : Unit → Shared → Prop} {C dx : Addr} {es : List DictEntry} {n : Nat} {v : Value} (F : Fr h₀ L s.heap m) (X : (Mine.hd.heap_39 w.params).In h₀) (N : News h₀ L s.heap news) (h1 : (x, instObj C dx) ∈ news) (h2 : (dx, dictOf es n) ∈ news)
    (hC : C = 45 ∨ C = 66) (hp : ParOK es)
    (h : ∀ h' es' n', Fr h₀ L h' m → News h₀ L h' ((dx, dictOf es' n') :: off dx news) → SetPar es es' v → Q () { s with heap := h', toks := s.toks + 2 }) :
    wpAny (model PySem.Challenge.rw_dn0254_09.row.prog w) A (setAttr (.ref x) "parent" v) Q E s := by
  have I := InstAt.of_news N h1 h2
  have hlen : (putL "parent" (PyData.keyHash w.params "parent") (.str "parent" (s.toks + 1)) v es).length ≤ 2 := by
    rw [put_len]
    rcases hp.1 with ⟨_, q⟩ | ⟨⟨u, hu⟩, q⟩
    · split <;> omega
    · have : (es.find? (·.key.isStr "parent")).isSome = true := by
        unfold getL at hu
        split at hu
        · rename_i e; rw [e]; rfl
        · split at hu <;> cases hu
      rw [if_pos this]; exact q
  have hl : (getL "parent" es).isSome = true := by
    rcases hp.1 with ⟨q, _⟩ | ⟨⟨u, q⟩, _⟩ <;> rw [q] <;> rfl
  rcases hC with rfl | rfl
  · exact set_dict F X (news_front N h2) I rfl (by k_is) (by k_is) (by k_is) (by k_is) hl rfl (.head off_ne) (by omega) fun h' F' N' => h h' _ _ F' N' ⟨getL_put_same _ _ _ _ _, fun nm hne => getL_put_other hne _ _ _ _, hlen⟩
  · exact set_dict F X (news_front N h2) I rfl (by k_is) (by k_is) (by k_is) (by k_is) hl rfl (.head off_ne) (by omega) fun h' F' N' => h h' _ _ F' N' ⟨getL_put_same _ _ _ _ _, fun nm hne => getL_put_other hne _ _ _ _, hlen⟩
local macro_rules | `(tactic| walk_at "setAttr ref") => `(tactic| (k_here; (with_reducible show wpAny _ _ (setAttr (Value.ref _) (PySem.Str.ofString "parent") _) _ _ _); k_dflt (refine' set_par ?k1 ?k2 ?k3 ?k4 ?k5 ?k6 ?k7 ?_; (case k1 => k_asm); (case k2 => k_asm); (case k3 => k_asm); (case k4 => assumption); (case k5 => assumption); (case k6 => assumption); (case k7 => assumption); k_whole); intro h' es' n' F' N' hset'))
theorem addpar_call {Q : Value → Shared → Prop} {p : Program} {loose : List Str} {mean : ExcName → Option Value} {mg mb : Str → Option Value} {dp un : Nat} {gd : Option (List Code)} {cn : Str} {cs : Scope} {a : Addr} {ccd : Value} {cl : List (Str × Addr)} {outer : List Env} {A₀ : Around} {base : Heap}
    {C dx : Addr} {es : List DictEntry} {n : Nat} {v : Value}
    (B : Below A₀ base outer h₀) (F : Fr h₀ L s.heap m) (X : (Mine.hd.heap_39 w.params).In h₀) (N : News h₀ L s.heap news) (T : Top p loose mean mg mb h₀) (hk : cs.kind = .function) (h1 : (x, instObj C dx) ∈ news) (h2 : (dx, dictOf es n) ∈ news)
    (hC : C = 45 ∨ C = 66) (hp : ParOK es) (hd : dp + 1 < recursionLimit)
    (ret : ∀ h' tk' es' n', Fr h₀ L h' m → News h₀ L h' ((dx, dictOf es' n') :: off dx news) → SetPar es es' v → Q .none { s with heap := h', toks := tk' }) :
    wpAny (model PySem.Challenge.rw_dn0254_09.row.prog w) (ktrTop dp un gd cn cs L a ccd cl outer) (call (.ref 28) [.ref x, v]) Q E s := by
  refine wpAny_call ?_
  k_dflt ktr_enter
  k_steps
  exact ret _ _ _ _ (by k_asm) (by k_asm) (by k_asm)
theorem get_par {expr : Bool} {Q : Value → Shared → Prop} {C dx : Addr} {es : List DictEntry} {n : Nat} {v : Value} (F : Fr h₀ L s.heap m) (X : (Mine.hd.heap_39 w.params).In h₀) (N : News h₀ L s.heap news) (h1 : (x, instObj C dx) ∈ news) (h2 : (dx, dictOf es n) ∈ news)
    (hC : C = 45 ∨ C = 66) (hg : getL "parent" es = some (some v)) (hh : handedIn v = true)
    (h : Q v { s with toks := s.toks + 1 }) : wpAny (model PySem.Challenge.rw_dn0254_09.row.prog w) A (getAttr (.ref x) "parent" expr) Q E s := by
  have I := InstAt.of_news N h1 h2
  rcases hC with rfl | rfl
  · exact get_own F X I (by k_is) (by k_is) (by k_is) (by k_is) hg hh h
  · exact get_own F X I (by k_is) (by k_is) (by k_is) (by k_is) hg hh h
/-- a handler of the ledger: its place, its dict's place, its class, its order, its dict -/
structure HR where
  x : Nat
  dx : Nat
  C : Nat
  o : Int
  es : List DictEntry
  n : Nat
structure InL (news : List (Addr × Obj)) (r : HR) : Prop where
  inst : (r.x, instObj r.C r.dx) ∈ news
  dict : (r.dx, dictOf r.es r.n) ∈ news
  ord : OrdOf r.C r.es r.o
  par : ParOK r.es
theorem InL.cls {r : HR} (h : InL news r) : r.C = 45 ∨ r.C = 66 := hd_cls h.ord
theorem InL.hd {r : HR} (h : InL news r) : Hd news r.x r.o := ⟨_, _, _, _, h.inst, h.dict, h.ord⟩
theorem InL.mono {news' : List (Addr × Obj)} {r : HR} (h : InL news r) (hs : ∀ p ∈ news, p ∈ news') : InL news' r := ⟨hs _ h.inst, hs _ h.dict, h.ord, h.par⟩
theorem InL.off {h : Heap} {r rn : HR} (N : News h₀ L h news) (hr : InL news r) (hn : InL news rn) (hne : r.dx ≠ rn.dx) (es' : List DictEntry) (n' : Nat) : InL ((rn.dx, dictOf es' n') :: off rn.dx news) r := by
  refine ⟨List.mem_cons_of_mem _ (mem_off.mpr ⟨hr.inst, fun q => ?_⟩), List.mem_cons_of_mem _ (mem_off.mpr ⟨hr.dict, hne⟩), hr.ord, hr.par⟩
  have q' : r.x = rn.dx := q
  have h1 := hr.inst
  rw [q'] at h1
  have := news_one N h1 hn.dict
  cases this
theorem off_mono {d : Addr} {a b : List (Addr × Obj)} (h : ∀ p ∈ a, p ∈ b) : ∀ p ∈ Mine.off d a, p ∈ Mine.off d b := fun p hp => mem_off.mpr ⟨h p (mem_off.mp hp).1, (mem_off.mp hp).2⟩
theorem cons_mono {q : Addr × Obj} {a b : List (Addr × Obj)} (h : ∀ p ∈ a, p ∈ b) : ∀ p ∈ q :: a, p ∈ q :: b := fun p hp => by
  rcases List.mem_cons.mp hp with rfl | hp
  · exact .head _
  · exact .tail _ (h p hp)
theorem meth_addpar {pl : Sem Bool} {Q : Value × List Value → Shared → Prop} {r : HR} (F : Fr h₀ L s.heap m) (X : (Mine.hd.heap_39 w.params).In h₀) (N : News h₀ L s.heap news) (hr : InL news r) (h : Q (.ref 28, [.ref r.x]) s) :
    wpAny (model PySem.Challenge.rw_dn0254_09.row.prog w) A (getMethod (.ref r.x) "add_parent" pl) Q E s := by
  have I := InstAt.of_news N hr.inst hr.dict
  have hl := hr.par.2 "add_parent" (by decide) (by decide)
  have hC := hr.cls
  obtain ⟨x', dx, C, o', es, n⟩ := r
  dsimp only at I hl hC h ⊢
  rcases hC with rfl | rfl
  · exact method_inst F X I (by k_is) (by k_is) (by k_is) hl h
  · exact method_inst F X I (by k_is) (by k_is) (by k_is) hl h
theorem meth_close {pl : Sem Bool} {Q : Value × List Value → Shared → Prop} {r : HR} (F : Fr h₀ L s.heap m) (X : (Mine.hd.heap_39 w.params).In h₀) (N : News h₀ L s.heap news) (hr : InL news r) (h : Q (.ref 35, [.ref r.x]) s) :
    wpAny (model PySem.Challenge.rw_dn0254_09.row.prog w) A (getMethod (.ref r.x) "close" pl) Q E s := by
  have I := InstAt.of_news N hr.inst hr.dict
  have hl := hr.par.2 "close" (by decide) (by decide)
  have hC := hr.cls
  obtain ⟨x', dx, C, o', es, n⟩ := r
  dsimp only at I hl hC h ⊢
  rcases hC with rfl | rfl
  · exact method_inst F X I (by k_is) (by k_is) (by k_is) hl h
  · exact method_inst F X I (by k_is) (by k_is) (by k_is) hl h
local macro_rules | `(tactic| walk_at "getMethod ref") => `(tactic| (k_here; (with_reducible show wpAny _ _ (getMethod (Value.ref _) (PySem.Str.ofString "add_parent") _) _ _ _); k_dflt (refine' meth_addpar ?k1 ?k2 ?k3 ?k4 ?_; (case k1 => k_asm); (case k2 => k_asm); (case k3 => k_asm); (case k4 => first | assumption | apply_assumption); k_whole)))
def Chain (xl : Addr) : List HR → Addr → Prop
  | [], a => a = xl
  | r :: rs, a => a = r.x ∧ ∃ b, getL "parent" r.es = some (some (.ref b)) ∧ Chain xl rs b
def pass (ahead : Bool) (new o : Int) : Bool := if ahead then decide (o < new) else !decide (new < o)
local macro_rules | `(tactic| walk_at "getAttr ref") => `(tactic| (k_here; (with_reducible show wpAny _ _ (getAttr (Value.ref _) (PySem.Str.ofString "parent") _) _ _ _); k_dflt (refine' get_par ?k1 ?k2 ?k3 ?k4 ?k5 ?k6 ?k7 ?k8 ?_; (case k1 => k_asm); (case k2 => k_asm); (case k3 => k_asm); (case k4 => exact InL.inst (by assumption)); (case k5 => exact InL.dict (by assumption)); (case k6 => exact InL.cls (by assumption)); (case k7 => assumption); (case k8 => rfl); k_whole)))
local macro_rules | `(tactic| ktr_unf) => `(tactic| repeat' ((fail_if_success (with_reducible show wpAny _ _ (pyIter _) _ _ _)); first | (k_unfold; (try dsimp only)) | walk1 | (dsimp only; walk1)))
local macro_rules | `(tactic| walk_at "compareOp Is") => `(tactic| (k_here; k_dflt (first
  | (with_reducible refine wpAny_is_ref_self ?_)
  | (refine' wpAny_is_ref_other ?h1 ?h2 ?h3 ?h4 ?_; (case h1 => assumption); (case h2 => exact (News.get (by k_asm) (InL.inst (by assumption)))); (case h3 => exact News.get (by k_asm) (by assumption)); (case h4 => intro q; cases q)))))
local macro_rules | `(tactic| walk_at "compareOp Lt ref") => `(tactic| (k_here; (with_reducible show wpAny _ _ (compareOp CmpOp.Lt (Value.ref _) (Value.ref _)) _ _ _); k_dflt (refine' lt_cmp ?k1 ?k2 ?k3 ?k4 ?k5 ?k6 ?k7 ?k8 ?k9 ?k10 ?_; (case k1 => k_asm); (case k2 => k_asm); (case k3 => k_asm); (case k4 => k_asm); (case k5 => k_asm); (case k6 => exact rfl); (case k7 => exact InL.hd (by assumption)); (case k8 => exact InL.hd (by assumption)); (case k9 => ktr_room); (case k10 => ktr_units); k_whole); intro h' tk' F' N'))
local macro_rules | `(tactic| walk_at "call ref") => `(tactic| (k_here; (with_reducible show wpAny _ _ (call (Value.ref 28) [Value.ref _, _]) _ _ _); k_dflt (refine' addpar_call ?k1 ?k2 ?k3 ?k4 ?k5 ?k6 ?k7 ?k8 ?k9 ?k10 ?k11 ?_; (case k1 => k_asm); (case k2 => k_asm); (case k3 => k_asm); (case k4 => k_asm); (case k5 => k_asm); (case k6 => exact rfl); (case k7 => exact InL.inst (by first | assumption | apply_assumption)); (case k8 => exact InL.dict (by first | assumption | apply_assumption)); (case k9 => exact InL.cls (by first | assumption | apply_assumption)); (case k10 => exact InL.par (by first | assumption | apply_assumption)); (case k11 => ktr_room); k_whole); intro h' tk' es' n' F' N' hset'))
local macro_rules | `(tactic| walk_at "PostJ") => `(tactic| (dsimp only [PostJ]))
theorem put_call {Q : Value → Shared → Prop} {p : Program} {loose : List Str} {mean : ExcName → Option Value} {mg mb : Str → Option Value} {dp un : Nat} {gd : Option (List Code)} {cn : Str} {cs : Scope} {a : Addr} {ccd : Value} {cl : List (Str × Addr)} {outer : List Env} {A₀ : Around} {base : Heap}
    {rt rn : HR} {ns : List HR} {xl a₁ : Addr} {ahead : Bool}
    (B : Below A₀ base outer h₀) (F : Fr h₀ L s.heap m) (X : (Mine.hd.heap_39 w.params).In h₀) (N : News h₀ L s.heap news) (T : Top p loose mean mg mb h₀) (hk : cs.kind = .function)
    (ht : InL news rt) (hn : InL news rn) (hns : ∀ r ∈ ns, InL news r) (hpar : getL "parent" rt.es = some (some (.ref a₁))) (hch : Chain xl ns a₁) (hxl : ∀ r ∈ ns, r.x ≠ xl) (hlen : ns.length ≤ 11) (hxlN : ∃ dl, (xl, instObj 45 dl) ∈ news) (hd1 : rn.dx ≠ rt.dx) (hd2 : ∀ r ∈ ns, r.dx ≠ rn.dx)
    (hd : dp + 2 < recursionLimit) (hu : un + 16 < cLine)
    (ret : ∀ h' tk' pre suf rb b es1 n1 es2 n2, ns = pre ++ suf → (∀ r ∈ pre, pass ahead rn.o r.o = true) → (∀ r rs, suf = r :: rs → pass ahead rn.o r.o = false) → (rt :: pre).getLast? = some rb → Chain xl suf b →
      Fr h₀ L h' m → News h₀ L h' ((rb.dx, dictOf es2 n2) :: off rb.dx ((rn.dx, dictOf es1 n1) :: off rn.dx news)) → SetPar rn.es es1 (.ref b) → SetPar rb.es es2 (.ref rn.x) → Q .none { s with heap := h', toks := tk' }) :
    wpAny (model PySem.Challenge.rw_dn0254_09.row.prog w) (ktrTop dp un gd cn cs L a ccd cl outer) (call (.ref 82) [.ref rt.x, .ref xl, .ref rn.x, .bool ahead]) Q E s := by
  refine wpAny_call ?_
  k_dflt ktr_enter
  ktr_unf
  rename IsRange _ _ _ _ _ _ _ _ => hr
  rename Fr _ _ _ _ => F1
  rename News _ _ _ _ => N1
  refine iter_rangeJ (n := 12) (fun i m₁ nw => nw = news ∧ ∃ pre suf rb b, ns = pre ++ suf ∧ pre.length = i ∧ (∀ r ∈ pre, pass ahead rn.o r.o = true) ∧ (rt :: pre).getLast? = some rb ∧ Chain xl suf b ∧
    m₁ "before" = some (.ref rb.x) ∧ m₁ "after" = some (.ref b) ∧ m₁ "tail" = some (.ref xl) ∧ m₁ "new" = some (.ref rn.x) ∧ m₁ "ahead" = some (.bool ahead)) rfl hr (by decide) (by decide) F1 N1 ?start ?turn ?done
  case start => exact ⟨rfl, [], ns, rt, a₁, rfl, rfl, (fun _ h => nomatch h), rfl, hch, rfl, rfl, rfl, rfl, rfl⟩
  case done =>
    rintro m₁ nw h tk ⟨_, pre, suf, rb, b, e, e2, _⟩ _ _
    exfalso
    rw [e, List.length_append] at hlen
    omega
  case turn =>
    rintro I i t m₁ nw h tk own hi ⟨rfl, pre, suf, rb, b, e, e2, hp, hrb, hc, m1, m2, m3, m4, m5⟩ hoI hown hIo hlt F2 N2
    rw [show (fun y => if y = Str.ofString "_" then some (Value.int (0 + i) t) else m₁ y) = (fun y => if y = Str.ofString "_" then some (Value.int (0 + i) t) else if y = Str.ofString "before" then some (.ref rb.x) else
      if y = Str.ofString "after" then some (.ref b) else if y = Str.ofString "tail" then some (.ref xl) else if y = Str.ofString "new" then some (.ref rn.x) else if y = Str.ofString "ahead" then some (.bool ahead) else m₁ y) from by
        funext y; simp only [fill1 m1, fill1 m2, fill1 m3, fill1 m4, fill1 m5]] at F2
    have s1 : ∀ p ∈ nw, p ∈ nw ++ own := fun p hp => List.mem_append_left _ hp
    have ht' := ht.mono s1
    have hn' := hn.mono s1
    have hrb' : InL (nw ++ own) rb := by
      have q : rb ∈ rt :: pre := List.mem_of_getLast? hrb
      rcases List.mem_cons.mp q with q | q
      · rw [q]; exact ht'
      · exact (hns rb (by rw [e]; exact List.mem_append_left _ q)).mono s1
    have hrbd : rb.dx ≠ rn.dx := by
      have q : rb ∈ rt :: pre := List.mem_of_getLast? hrb
      rcases List.mem_cons.mp q with q | q
      · rw [q]; exact hd1.symm
      · exact hd2 rb (by rw [e]; exact List.mem_append_left _ q)
    have hrbN := hrb'.off N2 hn' hrbd
    obtain ⟨dl, hxl'⟩ := hxlN
    have hxl2 := s1 _ hxl'
    have fin : ∀ h' tk' es1 n1 es2 n2 bb ss, ns = pre ++ ss → (∀ r rs, ss = r :: rs → pass ahead rn.o r.o = false) → Chain xl ss bb → Fr h₀ L h' m → News h₀ L h' ((rb.dx, dictOf es2 n2) :: off rb.dx ((rn.dx, dictOf es1 n1) :: off rn.dx (nw ++ own))) → SetPar rn.es es1 (.ref bb) → SetPar rb.es es2 (.ref rn.x) → Q .none { s with heap := h', toks := tk' } :=
      fun h' tk' es1 n1 es2 n2 bb ss e hf hcc FF NN g1 g2 => ret h' tk' pre ss rb bb es1 n1 es2 n2 e hp hf hrb hcc FF (news_sub NN (cons_mono (off_mono (cons_mono (off_mono s1))))) g1 g2
    cases suf with
    | nil =>
      have hb : b = xl := hc
      subst hb
      k_steps
      exact fin _ _ _ _ _ _ _ _ e (fun _ _ q => nomatch q) rfl (by k_asm) (by k_asm) (by assumption) (by assumption)
    | cons r rs =>
      obtain ⟨hb, b', hpb, hc'⟩ := hc
      subst hb
      have hr' : InL (nw ++ own) r := (hns r (by rw [e]; simp)).mono s1
      have hne : r.x ≠ xl := hxl r (by rw [e]; simp)
      have hch' : Chain xl (r :: rs) r.x := ⟨rfl, b', hpb, hc'⟩
      have he : ns = (pre ++ [r]) ++ rs := by rw [e]; simp
      have hl : (pre ++ [r]).length = i + 1 := by simp [e2]
      have hg : (rt :: (pre ++ [r])).getLast? = some r := by rw [← List.cons_append]; exact List.getLast?_concat
      have hpp : pass ahead rn.o r.o = true → ∀ y ∈ pre ++ [r], pass ahead rn.o y.o = true := fun hps y hy => by
        rcases List.mem_append.mp hy with hy | hy
        · exact hp y hy
        · rw [List.mem_singleton.mp hy]; exact hps
      cases ahead with
      | true =>
        k_steps
        · refine ⟨_, _, _, nw, rfl, by k_asm, by k_asm, hoI, rfl, pre ++ [r], rs, r, b', he, hl, hpp ?_, hg, hc', rfl, rfl, rfl, rfl, rfl⟩
          simp only [pass, if_true, decide_eq_true_eq]
          assumption
        · refine fin _ _ _ _ _ _ _ _ e (fun r' rs' q => ?_) hch' (by k_asm) (by k_asm) (by assumption) (by assumption)
          cases q
          simp only [pass, if_true, decide_eq_false_iff_not]
          assumption
      | false =>
        k_steps
        · refine fin _ _ _ _ _ _ _ _ e (fun r' rs' q => ?_) hch' (by k_asm) (by k_asm) (by assumption) (by assumption)
          cases q
          simp only [pass, Bool.false_eq_true, if_false, Bool.not_eq_false', decide_eq_true_eq]
          assumption
        · refine ⟨_, _, _, nw, rfl, by k_asm, by k_asm, hoI, rfl, pre ++ [r], rs, r, b', he, hl, hpp ?_, hg, hc', rfl, rfl, rfl, rfl, rfl⟩
          simp only [pass, Bool.false_eq_true, if_false, Bool.not_eq_true', decide_eq_false_iff_not]
          assumption
local macro_rules | `(tactic| walk_at "subscriptTail") => `(tactic| (k_here; (with_reducible show wpAny _ _ (subscriptTail _ _ (Value.ref _) (Value.int _ _)) _ _ _); k_dflt (refine' item_led ?k1 ?k2 ?k3 ?k4 ?k5 ?_ ?k6; (case k1 => k_asm); (case k2 => assumption); (case k5 => assumption); (case k3 => omega); (case k4 => omega); (case k6 => with_unfolding_all rfl); k_whole)))
local macro_rules | `(tactic| walk_at "compareOp IsNot") => `(tactic| (k_here; k_dflt (with_reducible refine wpAny_isNot_ref_self ?_)))
local macro_rules | `(tactic| walk_at "exec For Name Name cons nil") => `(tactic| (k_here; (rename Fr _ _ _ _ => lF'); (with_unfolding_all refine' For_invVF lF' ?k1 ?k2 ?_; (case k1 => exact rfl); (case k2 => exact rfl); k_whole)))
theorem same_call {Q : Value → Shared → Prop} {p : Program} {loose : List Str} {mean : ExcName → Option Value} {mg mb : Str → Option Value} {dp un : Nat} {gd : Option (List Code)} {cn : Str} {cs : Scope} {a : Addr} {ccd : Value} {cl : List (Str × Addr)} {outer : List Env} {A₀ : Around} {base : Heap}
    {rt : HR} {ns : List HR} {xl a₁ lm lp : Addr} {P M : List Value} {ks : List Int} {np nm : Nat}
    (B : Below A₀ base outer h₀) (F : Fr h₀ L s.heap m) (X : (Mine.hd.heap_39 w.params).In h₀) (N : News h₀ L s.heap news) (T : Top p loose mean mg mb h₀) (hk : cs.kind = .function)
    (ht : InL news rt) (hns : ∀ r ∈ ns, InL news r) (hpar : getL "parent" rt.es = some (some (.ref a₁))) (hch : Chain xl ns a₁)
    (hlp : (lp, W.listOf P.toArray np) ∈ news) (hlm : (lm, W.listOf M.toArray nm) ∈ news) (hP : IntsAre P ks) (hlen : ks.length = ns.length) (hks : ∀ (i : Nat) (k : Int) (r : HR), ks[i]? = some k → ns[i]? = some r → 0 ≤ k ∧ k < 2 ^ 63 ∧ M[k.toNat]? = some (.ref r.x))
    (hd : dp + 2 < recursionLimit) (hu : un + 16 < cLine)
    (ret : ∀ h' tk', Fr h₀ L h' m → News h₀ L h' news → Q (.bool true) { s with heap := h', toks := tk' }) :
    wpAny (model PySem.Challenge.rw_dn0254_09.row.prog w) (ktrTop dp un gd cn cs L a ccd cl outer) (call (.ref 89) [.ref rt.x, .ref xl, .ref lm, .ref lp]) Q E s := by
  refine wpAny_call ?_
  k_dflt ktr_enter
  ktr_unf
  rename Fr _ _ _ _ => F1
  rename News _ _ _ _ => N1
  refine' iter_listJ (fun i m₁ nw => nw = news ∧ ∃ pre suf rb b, ns = pre ++ suf ∧ pre.length = i ∧ (rt :: pre).getLast? = some rb ∧ Chain xl suf b ∧ getL "parent" rb.es = some (some (.ref b)) ∧
    m₁ "node" = some (.ref rb.x) ∧ m₁ "tail" = some (.ref xl) ∧ m₁ "made" = some (.ref lm)) ?hh ?hl ?hlL ?hF ?hN ?start ?turn ?done
  case hh => rfl
  case hl => exact News.isList N1 hlp
  case hlL => exact (N1 _ hlp).2.1
  case hF => exact F1
  case hN => exact N1
  case start => exact ⟨rfl, [], ns, rt, a₁, rfl, rfl, rfl, hch, hpar, rfl, rfl, rfl⟩
  case done =>
    rintro m₁ nw h tk ⟨rfl, pre, suf, rb, b, e, e2, hrb, hc, hpb, m1, m2, m3⟩ F2 N2
    have hz : suf = [] := by
      have := hP.length
      rw [e, List.length_append] at hlen
      exact List.length_eq_zero_iff.mp (by omega)
    subst hz
    have hb : b = xl := hc
    subst hb
    have hrb' : InL nw rb := by
      have q : rb ∈ rt :: pre := List.mem_of_getLast? hrb
      rcases List.mem_cons.mp q with q | q
      · rw [q]; exact ht
      · exact hns rb (by rw [e]; exact List.mem_append_left _ q)
    rw [show m₁ = (fun y => if y = Str.ofString "node" then some (.ref rb.x) else if y = Str.ofString "tail" then some (.ref b) else if y = Str.ofString "made" then some (.ref lm) else m₁ y) from by
        funext y; simp only [fill1 m1, fill1 m2, fill1 m3]] at F2
    k_steps
    exact ret _ _ (by k_asm) (by k_asm)
  case turn =>
    rintro I i v m₁ nw h tk own hi ⟨rfl, pre, suf, rb, b, e, e2, hrb, hc, hpb, m1, m2, m3⟩ hoI hown hIo hlt hlI F2 N2
    have hil : i < ks.length := by
      rw [← hP.length]; exact (List.getElem?_eq_some_iff.mp hi).1
    obtain ⟨t, hx⟩ := hP.get i ks[i] (by simp [hil])
    obtain rfl : v = .int ks[i] t := by rw [hx] at hi; exact (Option.some.inj hi).symm
    have s1 : ∀ p ∈ nw, p ∈ nw ++ own := fun p hp => List.mem_append_left _ hp
    cases suf with
    | nil =>
      exfalso
      rw [e, List.append_nil, e2] at hlen
      omega
    | cons r rs =>
      obtain ⟨hb, b', hpb', hc'⟩ := hc
      subst hb
      have hri : ns[i]? = some r := by rw [e, ← e2]; simp
      obtain ⟨k0, k1, k2⟩ := hks i ks[i] r (by simp [hil]) hri
      have hrb' : InL (nw ++ own) rb := by
        have q : rb ∈ rt :: pre := List.mem_of_getLast? hrb
        rcases List.mem_cons.mp q with q | q
        · rw [q]; exact ht.mono s1
        · exact (hns rb (by rw [e]; exact List.mem_append_left _ q)).mono s1
      have hlm' := s1 _ hlm
      rw [show (fun y => if y = Str.ofString "place" then some (Value.int ks[i] t) else m₁ y) = (fun y => if y = Str.ofString "place" then some (Value.int ks[i] t) else if y = Str.ofString "node" then some (.ref rb.x) else
        if y = Str.ofString "tail" then some (.ref xl) else if y = Str.ofString "made" then some (.ref lm) else m₁ y) from by
          funext y; simp only [fill1 m1, fill1 m2, fill1 m3]] at F2
      have he : ns = (pre ++ [r]) ++ rs := by rw [e]; simp
      have hl : (pre ++ [r]).length = i + 1 := by simp [e2]
      have hg : (rt :: (pre ++ [r])).getLast? = some r := by rw [← List.cons_append]; exact List.getLast?_concat
      k_steps
      exact ⟨_, _, _, nw, rfl, by k_asm, by k_asm, hoI, rfl, pre ++ [r], rs, r, b', he, hl, hg, hc', hpb', rfl, rfl, rfl⟩
end
end Mine


namespace Mine
theorem fill2 : PySem.Challenge.rw_dn0254_09.row.prog = PySem.Challenge.rw_dn0254_09.row.prog ∧ Mine.hd.heap_39 = Mine.hd.heap_39 := by
  k_fill
  exact ⟨rfl, rfl⟩
theorem allLt_ne {d : Addr} : ∀ {l : List (Addr × Obj)}, W.AllLt d l → ∀ p ∈ l, p.1 ≠ d
  | [], _, _, h => nomatch h
  | _ :: _, h, _, .head _ => Nat.ne_of_lt h.1
  | _ :: _, h, p, .tail _ hp => allLt_ne h.2 p hp
theorem allLt_all {d : Addr} : ∀ {l : List (Addr × Obj)}, W.AllLt d l → ∀ p ∈ l, p.1 < d
  | [], _, _, h => nomatch h
  | _ :: _, h, _, .head _ => h.1
  | _ :: _, h, p, .tail _ hp => allLt_all h.2 p hp
local macro_rules | `(tactic| k_all) => `(tactic| exact allLt_ne (by assumption))
section
variable {w : World} {A : Around} {E : Value → Shared → Prop} {s : Shared} {x y L : Addr} {h₀ : Heap} {m : Str → Option Value} {news : List (Addr × Obj)} {o o' : Int}
def mkOrd (n : Int) : Int := if n.fmod 4 = 1 then 500 else if n.fmod 4 = 2 then 1000 else n.fdiv 8
theorem only_ord {hsh : Int} {tk : Tok} {v : Value} : Only [⟨hsh, .str "handler_order" tk, v⟩] := fun nm h1 _ => by
  unfold getL
  have : (Str.ofString "handler_order" == nm) = false := beq_false_of_ne fun q => h1 q.symm
  simp [Value.isStr, this]
  rfl
theorem make_call {Q : Value → Shared → Prop} {p : Program} {loose : List Str} {mean : ExcName → Option Value} {mg mb : Str → Option Value} {dp un : Nat} {gd : Option (List Code)} {cn : Str} {cs : Scope} {a : Addr} {ccd : Value} {cl : List (Str × Addr)} {outer : List Env} {A₀ : Around} {base : Heap}
    {n : Int} {tn : Tok}
    (B : Below A₀ base outer h₀) (F : Fr h₀ L s.heap m) (X : (Mine.hd.heap_39 w.params).In h₀) (N : News h₀ L s.heap news) (T : Top p loose mean mg mb h₀) (hk : cs.kind = .function)
    (hd : dp + 2 < recursionLimit) (hu : un + 16 < cLine)
    (ret : ∀ h' tk' t to (r : HR), Fr h₀ L h' m → News h₀ L h' ((t, { cls := .type "tuple", data := .seq #[.ref r.x, .int r.o to] 0 }) :: (r.x, instObj r.C r.dx) :: (r.dx, dictOf r.es r.n) :: news) → r.o = mkOrd n → OrdOf r.C r.es r.o → getL "parent" r.es = some none → ParOK r.es →
      (∀ p ∈ news, p.1 < r.dx) → r.dx < r.x → r.x < t → Q (.ref t) { s with heap := h', toks := tk' }) :
    wpAny (model PySem.Challenge.rw_dn0254_09.row.prog w) (ktrTop dp un gd cn cs L a ccd cl outer) (call (.ref 75) [.int n tn]) Q E s := by
  refine wpAny_call ?_
  k_dflt ktr_enter
  k_steps
  · refine' ret _ _ _ _ ⟨_, _, 45, 500, [], 0⟩ ?k1 ?k2 ?_ (.inl ⟨rfl, rfl, rfl⟩) rfl ⟨.inl ⟨rfl, Nat.le_of_ble_eq_true rfl⟩, fun _ _ _ => rfl⟩ ?_ ?_ ?_
    (case k1 => k_asm)
    (case k2 => k_asm)
    · simp [mkOrd, *]
    · assumption
    · assumption
    · exact And.left (by assumption)
  · refine' ret _ _ _ _ ⟨_, _, 66, 1000, [], 0⟩ ?k1 ?k2 ?_ (.inr (.inl ⟨rfl, rfl, rfl⟩)) rfl ⟨.inl ⟨rfl, Nat.le_of_ble_eq_true rfl⟩, fun _ _ _ => rfl⟩ ?_ ?_ ?_
    (case k1 => k_asm)
    (case k2 => k_asm)
    · simp [mkOrd, *]
    · assumption
    · assumption
    · exact And.left (by assumption)
  · refine' ret _ _ _ _ ⟨_, _, 45, n.fdiv 8, [⟨_, _, _⟩], 1⟩ ?k1 ?k2 ?_ ?k3 ?k4 ?k5 ?_ ?_ ?_
    (case k1 => k_asm)
    (case k2 => k_asm)
    (case k3 => exact .inr (.inr ⟨.inl rfl, _, rfl⟩))
    (case k4 => rfl)
    (case k5 => exact ⟨.inl ⟨rfl, Nat.le_of_ble_eq_true rfl⟩, only_ord⟩)
    · simp [mkOrd, *]
    · assumption
    · assumption
    · exact And.left (by assumption)
end

/-! the ledger's part that bears the handlers -/
def flatH (H : List HR) : List (Addr × Obj) := H.flatMap fun r => [(r.x, instObj r.C r.dx), (r.dx, dictOf r.es r.n)]
theorem mem_flatH {H : List HR} {q : Addr × Obj} : q ∈ flatH H ↔ ∃ r ∈ H, q = (r.x, instObj r.C r.dx) ∨ q = (r.dx, dictOf r.es r.n) := by
  unfold flatH
  simp [List.mem_flatMap]
theorem flatH_inst {H : List HR} {r : HR} (h : r ∈ H) : (r.x, instObj r.C r.dx) ∈ flatH H := mem_flatH.mpr ⟨r, h, .inl rfl⟩
theorem flatH_dict {H : List HR} {r : HR} (h : r ∈ H) : (r.dx, dictOf r.es r.n) ∈ flatH H := mem_flatH.mpr ⟨r, h, .inr rfl⟩
/-- handlers one after the other in the heap, all behind b -/
structure Laid (b : Nat) (H : List HR) : Prop where
  low : ∀ r ∈ H, b < r.dx ∧ r.dx < r.x
  pw : H.Pairwise fun r r' => r.x < r'.dx
  ok : ∀ r ∈ H, OrdOf r.C r.es r.o ∧ ParOK r.es
theorem Laid.nil {b : Nat} : Laid b [] := ⟨(fun _ h => nomatch h), .nil, (fun _ h => nomatch h)⟩
theorem Laid.off {b c : Nat} {H : List HR} (h : Laid b H) (hc : c ≤ b) : ∀ p ∈ flatH H, p.1 ≠ c := fun p hp => by
  obtain ⟨r, hr, e | e⟩ := mem_flatH.mp hp
  · have := h.low r hr; rw [e]; exact (by omega : r.x ≠ c)
  · have := h.low r hr; rw [e]; exact (by omega : r.dx ≠ c)
def setR (d : Nat) (es : List DictEntry) (n : Nat) (r : HR) : HR := if r.dx = d then { r with es := es, n := n } else r
def setH (d : Nat) (es : List DictEntry) (n : Nat) (H : List HR) : List HR := H.map (setR d es n)
section
variable {d : Nat} {es : List DictEntry} {n : Nat} {r : HR} {H : List HR}
theorem setR_x : (setR d es n r).x = r.x := by unfold setR; split <;> rfl
theorem setR_dx : (setR d es n r).dx = r.dx := by unfold setR; split <;> rfl
theorem setR_C : (setR d es n r).C = r.C := by unfold setR; split <;> rfl
theorem setR_o : (setR d es n r).o = r.o := by unfold setR; split <;> rfl
theorem setR_ne (h : r.dx ≠ d) : setR d es n r = r := by unfold setR; rw [if_neg h]
theorem setH_ne (h : ∀ r ∈ H, r.dx ≠ d) : setH d es n H = H := by
  unfold setH
  conv => rhs; rw [← List.map_id H]
  exact List.map_congr_left fun r hr => setR_ne (h r hr)
theorem setH_len : (setH d es n H).length = H.length := by simp [setH]
theorem setH_xs : (setH d es n H).map (fun r => Value.ref r.x) = H.map (fun r => Value.ref r.x) := by
  unfold setH; rw [List.map_map]; exact List.map_congr_left fun r _ => by simp [setR_x]
theorem setH_os : (setH d es n H).map (·.o) = H.map (·.o) := by
  unfold setH; rw [List.map_map]; exact List.map_congr_left fun r _ => by simp [setR_o]
theorem Laid.set {b : Nat} (h : Laid b H) (hn : ∀ r ∈ H, r.dx = d → OrdOf r.C es r.o ∧ ParOK es) : Laid b (setH d es n H) := by
  refine ⟨fun r hr => ?_, ?_, fun r hr => ?_⟩
  · obtain ⟨r', hr', rfl⟩ := List.mem_map.mp hr
    rw [setR_x, setR_dx]; exact h.low r' hr'
  · unfold setH
    rw [List.pairwise_map]
    exact h.pw.imp fun {a b} hab => by rw [setR_x, setR_dx]; exact hab
  · obtain ⟨r', hr', rfl⟩ := List.mem_map.mp hr
    by_cases e : r'.dx = d
    · have := hn r' hr' e
      unfold setR; rw [if_pos e]; exact this
    · rw [setR_ne e]; exact h.ok r' hr'
theorem Laid.concat {b : Nat} (h : Laid b H) (h1 : b < r.dx) (h2 : r.dx < r.x) (h3 : ∀ r' ∈ H, r'.x < r.dx) (h4 : OrdOf r.C r.es r.o ∧ ParOK r.es) : Laid b (H ++ [r]) := by
  refine ⟨fun q hq => ?_, ?_, fun q hq => ?_⟩
  · rcases List.mem_append.mp hq with hq | hq
    · exact h.low q hq
    · rw [List.mem_singleton.mp hq]; exact ⟨h1, h2⟩
  · rw [List.pairwise_append]
    refine ⟨h.pw, List.pairwise_singleton _ _, fun a ha c hc => ?_⟩
    rw [List.mem_singleton.mp hc]; exact h3 a ha
  · rcases List.mem_append.mp hq with hq | hq
    · exact h.ok q hq
    · rw [List.mem_singleton.mp hq]; exact h4
/-- in one laid list the dicts' places tell the handlers apart -/
theorem Laid.inj {b : Nat} : ∀ {H : List HR}, Laid b H → ∀ {i j : Nat} {r r' : HR}, H[i]? = some r → H[j]? = some r' → r.dx = r'.dx → i = j := by
  intro H h i j r r' hi hj e
  have pw := h.pw
  rcases Nat.lt_trichotomy i j with q | q | q
  · exfalso
    have hi' := List.getElem?_eq_some_iff.mp hi
    have hj' := List.getElem?_eq_some_iff.mp hj
    have := (List.pairwise_iff_getElem.mp pw) i j hi'.1 hj'.1 q
    rw [hi'.2, hj'.2] at this
    have := h.low r (List.mem_of_getElem? hi)
    omega
  · exact q
  · exfalso
    have hi' := List.getElem?_eq_some_iff.mp hi
    have hj' := List.getElem?_eq_some_iff.mp hj
    have := (List.pairwise_iff_getElem.mp pw) j i hj'.1 hi'.1 q
    rw [hi'.2, hj'.2] at this
    have := h.low r' (List.mem_of_getElem? hj)
    omega
end
/-! chains -/
theorem chain_mid {xl : Addr} {suf : List HR} {r : HR} : ∀ {pre : List HR} {a : Addr}, Chain xl (pre ++ r :: suf) a → ∃ b, getL "parent" r.es = some (some (.ref b)) ∧ Chain xl suf b
  | [], _, h => let ⟨_, b, h1, h2⟩ := h; ⟨b, h1, h2⟩
  | _ :: _, _, h => let ⟨_, _, _, h2⟩ := h; chain_mid h2
/-- a new node behind pre's last -/
theorem chain_put {xl b : Addr} {suf : List HR} {rb rb' rn : HR} (hx : rb'.x = rb.x) (h1 : getL "parent" rb'.es = some (some (.ref rn.x))) (h2 : getL "parent" rn.es = some (some (.ref b))) (h3 : Chain xl suf b) :
    ∀ {pre : List HR} {a : Addr}, Chain xl (pre ++ rb :: suf) a → Chain xl (pre ++ rb' :: rn :: suf) a
  | [], _, h => ⟨h.1.trans hx.symm, rn.x, h1, rfl, b, h2, h3⟩
  | _ :: _, _, h => let ⟨e, c, h4, h5⟩ := h; ⟨e, c, h4, chain_put hx h1 h2 h3 h5⟩
end Mine


namespace Mine
/-- what the first loop keeps -/
structure Core (b xl : Nat) (est : List DictEntry) (H ns : List HR) (ks : List Nat) (a : Addr) : Prop where
  laid : Laid b H
  par : getL "parent" est = some (some (.ref a))
  tord : getL "handler_order" est = some none
  pok : ParOK est
  chain : Chain xl ns a
  len : ns.length = ks.length
  at_ : ∀ (i k : Nat) (r : HR), ks[i]? = some k → ns[i]? = some r → H[k]? = some r
  nodup : ks.Nodup
  short : ks.length ≤ 12
  sorted : (ns.map (·.o)).Pairwise (· ≤ ·)
abbrev lit1 (lm ln lp xt dt xl dl c : Nat) (oc : Obj) (P V M : List Value) (np nn nm nt : Nat) (est : List DictEntry) (tl : List (Addr × Obj)) : List (Addr × Obj) :=
  (lp, W.listOf P.toArray np) :: (ln, W.listOf V.toArray nn) :: (lm, W.listOf M.toArray nm) :: (xl, instObj 45 dl) :: (dl, dictOf [] 0) :: (xt, instObj 45 dt) :: (dt, dictOf est nt) :: (c, oc) :: tl
abbrev refsOf (H : List HR) : List Value := H.map fun r => Value.ref r.x
def J1 (lm ln lp xt dt xl dl c : Nat) (i : Nat) (m : Str → Option Value) (nw : List (Addr × Obj)) : Prop :=
  (m "top" = some (.ref xt) ∧ m "tail" = some (.ref xl) ∧ m "made" = some (.ref lm) ∧ m "numbers" = some (.ref ln) ∧ m "places" = some (.ref lp)) ∧
  ∃ oc vc P V np nn nm nt est H ns ks a, nw = lit1 lm ln lp xt dt xl dl c oc P V (refsOf H) np nn nm nt est (flatH H) ∧ oc.data = .cell vc ∧ IntsAre P (ks.map (Nat.cast : Nat → Int)) ∧ IntsAre V (ns.map (·.o)) ∧ H.length ≤ i ∧ Core lp xl est H ns ks a
section
variable {prog : Program} {w : World} {A : Around} {E : Value → Shared → Prop} {s : Shared} {env : Env} {h₀ : Heap} {x : Str} {body : List Stmt} {Q : Flow → Shared → Prop}
def Ordered (lm ln lp xt dt xl dl c : Nat) : Prop := c < dt ∧ dt < xt ∧ xt < dl ∧ dl < xl ∧ xl < lm ∧ lm < ln ∧ ln < lp
theorem own_off {lm ln lp xt dt xl dl c D I : Nat} {H : List HR} {own : List (Addr × Obj)} (ho : Ordered lm ln lp xt dt xl dl c) (hD : c < D ∧ D < dt) (hL : Laid lp H) (hlp : lp < I) (hown : ∀ p ∈ own, p.1 = I ∨ p.1 = D) :
    OwnOff (flatH H ++ own) [lp, ln, lm, xl, dl, xt, dt, c] := by
  intro p hp b₀ hb
  obtain ⟨b, rfl⟩ : ∃ b : Nat, b = b₀ := ⟨b₀, rfl⟩
  obtain ⟨o1, o2, o3, o4, o5, o6, o7⟩ := ho
  have hbl : (b : Nat) ≤ lp ∧ (b : Nat) ≠ D := by
    simp only [List.mem_cons, List.not_mem_nil, or_false] at hb
    rcases hb with rfl | rfl | rfl | rfl | rfl | rfl | rfl | rfl <;> constructor <;> omega
  rcases List.mem_append.mp hp with hp | hp
  · exact hL.off hbl.1 p hp
  · rcases hown p hp with e | e
    · rw [e]; intro q; have q' : (I : Nat) = b := q; omega
    · rw [e]; intro q; exact hbl.2 q.symm
theorem loop1 {lm ln lp xt dt xl dl c D : Nat} {ws : List Value} {ns : List Int} {oc : Obj} {vc : Option Value} {est : List DictEntry} {nt nD : Nat} {m₀ : Str → Option Value}
    (hh : A.handled = none) (F : Fr h₀ env.locals s.heap m₀) (N : News h₀ env.locals s.heap [(lp, W.listOf #[] 0), (ln, W.listOf #[] 0), (lm, W.listOf #[] 0), (xl, instObj 45 dl), (dl, dictOf [] 0), (xt, instObj 45 dt), (dt, dictOf est nt), (D, W.listOf ws.toArray nD), (c, oc)])
    (hI : IntsAre ws ns) (hc : oc.data = .cell vc) (ho : Ordered lm ln lp xt dt xl dl c) (hD : c < D ∧ D < dt) (hpar : getL "parent" est = some (some (.ref xl))) (htord : getL "handler_order" est = some none) (hpok : ParOK est) (hx : x ≠ "top" ∧ x ≠ "tail" ∧ x ≠ "made" ∧ x ≠ "numbers" ∧ x ≠ "places")
    (hm : m₀ "top" = some (.ref xt) ∧ m₀ "tail" = some (.ref xl) ∧ m₀ "made" = some (.ref lm) ∧ m₀ "numbers" = some (.ref ln) ∧ m₀ "places" = some (.ref lp))
    (turn : ∀ (I i : Nat) n t (u : Str → Option Value) oc vc P V np nn nm nt est H hs ks a h tk own, i < ns.length → oc.data = .cell vc → IntsAre P (ks.map (Nat.cast : Nat → Int)) → IntsAre V (hs.map (·.o)) → H.length ≤ i → Core lp xl est H hs ks a → lp < I → (∀ p ∈ own, p.1 = I ∨ p.1 = D) → (∃ o, (I, o) ∈ own) → (∀ p ∈ flatH H, p.1 ≠ I) → OwnOff (flatH H ++ own) [lp, ln, lm, xl, dl, xt, dt, c] → Ordered lm ln lp xt dt xl dl c →
      Fr h₀ env.locals h (fun y => if y = x then some (.int n t) else if y = "top" then some (.ref xt) else if y = "tail" then some (.ref xl) else if y = "made" then some (.ref lm) else if y = "numbers" then some (.ref ln) else if y = "places" then some (.ref lp) else u y) →
      News h₀ env.locals h (lit1 lm ln lp xt dt xl dl c oc P V (refsOf H) np nn nm nt est (flatH H ++ own)) →
      wpAny (model prog w) A (execs body env) (PostJ h₀ env.locals (J1 lm ln lp xt dt xl dl c (i + 1)) own I { s with heap := h, toks := tk } Q) E { s with heap := h, toks := tk })
    (done : ∀ (u : Str → Option Value) oc vc P V np nn nm nt est H hs ks a h tk, oc.data = .cell vc → IntsAre P (ks.map (Nat.cast : Nat → Int)) → IntsAre V (hs.map (·.o)) → H.length ≤ ns.length → Core lp xl est H hs ks a →
      Fr h₀ env.locals h (fun y => if y = "top" then some (.ref xt) else if y = "tail" then some (.ref xl) else if y = "made" then some (.ref lm) else if y = "numbers" then some (.ref ln) else if y = "places" then some (.ref lp) else u y) →
      News h₀ env.locals h (lit1 lm ln lp xt dt xl dl c oc P V (refsOf H) np nn nm nt est (flatH H)) → Q .next { s with heap := h, toks := tk }) :
    wpAny (model prog w) A (pyIter (.ref D)) (fun it s₂ => LoopAtV prog w A h₀ env x body Q E it s₂) E s := by
  have N' : News h₀ env.locals s.heap (lit1 lm ln lp xt dt xl dl c oc [] [] (refsOf []) 0 0 0 nt est (flatH [])) := news_sub N fun p hp => by
    simp only [lit1, flatH, List.flatMap_nil, List.mem_cons, List.not_mem_nil, or_false] at hp ⊢
    rcases hp with h | h | h | h | h | h | h | h <;> subst h <;> simp
  have hDm : (D, W.listOf ws.toArray nD) ∈ [(lp, W.listOf #[] 0), (ln, W.listOf #[] 0), (lm, W.listOf #[] 0), (xl, instObj 45 dl), (dl, dictOf [] 0), (xt, instObj 45 dt), (dt, dictOf est nt), (D, W.listOf ws.toArray nD), (c, oc)] := by simp
  refine iter_listJ (vs := ws) (m₀ := m₀) (J1 lm ln lp xt dt xl dl c) hh (News.isList N hDm) (N _ hDm).2.1 F N' ?_ ?_ ?_
  · exact ⟨hm, oc, vc, [], [], 0, 0, 0, nt, est, [], [], [], xl, rfl, hc, IntsAre.nil, IntsAre.nil, Nat.le_refl _, ⟨Laid.nil, hpar, htord, hpok, rfl, rfl, (fun i k r h => nomatch h), List.nodup_nil, Nat.zero_le _, .nil⟩⟩
  · rintro I i v m₁ nw h tk own hi ⟨⟨m1, m2, m3, m4, m5⟩, oc, vc, P, V, np, nn, nm, nt, est, H, hs, ks, a, rfl, hc, hP, hV, hlen, hC⟩ hoI hown hIo hlt hDI F2 N2
    have hil : i < ns.length := by rw [← hI.length]; exact (List.getElem?_eq_some_iff.mp hi).1
    obtain ⟨t, hx'⟩ := hI.get i ns[i] (by simp [hil])
    obtain rfl : v = .int ns[i] t := by rw [hx'] at hi; exact (Option.some.inj hi).symm
    have hlpI : lp < I := hlt (lp, W.listOf #[] 0) (by simp [lit1])
    refine turn I i ns[i] t m₁ oc vc P V np nn nm nt est H hs ks a h tk own hil hc hP hV hlen hC hlpI hown hIo (fun p hp => hoI p (by simp [lit1, hp])) (own_off ho hD hC.laid hlpI hown) ho ?_ N2
    rw [show (fun y => if y = x then some (Value.int ns[i] t) else if y = Str.ofString "top" then some (.ref xt) else if y = Str.ofString "tail" then some (.ref xl) else if y = Str.ofString "made" then some (.ref lm) else if y = Str.ofString "numbers" then some (.ref ln) else if y = Str.ofString "places" then some (.ref lp) else m₁ y) = (fun y => if y = x then some (Value.int ns[i] t) else m₁ y) from by
      funext y; simp only [fill1 m1, fill1 m2, fill1 m3, fill1 m4, fill1 m5]]
    exact F2
  · rintro m₁ nw h tk ⟨⟨m1, m2, m3, m4, m5⟩, oc, vc, P, V, np, nn, nm, nt, est, H, hs, ks, a, rfl, hc, hP, hV, hlen, hC⟩ F2 N2
    refine done m₁ oc vc P V np nn nm nt est H hs ks a h tk hc hP hV (by rw [← hI.length]; exact hlen) hC ?_ N2
    rw [show (fun y => if y = Str.ofString "top" then some (.ref xt) else if y = Str.ofString "tail" then some (.ref xl) else if y = Str.ofString "made" then some (.ref lm) else if y = Str.ofString "numbers" then some (.ref ln) else if y = Str.ofString "places" then some (.ref lp) else m₁ y) = m₁ from by
      funext y; simp only [fill1 m1, fill1 m2, fill1 m3, fill1 m4, fill1 m5]]
    exact F2
end

/-! the first statement of a turn -/
abbrev map1 (x : Str) (v : Value) (lm ln lp xt xl : Nat) (u : Str → Option Value) : Str → Option Value := fun y => if y = x then some v else if y = "top" then some (.ref xt) else if y = "tail" then some (.ref xl) else if y = "made" then some (.ref lm) else if y = "numbers" then some (.ref ln) else if y = "places" then some (.ref lp) else u y
def Mid1 (h₀ : Heap) (L : Addr) (s : Shared) (x : Str) (n : Int) (v : Value) (lm ln lp xt dt xl dl c : Nat) (oc : Obj) (nm : Nat) (H : List HR) (own : List (Addr × Obj)) (s' : Shared) : Prop :=
  ∃ u P V np nn nt est hs ks a h tk, s' = { s with heap := h, toks := tk } ∧ IntsAre P (ks.map (Nat.cast : Nat → Int)) ∧ IntsAre V (hs.map (·.o)) ∧ Core lp xl est H hs ks a ∧ (n.fmod 4 ≠ 3 → ks.length ≤ 11) ∧
    Fr h₀ L h (map1 x v lm ln lp xt xl u) ∧ News h₀ L h (lit1 lm ln lp xt dt xl dl c oc P V (refsOf H) np nn nm nt est (flatH H ++ own))
theorem cut1 {M : Model} {A : Around} {E : Value → Shared → Prop} {s : Shared} {env : Env} {st : Stmt} {rest : List Stmt} {Q : Flow → Shared → Prop} {h₀ : Heap} {L : Addr} {x : Str} {n : Int} {v : Value} {lm ln lp xt dt xl dl c nm : Nat} {oc : Obj} {H : List HR} {own : List (Addr × Obj)} {m : Str → Option Value} (_F : Fr h₀ L s.heap m) (_ho : Ordered lm ln lp xt dt xl dl c)
    (h1 : wpAny M A (exec st env) (fun f s' => f = .next ∧ Mid1 h₀ L s x n v lm ln lp xt dt xl dl c oc nm H own s') E s)
    (h2 : ∀ (u : Str → Option Value) P V np nn nt est hs ks a h tk, IntsAre P (ks.map (Nat.cast : Nat → Int)) → IntsAre V (hs.map (·.o)) → Core lp xl est H hs ks a → (n.fmod 4 ≠ 3 → ks.length ≤ 11) →
      Fr h₀ L h (map1 x v lm ln lp xt xl u) → News h₀ L h (lit1 lm ln lp xt dt xl dl c oc P V (refsOf H) np nn nm nt est (flatH H ++ own)) → wpAny M A (execs rest env) Q E { s with heap := h, toks := tk }) :
    wpAny M A (execs (st :: rest) env) Q E s := by
  refine seq_cut _ h1 fun s' h => ?_
  obtain ⟨u, P, V, np, nn, nt, est, hs, ks, a, h', tk, rfl, a1, a2, a3, a4, a5, a6⟩ := h
  exact h2 u P V np nn nt est hs ks a h' tk a1 a2 a3 a4 a5 a6
section
variable {h₀ h : Heap} {L : Addr} {lm ln lp xt dt xl dl c np nn nm nt n' : Nat} {oc : Obj} {P V M : List Value} {est es' : List DictEntry} {tl : List (Addr × Obj)} {H hs : List HR} {ks : List Nat} {k0 : Nat} {r0 : HR} {a b b' : Nat}
theorem norm_dt (ho : Ordered lm ln lp xt dt xl dl c) (hoff : OwnOff tl [lp, ln, lm, xl, dl, xt, dt, c]) (N : News h₀ L h ((dt, dictOf es' n') :: off dt (lit1 lm ln lp xt dt xl dl c oc P V M np nn nm nt est tl))) :
    News h₀ L h (lit1 lm ln lp xt dt xl dl c oc P V M np nn nm n' es' tl) := by
  obtain ⟨o1, o2, o3, o4, o5, o6, o7⟩ := ho
  refine news_sub N fun p hp => ?_
  simp only [lit1, List.mem_cons] at hp
  rcases hp with rfl | rfl | rfl | rfl | rfl | rfl | rfl | rfl | hp
  · exact .tail _ (mem_off.mpr ⟨by simp [lit1], (by omega : lp ≠ dt)⟩)
  · exact .tail _ (mem_off.mpr ⟨by simp [lit1], (by omega : ln ≠ dt)⟩)
  · exact .tail _ (mem_off.mpr ⟨by simp [lit1], (by omega : lm ≠ dt)⟩)
  · exact .tail _ (mem_off.mpr ⟨by simp [lit1], (by omega : xl ≠ dt)⟩)
  · exact .tail _ (mem_off.mpr ⟨by simp [lit1], (by omega : dl ≠ dt)⟩)
  · exact .tail _ (mem_off.mpr ⟨by simp [lit1], (by omega : xt ≠ dt)⟩)
  · exact .head _
  · exact .tail _ (mem_off.mpr ⟨by simp [lit1], (by omega : c ≠ dt)⟩)
  · exact .tail _ (mem_off.mpr ⟨by simp [lit1, hp], hoff p hp dt (by simp)⟩)
theorem Core.pop (hC : Core b xl est H (r0 :: hs) (k0 :: ks) a) (hp : getL "parent" r0.es = some (some (.ref b'))) (hset : SetPar est es' (.ref b')) : Core b xl es' H hs ks b' := by
  obtain ⟨_, c0, h1, h2⟩ := hC.chain
  have e : c0 = b' := by
    have := h1.symm.trans hp
    simpa using this
  subst e
  refine ⟨hC.laid, hset.1, (hset.2.1 "handler_order" (by decide)).trans hC.tord, hset.ok hC.pok, h2, by simpa using hC.len, fun i k r h3 h4 => hC.at_ (i + 1) k r (by simpa using h3) (by simpa using h4), (List.nodup_cons.mp hC.nodup).2, Nat.le_trans (Nat.le_succ _) hC.short, (List.pairwise_cons.mp (by simpa using hC.sorted)).2⟩
end
theorem map1_put {x z : Str} {v : Value} {w : Option Value} {lm ln lp xt xl : Nat} {u : Str → Option Value} (hz : z ≠ x ∧ z ≠ "top" ∧ z ≠ "tail" ∧ z ≠ "made" ∧ z ≠ "numbers" ∧ z ≠ "places") :
    (fun y => if y = z then w else map1 x v lm ln lp xt xl u y) = map1 x v lm ln lp xt xl (fun y => if y = z then w else u y) := by
  funext y
  by_cases h : y = z
  · subst h
    obtain ⟨h1, h2, h3, h4, h5, h6⟩ := hz
    simp only [map1, if_true, if_neg h1, if_neg h2, if_neg h3, if_neg h4, if_neg h5, if_neg h6]
  · simp only [map1, if_neg h]
theorem fr_put {h₀ h : Heap} {L : Addr} {x z : Str} {v : Value} {w : Option Value} {lm ln lp xt xl : Nat} {u : Str → Option Value} (F : Fr h₀ L h (fun y => if y = z then w else map1 x v lm ln lp xt xl u y)) (hz : z ≠ x ∧ z ≠ "top" ∧ z ≠ "tail" ∧ z ≠ "made" ∧ z ≠ "numbers" ∧ z ≠ "places") :
    Fr h₀ L h (map1 x v lm ln lp xt xl (fun y => if y = z then w else u y)) := map1_put hz ▸ F
end Mine


namespace Mine
theorem pass_le {ahead : Bool} {n o : Int} (h : pass ahead n o = true) : o ≤ n := by
  unfold pass at h
  split at h
  · simp at h; omega
  · simp at h; omega
theorem pass_ge {ahead : Bool} {n o : Int} (h : pass ahead n o = false) : n ≤ o := by
  unfold pass at h
  split at h
  · simp at h; omega
  · simp at h; omega
theorem pass_mono {ahead : Bool} {n o o' : Int} (h : pass ahead n o = false) (ho : o ≤ o') : pass ahead n o' = false := by
  unfold pass at h ⊢
  split at h
  · rename_i q; rw [if_pos q]; simp at h ⊢; omega
  · rename_i q; rw [if_neg q]; simp at h ⊢; omega
section
variable {b xl : Nat} {est : List DictEntry} {H hs : List HR} {ks : List Nat} {a : Addr}
theorem Core.mem (hC : Core b xl est H hs ks a) {i : Nat} {r : HR} (h : hs[i]? = some r) : ∃ k, ks[i]? = some k ∧ H[k]? = some r := by
  have hi : i < ks.length := by rw [← hC.len]; exact (List.getElem?_eq_some_iff.mp h).1
  exact ⟨ks[i], by simp [hi], hC.at_ i ks[i] r (by simp [hi]) h⟩
theorem Core.memH (hC : Core b xl est H hs ks a) {r : HR} (h : r ∈ hs) : r ∈ H := by
  obtain ⟨i, hi⟩ := List.mem_iff_getElem?.mp h
  obtain ⟨k, _, hk⟩ := hC.mem hi
  exact List.mem_of_getElem? hk
theorem Core.lt (hC : Core b xl est H hs ks a) {k : Nat} (h : k ∈ ks) : k < H.length := by
  obtain ⟨i, hi⟩ := List.mem_iff_getElem?.mp h
  have hi' : i < hs.length := by rw [hC.len]; exact (List.getElem?_eq_some_iff.mp hi).1
  exact (List.getElem?_eq_some_iff.mp (hC.at_ i k hs[i] hi (by simp [hi']))).1
theorem Core.dx_ne (hC : Core b xl est H hs ks a) {i j : Nat} {r r' : HR} (hi : hs[i]? = some r) (hj : hs[j]? = some r') (hne : i ≠ j) : r.dx ≠ r'.dx := by
  obtain ⟨k, h1, h2⟩ := hC.mem hi
  obtain ⟨k', h3, h4⟩ := hC.mem hj
  intro e
  have ek := hC.laid.inj h2 h4 e
  subst ek
  have h1' := List.getElem?_eq_some_iff.mp h1
  have h3' := List.getElem?_eq_some_iff.mp h3
  exact hne ((List.getElem_inj hC.nodup).mp (h1'.2.trans h3'.2.symm))
end
section
variable {lp xl dt : Nat} {est es1 es2 : List DictEntry} {H pre suf : List HR} {ks : List Nat} {a b : Nat} {rt rn rb : HR} {ahead : Bool} {n1 n2 : Nat}
theorem Core.put (hC : Core lp xl est H (pre ++ suf) ks a) (hdt : dt < lp) (hrt : rt.dx = dt ∧ rt.es = est ∧ rt.x < lp) (hlen : ks.length ≤ 11)
    (hp : ∀ r ∈ pre, pass ahead rn.o r.o = true) (hf : ∀ r rs, suf = r :: rs → pass ahead rn.o r.o = false) (hrb : (rt :: pre).getLast? = some rb) (hch : Chain xl suf b)
    (hs1 : SetPar rn.es es1 (.ref b)) (hs2 : SetPar rb.es es2 (.ref rn.x)) (hrn : OrdOf rn.C rn.es rn.o ∧ ParOK rn.es) (hn1 : lp < rn.dx) (hn2 : rn.dx < rn.x) (hn3 : ∀ r ∈ H, r.x < rn.dx) :
    ∃ a', Core lp xl (if rb.dx = dt then es2 else est) (setH rb.dx es2 n2 H ++ [{ rn with es := es1, n := n1 }]) (setH rb.dx es2 n2 pre ++ { rn with es := es1, n := n1 } :: suf) (ks.take pre.length ++ H.length :: ks.drop pre.length) a' := by
  have hfall : ∀ r ∈ suf, pass ahead rn.o r.o = false := by
    cases suf with
    | nil => intro r h; cases h
    | cons r0 rs =>
      intro r hr
      have h0 := hf r0 rs rfl
      rcases List.mem_cons.mp hr with rfl | hr
      · exact h0
      · have hsor := hC.sorted
        rw [List.map_append, List.pairwise_append] at hsor
        have := (List.pairwise_cons.mp (by simpa using hsor.2.1 : List.Pairwise (· ≤ ·) (r0.o :: rs.map (·.o)))).1 r.o (List.mem_map_of_mem hr)
        exact pass_mono h0 this
  have hlow : ∀ r ∈ H, r.dx ≠ dt := fun r hr => by have := (hC.laid.low r hr).1; omega
  -- the one whose parent turns
  have hsuf : ∀ r ∈ suf, r.dx ≠ rb.dx := by
    intro r hr
    obtain ⟨j, hj⟩ := List.mem_iff_getElem?.mp hr
    have hj' : (pre ++ suf)[pre.length + j]? = some r := by rw [List.getElem?_append_right (by omega)]; simpa using hj
    rcases List.eq_nil_or_concat pre with rfl | ⟨p', rb', rfl⟩
    · have : rb = rt := by simpa using hrb.symm
      rw [this, hrt.1]; exact hlow r (hC.memH (by simp [hr]))
    · have e : rb = rb' := by
        rw [List.concat_eq_append, ← List.cons_append, List.getLast?_concat] at hrb
        exact (Option.some.inj hrb).symm
      subst e
      have hi' : (p'.concat rb ++ suf)[p'.length]? = some rb := by simp
      exact hC.dx_ne hj' hi' (by simp; omega)
  have hsetH : Laid lp (setH rb.dx es2 n2 H) := by
    refine hC.laid.set fun r hr e => ?_
    rcases List.eq_nil_or_concat pre with rfl | ⟨p', rb', rfl⟩
    · have : rb = rt := by simpa using hrb.symm
      rw [this, hrt.1] at e
      exact absurd e (hlow r hr)
    · have e' : rb = rb' := by
        rw [List.concat_eq_append, ← List.cons_append, List.getLast?_concat] at hrb
        exact (Option.some.inj hrb).symm
      subst e'
      have hm : rb ∈ H := hC.memH (by simp)
      obtain ⟨i, hi⟩ := List.mem_iff_getElem?.mp hr
      obtain ⟨j, hj⟩ := List.mem_iff_getElem?.mp hm
      have := hC.laid.inj hi hj e
      subst this
      have : r = rb := by rw [hi] at hj; exact Option.some.inj hj
      subst this
      exact ⟨hs2.ord (hC.laid.ok r hr).1, hs2.ok (hC.laid.ok r hr).2⟩
  have hlaid : Laid lp (setH rb.dx es2 n2 H ++ [{ rn with es := es1, n := n1 }]) := by
    refine hsetH.concat hn1 hn2 (fun r hr => ?_) ⟨hs1.ord hrn.1, hs1.ok hrn.2⟩
    obtain ⟨r', hr', rfl⟩ := List.mem_map.mp hr
    rw [setR_x]; exact hn3 r' hr'
  have hlenk : pre.length ≤ ks.length := by rw [← hC.len, List.length_append]; omega
  have hat : ∀ (i k : Nat) (r : HR), (ks.take pre.length ++ H.length :: ks.drop pre.length)[i]? = some k → (setH rb.dx es2 n2 pre ++ { rn with es := es1, n := n1 } :: suf)[i]? = some r → (setH rb.dx es2 n2 H ++ [{ rn with es := es1, n := n1 }])[k]? = some r := by
    intro i k r h1 h2
    have old : ∀ (i' k' : Nat) (r' : HR), ks[i']? = some k' → (pre ++ suf)[i']? = some r' → (setH rb.dx es2 n2 H ++ [{ rn with es := es1, n := n1 }])[k']? = some (setR rb.dx es2 n2 r') := by
      intro i' k' r' q1 q2
      have q3 := hC.at_ i' k' r' q1 q2
      rw [List.getElem?_append_left (by rw [setH_len]; exact (List.getElem?_eq_some_iff.mp q3).1)]
      unfold setH
      rw [List.getElem?_map, q3]; rfl
    have htk : (ks.take pre.length).length = pre.length := by rw [List.length_take]; omega
    rcases Nat.lt_trichotomy i pre.length with q | q | q
    · rw [List.getElem?_append_left (by omega), List.getElem?_take_of_lt q] at h1
      rw [List.getElem?_append_left (by rw [setH_len]; exact q)] at h2
      unfold setH at h2
      rw [List.getElem?_map] at h2
      obtain ⟨r', hr', rfl⟩ := Option.map_eq_some_iff.mp h2
      exact old i k r' h1 (by rw [List.getElem?_append_left q]; exact hr')
    · rw [List.getElem?_append_right (by omega), htk, q, Nat.sub_self] at h1
      rw [List.getElem?_append_right (by rw [setH_len]; omega), setH_len, q, Nat.sub_self] at h2
      simp only [List.getElem?_cons_zero, Option.some.injEq] at h1 h2
      subst h1 h2
      rw [List.getElem?_append_right (by rw [setH_len]; omega), setH_len, Nat.sub_self]; rfl
    · obtain ⟨d, hd⟩ : ∃ d, i - pre.length = d + 1 := ⟨i - pre.length - 1, by omega⟩
      rw [List.getElem?_append_right (by omega), htk, hd, List.getElem?_cons_succ, List.getElem?_drop] at h1
      rw [List.getElem?_append_right (by rw [setH_len]; omega), setH_len, hd, List.getElem?_cons_succ] at h2
      have hm : r ∈ suf := List.mem_of_getElem? h2
      have := old (pre.length + d) k r h1 (by rw [List.getElem?_append_right (by omega)]; simpa using h2)
      rwa [setR_ne (hsuf r hm)] at this
  have hnd : (ks.take pre.length ++ H.length :: ks.drop pre.length).Nodup := by
    have hn : H.length ∉ ks := fun h => Nat.lt_irrefl _ (hC.lt h)
    have h0 := hC.nodup
    rw [← List.take_append_drop pre.length ks] at h0 hn
    rw [List.nodup_append] at h0 ⊢
    refine ⟨h0.1, List.nodup_cons.mpr ⟨fun q => hn (List.mem_append_right _ q), h0.2.1⟩, fun x hx y hy e => ?_⟩
    rcases List.mem_cons.mp hy with rfl | hy
    · exact hn (List.mem_append_left _ (e ▸ hx))
    · exact h0.2.2 x hx y hy e
  have hsor : ((setH rb.dx es2 n2 pre ++ { rn with es := es1, n := n1 } :: suf).map (·.o)).Pairwise (· ≤ ·) := by
    have h0 := hC.sorted
    rw [List.map_append, List.pairwise_append] at h0
    rw [List.map_append, setH_os, List.map_cons, List.pairwise_append]
    refine ⟨h0.1, List.pairwise_cons.mpr ⟨fun o ho => ?_, h0.2.1⟩, fun x hx y hy => ?_⟩
    · obtain ⟨r, hr, rfl⟩ := List.mem_map.mp ho
      exact pass_ge (hfall r hr)
    · obtain ⟨r, hr, rfl⟩ := List.mem_map.mp hx
      rcases List.mem_cons.mp hy with rfl | hy
      · exact pass_le (hp r hr)
      · exact h0.2.2 _ hx _ hy
  have hlen1 : (setH rb.dx es2 n2 pre ++ ({ rn with es := es1, n := n1 } : HR) :: suf).length = (ks.take pre.length ++ H.length :: ks.drop pre.length).length := by
    have := hC.len
    simp only [List.length_append, List.length_cons, setH_len, List.length_take, List.length_drop] at this ⊢
    omega
  have hshort : (ks.take pre.length ++ H.length :: ks.drop pre.length).length ≤ 12 := by
    simp only [List.length_append, List.length_cons, List.length_take, List.length_drop]
    omega
  have hp1 : getL "parent" es1 = some (some (.ref b)) := hs1.1
  rcases List.eq_nil_or_concat pre with rfl | ⟨p', rb', rfl⟩
  · have e : rb = rt := by simpa using hrb.symm
    have e2 : rb.dx = dt := by rw [e]; exact hrt.1
    refine ⟨rn.x, hlaid, ?_, ?_, ?_, ?_, hlen1, hat, hnd, hshort, hsor⟩
    · rw [if_pos e2]; exact hs2.1
    · rw [if_pos e2, hs2.2.1 "handler_order" (by decide), e, hrt.2.1]; exact hC.tord
    · rw [if_pos e2]; exact hs2.ok (by rw [e, hrt.2.1]; exact hC.pok)
    · exact ⟨rfl, b, hp1, hch⟩
  · have e : rb = rb' := by
      rw [List.concat_eq_append, ← List.cons_append, List.getLast?_concat] at hrb
      exact (Option.some.inj hrb).symm
    subst e
    have e2 : rb.dx ≠ dt := hlow rb (hC.memH (by simp))
    refine ⟨a, hlaid, ?_, ?_, ?_, ?_, hlen1, hat, hnd, hshort, hsor⟩
    · rw [if_neg e2]; exact hC.par
    · rw [if_neg e2]; exact hC.tord
    · rw [if_neg e2]; exact hC.pok
    · have hpre : setH rb.dx es2 n2 (p'.concat rb) = p' ++ [setR rb.dx es2 n2 rb] := by
        unfold setH
        rw [List.concat_eq_append, List.map_append]
        congr 1
        have : setH rb.dx es2 n2 p' = p' := setH_ne fun r hr => by
          obtain ⟨j, hj⟩ := List.mem_iff_getElem?.mp hr
          have hjl := (List.getElem?_eq_some_iff.mp hj).1
          have hj' : (p'.concat rb ++ suf)[j]? = some r := by
            rw [List.concat_eq_append, List.append_assoc, List.getElem?_append_left hjl]; exact hj
          have hi' : (p'.concat rb ++ suf)[p'.length]? = some rb := by simp
          exact hC.dx_ne hj' hi' (by omega)
        exact this
      rw [hpre, List.append_assoc, List.singleton_append]
      refine chain_put (rb := rb) setR_x ?_ hp1 hch ?_
      · unfold setR; rw [if_pos rfl]; exact hs2.1
      · have := hC.chain
        rw [List.concat_eq_append, List.append_assoc, List.singleton_append] at this
        exact this
end

theorem Laid.x_ne_dx {b : Nat} {H : List HR} (h : Laid b H) {r r' : HR} (hr : r ∈ H) (hr' : r' ∈ H) : r.x ≠ r'.dx := by
  obtain ⟨i, hi⟩ := List.mem_iff_getElem?.mp hr
  obtain ⟨j, hj⟩ := List.mem_iff_getElem?.mp hr'
  have hi' := List.getElem?_eq_some_iff.mp hi
  have hj' := List.getElem?_eq_some_iff.mp hj
  have l1 := h.low r hr
  have l2 := h.low r' hr'
  rcases Nat.lt_trichotomy i j with q | q | q
  · have := (List.pairwise_iff_getElem.mp h.pw) i j hi'.1 hj'.1 q
    rw [hi'.2, hj'.2] at this
    omega
  · subst q
    have : r = r' := by rw [hi] at hj; exact Option.some.inj hj
    subst this
    omega
  · have := (List.pairwise_iff_getElem.mp h.pw) j i hj'.1 hi'.1 q
    rw [hi'.2, hj'.2] at this
    omega
theorem lit_le {lm ln lp xt dt xl dl c b : Nat} (ho : Ordered lm ln lp xt dt xl dl c) (hb : b ∈ [lp, ln, lm, xl, dl, xt, dt, c]) : b ≤ lp := by
  obtain ⟨o1, o2, o3, o4, o5, o6, o7⟩ := ho
  simp only [List.mem_cons, List.not_mem_nil, or_false] at hb
  rcases hb with h | h | h | h | h | h | h | h <;> omega
theorem filter_pre {ahead : Bool} {n : Int} {pre suf : List HR} (hp : ∀ r ∈ pre, pass ahead n r.o = true) (hf : ∀ r ∈ suf, pass ahead n r.o = false) : (((pre ++ suf).map (·.o)).filter (pass ahead n)).length = pre.length := by
  rw [List.map_append, List.filter_append, List.filter_eq_self.mpr (fun o ho => by obtain ⟨r, hr, rfl⟩ := List.mem_map.mp ho; exact hp r hr), List.filter_eq_nil_iff.mpr (fun o ho => by obtain ⟨r, hr, rfl⟩ := List.mem_map.mp ho; rw [hf r hr]; exact Bool.false_ne_true)]
  simp
theorem suf_false {b xl : Nat} {est : List DictEntry} {H pre suf : List HR} {ks : List Nat} {a : Addr} {ahead : Bool} {n : Int} (hC : Core b xl est H (pre ++ suf) ks a) (hf : ∀ r rs, suf = r :: rs → pass ahead n r.o = false) : ∀ r ∈ suf, pass ahead n r.o = false := by
  cases suf with
  | nil => intro r h; cases h
  | cons r0 rs =>
    intro r hr
    have h0 := hf r0 rs rfl
    rcases List.mem_cons.mp hr with rfl | hr
    · exact h0
    · have hsor := hC.sorted
      rw [List.map_append, List.pairwise_append] at hsor
      have := (List.pairwise_cons.mp (by simpa using hsor.2.1 : List.Pairwise (· ≤ ·) (r0.o :: rs.map (·.o)))).1 r.o (List.mem_map_of_mem hr)
      exact pass_mono h0 this
structure PutOut (lm ln lp xt dt xl dl c : Nat) (H H' hs hs' : List HR) (ks : List Nat) (est' : List DictEntry) (a' : Addr) (rn : HR) (ahead : Bool) (own : List (Addr × Obj)) (pl : Nat) : Prop where
  refs : refsOf H' = refsOf H ++ [.ref rn.x]
  off : OwnOff (flatH H' ++ own) [lp, ln, lm, xl, dl, xt, dt, c]
  adr : ∀ q ∈ flatH H', (∃ q' ∈ flatH H, q'.1 = q.1) ∨ q.1 = rn.x ∨ q.1 = rn.dx
  cnt : pl = ((hs.map (·.o)).filter (pass ahead rn.o)).length
  le : pl ≤ ks.length
  core : Core lp xl est' H' hs' (ks.take pl ++ H.length :: ks.drop pl) a'
  os : hs'.map (·.o) = (hs.map (·.o)).take pl ++ rn.o :: (hs.map (·.o)).drop pl
section
variable {w : World} {A : Around} {E : Value → Shared → Prop} {s : Shared} {x y L : Addr} {h₀ : Heap} {m : Str → Option Value} {news : List (Addr × Obj)} {o o' : Int}
theorem put_turn {Q : Value → Shared → Prop} {p : Program} {loose : List Str} {mean : ExcName → Option Value} {mg mb : Str → Option Value} {dp un : Nat} {gd : Option (List Code)} {cn : Str} {cs : Scope} {a₀ : Addr} {ccd : Value} {cl : List (Str × Addr)} {outer : List Env} {A₀ : Around} {base : Heap}
    {lm ln lp xt dt xl dl c np nn nm nt : Nat} {oc ot : Obj} {P V M : List Value} {est : List DictEntry} {H hs : List HR} {ks : List Nat} {a : Addr} {own : List (Addr × Obj)} {rn : HR} {tt : Addr} {ahead : Bool}
    (B : Below A₀ base outer h₀) (F : Fr h₀ L s.heap m) (X : (Mine.hd.heap_39 w.params).In h₀)
    (N : News h₀ L s.heap ((tt, ot) :: (rn.x, instObj rn.C rn.dx) :: (rn.dx, dictOf rn.es rn.n) :: lit1 lm ln lp xt dt xl dl c oc P V M np nn nm nt est (flatH H ++ own)))
    (T : Top p loose mean mg mb h₀) (hk : cs.kind = .function) (hC : Core lp xl est H hs ks a) (ho : Ordered lm ln lp xt dt xl dl c) (hoff : OwnOff (flatH H ++ own) [lp, ln, lm, xl, dl, xt, dt, c]) (hown2 : ∀ p ∈ own, ∀ r ∈ H, p.1 ≠ r.dx)
    (hlt : ∀ p ∈ flatH H ++ own, p.1 < rn.dx) (hlt2 : lp < rn.dx) (hrO : OrdOf rn.C rn.es rn.o) (hrP : ParOK rn.es) (hxd : rn.dx < rn.x) (hlen : ks.length ≤ 11)
    (hd : dp + 2 < recursionLimit) (hu : un + 16 < cLine)
    (ret : ∀ h' tk' nt' est' H' hs' a' pl, Fr h₀ L h' m → News h₀ L h' (lit1 lm ln lp xt dt xl dl c oc P V M np nn nm nt' est' (flatH H' ++ own)) → PutOut lm ln lp xt dt xl dl c H H' hs hs' ks est' a' rn ahead own pl → Q .none { s with heap := h', toks := tk' }) :
    wpAny (model PySem.Challenge.rw_dn0254_09.row.prog w) (ktrTop dp un gd cn cs L a₀ ccd cl outer) (call (.ref 82) [.ref xt, .ref xl, .ref rn.x, .bool ahead]) Q E s := by
  have ho' := ho
  obtain ⟨o1, o2, o3, o4, o5, o6, o7⟩ := ho'
  have hin : ∀ r ∈ H, InL ((tt, ot) :: (rn.x, instObj rn.C rn.dx) :: (rn.dx, dictOf rn.es rn.n) :: lit1 lm ln lp xt dt xl dl c oc P V M np nn nm nt est (flatH H ++ own)) r := fun r hr =>
    ⟨by simp [lit1, flatH_inst hr], by simp [lit1, flatH_dict hr], (hC.laid.ok r hr).1, (hC.laid.ok r hr).2⟩
  have hHlt : ∀ r ∈ H, r.x < rn.dx := fun r hr => hlt _ (List.mem_append_left _ (flatH_inst hr))
  refine put_call (rt := ⟨xt, dt, 45, 500, est, nt⟩) (rn := rn) (ns := hs) (xl := xl) (a₁ := a) B F X N T hk ?_ ?_ (fun r hr => hin r (hC.memH hr)) hC.par hC.chain ?_ (by rw [hC.len]; exact hlen) ⟨dl, by simp [lit1]⟩ ?_ ?_ hd hu ?_
  · exact ⟨by simp [lit1], by simp [lit1], .inl ⟨rfl, hC.tord, rfl⟩, hC.pok⟩
  · exact ⟨by simp, by simp, hrO, hrP⟩
  · intro r hr
    have := hC.laid.low r (hC.memH hr)
    omega
  · show rn.dx ≠ dt
    omega
  · intro r hr
    have l1 := hC.laid.low r (hC.memH hr)
    have l2 := hHlt r (hC.memH hr)
    omega
  · intro h' tk' pre suf rb b es1 n1 es2 n2 e hp hf hrb hch F' N' hs1 hs2
    subst e
    obtain ⟨a', hC'⟩ := hC.put (n1 := n1) (n2 := n2) (dt := dt) (by omega) ⟨rfl, rfl, (by show xt < lp; omega)⟩ hlen hp hf hrb hch hs1 hs2 ⟨hrO, hrP⟩ hlt2 hxd hHlt
    have hfall := suf_false hC hf
    have hrbm : rb.dx = dt ∨ rb ∈ H := by
      rcases List.mem_cons.mp (List.mem_of_getLast? hrb) with q | q
      · left; rw [q]
      · right; exact hC.memH (List.mem_append_left _ q)
    have hrbx : rb.dx = dt ∨ lp < rb.dx := hrbm.imp id fun q => (hC.laid.low rb q).1
    have hrbn : rb.dx < rn.dx := by
      rcases hrbm with q | q
      · omega
      · have l1 := hC.laid.low rb q; have l2 := hHlt rb q; omega
    have far : ∀ q : Addr × Obj, q ∈ lit1 lm ln lp xt dt xl dl c oc P V M np nn nm nt est (flatH H ++ own) → (q.1 : Nat) ≠ rb.dx → (q.1 : Nat) ≠ rn.dx →
        q ∈ (rb.dx, dictOf es2 n2) :: off rb.dx ((rn.dx, dictOf es1 n1) :: off rn.dx ((tt, ot) :: (rn.x, instObj rn.C rn.dx) :: (rn.dx, dictOf rn.es rn.n) :: lit1 lm ln lp xt dt xl dl c oc P V M np nn nm nt est (flatH H ++ own))) :=
      fun q hq h1 h2 => .tail _ (mem_off.mpr ⟨.tail _ (mem_off.mpr ⟨.tail _ (.tail _ (.tail _ hq)), h2⟩), h1⟩)
    have hrf : refsOf (setH rb.dx es2 n2 H ++ [{ rn with es := es1, n := n1 }]) = refsOf H ++ [.ref rn.x] := by
      show List.map _ (_ ++ _) = _
      rw [List.map_append, setH_xs]; rfl
    have hadr : ∀ q ∈ flatH (setH rb.dx es2 n2 H ++ [{ rn with es := es1, n := n1 }]), (∃ q' ∈ flatH H, q'.1 = q.1) ∨ q.1 = rn.x ∨ q.1 = rn.dx := by
      intro q hq
      obtain ⟨r, hr, e⟩ := mem_flatH.mp hq
      rcases List.mem_append.mp hr with hr | hr
      · obtain ⟨r', hr', rfl⟩ := List.mem_map.mp hr
        rcases e with e | e
        · exact .inl ⟨_, flatH_inst hr', by rw [e]; exact setR_x.symm⟩
        · exact .inl ⟨_, flatH_dict hr', by rw [e]; exact setR_dx.symm⟩
      · rw [List.mem_singleton.mp hr] at e
        rcases e with e | e
        · exact .inr (.inl (by rw [e]))
        · exact .inr (.inr (by rw [e]))
    have hoff' : OwnOff (flatH (setH rb.dx es2 n2 H ++ [{ rn with es := es1, n := n1 }]) ++ own) [lp, ln, lm, xl, dl, xt, dt, c] := by
      intro q hq bb hb
      rcases List.mem_append.mp hq with hq | hq
      · rcases hadr q hq with ⟨q', hq', e⟩ | e | e
        · rw [← e]; exact hoff q' (List.mem_append_left _ hq') bb hb
        · have hb' := lit_le ho (b := bb) hb
          rw [e]; intro z; have z' : rn.x = bb := z; omega
        · have hb' := lit_le ho (b := bb) hb
          rw [e]; intro z; have z' : rn.dx = bb := z; omega
      · exact hoff q (List.mem_append_right _ hq) bb hb
    refine ret h' tk' (if rb.dx = dt then n2 else nt) _ _ _ a' pre.length F' (news_sub N' fun q hq => ?_) ⟨hrf, hoff', hadr, (filter_pre hp hfall).symm, (by rw [← hC.len, List.length_append]; omega), hC', ?_⟩
    · simp only [lit1, List.mem_cons] at hq
      rcases hq with rfl | rfl | rfl | rfl | rfl | rfl | rfl | rfl | hq
      · exact far _ (by simp [lit1]) (by show lp ≠ rb.dx; omega) (by show lp ≠ rn.dx; omega)
      · exact far _ (by simp [lit1]) (by show ln ≠ rb.dx; omega) (by show ln ≠ rn.dx; omega)
      · exact far _ (by simp [lit1]) (by show lm ≠ rb.dx; omega) (by show lm ≠ rn.dx; omega)
      · exact far _ (by simp [lit1]) (by show xl ≠ rb.dx; omega) (by show xl ≠ rn.dx; omega)
      · exact far _ (by simp [lit1]) (by show dl ≠ rb.dx; omega) (by show dl ≠ rn.dx; omega)
      · exact far _ (by simp [lit1]) (by show xt ≠ rb.dx; omega) (by show xt ≠ rn.dx; omega)
      · by_cases q : rb.dx = dt
        · rw [if_pos q, if_pos q, ← q]; exact .head _
        · rw [if_neg q, if_neg q]
          exact far _ (by simp [lit1]) (by show dt ≠ rb.dx; omega) (by show dt ≠ rn.dx; omega)
      · exact far _ (by simp [lit1]) (by show c ≠ rb.dx; omega) (by show c ≠ rn.dx; omega)
      · rcases List.mem_append.mp hq with hq | hq
        · obtain ⟨r, hr, e⟩ := mem_flatH.mp hq
          rcases List.mem_append.mp hr with hr | hr
          · obtain ⟨r', hr', rfl⟩ := List.mem_map.mp hr
            have l1 := hC.laid.low r' hr'
            have l2 := hHlt r' hr'
            rcases e with e | e
            · rw [setR_x, setR_C, setR_dx] at e
              subst e
              refine far _ (by simp [lit1, flatH_inst hr']) ?_ (by show r'.x ≠ rn.dx; omega)
              rcases hrbm with q | q
              · show r'.x ≠ rb.dx; omega
              · exact hC.laid.x_ne_dx hr' q
            · by_cases q : r'.dx = rb.dx
              · unfold setR at e
                rw [if_pos q] at e
                rw [e]
                show (r'.dx, dictOf es2 n2) ∈ _
                rw [q]; exact .head _
              · rw [setR_ne q] at e
                subst e
                exact far _ (by simp [lit1, flatH_dict hr']) q (by show r'.dx ≠ rn.dx; omega)
          · rw [List.mem_singleton.mp hr] at e
            rcases e with e | e
            · subst e
              exact .tail _ (mem_off.mpr ⟨.tail _ (mem_off.mpr ⟨by simp, (by show rn.x ≠ rn.dx; omega)⟩), (by show rn.x ≠ rb.dx; omega)⟩)
            · subst e
              exact .tail _ (mem_off.mpr ⟨.head _, (by show rn.dx ≠ rb.dx; omega)⟩)
        · refine far _ (by simp [lit1, hq]) ?_ ?_
          · rcases hrbm with z | z
            · rw [z]; exact hoff q (List.mem_append_right _ hq) dt (by simp)
            · exact hown2 q hq rb z
          · have := hlt q (List.mem_append_right _ hq)
            exact Nat.ne_of_lt this
    · rw [List.map_append, setH_os, List.map_cons, List.map_append, List.take_left' (by simp), List.drop_left' (by simp)]
end
theorem lt_tail8 {d : Addr} {a1 a2 a3 a4 a5 a6 a7 a8 : Addr × Obj} {tl : List (Addr × Obj)} (h : ∀ p ∈ a1 :: a2 :: a3 :: a4 :: a5 :: a6 :: a7 :: a8 :: tl, p.1 < d) : ∀ p ∈ tl, p.1 < d :=
  fun p hp => h p (.tail _ (.tail _ (.tail _ (.tail _ (.tail _ (.tail _ (.tail _ (.tail _ hp))))))))
theorem fold_filter (p : Int → Bool) : ∀ (os l : List Int), os.foldl (fun l k => if p k = true then l ++ [k] else l) l = l ++ os.filter p
  | [], l => by simp
  | o :: os, l => by
    rw [List.foldl_cons, fold_filter p os]
    by_cases h : p o = true
    · rw [if_pos h, List.filter_cons_of_pos h]; simp
    · rw [if_neg h, List.filter_cons_of_neg h]
theorem split_at {α : Type} (V : List α) {n : Nat} (h : n ≤ V.length) : ∃ V1 V2, V = V1 ++ V2 ∧ V1.length = n := ⟨V.take n, V.drop n, (List.take_append_drop n V).symm, by rw [List.length_take]; omega⟩
theorem ints_split {V1 V2 : List Value} {os : List Int} (h : IntsAre (V1 ++ V2) os) : IntsAre V1 (os.take V1.length) ∧ IntsAre V2 (os.drop V1.length) := by
  induction V1 generalizing os with
  | nil => exact ⟨by simpa using IntsAre.nil, by simpa using h⟩
  | cons v V1 ih =>
    cases h with
    | cons n t h =>
      obtain ⟨h1, h2⟩ := ih h
      exact ⟨.cons n t h1, h2⟩
theorem ints_put {V1 V2 : List Value} {os : List Int} {o : Int} {t : Tok} (h : IntsAre (V1 ++ V2) os) : IntsAre (V1 ++ .int o t :: V2) (os.take V1.length ++ o :: os.drop V1.length) := by
  obtain ⟨h1, h2⟩ := ints_split h
  exact IntsAre.append h1 (.cons o t h2)
theorem end_any {h₀ h : Heap} {L : Addr} {m' : Str → Option Value} {led : List (Addr × Obj)} {lm ln lp xt dt xl dl c np nn nm nt I tk i : Nat} {oc : Obj} {vc : Option Value} {P V M : List Value} {est' : List DictEntry} {H hs : List HR} {ks : List Nat} {own : List (Addr × Obj)} {a : Addr} {s₁ : Shared}
    (F : Fr h₀ L h m') (N : News h₀ L h led) (hsub : ∀ p ∈ lit1 lm ln lp xt dt xl dl c oc P V M np nn nm nt est' (flatH H ++ own), p ∈ led)
    (hm : m' "top" = some (.ref xt) ∧ m' "tail" = some (.ref xl) ∧ m' "made" = some (.ref lm) ∧ m' "numbers" = some (.ref ln) ∧ m' "places" = some (.ref lp))
    (hoc : oc.data = .cell vc) (hP : IntsAre P (ks.map (Nat.cast : Nat → Int))) (hV : IntsAre V (hs.map (·.o))) (hM : M = refsOf H) (hlen : H.length ≤ i) (hC : Core lp xl est' H hs ks a) (ho : Ordered lm ln lp xt dt xl dl c) (hlp : lp < I) (hHI : ∀ p ∈ flatH H, p.1 ≠ I) :
    EndJ h₀ L (J1 lm ln lp xt dt xl dl c i) own I s₁ { s₁ with heap := h, toks := tk } := by
  subst hM
  refine ⟨h, tk, m', lit1 lm ln lp xt dt xl dl c oc P V (refsOf H) np nn nm nt est' (flatH H), rfl, F, news_sub N fun p hp => hsub p (by simpa [lit1] using hp), fun p hp => ?_, hm, oc, vc, P, V, np, nn, nm, nt, est', H, hs, ks, a, rfl, hoc, hP, hV, hlen, hC⟩
  obtain ⟨o1, o2, o3, o4, o5, o6, o7⟩ := ho
  simp only [lit1, List.mem_cons] at hp
  rcases hp with rfl | rfl | rfl | rfl | rfl | rfl | rfl | rfl | hp
  · show lp ≠ I; omega
  · show ln ≠ I; omega
  · show lm ≠ I; omega
  · show xl ≠ I; omega
  · show dl ≠ I; omega
  · show xt ≠ I; omega
  · show dt ≠ I; omega
  · show c ≠ I; omega
  · exact hHI p hp
theorem end_put {h₀ h : Heap} {L : Addr} {m' : Str → Option Value} {led : List (Addr × Obj)} {lm ln lp xt dt xl dl c np nn nm nt I tk i : Nat} {oc : Obj} {vc : Option Value} {P1 P2 V1 V2 : List Value} {est' : List DictEntry} {H H' hs hs' : List HR} {ks : List Nat} {own : List (Addr × Obj)} {a' : Addr} {rn : HR} {ahead : Bool} {pl : Nat} {tp tv : Tok} {s₁ : Shared} {j : Int}
    (F : Fr h₀ L h m') (N : News h₀ L h led) (hsub : ∀ p ∈ lit1 lm ln lp xt dt xl dl c oc (P1 ++ .int j tp :: P2) (V1 ++ .int rn.o tv :: V2) (refsOf H ++ [.ref rn.x]) np nn nm nt est' (flatH H' ++ own), p ∈ led)
    (hm : m' "top" = some (.ref xt) ∧ m' "tail" = some (.ref xl) ∧ m' "made" = some (.ref lm) ∧ m' "numbers" = some (.ref ln) ∧ m' "places" = some (.ref lp))
    (hoc : oc.data = .cell vc) (hP : IntsAre (P1 ++ P2) (ks.map (Nat.cast : Nat → Int))) (hV : IntsAre (V1 ++ V2) (hs.map (·.o))) (h1 : P1.length = pl) (h2 : V1.length = pl) (hO : PutOut lm ln lp xt dt xl dl c H H' hs hs' ks est' a' rn ahead own pl) (hj : j = ((refsOf H).length : Int))
    (hlen : H.length ≤ i) (ho : Ordered lm ln lp xt dt xl dl c) (hlp : lp < I) (hHI : ∀ p ∈ flatH H, p.1 ≠ I) (hn1 : I < rn.dx) (hn2 : rn.dx < rn.x) :
    EndJ h₀ L (J1 lm ln lp xt dt xl dl c (i + 1)) own I s₁ { s₁ with heap := h, toks := tk } := by
  have hH' : H'.length = H.length + 1 := by
    have := congrArg List.length hO.refs
    simpa using this
  refine end_any (hs := hs') F N hsub hm hoc (ks := ks.take pl ++ H.length :: ks.drop pl) ?_ ?_ hO.refs.symm (by omega) hO.core ho hlp fun p hp => ?_
  · have := ints_put (o := (H.length : Int)) (t := tp) hP
    rw [h1] at this
    rw [List.map_append, List.map_cons, List.map_take, List.map_drop]
    rw [hj, List.length_map]
    exact this
  · rw [hO.os, ← h2]
    exact ints_put hV
  · rcases hO.adr p hp with ⟨q, hq, e⟩ | e | e
    · rw [← e]; exact hHI q hq
    · rw [e]; show rn.x ≠ I; omega
    · rw [e]; show rn.dx ≠ I; omega
end Mine


namespace Mine
def names5 (lm ln lp xt xl : Nat) (m : Str → Option Value) : Prop := m "top" = some (.ref xt) ∧ m "tail" = some (.ref xl) ∧ m "made" = some (.ref lm) ∧ m "numbers" = some (.ref ln) ∧ m "places" = some (.ref lp)
abbrev map5 (lm ln lp xt xl : Nat) (u : Str → Option Value) : Str → Option Value := fun y => if y = "top" then some (.ref xt) else if y = "tail" then some (.ref xl) else if y = "made" then some (.ref lm) else if y = "numbers" then some (.ref ln) else if y = "places" then some (.ref lp) else u y
theorem map5_eq {lm ln lp xt xl : Nat} {m : Str → Option Value} (h : names5 lm ln lp xt xl m) : map5 lm ln lp xt xl m = m := by
  obtain ⟨m1, m2, m3, m4, m5⟩ := h
  funext y; simp only [map5, fill1 m1, fill1 m2, fill1 m3, fill1 m4, fill1 m5]
section
variable {prog : Program} {w : World} {A : Around} {E : Value → Shared → Prop} {s : Shared} {env : Env} {h₀ : Heap} {x : Str} {body : List Stmt} {Q : Flow → Shared → Prop}
  {lm ln lp xt dt xl dl c np nn nm nt : Nat} {oc : Obj} {P V : List Value} {est : List DictEntry} {H : List HR} {m₀ : Str → Option Value}
theorem own_off2 {H : List HR} {I D : Nat} {own : List (Addr × Obj)} (ho : Ordered lm ln lp xt dt xl dl c) (hL : Laid lp H) (hlp : lp < I) (hown : ∀ p ∈ own, p.1 = I ∨ p.1 = D) {L₀ : List Nat} (hsub : ∀ b ∈ L₀, b ∈ [lp, ln, lm, xl, dl, xt, dt, c] ∧ b ≠ D) :
    OwnOff (flatH H ++ own) L₀ := by
  intro p hp b hb
  obtain ⟨h1, h2⟩ := hsub b hb
  have hbl := lit_le ho h1
  rcases List.mem_append.mp hp with hp | hp
  · exact hL.off hbl p hp
  · rcases hown p hp with e | e
    · rw [e]; intro q; have q' : (I : Nat) = b := q; omega
    · rw [e]; intro q; exact h2 q.symm
theorem loop2 (hh : A.handled = none) (F : Fr h₀ env.locals s.heap m₀) (N : News h₀ env.locals s.heap (lit1 lm ln lp xt dt xl dl c oc P V (refsOf H) np nn nm nt est (flatH H))) (hm : names5 lm ln lp xt xl m₀)
    (turn : ∀ (I : Nat) (r : HR) (u : Str → Option Value) h tk own, r ∈ H → (∀ p ∈ lit1 lm ln lp xt dt xl dl c oc P V (refsOf H) np nn nm nt est (flatH H), p.1 ≠ I) →
      Fr h₀ env.locals h (fun y => if y = x then some (.ref r.x) else map5 lm ln lp xt xl u y) → News h₀ env.locals h (lit1 lm ln lp xt dt xl dl c oc P V (refsOf H) np nn nm nt est (flatH H ++ own)) →
      wpAny (model prog w) A (execs body env) (PostJ h₀ env.locals (fun m' nw => nw = lit1 lm ln lp xt dt xl dl c oc P V (refsOf H) np nn nm nt est (flatH H) ∧ names5 lm ln lp xt xl m') own I { s with heap := h, toks := tk } Q) E { s with heap := h, toks := tk })
    (done : ∀ (u : Str → Option Value) h tk, Fr h₀ env.locals h (map5 lm ln lp xt xl u) → News h₀ env.locals h (lit1 lm ln lp xt dt xl dl c oc P V (refsOf H) np nn nm nt est (flatH H)) → Q .next { s with heap := h, toks := tk }) :
    wpAny (model prog w) A (pyIter (.ref lm)) (fun it s₂ => LoopAtV prog w A h₀ env x body Q E it s₂) E s := by
  have hmem : (lm, W.listOf (refsOf H).toArray nm) ∈ lit1 lm ln lp xt dt xl dl c oc P V (refsOf H) np nn nm nt est (flatH H) := by simp [lit1]
  refine iter_listJ (vs := refsOf H) (m₀ := m₀) (fun _ m' nw => nw = lit1 lm ln lp xt dt xl dl c oc P V (refsOf H) np nn nm nt est (flatH H) ∧ names5 lm ln lp xt xl m') hh (News.isList N hmem) (N _ hmem).2.1 F N ⟨rfl, hm⟩ ?_ ?_
  · rintro I i v m₁ nw h tk own hi ⟨rfl, hm1⟩ hoI hown hIo hlt hDI F2 N2
    simp only [refsOf, List.getElem?_map, Option.map_eq_some_iff] at hi
    obtain ⟨r, hr, rfl⟩ := hi
    refine turn I r m₁ h tk own (List.mem_of_getElem? hr) hoI ?_ N2
    have := map5_eq hm1
    rw [show (fun y => if y = x then some (Value.ref r.x) else map5 lm ln lp xt xl m₁ y) = (fun y => if y = x then some (Value.ref r.x) else m₁ y) from by rw [this]]
    exact F2
  · rintro m₁ nw h tk ⟨rfl, hm1⟩ F2 N2
    exact done m₁ h tk (by rw [map5_eq hm1]; exact F2) N2
end
/-! the line turned about -/
structure Rev (lp xl : Nat) (H pre suf : List HR) (ks : List Nat) (node back : Addr) : Prop where
  laid : Laid lp H
  len : (pre ++ suf).length = ks.length
  at_ : ∀ (i k : Nat) (r : HR), ks[i]? = some k → (pre ++ suf)[i]? = some r → H[k]? = some r
  nodup : ks.Nodup
  up : Chain xl suf node
  down : Chain xl pre.reverse back
section
variable {lp xl : Nat} {H pre suf rs : List HR} {ks : List Nat} {node back b' : Addr} {r : HR} {es' : List DictEntry} {n' : Nat}
theorem Rev.mem (h : Rev lp xl H pre suf ks node back) {i : Nat} {r : HR} (hr : (pre ++ suf)[i]? = some r) : ∃ k, ks[i]? = some k ∧ H[k]? = some r := by
  have hi : i < ks.length := by rw [← h.len]; exact (List.getElem?_eq_some_iff.mp hr).1
  exact ⟨ks[i], by simp [hi], h.at_ i ks[i] r (by simp [hi]) hr⟩
theorem Rev.memH (h : Rev lp xl H pre suf ks node back) {r : HR} (hr : r ∈ pre ++ suf) : r ∈ H := by
  obtain ⟨i, hi⟩ := List.mem_iff_getElem?.mp hr
  obtain ⟨k, _, hk⟩ := h.mem hi
  exact List.mem_of_getElem? hk
theorem Rev.dx_ne (h : Rev lp xl H pre suf ks node back) {i j : Nat} {r r' : HR} (hi : (pre ++ suf)[i]? = some r) (hj : (pre ++ suf)[j]? = some r') (hne : i ≠ j) : r.dx ≠ r'.dx := by
  obtain ⟨k, h1, h2⟩ := h.mem hi
  obtain ⟨k', h3, h4⟩ := h.mem hj
  intro e
  have ek := h.laid.inj h2 h4 e
  subst ek
  have h1' := List.getElem?_eq_some_iff.mp h1
  have h3' := List.getElem?_eq_some_iff.mp h3
  exact hne ((List.getElem_inj h.nodup).mp (h1'.2.trans h3'.2.symm))
theorem Rev.step (h : Rev lp xl H pre (r :: rs) ks node back) (hp : getL "parent" r.es = some (some (.ref b'))) (hset : SetPar r.es es' (.ref back)) :
    Rev lp xl (setH r.dx es' n' H) (pre ++ [{ r with es := es', n := n' }]) rs ks b' r.x := by
  have hrH : r ∈ H := h.memH (by simp)
  have hrp : (pre ++ r :: rs)[pre.length]? = some r := by simp
  have hother : ∀ i q, i ≠ pre.length → (pre ++ r :: rs)[i]? = some q → q.dx ≠ r.dx := fun i q hi hq => h.dx_ne hq hrp hi
  refine ⟨?_, by simpa using h.len, ?_, h.nodup, ?_, ?_⟩
  · refine h.laid.set fun q hq e => ?_
    obtain ⟨i, hi⟩ := List.mem_iff_getElem?.mp hq
    obtain ⟨j, hj⟩ := List.mem_iff_getElem?.mp hrH
    have := h.laid.inj hi hj e
    subst this
    have : q = r := by rw [hi] at hj; exact Option.some.inj hj
    subst this
    exact ⟨hset.ord (h.laid.ok q hq).1, hset.ok (h.laid.ok q hq).2⟩
  · intro i k q hk hq
    rw [List.append_assoc, List.singleton_append] at hq
    have old : ∀ q', (pre ++ r :: rs)[i]? = some q' → (setH r.dx es' n' H)[k]? = some (setR r.dx es' n' q') := fun q' hq' => by
      unfold setH
      rw [List.getElem?_map, h.at_ i k q' hk hq']; rfl
    rcases Nat.lt_trichotomy i pre.length with z | z | z
    · rw [List.getElem?_append_left z] at hq
      have hq' : (pre ++ r :: rs)[i]? = some q := by rw [List.getElem?_append_left z]; exact hq
      have := old q hq'
      rwa [setR_ne (hother i q (by omega) hq')] at this
    · subst z
      have e : q = { r with es := es', n := n' } := by simpa using hq.symm
      have := old r hrp
      rw [this, e]
      unfold setR
      rw [if_pos rfl]
    · have hq' : (pre ++ r :: rs)[i]? = some q := by
        rw [List.getElem?_append_right (by omega)] at hq ⊢
        obtain ⟨d, hd⟩ : ∃ d, i - pre.length = d + 1 := ⟨i - pre.length - 1, by omega⟩
        rw [hd] at hq ⊢
        simpa using hq
      have := old q hq'
      rwa [setR_ne (hother i q (by omega) hq')] at this
  · obtain ⟨_, c0, h1, h2⟩ := h.up
    have e : c0 = b' := by
      have := h1.symm.trans hp
      simpa using this
    subst e
    exact h2
  · rw [List.reverse_append]
    exact ⟨rfl, back, hset.1, h.down⟩
end
section
variable {h₀ h : Heap} {L : Addr} {lm ln lp xt dt xl dl c np nn nm nt n' : Nat} {oc : Obj} {P V M : List Value} {est es' : List DictEntry} {own : List (Addr × Obj)} {H : List HR} {r : HR}
theorem norm_H (ho : Ordered lm ln lp xt dt xl dl c) (hL : Laid lp H) (hr : r ∈ H) (hown : ∀ p ∈ own, ∀ r ∈ H, p.1 ≠ r.dx) (N : News h₀ L h ((r.dx, dictOf es' n') :: off r.dx (lit1 lm ln lp xt dt xl dl c oc P V M np nn nm nt est (flatH H ++ own)))) :
    News h₀ L h (lit1 lm ln lp xt dt xl dl c oc P V M np nn nm nt est (flatH (setH r.dx es' n' H) ++ own)) := by
  obtain ⟨o1, o2, o3, o4, o5, o6, o7⟩ := ho
  have l0 := hL.low r hr
  refine news_sub N fun p hp => ?_
  simp only [lit1, List.mem_cons] at hp
  rcases hp with rfl | rfl | rfl | rfl | rfl | rfl | rfl | rfl | hp
  · exact .tail _ (mem_off.mpr ⟨by simp [lit1], (by omega : lp ≠ r.dx)⟩)
  · exact .tail _ (mem_off.mpr ⟨by simp [lit1], (by omega : ln ≠ r.dx)⟩)
  · exact .tail _ (mem_off.mpr ⟨by simp [lit1], (by omega : lm ≠ r.dx)⟩)
  · exact .tail _ (mem_off.mpr ⟨by simp [lit1], (by omega : xl ≠ r.dx)⟩)
  · exact .tail _ (mem_off.mpr ⟨by simp [lit1], (by omega : dl ≠ r.dx)⟩)
  · exact .tail _ (mem_off.mpr ⟨by simp [lit1], (by omega : xt ≠ r.dx)⟩)
  · exact .tail _ (mem_off.mpr ⟨by simp [lit1], (by omega : dt ≠ r.dx)⟩)
  · exact .tail _ (mem_off.mpr ⟨by simp [lit1], (by omega : c ≠ r.dx)⟩)
  · rcases List.mem_append.mp hp with hp | hp
    · obtain ⟨q, hq, e⟩ := mem_flatH.mp hp
      obtain ⟨q', hq', rfl⟩ := List.mem_map.mp hq
      rcases e with e | e
      · rw [setR_x, setR_C, setR_dx] at e
        subst e
        exact .tail _ (mem_off.mpr ⟨by simp [lit1, flatH_inst hq'], hL.x_ne_dx hq' hr⟩)
      · by_cases z : q'.dx = r.dx
        · unfold setR at e
          rw [if_pos z] at e
          rw [e]
          show (q'.dx, dictOf es' n') ∈ _
          rw [z]; exact .head _
        · rw [setR_ne z] at e
          subst e
          exact .tail _ (mem_off.mpr ⟨by simp [lit1, flatH_dict hq'], z⟩)
    · exact .tail _ (mem_off.mpr ⟨by simp [lit1, hp], hown p hp r hr⟩)
end

abbrev map7 (lm ln lp xt xl : Nat) (node back : Addr) (u : Str → Option Value) : Str → Option Value := fun y => if y = "node" then some (.ref node) else if y = "back" then some (.ref back) else map5 lm ln lp xt xl u y
def J3 (lm ln lp xt dt xl dl c : Nat) (oc : Obj) (P V M : List Value) (np nn nm nt : Nat) (est : List DictEntry) (ks : List Nat) (i : Nat) (m : Str → Option Value) (nw : List (Addr × Obj)) : Prop :=
  names5 lm ln lp xt xl m ∧ ∃ H' pre suf node back, nw = lit1 lm ln lp xt dt xl dl c oc P V M np nn nm nt est (flatH H') ∧ refsOf H' = M ∧ pre.length = i ∧ Rev lp xl H' pre suf ks node back ∧ m "node" = some (.ref node) ∧ m "back" = some (.ref back)
section
variable {prog : Program} {w : World} {A : Around} {E : Value → Shared → Prop} {s : Shared} {env : Env} {h₀ : Heap} {x : Str} {body : List Stmt} {Q : Flow → Shared → Prop}
  {lm ln lp xt dt xl dl c np nn nm nt : Nat} {oc : Obj} {P V M : List Value} {est : List DictEntry} {H hs : List HR} {m₀ : Str → Option Value} {ks : List Nat} {node₀ : Addr}
theorem map7_eq {m : Str → Option Value} {node back : Addr} (h : names5 lm ln lp xt xl m) (h1 : m "node" = some (.ref node)) (h2 : m "back" = some (.ref back)) : map7 lm ln lp xt xl node back m = m := by
  funext y
  show (if y = Str.ofString "node" then some (Value.ref node) else if y = Str.ofString "back" then some (Value.ref back) else map5 lm ln lp xt xl m y) = m y
  rw [map5_eq h]
  simp only [fill1 h1, fill1 h2]
theorem loop3 (hh : A.handled = none) (F : Fr h₀ env.locals s.heap m₀) (N : News h₀ env.locals s.heap (lit1 lm ln lp xt dt xl dl c oc P V M np nn nm nt est (flatH H))) (hm : names5 lm ln lp xt xl m₀) (hn : m₀ "node" = some (.ref node₀)) (hb : m₀ "back" = some (.ref xl))
    (hM : refsOf H = M) (hP : IntsAre P (ks.map (Nat.cast : Nat → Int))) (hR : Rev lp xl H [] hs ks node₀ xl)
    (turn : ∀ (I i : Nat) n t (u : Str → Option Value) H' pre r rs back h tk own, Rev lp xl H' pre (r :: rs) ks r.x back → refsOf H' = M → pre.length = i → (∀ p ∈ own, p.1 = I ∨ p.1 = lp) → lp < I → (∀ p ∈ lit1 lm ln lp xt dt xl dl c oc P V M np nn nm nt est (flatH H'), p.1 ≠ I) →
      Fr h₀ env.locals h (fun y => if y = x then some (.int n t) else map7 lm ln lp xt xl r.x back u y) → News h₀ env.locals h (lit1 lm ln lp xt dt xl dl c oc P V M np nn nm nt est (flatH H' ++ own)) →
      wpAny (model prog w) A (execs body env) (PostJ h₀ env.locals (J3 lm ln lp xt dt xl dl c oc P V M np nn nm nt est ks (i + 1)) own I { s with heap := h, toks := tk } Q) E { s with heap := h, toks := tk })
    (done : ∀ (u : Str → Option Value) H' pre back h tk, Rev lp xl H' pre [] ks xl back → refsOf H' = M → Fr h₀ env.locals h (map7 lm ln lp xt xl xl back u) → News h₀ env.locals h (lit1 lm ln lp xt dt xl dl c oc P V M np nn nm nt est (flatH H')) → Q .next { s with heap := h, toks := tk }) :
    wpAny (model prog w) A (pyIter (.ref lp)) (fun it s₂ => LoopAtV prog w A h₀ env x body Q E it s₂) E s := by
  have hmem : (lp, W.listOf P.toArray np) ∈ lit1 lm ln lp xt dt xl dl c oc P V M np nn nm nt est (flatH H) := by simp [lit1]
  have hPl : P.length = ks.length := by rw [hP.length, List.length_map]
  refine iter_listJ (vs := P) (m₀ := m₀) (J3 lm ln lp xt dt xl dl c oc P V M np nn nm nt est ks) hh (News.isList N hmem) (N _ hmem).2.1 F N ⟨hm, H, [], hs, node₀, xl, rfl, hM, rfl, hR, hn, hb⟩ ?_ ?_
  · rintro I i v m₁ nw h tk own hi ⟨hm1, H', pre, suf, node, back, rfl, hM', hpl, hR', hn', hb'⟩ hoI hown hIo hlt hDI F2 N2
    have hil : i < ks.length := by rw [← hPl]; exact (List.getElem?_eq_some_iff.mp hi).1
    obtain ⟨k, t, rfl, _⟩ := IntsAre.at hP i v hi
    cases suf with
    | nil =>
      exfalso
      have := hR'.len
      rw [List.append_nil] at this
      omega
    | cons r rs =>
      obtain ⟨e, hr2⟩ := id hR'.up
      subst e
      have hlpI : lp < I := hlt (lp, W.listOf P.toArray np) hmem
      refine turn I i k t m₁ H' pre r rs back h tk own hR' hM' hpl hown hlpI hoI ?_ N2
      rw [show (fun y => if y = x then some (Value.int k t) else map7 lm ln lp xt xl r.x back m₁ y) = (fun y => if y = x then some (Value.int k t) else m₁ y) from by rw [map7_eq hm1 hn' hb']]
      exact F2
  · rintro m₁ nw h tk ⟨hm1, H', pre, suf, node, back, rfl, hM', hpl, hR', hn', hb'⟩ F2 N2
    cases suf with
    | cons r rs =>
      exfalso
      have := hR'.len
      rw [List.length_append, List.length_cons] at this
      omega
    | nil =>
      have e : node = xl := hR'.up
      subst e
      exact done m₁ H' pre back h tk hR' hM' (by rw [map7_eq hm1 hn' hb']; exact F2) N2
theorem end3 {h : Heap} {L : Addr} {I i tk : Nat} {m' : Str → Option Value} {own : List (Addr × Obj)} {H' pre suf : List HR} {node back : Addr} {s₁ : Shared} {led : List (Addr × Obj)} (F : Fr h₀ L h m') (N : News h₀ L h led) (hsub : ∀ p ∈ lit1 lm ln lp xt dt xl dl c oc P V M np nn nm nt est (flatH H' ++ own), p ∈ led)
    (hm : names5 lm ln lp xt xl m') (hn : m' "node" = some (.ref node)) (hb : m' "back" = some (.ref back)) (hM : refsOf H' = M) (hi : pre.length = i) (hR : Rev lp xl H' pre suf ks node back) (ho : Ordered lm ln lp xt dt xl dl c) (hlp : lp < I) (hHI : ∀ p ∈ flatH H', p.1 ≠ I) :
    EndJ h₀ L (J3 lm ln lp xt dt xl dl c oc P V M np nn nm nt est ks i) own I s₁ { s₁ with heap := h, toks := tk } := by
  refine ⟨h, tk, m', lit1 lm ln lp xt dt xl dl c oc P V M np nn nm nt est (flatH H'), rfl, F, news_sub N fun p hp => hsub p (by simpa [lit1] using hp), fun p hp => ?_, hm, H', pre, suf, node, back, rfl, hM, hi, hR, hn, hb⟩
  obtain ⟨o1, o2, o3, o4, o5, o6, o7⟩ := ho
  simp only [lit1, List.mem_cons] at hp
  rcases hp with rfl | rfl | rfl | rfl | rfl | rfl | rfl | rfl | hp
  · show lp ≠ I; omega
  · show ln ≠ I; omega
  · show lm ≠ I; omega
  · show xl ≠ I; omega
  · show dl ≠ I; omega
  · show xt ≠ I; omega
  · show dt ≠ I; omega
  · show c ≠ I; omega
  · exact hHI p hp
end
theorem flatH_set {d : Nat} {es : List DictEntry} {n : Nat} {H : List HR} {p : Addr × Obj} (h : p ∈ flatH (setH d es n H)) : ∃ q ∈ flatH H, q.1 = p.1 := by
  obtain ⟨r, hr, e⟩ := mem_flatH.mp h
  obtain ⟨r', hr', rfl⟩ := List.mem_map.mp hr
  rcases e with e | e
  · exact ⟨_, flatH_inst hr', by rw [e]; exact setR_x.symm⟩
  · exact ⟨_, flatH_dict hr', by rw [e]; exact setR_dx.symm⟩
theorem ord_of {h₀ h : Heap} {L : Addr} {lm ln lp xt dt xl dl c np nn nm nt : Nat} {oc : Obj} {P V M : List Value} {est : List DictEntry} {tl : List (Addr × Obj)} (_N : News h₀ L h (lit1 lm ln lp xt dt xl dl c oc P V M np nn nm nt est tl)) (h : Ordered lm ln lp xt dt xl dl c) : Ordered lm ln lp xt dt xl dl c := h
section
variable {lp xl : Nat} {est : List DictEntry} {H hs pre : List HR} {ks : List Nat} {a node back : Addr}
theorem refs_at {k : Nat} {r : HR} (h : H[k]? = some r) : (refsOf H)[((k : Nat) : Int).toNat]? = some (.ref r.x) := by
  show (refsOf H)[k]? = _
  simp [refsOf, h]
theorem core_hks (hC : Core lp xl est H hs ks a) (hl : H.length ≤ 63) : ∀ (i : Nat) (k : Int) (r : HR), (ks.map (Nat.cast : Nat → Int))[i]? = some k → hs[i]? = some r → 0 ≤ k ∧ k < 2 ^ 63 ∧ (refsOf H)[k.toNat]? = some (.ref r.x) := by
  intro i k r hk hr
  rw [List.getElem?_map, Option.map_eq_some_iff] at hk
  obtain ⟨k', hk', rfl⟩ := hk
  have h1 := hC.at_ i k' r hk' hr
  have h2 := (List.getElem?_eq_some_iff.mp h1).1
  exact ⟨by omega, by omega, refs_at h1⟩
theorem rev_hks (hR : Rev lp xl H pre [] ks node back) (hl : H.length ≤ 63) : ∀ (i : Nat) (k : Int) (r : HR), ((ks.map (Nat.cast : Nat → Int)).reverse)[i]? = some k → pre.reverse[i]? = some r → 0 ≤ k ∧ k < 2 ^ 63 ∧ (refsOf H)[k.toNat]? = some (.ref r.x) := by
  intro i k r hk hr
  have hlen := hR.len
  rw [List.append_nil] at hlen
  have hi : i < pre.length := by simpa using (List.getElem?_eq_some_iff.mp hr).1
  rw [List.getElem?_reverse (by simpa using hlen ▸ hi), List.getElem?_map, Option.map_eq_some_iff] at hk
  rw [List.getElem?_reverse hi] at hr
  obtain ⟨k', hk', rfl⟩ := hk
  rw [List.length_map, ← hlen] at hk'
  have h1 := hR.at_ _ k' r hk' (by rw [List.append_nil]; exact hr)
  have h2 := (List.getElem?_eq_some_iff.mp h1).1
  exact ⟨by omega, by omega, refs_at h1⟩
theorem Core.rev (hC : Core lp xl est H hs ks a) : Rev lp xl H [] hs ks a xl := ⟨hC.laid, by simpa using hC.len, fun i k r h1 h2 => hC.at_ i k r h1 (by simpa using h2), hC.nodup, hC.chain, rfl⟩
end
theorem mono9 {h₀ h : Heap} {L : Addr} {a1 a2 a3 a4 a5 a6 a7 a8 : Addr × Obj} {tl : List (Addr × Obj)} (_N : News h₀ L h (a1 :: a2 :: a3 :: a4 :: a5 :: a6 :: a7 :: a8 :: tl)) {p : Addr × Obj} (hp : p ∈ tl) : p ∈ a1 :: a2 :: a3 :: a4 :: a5 :: a6 :: a7 :: a8 :: tl := .tail _ (.tail _ (.tail _ (.tail _ (.tail _ (.tail _ (.tail _ (.tail _ hp)))))))
end Mine


namespace Mine
theorem fill3 : PySem.Challenge.rw_dn0254_09.row.prog = PySem.Challenge.rw_dn0254_09.row.prog ∧ Mine.hd.heap_39 = Mine.hd.heap_39 := by
  k_fill
  exact ⟨rfl, rfl⟩
local macro_rules | `(tactic| ktr_unf) => `(tactic| repeat' ((fail_if_success (with_reducible show wpAny _ _ (pyIter _) _ _ _)); first | (k_unfold; (try dsimp only)) | walk1 | (dsimp only; walk1)))
local macro_rules | `(tactic| walk_at "exec For Name Name cons nil") => `(tactic| (k_here; (rename Fr _ _ _ _ => lF'); (with_unfolding_all refine' For_invVF lF' ?k1 ?k2 ?_; (case k1 => exact rfl); (case k2 => exact rfl); k_whole)))
local macro_rules | `(tactic| walk_at "PostJ") => `(tactic| (dsimp only [PostJ]))
theorem get_par0 {w : World} {A : Around} {E : Value → Shared → Prop} {s : Shared} {x L : Addr} {h₀ : Heap} {m : Str → Option Value} {news : List (Addr × Obj)} {expr : Bool} {Q : Value → Shared → Prop} {C dx : Addr} {es : List DictEntry} {n : Nat} {v : Value} (F : Fr h₀ L s.heap m) (X : (Mine.hd.heap_39 w.params).In h₀) (N : News h₀ L s.heap news) (h1 : (x, instObj C dx) ∈ news) (h2 : (dx, dictOf es n) ∈ news)
    (hg : getL "parent" es = some (some v)) (hC : C = 45 ∨ C = 66) (hh : handedIn v = true)
    (h : Q v { s with toks := s.toks + 1 }) : wpAny (model PySem.Challenge.rw_dn0254_09.row.prog w) A (getAttr (.ref x) "parent" expr) Q E s := get_par F X N h1 h2 hC hg hh h
theorem meth_addpar0 {w : World} {A : Around} {E : Value → Shared → Prop} {s : Shared} {x L : Addr} {h₀ : Heap} {m : Str → Option Value} {news : List (Addr × Obj)} {pl : Sem Bool} {Q : Value × List Value → Shared → Prop} {C dx : Addr} {es : List DictEntry} {n : Nat} (F : Fr h₀ L s.heap m) (X : (Mine.hd.heap_39 w.params).In h₀) (N : News h₀ L s.heap news) (h1 : (x, instObj C dx) ∈ news) (h2 : (dx, dictOf es n) ∈ news)
    (hp : ParOK es) (hC : C = 45 ∨ C = 66) (h : Q (.ref 28, [.ref x]) s) :
    wpAny (model PySem.Challenge.rw_dn0254_09.row.prog w) A (getMethod (.ref x) "add_parent" pl) Q E s := by
  have I := InstAt.of_news N h1 h2
  have hl := hp.2 "add_parent" (by decide) (by decide)
  rcases hC with rfl | rfl
  · exact method_inst F X I (by k_is) (by k_is) (by k_is) hl h
  · exact method_inst F X I (by k_is) (by k_is) (by k_is) hl h
local macro_rules | `(tactic| keq_rows) => `(tactic| first | (k_unfold; (try dsimp only)) | walk1 | (dsimp only; walk1))
local macro_rules | `(tactic| keq_hits) => `(tactic| repeat' ((fail_if_success (with_reducible show wpAny _ _ (eval (PySem.Expr.ListComp _ _ _ _) _) _ _ _)); keq_rows))
local macro_rules | `(tactic| k_mem) => `(tactic| ((with_reducible show List.Mem _ (_ ++ _)); assumption))
local macro_rules | `(tactic| ktr_rel) => `(tactic| first | assumption | exact .inl rfl | exact .inr rfl)
local macro_rules | `(tactic| walk_at "getAttr ref") => `(tactic| (k_here; (with_reducible show wpAny _ _ (getAttr (Value.ref _) (PySem.Str.ofString "parent") _) _ _ _); k_dflt (refine' get_par0 ?k1 ?k2 ?k3 ?k4 ?k5 ?k7 ?k6 ?k8 ?_; (case k1 => k_asm); (case k2 => k_asm); (case k3 => k_asm); (case k4 => k_mem); (case k5 => k_mem); (case k6 => ktr_rel); (case k7 => assumption); (case k8 => rfl); k_whole)))
local macro_rules | `(tactic| walk_at "getMethod ref") => `(tactic| (k_here; (with_reducible show wpAny _ _ (getMethod (Value.ref _) (PySem.Str.ofString "add_parent") _) _ _ _); k_dflt (refine' meth_addpar0 ?k1 ?k2 ?k3 ?k4 ?k5 ?k6 ?k7 ?_; (case k1 => k_asm); (case k2 => k_asm); (case k3 => k_asm); (case k4 => k_mem); (case k5 => k_mem); (case k6 => assumption); (case k7 => ktr_rel); k_whole)))
local macro_rules | `(tactic| walk_at "call builtin:len") => `(tactic| (k_here; (with_reducible show wpAny _ _ (call (Value.builtin "len") [Value.ref _]) _ _ _); k_dflt (refine' len_led ?k1 ?k2 ?k3 ?_; (case k1 => k_asm); (case k2 => k_mem); (case k3 => assumption); k_whole)))
local macro_rules | `(tactic| walk_at "truthy ref") => `(tactic| (k_here; (with_reducible show wpAny _ _ (truthy (Value.ref _)) _ _ _); k_dflt (refine' truthy_led ?k1 ?k2 ?k3 ?_; (case k1 => k_asm); (case k2 => k_mem); (case k3 => assumption); k_whole)))
local macro_rules | `(tactic| walk_at "call ref") => `(tactic| (k_here; (with_reducible show wpAny _ _ (call (Value.ref 28) [Value.ref _, _]) _ _ _); k_dflt (refine' addpar_call ?k1 ?k2 ?k3 ?k4 ?k5 ?k6 ?k7 ?k8 ?k9 ?k10 ?k11 ?_; (case k1 => k_asm); (case k2 => k_asm); (case k3 => k_asm); (case k4 => k_asm); (case k5 => k_asm); (case k6 => exact rfl); (case k7 => k_mem); (case k8 => k_mem); (case k9 => ktr_rel); (case k10 => assumption); (case k11 => ktr_room); k_whole); intro h' tk' es' n' F' N' hset'; (first | (replace N' := norm_dt (by assumption) (by assumption) N'; dsimp only [lit1] at N') | (replace N' := norm_H (by assumption) (by assumption) (by assumption) (by assumption) N'; dsimp only [lit1] at N') | skip)))
local macro_rules | `(tactic| walk_at "call builtin:list.pop") => `(tactic| (k_here; (with_reducible show wpAny _ _ (call (Value.builtin _) [Value.ref _, Value.int 0 _]) _ _ _); k_dflt (refine' pop0_led ?F ?N ?z ?U ?_; (case F => k_asm); (case N => k_asm); (case U => k_upd); (case z => assumption)); intro h' F' N'))
local macro_rules | `(tactic| walk_at "subscriptTail") => `(tactic| (k_here; (with_reducible show wpAny _ _ (subscriptTail _ _ (Value.ref _) (Value.int _ _)) _ _ _); k_dflt (refine' item_led ?k1 ?k2 ?k3 ?k4 ?k5 ?_ ?k6; (case k1 => k_asm); (case k2 => k_mem); (case k5 => assumption); (case k3 => omega); (case k4 => omega); (case k6 => with_unfolding_all rfl); k_whole)))
local macro_rules | `(tactic| walk_at "compareOp IsNot") => `(tactic| (k_here; k_dflt (with_reducible refine wpAny_isNot_ref_self ?_)))
local macro_rules | `(tactic| walk_at "call ref") => `(tactic| (k_here; (with_reducible show wpAny _ _ (call (Value.ref 75) [Value.int _ _]) _ _ _); k_dflt (refine' make_call ?k1 ?k2 ?k3 ?k4 ?k5 ?k6 ?k7 ?k8 ?_; (case k1 => k_asm); (case k2 => k_asm); (case k3 => k_asm); (case k4 => k_asm); (case k5 => k_asm); (case k6 => exact rfl); (case k7 => ktr_room); (case k8 => ktr_units); k_whole); intro h' tk' tt' to' rn' F' N' hro' hrO' hrp' hrP' hlt' hxd' hxt'; (have hlt2' := allLt_of hlt'); dsimp only [lit1, W.AllLt] at N' hlt2'; (replace hxt' := ltN hxt'); (replace hxd' := ltN hxd')))
local macro_rules | `(tactic| walk_at "call ref") => `(tactic| (k_here; (with_reducible show wpAny _ _ (call (Value.ref 82) _) _ _ _); k_dflt (refine' put_turn ?k1 ?k2 ?k3 ?k4 ?k5 ?k6 ?k7 ?k8 ?k9 ?k10 ?k11 ?k12 ?k13 ?k14 ?k15 ?k16 ?k17 ?k18 ?_; (case k1 => k_asm); (case k2 => k_asm); (case k3 => k_asm); (case k4 => k_asm); (case k5 => k_asm); (case k6 => exact rfl); (case k7 => assumption); (case k8 => assumption); (case k9 => assumption); (case k10 => assumption); (case k11 => exact lt_tail8 (by assumption)); (case k12 => omega); (case k13 => assumption); (case k14 => assumption); (case k15 => omega); (case k16 => first | assumption | (apply_assumption; assumption)); (case k17 => ktr_room); (case k18 => ktr_units); k_whole); intro h' tk' nt' est' H' hs' a' pl' F' N' hO'; dsimp only [lit1] at N'; (have hoff' := PutOut.off hO')))
local macro_rules | `(tactic| walk_at "call builtin:list.insert") => `(tactic| (k_here; (with_reducible show wpAny _ _ (call (Value.builtin _) [Value.ref _, Value.int _ _, _]) _ _ _); k_dflt (refine' insert_led ?F ?N ?k ?z ?U ?_; (case F => k_asm); (case N => k_asm); (case U => k_upd); (case k => assumption); (case z => assumption)); intro h' F' N'))
local macro_rules | `(tactic| walk_at "call builtin:list.append") => `(tactic| (k_here; (with_reducible show wpAny _ _ (call (Value.builtin _) [Value.ref _, _]) _ _ _); k_dflt (refine' append_led ?F ?N ?z ?U ?_; (case F => k_asm); (case N => k_asm); (case U => k_upd); (case z => assumption)); intro h' F' N'))
theorem meth_close0 {w : World} {A : Around} {E : Value → Shared → Prop} {s : Shared} {x L : Addr} {h₀ : Heap} {m : Str → Option Value} {news : List (Addr × Obj)} {pl : Sem Bool} {Q : Value × List Value → Shared → Prop} {C dx : Addr} {es : List DictEntry} {n : Nat} (F : Fr h₀ L s.heap m) (X : (Mine.hd.heap_39 w.params).In h₀) (N : News h₀ L s.heap news) (h1 : (x, instObj C dx) ∈ news) (h2 : (dx, dictOf es n) ∈ news)
    (hp : ParOK es) (hC : C = 45 ∨ C = 66) (h : Q (.ref 35, [.ref x]) s) :
    wpAny (model PySem.Challenge.rw_dn0254_09.row.prog w) A (getMethod (.ref x) "close" pl) Q E s := by
  have I := InstAt.of_news N h1 h2
  have hl := hp.2 "close" (by decide) (by decide)
  rcases hC with rfl | rfl
  · exact method_inst F X I (by k_is) (by k_is) (by k_is) hl h
  · exact method_inst F X I (by k_is) (by k_is) (by k_is) hl h
local macro_rules | `(tactic| walk_at "getMethod ref") => `(tactic| (k_here; (with_reducible show wpAny _ _ (getMethod (Value.ref _) (PySem.Str.ofString "close") _) _ _ _); k_dflt (refine' meth_close0 ?k1 ?k2 ?k3 ?k4 ?k5 ?k6 ?k7 ?_; (case k1 => k_asm); (case k2 => k_asm); (case k3 => k_asm); (case k4 => k_mem); (case k5 => k_mem); (case k6 => assumption); (case k7 => ktr_rel); k_whole)))
local macro_rules | `(tactic| bits_by_make) => `(tactic| repeat' ((fail_if_success (with_reducible show wpAny _ _ (call (Value.ref 89) _) _ _ _)); (fail_if_success (with_reducible show wpAny _ _ (pyIter _) _ _ _)); keq_rows))
local macro_rules | `(tactic| walk_at "subscriptTail Name Slice ref ref") => `(tactic| (k_here; (with_reducible show wpAny _ _ (subscriptTail _ (PySem.Expr.Slice none none (some _) _) (Value.ref _) (Value.ref _)) _ _ _); k_dflt (refine' krv_ints ?F ?N ?l ?k ?i ?_ ?s ?t ?z; (case F => k_asm); (case N => k_asm); (case l => exact News.isList (by k_asm) (by k_mem)); (case k => exact IsPart.int _ _); (case i => assumption); (case s => with_unfolding_all rfl); (case t => intro _; with_unfolding_all rfl); (case z => assumption)); intro D' ws' h' F' N' l1' hI' hl'))
theorem t : PySem.Challenge.rw_dn0254_09.Holds := hd (by
  w_strict (
    k_go0
    (all_goals try k_fold)
    ktr_unf
    rename Fr _ _ _ _ => F1
    rename News _ _ _ _ => N1
    rename IntsAre _ _ => hI1
    refine' loop1 ?hh F1 N1 hI1 ?hc ?ho ?hD ?hpar ?htord ?hpok ?hx ?hm ?turn ?done
    case ho =>
      show Mine.Ordered _ _ _ _ _ _ _ _
      unfold Mine.Ordered
      omega
    case hh => rfl
    case hc => assumption
    case hD => omega
    case hpar => rfl
    case htord => rfl
    case hpok => exact ⟨.inr ⟨⟨_, rfl⟩, Nat.le_of_ble_eq_true rfl⟩, fun nm _ h2 => by unfold getL; simp [Value.isStr, beq_false_of_ne (fun q => h2 q.symm)]; rfl⟩
    case hx => decide
    case hm => exact ⟨rfl, rfl, rfl, rfl, rfl⟩
    case turn =>
      intro I i n t u oc vc P V np nn nm nt est H hs ks a h tk own hil hc hP hV hlen hC hlpI hown hIo hHI hoff ho F2 N2
      have lP : P.length ≤ 2 ^ 20 := by have h1 := hP.length; have h2 := hC.short; rw [List.length_map] at h1; omega
      have lV : V.length ≤ 2 ^ 20 := by have h1 := hV.length; have h2 := hC.short; have h3 := hC.len; rw [List.length_map] at h1; omega
      have hpok := hC.pok
      have hpar := hC.par
      obtain ⟨o1, o2, o3, o4, o5, o6, o7⟩ := id ho
      clear F1 N1 hI1
      refine cut1 (x := "n") (n := n) (v := .int n t) (oc := oc) (nm := nm) (H := H) (own := own) F2 ho ?first ?second
      case second =>
        clear hP hV hC F2 N2 lP lV hpok hpar
        intro u P V np nn nt est hs ks a h tk hP hV hC hfull F2 N2
        have lP : P.length ≤ 2 ^ 20 := by have h1 := hP.length; have h2 := hC.short; rw [List.length_map] at h1; omega
        have lV : V.length ≤ 2 ^ 20 := by have h1 := hV.length; have h2 := hC.short; have h3 := hC.len; rw [List.length_map] at h1; omega
        have lM : (refsOf H).length ≤ 2 ^ 20 := by rw [List.length_map]; omega
        have hpok := hC.pok
        have hpar := hC.par
        have hown2 : ∀ p ∈ own, ∀ r ∈ H, p.1 ≠ r.dx := fun p hp r hr => by
          have l1 := hC.laid.low r hr
          rcases hown p hp with e | e
          · rw [e]; exact (hHI _ (flatH_dict hr)).symm
          · rw [e]; refine neN ?_; omega
        keq_hits
        · rename HR => rn
          rename PutOut _ _ _ _ _ _ _ _ _ _ _ _ _ _ _ _ _ _ _ => hO
          rename (_ : Int) = 0 => hah
          have hah' : (Int.fmod (Int.fdiv n 4) 2 == 0) = true := by rw [hah]; rfl
          rw [hah'] at hO
          k_dflt (refine LCt.ListComp_T (F₀ := by k_asm) (by with_unfolding_all rfl) (by decide) (by rfl) (by decide) (by rfl) ?_)
          keq_rows
          refine LCt.CompSrcT.ledger (by rfl) (by k_asm) (by k_asm) (by k_mem) ?hz ?_
          case hz => rw [List.size_toArray]; exact Nat.le_trans lV lineBig
          intro g
          refine kci_rest (ks := hs.map (·.o)) (fun l k => if decide (k < rn.o) = true then l ++ [k] else l) ?_ ?_ ?_ ?_ ?_
          · rw [List.size_toArray, hV.length]
          · intro i v _ hv
            obtain ⟨k, t, e, hk⟩ := IntsAre.at hV i v (by simpa using hv)
            exact ⟨k, t, hk, e⟩
          · intro k' t' I' oI' C' oC' D' m' ys' l' h' tk' E' hk' hI' hC' hx' F' N' off' ne' _
            iterate 8 (all_goals (try keq_rows))
            · exact ⟨_, _, _, rfl, by k_asm, by k_asm, off', .inr ⟨_, by k_mem, rfl, _, rfl⟩, rfl, k', _, rfl, if_pos (by simpa using (by assumption : k' < rn.o))⟩
            · exact ⟨_, _, _, rfl, by k_asm, by k_asm, off', .inr ⟨_, by k_mem, rfl, _, rfl⟩, rfl, if_neg (by simpa using (by assumption : ¬ k' < rn.o))⟩
          · intro ys hys hyl D' h' tk' F' N' off'
            rw [fold_filter (fun k => decide (k < rn.o)), List.nil_append] at hys
            have hyn : ys.length = _ := hys.length.trans ((hO.cnt.trans (by congr 1)).symm)
            have hVl := hV.length
            have hPl := hP.length
            rw [List.length_map] at hVl hPl
            have hle := hO.le
            have hcl := hC.len
            obtain ⟨V1, V2, hVe, hV1⟩ := split_at V (n := ys.length) (by omega)
            obtain ⟨P1, P2, hPe, hP1⟩ := split_at P (n := ys.length) (by omega)
            subst hVe hPe
            have k1 : (ys.length : Int) = (V1.length : Int) := by rw [hV1]
            have k2 : (ys.length : Int) = (P1.length : Int) := by rw [hP1]
            have ly : ys.length ≤ 2 ^ 20 := by omega
            simp only [LCg.Off1] at off'
            obtain ⟨oI, hIo'⟩ := hIo
            have hIn : I < rn.dx := lt_tail8 (by assumption) (I, oI) (List.mem_append_right _ hIo')
            repeat' keq_rows
            exact end_put (rn := rn) (by k_asm) (by k_asm) (fun p hp => .tail _ hp) ⟨rfl, rfl, rfl, rfl, rfl⟩ (by assumption) hP hV (hP1.trans hyn) (hV1.trans hyn) hO rfl hlen ho hlpI hHI hIn (by assumption)
          · intro l k
            dsimp only
            split
            · simp
            · omega
        · rename HR => rn
          rename PutOut _ _ _ _ _ _ _ _ _ _ _ _ _ _ _ _ _ _ _ => hO
          rename ¬ ((_ : Int) = 0) => hah
          have hah' : (Int.fmod (Int.fdiv n 4) 2 == 0) = false := beq_false_of_ne hah
          rw [hah'] at hO
          k_dflt (refine LCt.ListComp_T (F₀ := by k_asm) (by with_unfolding_all rfl) (by decide) (by rfl) (by decide) (by rfl) ?_)
          keq_rows
          refine LCt.CompSrcT.ledger (by rfl) (by k_asm) (by k_asm) (by k_mem) ?hz ?_
          case hz => rw [List.size_toArray]; exact Nat.le_trans lV lineBig
          intro g
          refine kci_rest (ks := hs.map (·.o)) (fun l k => if (!decide (rn.o < k)) = true then l ++ [k] else l) ?_ ?_ ?_ ?_ ?_
          · rw [List.size_toArray, hV.length]
          · intro i v _ hv
            obtain ⟨k, t, e, hk⟩ := IntsAre.at hV i v (by simpa using hv)
            exact ⟨k, t, hk, e⟩
          · intro k' t' I' oI' C' oC' D' m' ys' l' h' tk' E' hk' hI' hC' hx' F' N' off' ne' _
            iterate 8 (all_goals (try keq_rows))
            · exact ⟨_, _, _, rfl, by k_asm, by k_asm, off', .inr ⟨_, by k_mem, rfl, _, rfl⟩, rfl, k', _, rfl, if_pos (by simpa using (by assumption : k' ≤ rn.o))⟩
            · exact ⟨_, _, _, rfl, by k_asm, by k_asm, off', .inr ⟨_, by k_mem, rfl, _, rfl⟩, rfl, if_neg (by simpa using (by assumption : ¬ k' ≤ rn.o))⟩
          · intro ys hys hyl D' h' tk' F' N' off'
            rw [fold_filter (fun k => !decide (rn.o < k)), List.nil_append] at hys
            have hyn : ys.length = _ := hys.length.trans ((hO.cnt.trans (by congr 1)).symm)
            have hVl := hV.length
            have hPl := hP.length
            rw [List.length_map] at hVl hPl
            have hle := hO.le
            have hcl := hC.len
            obtain ⟨V1, V2, hVe, hV1⟩ := split_at V (n := ys.length) (by omega)
            obtain ⟨P1, P2, hPe, hP1⟩ := split_at P (n := ys.length) (by omega)
            subst hVe hPe
            have k1 : (ys.length : Int) = (V1.length : Int) := by rw [hV1]
            have k2 : (ys.length : Int) = (P1.length : Int) := by rw [hP1]
            have ly : ys.length ≤ 2 ^ 20 := by omega
            simp only [LCg.Off1] at off'
            obtain ⟨oI, hIo'⟩ := hIo
            have hIn : I < rn.dx := lt_tail8 (by assumption) (I, oI) (List.mem_append_right _ hIo')
            repeat' keq_rows
            exact end_put (rn := rn) (by k_asm) (by k_asm) (fun p hp => .tail _ hp) ⟨rfl, rfl, rfl, rfl, rfl⟩ (by assumption) hP hV (hP1.trans hyn) (hV1.trans hyn) hO rfl hlen ho hlpI hHI hIn (by assumption)
          · intro l k
            dsimp only
            split
            · simp
            · omega
        · exact end_any (hs := hs) (by k_asm) (by k_asm) (fun p hp => hp) ⟨rfl, rfl, rfl, rfl, rfl⟩ hc hP hV rfl (Nat.le_succ_of_le hlen) hC ho hlpI hHI
      case first =>
        cases ks with
        | nil =>
          have hP0 : P = [] := List.length_eq_zero_iff.mp (by simpa using hP.length)
          subst hP0
          iterate 60 (all_goals (try keq_rows))
          all_goals exact ⟨u, [], V, np, nn, nt, est, hs, [], a, _, _, rfl, hP, hV, hC, (fun _ => Nat.zero_le _), by k_asm, by k_asm⟩
        | cons k0 ks =>
          cases hs with
          | nil => have := hC.len; simp at this
          | cons r0 hs =>
            cases hP with
            | cons _ t0 hP =>
              cases hV with
              | cons _ t1 hV =>
                obtain ⟨hea, b', hpr, hch⟩ := hC.chain
                have hr0 := hC.at_ 0 k0 r0 rfl rfl
                have hr0m := List.mem_of_getElem? hr0
                have hr0C := hd_cls (hC.laid.ok r0 hr0m).1
                have hm1 : (r0.x, instObj r0.C r0.dx) ∈ flatH H ++ own := List.mem_append_left _ (flatH_inst hr0m)
                have hm2 : (r0.dx, dictOf r0.es r0.n) ∈ flatH H ++ own := List.mem_append_left _ (flatH_dict hr0m)
                have hit : (refsOf H)[((k0 : Nat) : Int).toNat]? = some (.ref r0.x) := by
                  show (refsOf H)[k0]? = _
                  simp [refsOf, hr0]
                have hk63 : k0 < 2 ^ 62 := by
                  have := (List.getElem?_eq_some_iff.mp hr0).1
                  omega
                subst hea
                repeat' keq_rows
                all_goals first
                  | exact ⟨u, _, _, np, nn, nt, est, r0 :: hs, k0 :: ks, r0.x, _, _, rfl, .cons _ _ hP, .cons _ _ hV, hC, (fun _ => by have h1 := hC.short; have h2 := hP.length; simp only [List.length_cons, List.length_map] at *; omega), by k_asm, by k_asm⟩
                  | exact ⟨_, _, _, _, _, _, _, hs, ks, b', _, _, rfl, hP, hV, hC.pop hpr (by assumption), (fun _ => Nat.le_of_succ_le_succ hC.short), fr_put (by k_asm) (by decide), by k_asm⟩
                  | exact absurd (by assumption : (false : Bool) = true) (by decide)
    case done =>
      intro u oc vc P V np nn nm nt est H hs ks a h tk hc hP hV hlen hC F2 N2
      clear F1 N1
      dsimp only
      have ho := ord_of N2 (by unfold Mine.Ordered; omega)
      obtain ⟨o1, o2, o3, o4, o5, o6, o7⟩ := id ho
      ktr_unf
      rename Fr _ _ _ _ => F2
      refine' loop2 ?hh F2 N2 ?hm ?turn2 ?done2
      case hh => rfl
      case hm => exact ⟨rfl, rfl, rfl, rfl, rfl⟩
      case turn2 =>
        intro I r u h tk own hr hoI F3 N3
        have hm1 : (r.x, instObj r.C r.dx) ∈ flatH H ++ own := List.mem_append_left _ (flatH_inst hr)
        have hm2 : (r.dx, dictOf r.es r.n) ∈ flatH H ++ own := List.mem_append_left _ (flatH_dict hr)
        have hrP := (hC.laid.ok r hr).2
        have hrC := hd_cls (hC.laid.ok r hr).1
        repeat' keq_rows
        exact ⟨_, _, _, _, rfl, by k_asm, by k_asm, hoI, rfl, rfl, rfl, rfl, rfl, rfl⟩
      case done2 =>
        intro u h tk F3 N3
        dsimp only
        have hpok := hC.pok
        have hpar := hC.par
        have hlen63 : H.length ≤ 63 := by rename _ = min _ _ => hmin; omega
        have hin : ∀ r ∈ hs, InL _ r := fun r hr => ⟨mono9 N3 (flatH_inst (hC.memH hr)), mono9 N3 (flatH_dict (hC.memH hr)), (hC.laid.ok r (hC.memH hr)).1, (hC.laid.ok r (hC.memH hr)).2⟩
        bits_by_make
        k_dflt (refine' same_call (rt := ⟨_, _, 45, 500, est, nt⟩) (ns := hs) (P := P) (M := refsOf H) (ks := ks.map (Nat.cast : Nat → Int)) (a₁ := a) ?k1 ?k2 ?k3 ?k4 ?k5 ?k6 ?k7 hin hpar hC.chain ?k11 ?k12 hP ?k14 (core_hks hC hlen63) ?k16 ?k17 ?_)
        (case k1 => k_asm)
        (case k2 => k_asm)
        (case k3 => k_asm)
        (case k4 => k_asm)
        (case k5 => k_asm)
        (case k6 => exact rfl)
        (case k7 => exact ⟨by k_mem, by k_mem, .inl ⟨rfl, hC.tord, rfl⟩, hC.pok⟩)
        (case k11 => k_mem)
        (case k12 => k_mem)
        (case k14 => rw [List.length_map]; exact hC.len.symm)
        (case k16 => ktr_room)
        (case k17 => ktr_units)
        intro h tk F3 N3
        bits_by_make
        rename Fr _ _ _ _ => F3
        rename News _ _ _ _ => N3
        refine' loop3 (H := H) (hs := hs) (ks := ks) (node₀ := a) ?hh F3 N3 ?hm ?hn ?hb rfl hP hC.rev ?turn3 ?done3
        case hh => rfl
        case hm => exact ⟨rfl, rfl, rfl, rfl, rfl⟩
        case hn => rfl
        case hb => rfl
        case turn3 =>
          intro I i n t u H' pre r rs back h tk own hR hM' hpl hown hlpI hoI F4 N4
          clear F3 N3
          obtain ⟨_, b', hpr, _⟩ := hR.up
          have hr : r ∈ H' := hR.memH (by simp)
          have hL' := hR.laid
          have hm1 : (r.x, instObj r.C r.dx) ∈ flatH H' ++ own := List.mem_append_left _ (flatH_inst hr)
          have hm2 : (r.dx, dictOf r.es r.n) ∈ flatH H' ++ own := List.mem_append_left _ (flatH_dict hr)
          have hrP := (hL'.ok r hr).2
          have hrC := hd_cls (hL'.ok r hr).1
          have hHI : ∀ p ∈ flatH H', p.1 ≠ I := fun p hp => hoI p (by simp [lit1, hp])
          have hown2 : ∀ p ∈ own, ∀ r ∈ H', p.1 ≠ r.dx := fun p hp r hr => by
            have l1 := hL'.low r hr
            rcases hown p hp with e | e
            · rw [e]; exact (hHI _ (flatH_dict hr)).symm
            · rw [e]; refine neN ?_; omega
          repeat' keq_rows
          exact end3 (by k_asm) (by k_asm) (fun p hp => hp) ⟨rfl, rfl, rfl, rfl, rfl⟩ rfl rfl (setH_xs.trans hM') (by simp [hpl]) (hR.step hpr (by assumption)) ho hlpI (fun p hp => by obtain ⟨q, hq, e⟩ := flatH_set hp; rw [← e]; exact hHI q hq)
        case done3 =>
          intro u H' pre back h tk hR hM' F4 N4
          clear F3 N3
          dsimp only
          have hPz : P.toArray.size ≤ sizeLine := by
            have h1 := hP.length
            have h2 := hC.short
            rw [List.length_map] at h1
            rw [List.size_toArray]
            exact Nat.le_trans (by omega) lineBig
          have hoff : OwnOff (flatH H') [_, _, _, _, _, _, _, _] := fun p hp b hb => hR.laid.off (lit_le ho hb) p hp
          bits_by_make
          rename SetPar _ _ _ => hset
          rename IntsAre _ (List.reverse _) => hI9
          rename News _ _ _ _ => N5
          have hlen63' : H'.length ≤ 63 := by
            have := congrArg List.length hM'
            simp only [refsOf, List.length_map] at this
            omega
          have hks9 := rev_hks hR hlen63'
          rw [hM'] at hks9
          k_dflt (refine' same_call (rt := ⟨_, _, 45, 500, _, _⟩) (ns := pre.reverse) (M := refsOf H) (ks := (ks.map (Nat.cast : Nat → Int)).reverse) (a₁ := back) ?k1 ?k2 ?k3 ?k4 ?k5 ?k6 ?k7 ?k8 hset.1 hR.down ?k11 ?k12 hI9 ?k14 hks9 ?k16 ?k17 ?_)
          (case k1 => k_asm)
          (case k2 => k_asm)
          (case k3 => k_asm)
          (case k4 => k_asm)
          (case k5 => k_asm)
          (case k6 => exact rfl)
          (case k7 => exact ⟨by k_mem, by k_mem, .inl ⟨rfl, (hset.2.1 "handler_order" (by decide)).trans hC.tord, rfl⟩, hset.ok hC.pok⟩)
          (case k8 =>
            intro r hr
            have hr' : r ∈ H' := hR.memH (by simpa using hr)
            have g1 := flatH_inst hr'
            have g2 := flatH_dict hr'
            exact ⟨.tail _ (.tail _ (.tail _ (.tail _ (.tail _ (.tail _ (.tail _ (.tail _ (.tail _ g1)))))))), .tail _ (.tail _ (.tail _ (.tail _ (.tail _ (.tail _ (.tail _ (.tail _ (.tail _ g2)))))))), (hR.laid.ok r hr').1, (hR.laid.ok r hr').2⟩)
          (case k11 => k_mem)
          (case k12 => k_mem)
          (case k14 =>
            have := hR.len
            simp only [List.append_nil] at this
            rw [List.length_reverse, List.length_map, List.length_reverse]
            exact this.symm)
          (case k16 => ktr_room)
          (case k17 => ktr_units)
          intro h tk F6 N6
          k_steps))
end Mine


theorem PySem.Challenge.cw_dn0254_09_holds : PySem.Challenge.rw_dn0254_09.Holds :=
  Mine.t
