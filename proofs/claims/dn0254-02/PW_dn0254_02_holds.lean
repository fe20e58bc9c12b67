import PyProof.Rows.All
import Wide.All
import OpenK.AllK
import Wide.FinOn
import PySem.Challenge.RW_dn0254_02
open PySem PySem.W PyProof.Rows PySem.Calls
set_option Elab.async false
set_option maxRecDepth 100000
namespace Mine
set_option maxHeartbeats 8000000
open_top hd for PySem.Challenge.rw_dn0254_02
end Mine
set_option maxHeartbeats 8000000

namespace Mine
theorem entry_hasattr : entryFor table "hasattr" = some Builtin.«hasattr» := entryFor_of_tree (by kernel_rfl)
theorem kind_hasattr : builtinKind "hasattr" = none := by decide +kernel
theorem plain_hasattr : plainId "hasattr" = true := by decide +kernel
theorem args_hasattr2 (a b : Value) : argsOk "hasattr" ⟨[a, b], []⟩ := by unfold argsOk; kernel_rfl

section
variable {prog : Program} {w : World} {A : Around} {E : Value → Shared → Prop} {s : Shared} {K : Frag} {x C L f : Addr} {h₀ : Heap} {m : Str → Option Value} {ox : Obj} {od : Option Obj}
theorem getBy_open {expr fill : Bool} {Q : Value → Shared → Prop} {name : Str} {tk : Tok} (X : K.In s.heap) (I : W.InstAt s.heap x ox C od) (hga : findIn K (.ref C) "__getattribute__" = some (some (.builtin "object.__getattribute__")))
    (h : wpAny (model prog w) A.in1 (Builtin.«proto.getattr_hooked» ⟨[.ref x, .str name tk], []⟩)
      (fun fin s' => match fin with | .done (.ret v) => wpAny (model prog w) A (handedOut v) Q E s' | _ => False) (fun e s' => wpAny (model prog w) A (noteIf fill (.ref x) (.str name tk) e) (fun _ s'' => E e s'') E s') s) :
    wpAny (model prog w) A (getAttrBy (.ref x) (.str name tk) fill expr) Q E s := by
  obtain ⟨hh, g, d, t, os⟩ := s
  have L0 := I.type (M := model prog w)
  have L1 := looks_findIn (M := model prog w) X hga
  unfold getAttrBy
  refine wpAny_holding (wpAny_bind (L0.at (wpAny_bind (L1.at ?_))))
  show wpAny _ _ (getAttrEveryday _ _ _) _ _ _
  refine wpAny_bind (wpAny_onRaise (wpAny_runValue (codeAny_builtin F.plainObj_entry_getattr_hooked (wpAny_mono h (fun fin s' z => ?_) fun _ _ z => z))))
  rcases fin with (_ | _ | _ | _) | _ <;> first | exact z | exact z.elim
theorem getBy_value {expr fill : Bool} {Q : Value → Shared → Prop} {name : Str} {tk : Tok} {v : Value} (X : K.In s.heap) (I : W.InstAt s.heap x ox C od) (hga : findIn K (.ref C) "__getattribute__" = some (some (.builtin "object.__getattribute__")))
    (hf : findObj K C od name = some (.value v)) (hh : handedIn v = true) (h : Q v s) : wpAny (model prog w) A (getAttrBy (.ref x) (.str name tk) fill expr) Q E s := by
  refine getBy_open X I hga ?_
  obtain ⟨hh', g, d, t, os⟩ := s
  have L0 := I.type (M := model prog w)
  have L1 := looks_find (M := model prog w) X I hf
  refine wpAny_bind (wpAny_pure (wpAny_bind (L0.at (wpAny_bind (L1.at ?_)))))
  refine wpAny_pure ?_
  show wpAny _ _ (handedOut v) _ _ _
  rw [handedOut_of hh]; exact wpAny_pure h
theorem hasattr_yes {Q : Value → Shared → Prop} {name : Str} {v : Value} {tk : Tok} (F : Fr h₀ L s.heap m) (X₀ : K.In h₀) (I : InstAt s.heap x ox C od)
    (hga : findIn K (.ref C) "__getattribute__" = some (some (.builtin "object.__getattribute__"))) (hmod : mroIn K C (.type "module") = some false)
    (hf : findObj K C od name = some (.value v)) (hh : handedIn v = true)
    (h : Q (.bool true) s) : wpAny (model prog w) A (call (.builtin "hasattr") [.ref x, .str name tk]) Q E s := by
  refine Calls.call_function_entry kind_hasattr plain_hasattr entry_hasattr (args_hasattr2 _ _) ?_
  have X := X₀.keeps F.keep
  obtain ⟨hh', g, d, t, os⟩ := s
  have L0 := I.type (M := model prog w)
  have L1 := looks_findIn (M := model prog w) X hga
  have L2 := looks_find (M := model prog w) X I hf
  have L3 := looks_mroIn (M := model prog w) X hmod
  unfold Builtin.«hasattr»
  refine wpAny_bind (m := someArgs "hasattr" 2 2 _) (wpAny_pure ?_)
  dsimp only
  refine wpAny_bind (wpAny_bind (wpAny_pure ?_))
  show wpAny _ _ (pure _) _ _ _
  refine wpAny_pure ?_
  show wpAny _ _ (do
    let y ← typeOf (Value.ref x)
    _) _ _ _
  refine wpAny_bind (L0.at ?_)
  dsimp only
  refine wpAny_bind ?_
  repeat ((fail_if_success (with_reducible show wpAny _ _ (getAttrBy? _ _) _ _ _)); lk)
  refine wpAny_bind (wpAny_attempt (getBy_value X I hga hf hh ?_))
  refine wpAny_pure ?_
  show wpAny _ _ (ret (Value.bool true)) _ _ _
  exact wpAny_pure ⟨_, rfl, h⟩
/-- object's own __gt__ declines -/
theorem gt_declined {Q : Option Value → Shared → Prop} {b : Value} (X : K.In s.heap) (I : W.InstAt s.heap x ox C od) (hg : findIn K (.ref C) "__gt__" = some (some (.builtin "object.__gt__"))) (hm : mroIn K C (.type "object") = some true)
    (h : Q none s) : wpAny (model prog w) A (tryCompare (.ref x) "__gt__" b) Q E s := by
  unfold tryCompare
  simp only [callSpecialIfBound?, bindSpecialIfBound?]
  refine wpAny_bind (wpAny_holding (wpAny_bind (wpAny_bind (wpAny_bind (I.type.here ((looks_findIn X hg).here ?_))))))
  refine wpAny_bind (wpAny_askSetting (wpAny_ite ?_))
  have fin : wpAny (model prog w) A (call (.builtin "object.__gt__") ([.ref x] ++ [b]) >>= fun v => pure (some v)) (fun a s' => wpAny (model prog w) A (match a with | some Value.notImplemented => pure none | none => pure none | some v => pure (some v)) Q E s') E s := by
    refine wpAny_bind (wpAny_call (codeAny_call_builtin F.slot_object_gt.plain F.entry_object_gt (check_slot (i := "object.__gt__") (owner := "object") (n := "__gt__") (by decide +kernel) (by decide +kernel) (I.type.andThen (looks_mroIn X hm)) (F.args_object_gt_2 _ _) ?_)))
    unfold Builtin.«object.__gt__»
    show wpAny _ _ (do let _ ← slotArgs "__gt__" 1 _; ret .notImplemented) _ _ _
    refine wpAny_bind (m := slotArgs "__gt__" 1 _) (wpAny_pure ?_)
    refine wpAny_pure ?_
    exact wpAny_pure (wpAny_pure h)
  split
  · exact wpAny_bind ((Looks.of_pure (F.slot_object_gt.bind _)).here (wpAny_pure (by exact fin)))
  · exact wpAny_tryCatch (wpAny_bind ((Looks.of_pure (F.slot_object_gt.bind _)).here (wpAny_pure (by exact fin))))
/-- a thing of an own class at the left of <, any at the right whose class's own __gt__ is object's where it is asked first -/
theorem lt_inst {Q : Value → Shared → Prop} {b tb : Value} (hu : A.units < cLine) (F : Fr h₀ L s.heap m) (X₀ : K.In h₀) (I : W.InstAt s.heap x ox C od) (hb : Looks (model prog w) s.heap (typeOf b) tb)
    (hn : tb = .ref C ∨ subIn K tb (.ref C) = some false ∨ ∃ y oy D dy, b = .ref y ∧ tb = .ref D ∧ W.InstAt s.heap y oy D dy ∧ findIn K (.ref D) "__gt__" = some (some (.builtin "object.__gt__")) ∧ mroIn K D (.type "object") = some true ∧ mroIn K D (.ref C) = some true)
    (hs : findIn K (.ref C) "__lt__" = some (some (.ref f))) (hf : isFn K (.ref f) = true)
    (h : wpAny (model prog w) A (call (.ref f) [.ref x, b]) (W.CmpBack Q) E s) : wpAny (model prog w) A (richCompare .Lt (.ref x) b) Q E s := by
  have X := X₀.keeps F.keep
  have one : wpAny (model prog w) A (tryCompare (.ref x) "__lt__" b) (fun r s' => ∃ v, r = some v ∧ Q v s') E s := by
    unfold tryCompare
    refine wpAny_bind (ifBound_K X I hs hf (wpAny_mono h (fun v s' hv => ?_) fun _ _ e => e))
    cases v <;> first | exact hv.elim | exact wpAny_pure ⟨_, rfl, hv⟩
  rcases hn with hn | hn
  · exact cmp_K hu F X₀ I hb (by rw [hn]; simp [notFirst]) hs hf h
  rcases hn with hn | ⟨y, oy, D, dy, rfl, rfl, J, hg, hm, hsub⟩
  · exact cmp_K hu F X₀ I hb (by simp [notFirst, hn]) hs hf h
  unfold richCompare
  simp only [oneThing_ref]
  refine wpAny_holding (wpAny_bind (wpAny_cRoomFor hu ?_))
  refine wpAny_bind (I.type.here (wpAny_bind (hb.here ?_)))
  split
  · refine wpAny_bind ((looks_mroIn X hsub).here ?_)
    simp only [if_true, cmpInfo]
    refine wpAny_bind (gt_declined X J hg hm ?_)
    refine wpAny_bind (wpAny_mono one (fun r s' z => ?_) fun _ _ e => e)
    obtain ⟨v, rfl, hq⟩ := z
    exact wpAny_pure hq
  · refine wpAny_bind (wpAny_pure ?_)
    simp only [Bool.false_eq_true, if_false]
    refine wpAny_bind (wpAny_mono one (fun r s' z => ?_) fun _ _ e => e)
    obtain ⟨v, rfl, hq⟩ := z
    exact wpAny_pure hq
end

/-! loops by an invariant over the frame's names and the ledger -/
section
variable {prog : Program} {w : World} {A : Around} {E : Value → Shared → Prop} {s : Shared} {env : Env} {h₀ : Heap} {x : Str} {body : List Stmt} {Q : Flow → Shared → Prop}
def EndJ (h₀ : Heap) (L : Addr) (J : (Str → Option Value) → List (Addr × Obj) → Prop) (own : List (Addr × Obj)) (I : Addr) (s₁ s₂ : Shared) : Prop :=
  ∃ h' tk m' news', s₂ = { s₁ with heap := h', toks := tk } ∧ Fr h₀ L h' m' ∧ News h₀ L h' (news' ++ own) ∧ (∀ p ∈ news', p.1 ≠ I) ∧ J m' news'
def PostJ (h₀ : Heap) (L : Addr) (J : (Str → Option Value) → List (Addr × Obj) → Prop) (own : List (Addr × Obj)) (I : Addr) (s₁ : Shared) (Q : Flow → Shared → Prop) (f : Flow) (s₂ : Shared) : Prop :=
  match f with
  | .ret v => Q (.ret v) s₂
  | .brk => Q .next s₂
  | _ => EndJ h₀ L J own I s₁ s₂
theorem news_comm {L : Addr} {h : Heap} {a b : List (Addr × Obj)} (N : News h₀ L h (a ++ b)) : News h₀ L h (b ++ a) := fun p hp => N p ((List.mem_append.mp hp).elim (fun h => List.mem_append.mpr (.inr h)) fun h => List.mem_append.mpr (.inl h))
theorem postJ_step {L I : Addr} {J : (Str → Option Value) → List (Addr × Obj) → Prop} {own : List (Addr × Obj)} {s₁ s₂ : Shared} {f : Flow} (h : PostJ h₀ L J own I s₁ Q f s₂) :
    LoopStepV h₀ L [I] own J s₁ (fun v s' => Q (.ret v) s') (fun s' => Q .next s') f s₂ := by
  have fin : EndJ h₀ L J own I s₁ s₂ → LoopStepU h₀ L [I] own J s₁ .next s₂ := by
    rintro ⟨h', tk, m', news', e, F', N', hn, hj⟩
    exact ⟨rfl, h', tk, m', news', e, F', news_comm N', fun p hp q => hn p hp (List.mem_singleton.mp q), hj⟩
  cases f with
  | ret v => exact .ret h
  | brk => exact .brk h
  | next => exact .next (fin h)
  | cont => exact .cont (fin h)
theorem iter_listJ {l : Addr} {vs : List Value} {m₀ : Str → Option Value} {news : List (Addr × Obj)} (J : Nat → (Str → Option Value) → List (Addr × Obj) → Prop)
    (hh : A.handled = none) (hl : s.heap.IsList l vs.toArray) (hlL : l ≠ env.locals) (F : Fr h₀ env.locals s.heap m₀) (N : News h₀ env.locals s.heap news) (hj : J 0 m₀ news)
    (turn : ∀ I i v m₁ news₁ h tk own, vs[i]? = some v → J i m₁ news₁ → (∀ p ∈ news₁, p.1 ≠ I) → (∀ p ∈ own, p.1 = I ∨ p.1 = l) → (∃ o, (I, o) ∈ own) → (∀ p ∈ news, p.1 < I) → l < I → Fr h₀ env.locals h (fun y => if y = x then some v else m₁ y) → News h₀ env.locals h (news₁ ++ own) →
      wpAny (model prog w) A (execs body env) (PostJ h₀ env.locals (J (i + 1)) own I { s with heap := h, toks := tk } Q) E { s with heap := h, toks := tk })
    (done : ∀ m₁ news₁ h tk, J vs.length m₁ news₁ → Fr h₀ env.locals h m₁ → News h₀ env.locals h news₁ → Q .next { s with heap := h, toks := tk }) :
    wpAny (model prog w) A (pyIter (.ref l)) (fun it s₂ => LoopAtV prog w A h₀ env x body Q E it s₂) E s := by
  obtain ⟨ol, hol, _⟩ := id hl
  have hlt : l < s.heap.objs.size := Heap.lt_size hol
  refine wpAny_pyIter_list hl ?_
  have W := Walks.list (prog := prog) (w := w) hh s.heap.objs.size l (Nat.ne_of_lt hlt) vs.toArray
  have hlen : vs.toArray.size = vs.length := by simp
  rw [hlen] at W
  refine ⟨_, _, _, vs.length, _, _, m₀, news, J, rfl, W, ?_, ?_, ?_, ⟨⟨_, Heap.get?_push_size _ rfl, rfl, rfl⟩, hl.at fun o e => Heap.get?_push_of_some _ e⟩, F.push _, (fun p hp => ⟨Heap.get?_push_of_some _ (N p hp).1, (N p hp).2⟩), hj, ?_, ?_⟩
  · intro hm
    rcases List.mem_cons.mp hm with e | hm
    · exact absurd F.ns.lt (e ▸ Nat.lt_irrefl _)
    · exact hlL (List.mem_singleton.mp hm).symm
  · intro b hb
    rw [List.mem_singleton.mp hb]
    exact next_is_new F
  · intro p hp hI
    exact absurd (Heap.lt_size (N p hp).1) ((List.mem_singleton.mp hI) ▸ Nat.lt_irrefl _)
  · rintro i v m₁ news₁ s₁ own ⟨hh', tk', rfl⟩ hin hP hJ hoff hown _ hall hst F₁ N₁
    have hIo : ∃ o, (s.heap.objs.size, o) ∈ own := by
      obtain ⟨⟨o, ho, _⟩, _⟩ := hst
      exact ⟨o, hall _ (.head _) (next_is_new F) o ho⟩
    refine wpAny_mono (turn s.heap.objs.size i v m₁ news₁ hh' tk' own (by simpa using hP) hJ (fun p hp q => hoff p hp (by rw [q]; exact .head _)) (fun p hp => ?_) hIo (fun p hp => Heap.lt_size (N p hp).1) hlt F₁ (news_comm N₁)) (fun f s₂ p => postJ_step p) fun _ _ e => e
    rcases List.mem_cons.mp (hown p hp) with h1 | h1
    · exact .inl h1
    · exact .inr (List.mem_singleton.mp h1)
  · rintro h' tk m' news' F' N' _ hJ
    exact done m' news' h' tk hJ F' N'
theorem iter_rangeJ {r : Addr} {a₀ b₀ : Int} {t₀ u₀ v₀ : Tok} {n : Nat} {m₀ : Str → Option Value} {news : List (Addr × Obj)} (J : Nat → (Str → Option Value) → List (Addr × Obj) → Prop)
    (hh : A.handled = none) (hr : IsRange s.heap r a₀ b₀ 1 t₀ u₀ v₀) (hsmall : Builtin.Range.small a₀ b₀ 1 = true) (hn : Builtin.Range.rangeSize a₀ b₀ 1 = (n : Int)) (F : Fr h₀ env.locals s.heap m₀) (N : News h₀ env.locals s.heap news) (hj : J 0 m₀ news)
    (turn : ∀ I (i : Nat) t m₁ news₁ h tk own, i < n → J i m₁ news₁ → (∀ p ∈ news₁, p.1 ≠ I) → (∀ p ∈ own, p.1 = I) → (∃ o, (I, o) ∈ own) → (∀ p ∈ news, p.1 < I) → Fr h₀ env.locals h (fun y => if y = x then some (.int (a₀ + i) t) else m₁ y) → News h₀ env.locals h (news₁ ++ own) →
      wpAny (model prog w) A (execs body env) (PostJ h₀ env.locals (J (i + 1)) own I { s with heap := h, toks := tk } Q) E { s with heap := h, toks := tk })
    (done : ∀ m₁ news₁ h tk, J n m₁ news₁ → Fr h₀ env.locals h m₁ → News h₀ env.locals h news₁ → Q .next { s with heap := h, toks := tk }) :
    wpAny (model prog w) A (pyIter (.ref r)) (fun it s₂ => LoopAtV prog w A h₀ env x body Q E it s₂) E s := by
  refine wpAny_pyIter_range hr hsmall ?_
  have W : Walks prog w A s.heap.objs.size [s.heap.objs.size] [s.heap.objs.size] n (fun i v => i < n ∧ ∃ t, v = .int (a₀ + i * 1) t)
      (fun i h => IsRangeIter h s.heap.objs.size (a₀ + (i : Nat) * 1) ((n : Int) - (i : Nat)) 1) := (Walks.range hh _ a₀ 1 n).bound
  refine ⟨_, _, _, n, _, _, m₀, news, J, rfl, W, ?_, ?_, ?_, (by show IsRangeIter _ _ _ _ _; rw [hn]; simpa using Heap.get?_push_size _ rfl), F.push _, (fun p hp => ⟨Heap.get?_push_of_some _ (N p hp).1, (N p hp).2⟩), hj, ?_, ?_⟩
  · intro hm
    exact absurd F.ns.lt ((List.mem_singleton.mp hm) ▸ Nat.lt_irrefl _)
  · intro b hb
    rw [List.mem_singleton.mp hb]
    exact next_is_new F
  · intro p hp hI
    exact absurd (Heap.lt_size (N p hp).1) ((List.mem_singleton.mp hI) ▸ Nat.lt_irrefl _)
  · rintro i v m₁ news₁ s₁ own ⟨hh', tk', rfl⟩ hin ⟨_, t, rfl⟩ hJ hoff hown _ hall hst F₁ N₁
    refine wpAny_mono (turn s.heap.objs.size i t m₁ news₁ hh' tk' own hin hJ (fun p hp q => hoff p hp (by rw [q]; exact .head _)) (fun p hp => List.mem_singleton.mp (hown p hp)) ⟨_, hall _ (.head _) (next_is_new F) _ hst⟩ (fun p hp => Heap.lt_size (N p hp).1) (by simpa using F₁) (news_comm N₁)) (fun f s₂ p => postJ_step p) fun _ _ e => e
  · rintro h' tk m' news' F' N' _ hJ
    exact done m' news' h' tk hJ F' N'
end

/-! a name put into a dict's entries -/
theorem isStr_str (a b : Str) (t : Tok) : (Value.str a t).isStr b = (a == b) := rfl
theorem isStr_two {k : Value} {a b : Str} (h : k.isStr a = true) (hne : b ≠ a) : k.isStr b = false := by
  cases k with
  | str x t =>
    have e : x = a := by simpa [Value.isStr] using h
    subst e
    simp only [Value.isStr]
    exact beq_false_of_ne (fun q => hne q.symm)
  | _ => cases h
theorem find_put_same (name : Str) (hsh : Int) (t : Tok) (v : Value) : ∀ es : List DictEntry, ((putL name hsh (.str name t) v es).find? (·.key.isStr name)).map (·.val) = some v
  | [] => by simp [putL, Value.isStr]
  | e :: r => by
    unfold putL
    split
    · rename_i h; simp [h]
    · rename_i h
      rw [List.find?_cons_of_neg (p := fun x : DictEntry => x.key.isStr name) h]
      exact find_put_same name hsh t v r
theorem find_put_other {name nm : Str} (hne : nm ≠ name) (hsh : Int) (t : Tok) (v : Value) : ∀ es : List DictEntry, (putL name hsh (.str name t) v es).find? (·.key.isStr nm) = es.find? (·.key.isStr nm)
  | [] => by
    unfold putL
    have : (name == nm) = false := beq_false_of_ne fun q => hne q.symm
    simp [Value.isStr, this]
  | e :: r => by
    unfold putL
    split
    · rename_i h
      have h2 := isStr_two h hne
      rw [List.find?_cons_of_neg (by simp [h2]), List.find?_cons_of_neg (by simp [h2])]
    · rename_i h
      rw [List.find?_cons, List.find?_cons, find_put_other hne hsh t v r]
theorem refKey_put (name : Str) (hsh : Int) (t : Tok) (v : Value) : ∀ es : List DictEntry, (putL name hsh (.str name t) v es).any (·.refKey) = es.any (·.refKey)
  | [] => by simp [putL]; rfl
  | e :: r => by
    unfold putL
    split
    · rfl
    · rw [List.any_cons, List.any_cons, refKey_put name hsh t v r]
theorem getL_put_same (name : Str) (hsh : Int) (t : Tok) (v : Value) (es : List DictEntry) : getL name (putL name hsh (.str name t) v es) = some (some v) := by
  have h := find_put_same name hsh t v es
  unfold getL
  cases q : (putL name hsh (.str name t) v es).find? (·.key.isStr name) with
  | none => rw [q] at h; cases h
  | some e => rw [q] at h; simp at h; simp [h]
theorem getL_put_other {name nm : Str} (hne : nm ≠ name) (hsh : Int) (t : Tok) (v : Value) (es : List DictEntry) : getL nm (putL name hsh (.str name t) v es) = getL nm es := by
  unfold getL
  rw [find_put_other hne, refKey_put]
theorem put_len (name : Str) (hsh : Int) (t : Tok) (v : Value) : ∀ es : List DictEntry, (putL name hsh (.str name t) v es).length = if (es.find? (·.key.isStr name)).isSome then es.length else es.length + 1
  | [] => by simp [putL]
  | e :: r => by
    unfold putL
    split
    · rename_i h; simp [h]
    · rename_i h
      rw [List.length_cons, put_len name hsh t v r, List.find?_cons_of_neg (p := fun x : DictEntry => x.key.isStr name) h]
      split <;> simp
/-- the ledger without one address -/
def off (d : Addr) (news : List (Addr × Obj)) : List (Addr × Obj) := news.filter fun p => p.1 != d
theorem mem_off {d : Addr} {news : List (Addr × Obj)} {p : Addr × Obj} : p ∈ off d news ↔ p ∈ news ∧ p.1 ≠ d := by
  unfold off; rw [List.mem_filter]; simp
theorem off_ne {d : Addr} {news : List (Addr × Obj)} : ∀ p ∈ off d news, p.1 ≠ d := fun _ hp => (mem_off.mp hp).2
theorem news_front {h₀ h : Heap} {L d : Addr} {o : Obj} {news : List (Addr × Obj)} (N : News h₀ L h news) (hm : (d, o) ∈ news) : News h₀ L h ((d, o) :: off d news) := fun p hp => by
  rcases List.mem_cons.mp hp with rfl | hp
  · exact N _ hm
  · exact N p (mem_off.mp hp).1
theorem news_sub {h₀ h : Heap} {L : Addr} {news news' : List (Addr × Obj)} (N : News h₀ L h news) (hs : ∀ p ∈ news', p ∈ news) : News h₀ L h news' := fun p hp => N p (hs p hp)
theorem news_one {h₀ h : Heap} {L d : Addr} {o o' : Obj} {news : List (Addr × Obj)} (N : News h₀ L h news) (h1 : (d, o) ∈ news) (h2 : (d, o') ∈ news) : o = o' := Option.some.inj ((N _ h1).1.symm.trans (N _ h2).1)

theorem fill1 {m : Str → Option Value} {k : Str} {v : Value} (h : m k = some v) (y : Str) : (if y = k then some v else m y) = m y := by
  split
  · rename_i e; rw [e, h]
  · rfl
section
variable {M : Model} {A : Around} {E : Value → Shared → Prop} {s : Shared} {h₀ : Heap} {L a b : Addr} {oa ob : Obj} {news : List (Addr × Obj)} {Q : Value → Shared → Prop}
theorem is_refs (N : News h₀ L s.heap news) (ha : (a, oa) ∈ news) (hb : (b, ob) ∈ news) (hnt : oa.cls ≠ .type "tuple") (h : Q (.bool (decide (a = b))) s) : wpAny M A (compareOp .Is (.ref a) (.ref b)) Q E s := by
  show wpAny M A (do return .bool (← isSame (.ref a) (.ref b))) Q E s
  by_cases e : a = b
  · subst e
    rw [decide_eq_true rfl] at h
    exact wpAny_bind (wpAny_isSame_ref_self (wpAny_pure h))
  · rw [decide_eq_false e] at h
    exact wpAny_bind (wpAny_isSame_ref_other e (N _ ha).1 (N _ hb).1 hnt (wpAny_pure h))
theorem isNot_refs (N : News h₀ L s.heap news) (ha : (a, oa) ∈ news) (hb : (b, ob) ∈ news) (hnt : oa.cls ≠ .type "tuple") (h : Q (.bool (!decide (a = b))) s) : wpAny M A (compareOp .IsNot (.ref a) (.ref b)) Q E s := by
  show wpAny M A (do return .bool (!(← isSame (.ref a) (.ref b)))) Q E s
  by_cases e : a = b
  · subst e
    rw [decide_eq_true rfl] at h
    exact wpAny_bind (wpAny_isSame_ref_self (wpAny_pure h))
  · rw [decide_eq_false e] at h
    exact wpAny_bind (wpAny_isSame_ref_other e (N _ ha).1 (N _ hb).1 hnt (wpAny_pure h))
end

section
variable {prog : Program} {w : World} {A : Around} {E : Value → Shared → Prop} {s : Shared} {h₀ : Heap} {L : Addr} {news : List (Addr × Obj)}
theorem item_led {value slice : PySem.Expr} {l : Addr} {vs : List Value} {n : Nat} {k : Int} {u : Tok} {v : Value} {Q : Value → Shared → Prop} (N : News h₀ L s.heap news)
    (hl : (l, W.listOf vs.toArray n) ∈ news) (h0 : 0 ≤ k) (hhi : k < 2 ^ 63) (hx : vs[k.toNat]? = some v) (h : Q v s)
    (hs : subscripted slice false (.ref l) (.int k u) = operate [.ref l, .int k u] (getItem (.ref l) (.int k u)) := by with_unfolding_all rfl) :
    wpAny (model prog w) A (subscriptTail value slice (.ref l) (.int k u)) Q E s :=
  tail_any (News.isList N hl).typeIs slot_list_getitem.lookup (wpAny_getItem_list (News.isList N hl) h0 hhi (by simpa using hx) h) hs
end

/-! lists of the ledger -/
section
variable {prog : Program} {w : World} {A : Around} {E : Value → Shared → Prop} {s : Shared} {h₀ : Heap} {L D : Addr} {m : Str → Option Value} {news news' : List (Addr × Obj)} {vs : List Value} {v : Value} {n : Nat}
theorem lineBig : 2 ^ 20 ≤ sizeLine := by decide
theorem len_led {Q : Value → Shared → Prop} (N : News h₀ L s.heap news) (hl : (D, W.listOf vs.toArray n) ∈ news) (hz : vs.length ≤ 2 ^ 20) (h : Q (.int vs.length (s.toks + 1)) { s with toks := s.toks + 1 + 1 }) : wpAny (model prog w) A (call (.builtin "len") [.ref D]) Q E s :=
  len_list (News.isList N hl) (by rw [List.size_toArray]; omega) (by rw [List.size_toArray]; exact h)
theorem truthy_led {Q : Bool → Shared → Prop} (N : News h₀ L s.heap news) (hl : (D, W.listOf vs.toArray n) ∈ news) (hz : vs.length ≤ 2 ^ 20) (h : Q (!vs.isEmpty) { s with toks := s.toks + 1 + 1 }) : wpAny (model prog w) A (truthy (.ref D)) Q E s :=
  wpAny_truthy_list (News.isList N hl) (by rw [List.size_toArray]; omega) (by rw [List.isEmpty_toArray]; exact h)
theorem fits_index {k : Int} (h0 : 0 ≤ k) (h1 : k < 2 ^ 62) : Builtin.List.listFitsIndex k = true := by
  unfold Builtin.List.listFitsIndex
  simp only [Bool.and_eq_true, decide_eq_true_eq]
  omega
theorem cut_at : ∀ (p : List Value) (y : Value) (q : List Value), kl_cut (p ++ y :: q) p.length = some (p, y, q)
  | [], _, _ => rfl
  | x :: p, y, q => by
    show (match kl_cut (p ++ y :: q) p.length with | some (p', y', q') => some (x :: p', y', q') | none => none) = _
    rw [cut_at p y q]
theorem popAt_led {p q : List Value} {y : Value} {k : Int} {u : Tok} {Q : Value → Shared → Prop} (F : Fr h₀ L s.heap m) (N : News h₀ L s.heap news) (hk : k = (p.length : Int)) (hz : (p ++ y :: q).length ≤ 2 ^ 20) (U : Upd D (W.listOf (p ++ y :: q).toArray n) (W.listOf (p ++ q).toArray (n + 1)) news news')
    (h : ∀ h', Fr h₀ L h' m → News h₀ L h' news' → Q y { s with heap := h' }) : wpAny (model prog w) A (call (.builtin "list.pop") [.ref D, .int k u]) Q E s := by
  have hz' := lineBig
  refine kl_popAt (k := p.length) F N (fits_index (by omega) (by simp only [List.length_append, List.length_cons] at hz; omega)) ?_ (cut_at p y q) U (by simpa using Nat.le_trans hz hz') h
  unfold seqIndex?
  subst hk
  simp
  omega
theorem pop0_led {u : Tok} {Q : Value → Shared → Prop} (F : Fr h₀ L s.heap m) (N : News h₀ L s.heap news) (hz : (v :: vs).length ≤ 2 ^ 20) (U : Upd D (W.listOf (v :: vs).toArray n) (W.listOf vs.toArray (n + 1)) news news')
    (h : ∀ h', Fr h₀ L h' m → News h₀ L h' news' → Q v { s with heap := h' }) : wpAny (model prog w) A (call (.builtin "list.pop") [.ref D, .int 0 u]) Q E s :=
  popAt_led (p := []) F N rfl hz U h
theorem insert_led {p q : List Value} {k : Int} {u : Tok} {y : Value} {Q : Value → Shared → Prop} (F : Fr h₀ L s.heap m) (N : News h₀ L s.heap news) (hk : k = (p.length : Int)) (hz : (p ++ q).length ≤ 2 ^ 20) (U : Upd D (W.listOf (p ++ q).toArray n) (W.listOf (p ++ y :: q).toArray (n + 1)) news news')
    (h : ∀ h', Fr h₀ L h' m → News h₀ L h' news' → Q .none { s with heap := h' }) : wpAny (model prog w) A (call (.builtin "list.insert") [.ref D, .int k u, y]) Q E s := by
  have hz' := lineBig
  refine kl_insert F N (fits_index (by omega) (by simp only [List.length_append] at hz; omega)) ?_ U (by simpa using Nat.le_trans hz hz') h
  unfold kl_ins
  subst hk
  rw [if_neg (by omega)]
  have : min ((p.length : Int).toNat) (p ++ q).toArray.toList.length = p.length := by simp
  rw [this]
  simp
theorem append_led {Q : Value → Shared → Prop} (F : Fr h₀ L s.heap m) (N : News h₀ L s.heap news) (hz : vs.length ≤ 2 ^ 20) (U : Upd D (W.listOf vs.toArray n) (W.listOf (vs ++ [v]).toArray (n + 1)) news news')
    (h : ∀ h', Fr h₀ L h' m → News h₀ L h' news' → Q .none { s with heap := h' }) : wpAny (model prog w) A (call (.builtin "list.append") [.ref D, v]) Q E s :=
  append_K (its := vs.toArray) F N (by rw [List.push_toArray]; exact U) h (by rw [List.size_toArray]; exact Nat.le_trans hz lineBig)
end
theorem seq_cut {M : Model} {A : Around} {E : Value → Shared → Prop} {s : Shared} {env : Env} {st : Stmt} {rest : List Stmt} {Q : Flow → Shared → Prop} (I : Shared → Prop) (h1 : wpAny M A (exec st env) (fun f s' => f = .next ∧ I s') E s) (h2 : ∀ s', I s' → wpAny M A (execs rest env) Q E s') :
    wpAny M A (execs (st :: rest) env) Q E s := wpAny_execs_cons (wpAny_mono h1 (fun f s' h => by obtain ⟨rfl, hi⟩ := h; exact h2 s' hi) fun _ _ e => e)
end Mine


namespace Mine
section
variable {prog : Program} {w : World} {A : Around} {E : Value → Shared → Prop} {s : Shared}
theorem getBy_miss_int {i : Int} {t : Tok} {tk : Tok} {name : Str} {Q : Option Value → Shared → Prop} (hmiss : typeLookup (.type "int") name = pure none) (hA : A.handled = none)
    (h : ∀ h' tk', (∀ b o, s.heap.get? b = some o → h'.get? b = some o) → Q none { s with heap := h', toks := tk' }) (hsz : name.length + 100 ≤ sizeLine) :
    wpAny (model prog w) A (getAttrBy? (.int i t) (.str name tk)) Q E s := by
  obtain ⟨hp, g, d, tk0, os⟩ := s
  have hT : ∀ s' : Shared, s'.TypeIs (.int i t) "int" := fun _ => rfl
  have f1 := sub_AttributeError
  have f3 := F.slot_int_getattribute.lookup
  have f4 := F.slot_int_getattribute.bind (.int i t)
  have f5 := am_int_getattr_none
  unfold getAttrBy? getAttrBy
  repeat (any_goals (first | assumption | ((with_reducible show wpAny _ _ (call (Value.builtin "int.__getattribute__") _ _) _ _ _); refine call_meets F.slot_int_getattribute (hT _) am_entry_int_getattribute (F.args_int_getattribute_2 _ _) (meets_getattribute_miss_int i t name _ hmiss hsz) ⟨hA, fun h' tk' e hx => ?_⟩) | wp_step))
  obtain ⟨t', u', he⟩ := hx.there
  show wpAny _ _ (getattributeRaised _ _ _ _ _ _ _) _ _ _
  unfold getattributeRaised
  repeat (any_goals (first | assumption | wp_step))
  exact h _ _ hx.keeps
theorem hasattr_int {i : Int} {t : Tok} {tk : Tok} {name : Str} {Q : Value → Shared → Prop} (hmiss : typeLookup (.type "int") name = pure none) (hA : A.handled = none)
    (h : ∀ h' tk', (∀ b o, s.heap.get? b = some o → h'.get? b = some o) → Q (.bool false) { s with heap := h', toks := tk' }) (hsz : name.length + 100 ≤ sizeLine) :
    wpAny (model prog w) A (call (.builtin "hasattr") [(.int i t), .str name tk]) Q E s := by
  refine Calls.call_function_entry kind_hasattr plain_hasattr entry_hasattr (args_hasattr2 _ _) ?_
  unfold Builtin.«hasattr»
  refine wpAny_bind (m := someArgs "hasattr" 2 2 _) (wpAny_pure ?_)
  dsimp only
  refine wpAny_bind (wpAny_bind (wpAny_pure ?_))
  show wpAny _ _ (pure _) _ _ _
  refine wpAny_pure ?_
  show wpAny _ _ (typeOf (.int i t) >>= _) _ _ _
  refine wpAny_bind (m := typeOf (.int i t)) (wpAny_pure (a := Value.type "int") ?_)
  dsimp only
  refine wpAny_bind (m := asStr? _) (wpAny_pure ?_)
  dsimp only
  rw [hmiss]
  refine wpAny_bind (wpAny_pure ?_)
  dsimp only
  refine wpAny_bind (wpAny_pure (a := 0) ?_)
  show wpAny _ _ (getAttrBy? _ _ >>= _) _ _ _
  refine wpAny_bind (getBy_miss_int (A := A.in1) hmiss hA (fun h' tk' hk => ?_) hsz)
  show wpAny _ _ (ret (.bool false)) _ _ _
  exact wpAny_pure ⟨_, rfl, h h' tk' hk⟩
theorem getBy_miss_str {x : Str} {t : Tok} {tk : Tok} {name : Str} {Q : Option Value → Shared → Prop} (hmiss : typeLookup (.type "str") name = pure none) (hA : A.handled = none)
    (h : ∀ h' tk', (∀ b o, s.heap.get? b = some o → h'.get? b = some o) → Q none { s with heap := h', toks := tk' }) (hsz : name.length + 100 ≤ sizeLine) :
    wpAny (model prog w) A (getAttrBy? (.str x t) (.str name tk)) Q E s := by
  obtain ⟨hp, g, d, tk0, os⟩ := s
  have hT : ∀ s' : Shared, s'.TypeIs (.str x t) "str" := fun _ => rfl
  have f1 := sub_AttributeError
  have f3 := F.slot_str_getattribute.lookup
  have f4 := F.slot_str_getattribute.bind (.str x t)
  have f5 := am_str_getattr_none
  unfold getAttrBy? getAttrBy
  repeat (any_goals (first | assumption | ((with_reducible show wpAny _ _ (call (Value.builtin "object.__getattribute__") _ _) _ _ _); refine call_meets F.slot_str_getattribute (hT _) F.entry_object_getattribute (F.args_object_getattribute_2 _ _) (meets_getattribute_miss_str x t name _ hmiss hsz) ⟨hA, fun h' tk' e hx => ?_⟩) | wp_step))
  obtain ⟨t', u', he⟩ := hx.there
  show wpAny _ _ (getattributeRaised _ _ _ _ _ _ _) _ _ _
  unfold getattributeRaised
  repeat (any_goals (first | assumption | wp_step))
  exact h _ _ hx.keeps
theorem hasattr_str {x : Str} {t : Tok} {tk : Tok} {name : Str} {Q : Value → Shared → Prop} (hmiss : typeLookup (.type "str") name = pure none) (hA : A.handled = none)
    (h : ∀ h' tk', (∀ b o, s.heap.get? b = some o → h'.get? b = some o) → Q (.bool false) { s with heap := h', toks := tk' }) (hsz : name.length + 100 ≤ sizeLine) :
    wpAny (model prog w) A (call (.builtin "hasattr") [(.str x t), .str name tk]) Q E s := by
  refine Calls.call_function_entry kind_hasattr plain_hasattr entry_hasattr (args_hasattr2 _ _) ?_
  unfold Builtin.«hasattr»
  refine wpAny_bind (m := someArgs "hasattr" 2 2 _) (wpAny_pure ?_)
  dsimp only
  refine wpAny_bind (wpAny_bind (wpAny_pure ?_))
  show wpAny _ _ (pure _) _ _ _
  refine wpAny_pure ?_
  show wpAny _ _ (typeOf (.str x t) >>= _) _ _ _
  refine wpAny_bind (m := typeOf (.str x t)) (wpAny_pure (a := Value.type "str") ?_)
  dsimp only
  refine wpAny_bind (m := asStr? _) (wpAny_pure ?_)
  dsimp only
  rw [hmiss]
  refine wpAny_bind (wpAny_pure ?_)
  dsimp only
  refine wpAny_bind (wpAny_pure (a := 0) ?_)
  show wpAny _ _ (getAttrBy? _ _ >>= _) _ _ _
  refine wpAny_bind (getBy_miss_str (A := A.in1) hmiss hA (fun h' tk' hk => ?_) hsz)
  show wpAny _ _ (ret (.bool false)) _ _ _
  exact wpAny_pure ⟨_, rfl, h h' tk' hk⟩
theorem getBy_miss_none  {tk : Tok} {name : Str} {Q : Option Value → Shared → Prop} (hmiss : typeLookup (.type "NoneType") name = pure none) (hA : A.handled = none)
    (h : ∀ h' tk', (∀ b o, s.heap.get? b = some o → h'.get? b = some o) → Q none { s with heap := h', toks := tk' }) (hsz : name.length + 100 ≤ sizeLine) :
    wpAny (model prog w) A (getAttrBy? .none (.str name tk)) Q E s := by
  obtain ⟨hp, g, d, tk0, os⟩ := s
  have hT : ∀ s' : Shared, s'.TypeIs .none "NoneType" := fun _ => rfl
  have f1 := sub_AttributeError
  have f3 := F.slot_NoneType_getattribute.lookup
  have f4 := F.slot_NoneType_getattribute.bind .none
  have f5 := am_none_getattr_none
  unfold getAttrBy? getAttrBy
  repeat (any_goals (first | assumption | ((with_reducible show wpAny _ _ (call (Value.builtin "object.__getattribute__") _ _) _ _ _); refine call_meets F.slot_NoneType_getattribute (hT _) F.entry_object_getattribute (F.args_object_getattribute_2 _ _) (meets_getattribute_miss_none  name _ hmiss hsz) ⟨hA, fun h' tk' e hx => ?_⟩) | wp_step))
  obtain ⟨t', u', he⟩ := hx.there
  show wpAny _ _ (getattributeRaised _ _ _ _ _ _ _) _ _ _
  unfold getattributeRaised
  repeat (any_goals (first | assumption | wp_step))
  exact h _ _ hx.keeps
theorem hasattr_none  {tk : Tok} {name : Str} {Q : Value → Shared → Prop} (hmiss : typeLookup (.type "NoneType") name = pure none) (hA : A.handled = none)
    (h : ∀ h' tk', (∀ b o, s.heap.get? b = some o → h'.get? b = some o) → Q (.bool false) { s with heap := h', toks := tk' }) (hsz : name.length + 100 ≤ sizeLine) :
    wpAny (model prog w) A (call (.builtin "hasattr") [.none, .str name tk]) Q E s := by
  refine Calls.call_function_entry kind_hasattr plain_hasattr entry_hasattr (args_hasattr2 _ _) ?_
  unfold Builtin.«hasattr»
  refine wpAny_bind (m := someArgs "hasattr" 2 2 _) (wpAny_pure ?_)
  dsimp only
  refine wpAny_bind (wpAny_bind (wpAny_pure ?_))
  show wpAny _ _ (pure _) _ _ _
  refine wpAny_pure ?_
  show wpAny _ _ (typeOf .none >>= _) _ _ _
  refine wpAny_bind (m := typeOf .none) (wpAny_pure (a := Value.type "NoneType") ?_)
  dsimp only
  refine wpAny_bind (m := asStr? _) (wpAny_pure ?_)
  dsimp only
  rw [hmiss]
  refine wpAny_bind (wpAny_pure ?_)
  dsimp only
  refine wpAny_bind (wpAny_pure (a := 0) ?_)
  show wpAny _ _ (getAttrBy? _ _ >>= _) _ _ _
  refine wpAny_bind (getBy_miss_none (A := A.in1) hmiss hA (fun h' tk' hk => ?_) hsz)
  show wpAny _ _ (ret (.bool false)) _ _ _
  exact wpAny_pure ⟨_, rfl, h h' tk' hk⟩
theorem getBy_miss_list {a : Addr} {xs : Array Value} {k : Nat} {sl : Array (Option Value)} {tk : Tok} {name : Str} {Q : Option Value → Shared → Prop} (hx : s.heap.get? a = some { cls := .type "list", dict := none, data := .seq xs k, slots := sl }) (hmiss : typeLookup (.type "list") name = pure none) (hname : (["__module__", "__name__", "__qualname__", "__doc__", "__annotations__"] : List Str).contains name = false) (hA : A.handled = none)
    (h : ∀ h' tk', (∀ b o, s.heap.get? b = some o → h'.get? b = some o) → Q none { s with heap := h', toks := tk' }) (hsz : name.length + 100 ≤ sizeLine) :
    wpAny (model prog w) A (getAttrBy? (.ref a) (.str name tk)) Q E s := by
  obtain ⟨hp, g, d, tk0, os⟩ := s
  have hT : ∀ tk', (⟨hp, g, d, tk', os⟩ : Shared).TypeIs (.ref a) "list" := fun _ => ⟨_, hx, rfl⟩
  have f1 := sub_AttributeError
  have f3 := F.slot_list_getattribute.lookup
  have f4 := F.slot_list_getattribute.bind (.ref a)
  have f5 := am_list_getattr_none
  unfold getAttrBy? getAttrBy
  repeat (any_goals (first | assumption | exact hT _ | ((with_reducible show wpAny _ _ (call (Value.builtin "list.__getattribute__") _ _) _ _ _); refine call_meets F.slot_list_getattribute (hT _) am_entry_list_getattribute (F.args_list_getattribute_2 _ _) (meets_getattribute_miss_list a xs k sl name _ hmiss hname hsz) ⟨hx, hA, fun h' tk' e hx' => ?_⟩) | wp_step))
  obtain ⟨t', u', he⟩ := hx'.there
  show wpAny _ _ (getattributeRaised _ _ _ _ _ _ _) _ _ _
  unfold getattributeRaised
  repeat (any_goals (first | assumption | wp_step))
  exact h _ _ hx'.keeps
theorem getBy_miss_dict {a : Addr} {es : Array DictEntry} {k : Nat} {sl : Array (Option Value)} {tk : Tok} {name : Str} {Q : Option Value → Shared → Prop} (hx : s.heap.get? a = some { cls := .type "dict", dict := none, data := .dict es k, slots := sl }) (hmiss : typeLookup (.type "dict") name = pure none) (hname : (["__module__", "__name__", "__qualname__", "__doc__", "__annotations__"] : List Str).contains name = false) (hA : A.handled = none)
    (h : ∀ h' tk', (∀ b o, s.heap.get? b = some o → h'.get? b = some o) → Q none { s with heap := h', toks := tk' }) (hsz : name.length + 100 ≤ sizeLine) :
    wpAny (model prog w) A (getAttrBy? (.ref a) (.str name tk)) Q E s := by
  obtain ⟨hp, g, d, tk0, os⟩ := s
  have hT : ∀ tk', (⟨hp, g, d, tk', os⟩ : Shared).TypeIs (.ref a) "dict" := fun _ => ⟨_, hx, rfl⟩
  have f1 := sub_AttributeError
  have f3 := F.slot_dict_getattribute.lookup
  have f4 := F.slot_dict_getattribute.bind (.ref a)
  have f5 := am_dict_getattr_none
  unfold getAttrBy? getAttrBy
  repeat (any_goals (first | assumption | exact hT _ | ((with_reducible show wpAny _ _ (call (Value.builtin "dict.__getattribute__") _ _) _ _ _); refine call_meets F.slot_dict_getattribute (hT _) am_entry_dict_getattribute (F.args_dict_getattribute_2 _ _) (meets_getattribute_miss_dict a es k sl name _ hmiss hname hsz) ⟨hx, hA, fun h' tk' e hx' => ?_⟩) | wp_step))
  obtain ⟨t', u', he⟩ := hx'.there
  show wpAny _ _ (getattributeRaised _ _ _ _ _ _ _) _ _ _
  unfold getattributeRaised
  repeat (any_goals (first | assumption | wp_step))
  exact h _ _ hx'.keeps
end
end Mine


namespace Mine
section
variable {prog : Program} {w : World} {A : Around} {E : Value → Shared → Prop} {s : Shared} {K : Frag} {x C L f : Addr} {h₀ : Heap} {m : Str → Option Value} {ox : Obj} {od : Option Obj}
/-- a written class's name is short -/
def nameIn (K : Frag) (C : Addr) : Bool := (clsIn K C).any fun cd => decide (cd.name.cps.foldl (fun k c => k + (Str.utf8Of c).length) 0 ≤ 50) && decide (cd.name.toString.length ≤ 100)
theorem name_inst {Q : String → Shared → Prop} (X : K.In s.heap) (I : W.InstAt s.heap x ox C od) (hn : nameIn K C = true) (h : ∀ n : String, n.length ≤ 100 → Q n s) : wpAny (model prog w) A (PySem.typeNameOf (.ref x)) Q E s := by
  obtain ⟨cd, hc, hb⟩ := any_some hn
  simp only [Bool.and_eq_true, decide_eq_true_eq] at hb
  unfold PySem.typeNameOf PySem.shownTypeOf
  refine wpAny_bind (wpAny_bind (I.type.here ?_))
  simp only [show (Value.ref C == Value.type "builtin_function_or_method") = false from rfl, Bool.false_eq_true, if_false]
  refine wpAny_pure ?_
  unfold PySem.typeName
  refine wpAny_bind ((looks_clsIn X hc).here ?_)
  dsimp only
  rw [if_neg (by omega)]
  exact wpAny_pure (h _ hb.2)
theorem msg_fits {a b : String} (ha : a.length ≤ 100) (hb : b.length ≤ 100) : (Str.ofString s!"'{"<"}' not supported between instances of '{a}' and '{b}'").length ≤ sizeLine := by
  rw [PySem.ofString_length, sizeLine_eq]
  simp only [String.length_append, toString]
  have e1 : "'".length ≤ 100 := by decide
  have e2 : "<".length ≤ 100 := by decide
  have e3 : "' not supported between instances of '".length ≤ 100 := by decide
  have e4 : "' and '".length ≤ 100 := by decide
  omega
theorem asInt_no {Q : Option Int → Shared → Prop} (hx : s.heap.get? x = some ox) (hnp : ∀ p, ox.data ≠ .prim p) (h : Q none s) : wpAny (model prog w) A (asInt? (.ref x)) Q E s := by
  unfold asInt?
  refine wpAny_bind (wpAny_load hx ?_)
  split
  · rename_i h1; exact absurd h1 (hnp _)
  · exact wpAny_pure h
/-- an int at the left of <, a thing of an own class at the right -/
theorem lt_int_inst {Q : Value → Shared → Prop} {i : Int} {t : Tok} (hh : A.handled = none) (hu : A.units < cLine) (F : Fr h₀ L s.heap m) (X₀ : K.In h₀) (I : W.InstAt s.heap x ox C od)
    (hg : findIn K (.ref C) "__gt__" = some (some (.builtin "object.__gt__"))) (hm : mroIn K C (.type "object") = some true) (hi : mroIn K C (.type "int") = some false) (hn : nameIn K C = true) (hnp : ∀ p, ox.data ≠ .prim p)
    (h : ∀ h' tk e, Heap.NewExc s.heap h' e "TypeError" → E (.ref e) { s with heap := h', toks := tk }) : wpAny (model prog w) A (compareOp .Lt (.int i t) (.ref x)) Q E s := by
  have X := X₀.keeps F.keep
  refine cmp_ofLt ?_
  have hT : ∀ s' : Shared, s'.TypeIs (.int i t) "int" := fun _ => rfl
  simp only [richCompare, cmpInfo, (hT s).oneThing_none]
  refine wpAny_holding (wpAny_bind (wpAny_cRoomFor hu ?_))
  refine wpAny_bind (wpAny_typeOf (hT s) (wpAny_bind (I.type.here ?_)))
  simp only [show (Value.type "int" != Value.ref C) = true from rfl, if_true]
  refine wpAny_bind ((looks_mroIn X hi).here ?_)
  simp only [Bool.false_eq_true, if_false, Bool.not_false, if_true]
  refine wpAny_bind (wpAny_tryCompare_declines (hT s) PySem.F.slot_int_lt ?_)
  refine wpAny_call_entry PySem.F.slot_int_lt (hT s) PySem.F.entry_int_lt ?_ (PySem.F.args_int_lt_2 _ _)
  show wpAny _ _ (Builtin.Int.intBinary "__lt__" (fun x y => ret (.bool (decide (x < y)))) false _) _ _ _
  unfold Builtin.Int.intBinary
  refine wpAny_bind (m := slotArgs "__lt__" 1 _) (wpAny_pure (a := (Value.int i t, [Value.ref x])) ?_)
  refine wpAny_bind (m := Builtin.Int.intOfSelf _) (wpAny_pure (a := i) ?_)
  refine wpAny_bind (m := asInt? (.ref x)) (asInt_no I.at_ hnp ?_)
  refine wpAny_bind (wpAny_rule (wpAny_pure ⟨_, rfl, rfl, ?_⟩))
  dsimp only
  refine wpAny_bind (gt_declined X I hg hm ?_)
  dsimp only
  refine wpAny_bind (wpAny_rule (wpAny_bind (wpAny_typeNameOf' (hT _) (by decide) (wpAny_bind (name_inst X I hn fun n hl => ?_)))))
  exact wpAny_raiseTypeError hh h (msg_fits (by decide) hl)
end
end Mine


namespace Mine
section
variable {p1 p2 p3 p4 p5 p6 p7 p8 p9 pa pb pc pd pe pf q : Prop}
theorem and1 (h : p1 ∧ q) : q := h.2
theorem and2 (h : p1 ∧ p2 ∧ q) : q := h.2.2
theorem and3 (h : p1 ∧ p2 ∧ p3 ∧ q) : q := h.2.2.2
theorem and4 (h : p1 ∧ p2 ∧ p3 ∧ p4 ∧ q) : q := h.2.2.2.2
theorem and5 (h : p1 ∧ p2 ∧ p3 ∧ p4 ∧ p5 ∧ q) : q := h.2.2.2.2.2
theorem and6 (h : p1 ∧ p2 ∧ p3 ∧ p4 ∧ p5 ∧ p6 ∧ q) : q := h.2.2.2.2.2.2
theorem and7 (h : p1 ∧ p2 ∧ p3 ∧ p4 ∧ p5 ∧ p6 ∧ p7 ∧ q) : q := h.2.2.2.2.2.2.2
theorem and8 (h : p1 ∧ p2 ∧ p3 ∧ p4 ∧ p5 ∧ p6 ∧ p7 ∧ p8 ∧ q) : q := h.2.2.2.2.2.2.2.2
theorem and9 (h : p1 ∧ p2 ∧ p3 ∧ p4 ∧ p5 ∧ p6 ∧ p7 ∧ p8 ∧ p9 ∧ q) : q := h.2.2.2.2.2.2.2.2.2
theorem anda (h : p1 ∧ p2 ∧ p3 ∧ p4 ∧ p5 ∧ p6 ∧ p7 ∧ p8 ∧ p9 ∧ pa ∧ q) : q := h.2.2.2.2.2.2.2.2.2.2
theorem andb (h : p1 ∧ p2 ∧ p3 ∧ p4 ∧ p5 ∧ p6 ∧ p7 ∧ p8 ∧ p9 ∧ pa ∧ pb ∧ q) : q := h.2.2.2.2.2.2.2.2.2.2.2
theorem andc (h : p1 ∧ p2 ∧ p3 ∧ p4 ∧ p5 ∧ p6 ∧ p7 ∧ p8 ∧ p9 ∧ pa ∧ pb ∧ pc ∧ q) : q := h.2.2.2.2.2.2.2.2.2.2.2.2
theorem andd (h : p1 ∧ p2 ∧ p3 ∧ p4 ∧ p5 ∧ p6 ∧ p7 ∧ p8 ∧ p9 ∧ pa ∧ pb ∧ pc ∧ pd ∧ q) : q := h.2.2.2.2.2.2.2.2.2.2.2.2.2
theorem ande (h : p1 ∧ p2 ∧ p3 ∧ p4 ∧ p5 ∧ p6 ∧ p7 ∧ p8 ∧ p9 ∧ pa ∧ pb ∧ pc ∧ pd ∧ pe ∧ q) : q := h.2.2.2.2.2.2.2.2.2.2.2.2.2.2
end
def Offs (I : Addr) (l : List (Addr × Obj)) : Prop := ∀ p ∈ l, p.1 ≠ I
theorem offs_cons {I : Addr} {p : Addr × Obj} {r : List (Addr × Obj)} (h : p.1 ≠ I) (t : Offs I r) : Offs I (p :: r) := fun q hq => by
  rcases List.mem_cons.mp hq with rfl | hq
  · exact h
  · exact t q hq
theorem allLt_mem {d : Nat} : ∀ {l : List (Addr × Obj)}, AllLt d l → ∀ p ∈ l, @LT.lt Nat _ p.1 d
  | [], _, _, h => nomatch h
  | _ :: _, x, p, h => by
    rcases List.mem_cons.mp h with rfl | h
    · exact x.1
    · exact allLt_mem x.2 p h
theorem allLt_le {d e : Nat} {l : List (Addr × Obj)} (h : ∀ p ∈ l, @LT.lt Nat _ p.1 d) (hle : d ≤ e) : AllLt e l := allLt_of fun p hp => Nat.lt_of_lt_of_le (h p hp) hle
theorem offs_tail {I : Addr} {r : List (Addr × Obj)} (h : AllLt I r) : Offs I r := fun p hp e => absurd (allLt_mem h p hp) (by rw [show p.1 = I from e]; exact Nat.lt_irrefl _)
/-- nw is news and new things -/
def Grown (news nw : List (Addr × Obj)) : Prop := (∀ p ∈ news, p ∈ nw) ∧ ∀ p ∈ nw, p ∈ news ∨ AllLt p.1 news
theorem grown_nil {news : List (Addr × Obj)} : Grown news news := ⟨fun _ h => h, fun _ h => .inl h⟩
theorem grown_cons {news nw : List (Addr × Obj)} {p : Addr × Obj} (h : AllLt p.1 news) (g : Grown news nw) : Grown news (p :: nw) := ⟨fun q hq => .tail _ (g.1 q hq), fun q hq => by
  rcases List.mem_cons.mp hq with rfl | hq
  · exact .inr h
  · exact g.2 q hq⟩
/-- nw is the new things, then news -/
def Made (news nw new : List (Addr × Obj)) : Prop := nw = new ++ news ∧ ∀ p ∈ new, AllLt p.1 news
theorem made_nil {news : List (Addr × Obj)} : Made news news [] := ⟨rfl, fun _ h => nomatch h⟩
theorem made_cons {news nw new : List (Addr × Obj)} {p : Addr × Obj} (h : AllLt p.1 news) (g : Made news nw new) : Made news (p :: nw) (p :: new) := ⟨by rw [g.1]; rfl, fun q hq => by
  rcases List.mem_cons.mp hq with rfl | hq
  · exact h
  · exact g.2 q hq⟩
section
variable {h₀ : Heap} {L I : Addr} {it : Obj} {rest : (Str → Option Value) → List (Addr × Obj) → Prop} {s₁ : Shared} {h' : Heap} {tk : Nat} {m' : Str → Option Value} {a1 a2 a3 a4 a5 a6 a7 a8 a9 : Addr × Obj} {post : List (Addr × Obj)}
theorem unr_of (F : Fr h₀ L h' m') (pre : List (Addr × Obj)) (N : News h₀ L h' (pre ++ (I, it) :: post)) (off : Offs I (pre ++ post)) (r : rest m' (pre ++ post)) : UnrEnd h₀ L s₁ I it rest { s₁ with heap := h', toks := tk } :=
  UnrEnd.intro F N (pre ++ post) (fun p hp => by
    rcases List.mem_cons.mp hp with rfl | hp
    · exact List.mem_append_right _ (.head _)
    · rcases List.mem_append.mp hp with hp | hp
      · exact List.mem_append_left _ hp
      · exact List.mem_append_right _ (.tail _ hp)) off r
theorem unr0 (F : Fr h₀ L h' m') (N : News h₀ L h' ((I, it) :: post)) (off : Offs I post) (r : rest m' post) : UnrEnd h₀ L s₁ I it rest { s₁ with heap := h', toks := tk } := unr_of F [] N off r
theorem unr1 (F : Fr h₀ L h' m') (N : News h₀ L h' (a1 :: (I, it) :: post)) (off : Offs I (a1 :: post)) (r : rest m' (a1 :: post)) : UnrEnd h₀ L s₁ I it rest { s₁ with heap := h', toks := tk } := unr_of F [a1] N off r
theorem unr2 (F : Fr h₀ L h' m') (N : News h₀ L h' (a1 :: a2 :: (I, it) :: post)) (off : Offs I (a1 :: a2 :: post)) (r : rest m' (a1 :: a2 :: post)) : UnrEnd h₀ L s₁ I it rest { s₁ with heap := h', toks := tk } := unr_of F [a1, a2] N off r
theorem unr3 (F : Fr h₀ L h' m') (N : News h₀ L h' (a1 :: a2 :: a3 :: (I, it) :: post)) (off : Offs I (a1 :: a2 :: a3 :: post)) (r : rest m' (a1 :: a2 :: a3 :: post)) : UnrEnd h₀ L s₁ I it rest { s₁ with heap := h', toks := tk } := unr_of F [a1, a2, a3] N off r
theorem unr4 (F : Fr h₀ L h' m') (N : News h₀ L h' (a1 :: a2 :: a3 :: a4 :: (I, it) :: post)) (off : Offs I (a1 :: a2 :: a3 :: a4 :: post)) (r : rest m' (a1 :: a2 :: a3 :: a4 :: post)) : UnrEnd h₀ L s₁ I it rest { s₁ with heap := h', toks := tk } := unr_of F [a1, a2, a3, a4] N off r
end
end Mine


namespace Mine
/-! a list comprehension by an invariant over what is built and the ledger -/
section
variable {prog : Program} {w : World} {A : Around} {s : Shared} {h₀ : Heap} {L : Addr} {m : Str → Option Value} {env : Env} {elt : PySem.Expr} {x : Str} {scope : Scope} {cl : List (Str × Addr)} {S : List (Addr × Obj) → Prop} {P : Nat → Value → Prop} {Fin : List Value → List (Addr × Obj) → Prop}
theorem comp_inv {n : Nat} (J : Nat → List Value → List (Addr × Obj) → Prop)
    (step : ∀ i ys news, i < n → J i ys news → ∀ v I oI C oC D m₂ h tk (E' : Value → Shared → Prop), P i v → LCg.NsObj oC m₂ → m₂ x = some v → Fr h₀ L h m → News h₀ L h ((I, oI) :: (C, oC) :: (D, LCg.lst ys) :: news) → LCg.Off3 I C D news → ((@Ne Nat I C) ∧ (@Ne Nat I D) ∧ (@Ne Nat C D)) →
      wpAny (model prog w) A (eval elt (compEnvC scope cl C env)) (LCg.CompEnd h₀ L m { s with heap := h, toks := tk } I oI C oC D (LCg.lst ys) S (fun y news' => J (i + 1) (ys ++ [y]) news')) E' { s with heap := h, toks := tk })
    (fin : ∀ ys news, J n ys news → Fin ys news) : ∀ k i ys news, i + k = n → J i ys news → LCg.CompRest prog w A h₀ L m env elt x scope cl s S P Fin k i ys news
  | 0, i, ys, news, e, hj => .zero (fin ys news ((show i = n by omega) ▸ hj))
  | k + 1, i, ys, news, e, hj => .succ (fun v I oI C oC D m₂ h tk E' h1 h2 h3 h4 h5 h6 h7 => by
      refine wpAny_mono (step i ys news (by omega) hj v I oI C oC D m₂ h tk E' h1 h2 h3 h4 h5 h6 h7) (fun y s₂ z => ?_) fun _ _ e => e
      obtain ⟨h', tk', news', a1, a2, a3, a4, a5, a6⟩ := z
      exact ⟨h', tk', news', a1, a2, a3, a4, a5, comp_inv J step fin k (i + 1) (ys ++ [y]) news' (by omega) a6⟩)
theorem comp_inv0 {n : Nat} {news : List (Addr × Obj)} (J : Nat → List Value → List (Addr × Obj) → Prop) (hj : J 0 [] news)
    (step : ∀ i ys news, i < n → J i ys news → ∀ v I oI C oC D m₂ h tk (E' : Value → Shared → Prop), P i v → LCg.NsObj oC m₂ → m₂ x = some v → Fr h₀ L h m → News h₀ L h ((I, oI) :: (C, oC) :: (D, LCg.lst ys) :: news) → LCg.Off3 I C D news → ((@Ne Nat I C) ∧ (@Ne Nat I D) ∧ (@Ne Nat C D)) →
      wpAny (model prog w) A (eval elt (compEnvC scope cl C env)) (LCg.CompEnd h₀ L m { s with heap := h, toks := tk } I oI C oC D (LCg.lst ys) S (fun y news' => J (i + 1) (ys ++ [y]) news')) E' { s with heap := h, toks := tk })
    (fin : ∀ ys news, J n ys news → Fin ys news) : LCg.CompRest prog w A h₀ L m env elt x scope cl s S P Fin n 0 [] news := comp_inv J step fin n 0 [] news (Nat.zero_add n) hj
theorem off3_made {I C D : Addr} {oI oC oD : Obj} {news new nw : List (Addr × Obj)} (h : Made ((I, oI) :: (C, oC) :: (D, oD) :: news) nw new) (ho : LCg.Off3 I C D news) : LCg.Off3 I C D (new ++ news) := LCg.Off3.of fun p hp => by
  rcases List.mem_append.mp hp with hp | hp
  · have := allLt_mem (h.2 p hp)
    exact ⟨fun e => Nat.lt_irrefl _ (e ▸ this (I, oI) (.head _)), fun e => Nat.lt_irrefl _ (e ▸ this (C, oC) (.tail _ (.head _))), fun e => Nat.lt_irrefl _ (e ▸ this (D, oD) (.tail _ (.tail _ (.head _))))⟩
  · exact ho.mem p hp
theorem news_made {I C D : Addr} {oI oC oD : Obj} {news new nw : List (Addr × Obj)} {h : Heap} (hm : Made ((I, oI) :: (C, oC) :: (D, oD) :: news) nw new) (N : News h₀ L h nw) : News h₀ L h ((I, oI) :: (C, oC) :: (D, oD) :: (new ++ news)) := fun p hp => by
  refine N p ?_
  rw [hm.1]
  rcases List.mem_cons.mp hp with rfl | hp
  · exact List.mem_append_right _ (.head _)
  · rcases List.mem_cons.mp hp with rfl | hp
    · exact List.mem_append_right _ (.tail _ (.head _))
    · rcases List.mem_cons.mp hp with rfl | hp
      · exact List.mem_append_right _ (.tail _ (.tail _ (.head _)))
      · rcases List.mem_append.mp hp with hp | hp
        · exact List.mem_append_left _ hp
        · exact List.mem_append_right _ (.tail _ (.tail _ (.tail _ hp)))
end
end Mine


namespace Mine
theorem fr_f1 {h₀ h : Heap} {L : Addr} {m : Str → Option Value} {k1 : Str} {v1 : Value} (F : Fr h₀ L h m) (e1 : m k1 = some v1) : Fr h₀ L h (fun y => if y = k1 then some v1 else m y) := by
  rw [show (fun y => if y = k1 then some v1 else m y) = m from funext fun y => by simp only [fill1 e1]]; exact F
theorem fr_f2 {h₀ h : Heap} {L : Addr} {m : Str → Option Value} {k1 k2 : Str} {v1 v2 : Value} (F : Fr h₀ L h m) (e1 : m k1 = some v1) (e2 : m k2 = some v2) : Fr h₀ L h (fun y => if y = k1 then some v1 else if y = k2 then some v2 else m y) := by
  rw [show (fun y => if y = k1 then some v1 else if y = k2 then some v2 else m y) = m from funext fun y => by simp only [fill1 e1, fill1 e2]]; exact F
theorem fr_f3 {h₀ h : Heap} {L : Addr} {m : Str → Option Value} {k1 k2 k3 : Str} {v1 v2 v3 : Value} (F : Fr h₀ L h m) (e1 : m k1 = some v1) (e2 : m k2 = some v2) (e3 : m k3 = some v3) : Fr h₀ L h (fun y => if y = k1 then some v1 else if y = k2 then some v2 else if y = k3 then some v3 else m y) := by
  rw [show (fun y => if y = k1 then some v1 else if y = k2 then some v2 else if y = k3 then some v3 else m y) = m from funext fun y => by simp only [fill1 e1, fill1 e2, fill1 e3]]; exact F
theorem fr_f4 {h₀ h : Heap} {L : Addr} {m : Str → Option Value} {k1 k2 k3 k4 : Str} {v1 v2 v3 v4 : Value} (F : Fr h₀ L h m) (e1 : m k1 = some v1) (e2 : m k2 = some v2) (e3 : m k3 = some v3) (e4 : m k4 = some v4) : Fr h₀ L h (fun y => if y = k1 then some v1 else if y = k2 then some v2 else if y = k3 then some v3 else if y = k4 then some v4 else m y) := by
  rw [show (fun y => if y = k1 then some v1 else if y = k2 then some v2 else if y = k3 then some v3 else if y = k4 then some v4 else m y) = m from funext fun y => by simp only [fill1 e1, fill1 e2, fill1 e3, fill1 e4]]; exact F
theorem fr_f5 {h₀ h : Heap} {L : Addr} {m : Str → Option Value} {k1 k2 k3 k4 k5 : Str} {v1 v2 v3 v4 v5 : Value} (F : Fr h₀ L h m) (e1 : m k1 = some v1) (e2 : m k2 = some v2) (e3 : m k3 = some v3) (e4 : m k4 = some v4) (e5 : m k5 = some v5) : Fr h₀ L h (fun y => if y = k1 then some v1 else if y = k2 then some v2 else if y = k3 then some v3 else if y = k4 then some v4 else if y = k5 then some v5 else m y) := by
  rw [show (fun y => if y = k1 then some v1 else if y = k2 then some v2 else if y = k3 then some v3 else if y = k4 then some v4 else if y = k5 then some v5 else m y) = m from funext fun y => by simp only [fill1 e1, fill1 e2, fill1 e3, fill1 e4, fill1 e5]]; exact F
theorem fr_f6 {h₀ h : Heap} {L : Addr} {m : Str → Option Value} {k1 k2 k3 k4 k5 k6 : Str} {v1 v2 v3 v4 v5 v6 : Value} (F : Fr h₀ L h m) (e1 : m k1 = some v1) (e2 : m k2 = some v2) (e3 : m k3 = some v3) (e4 : m k4 = some v4) (e5 : m k5 = some v5) (e6 : m k6 = some v6) : Fr h₀ L h (fun y => if y = k1 then some v1 else if y = k2 then some v2 else if y = k3 then some v3 else if y = k4 then some v4 else if y = k5 then some v5 else if y = k6 then some v6 else m y) := by
  rw [show (fun y => if y = k1 then some v1 else if y = k2 then some v2 else if y = k3 then some v3 else if y = k4 then some v4 else if y = k5 then some v5 else if y = k6 then some v6 else m y) = m from funext fun y => by simp only [fill1 e1, fill1 e2, fill1 e3, fill1 e4, fill1 e5, fill1 e6]]; exact F
theorem fr_f7 {h₀ h : Heap} {L : Addr} {m : Str → Option Value} {k1 k2 k3 k4 k5 k6 k7 : Str} {v1 v2 v3 v4 v5 v6 v7 : Value} (F : Fr h₀ L h m) (e1 : m k1 = some v1) (e2 : m k2 = some v2) (e3 : m k3 = some v3) (e4 : m k4 = some v4) (e5 : m k5 = some v5) (e6 : m k6 = some v6) (e7 : m k7 = some v7) : Fr h₀ L h (fun y => if y = k1 then some v1 else if y = k2 then some v2 else if y = k3 then some v3 else if y = k4 then some v4 else if y = k5 then some v5 else if y = k6 then some v6 else if y = k7 then some v7 else m y) := by
  rw [show (fun y => if y = k1 then some v1 else if y = k2 then some v2 else if y = k3 then some v3 else if y = k4 then some v4 else if y = k5 then some v5 else if y = k6 then some v6 else if y = k7 then some v7 else m y) = m from funext fun y => by simp only [fill1 e1, fill1 e2, fill1 e3, fill1 e4, fill1 e5, fill1 e6, fill1 e7]]; exact F
theorem fr_f8 {h₀ h : Heap} {L : Addr} {m : Str → Option Value} {k1 k2 k3 k4 k5 k6 k7 k8 : Str} {v1 v2 v3 v4 v5 v6 v7 v8 : Value} (F : Fr h₀ L h m) (e1 : m k1 = some v1) (e2 : m k2 = some v2) (e3 : m k3 = some v3) (e4 : m k4 = some v4) (e5 : m k5 = some v5) (e6 : m k6 = some v6) (e7 : m k7 = some v7) (e8 : m k8 = some v8) : Fr h₀ L h (fun y => if y = k1 then some v1 else if y = k2 then some v2 else if y = k3 then some v3 else if y = k4 then some v4 else if y = k5 then some v5 else if y = k6 then some v6 else if y = k7 then some v7 else if y = k8 then some v8 else m y) := by
  rw [show (fun y => if y = k1 then some v1 else if y = k2 then some v2 else if y = k3 then some v3 else if y = k4 then some v4 else if y = k5 then some v5 else if y = k6 then some v6 else if y = k7 then some v7 else if y = k8 then some v8 else m y) = m from funext fun y => by simp only [fill1 e1, fill1 e2, fill1 e3, fill1 e4, fill1 e5, fill1 e6, fill1 e7, fill1 e8]]; exact F
theorem fr_f9 {h₀ h : Heap} {L : Addr} {m : Str → Option Value} {k1 k2 k3 k4 k5 k6 k7 k8 k9 : Str} {v1 v2 v3 v4 v5 v6 v7 v8 v9 : Value} (F : Fr h₀ L h m) (e1 : m k1 = some v1) (e2 : m k2 = some v2) (e3 : m k3 = some v3) (e4 : m k4 = some v4) (e5 : m k5 = some v5) (e6 : m k6 = some v6) (e7 : m k7 = some v7) (e8 : m k8 = some v8) (e9 : m k9 = some v9) : Fr h₀ L h (fun y => if y = k1 then some v1 else if y = k2 then some v2 else if y = k3 then some v3 else if y = k4 then some v4 else if y = k5 then some v5 else if y = k6 then some v6 else if y = k7 then some v7 else if y = k8 then some v8 else if y = k9 then some v9 else m y) := by
  rw [show (fun y => if y = k1 then some v1 else if y = k2 then some v2 else if y = k3 then some v3 else if y = k4 then some v4 else if y = k5 then some v5 else if y = k6 then some v6 else if y = k7 then some v7 else if y = k8 then some v8 else if y = k9 then some v9 else m y) = m from funext fun y => by simp only [fill1 e1, fill1 e2, fill1 e3, fill1 e4, fill1 e5, fill1 e6, fill1 e7, fill1 e8, fill1 e9]]; exact F
theorem fr_f10 {h₀ h : Heap} {L : Addr} {m : Str → Option Value} {k1 k2 k3 k4 k5 k6 k7 k8 k9 k10 : Str} {v1 v2 v3 v4 v5 v6 v7 v8 v9 v10 : Value} (F : Fr h₀ L h m) (e1 : m k1 = some v1) (e2 : m k2 = some v2) (e3 : m k3 = some v3) (e4 : m k4 = some v4) (e5 : m k5 = some v5) (e6 : m k6 = some v6) (e7 : m k7 = some v7) (e8 : m k8 = some v8) (e9 : m k9 = some v9) (e10 : m k10 = some v10) : Fr h₀ L h (fun y => if y = k1 then some v1 else if y = k2 then some v2 else if y = k3 then some v3 else if y = k4 then some v4 else if y = k5 then some v5 else if y = k6 then some v6 else if y = k7 then some v7 else if y = k8 then some v8 else if y = k9 then some v9 else if y = k10 then some v10 else m y) := by
  rw [show (fun y => if y = k1 then some v1 else if y = k2 then some v2 else if y = k3 then some v3 else if y = k4 then some v4 else if y = k5 then some v5 else if y = k6 then some v6 else if y = k7 then some v7 else if y = k8 then some v8 else if y = k9 then some v9 else if y = k10 then some v10 else m y) = m from funext fun y => by simp only [fill1 e1, fill1 e2, fill1 e3, fill1 e4, fill1 e5, fill1 e6, fill1 e7, fill1 e8, fill1 e9, fill1 e10]]; exact F
theorem fr_f11 {h₀ h : Heap} {L : Addr} {m : Str → Option Value} {k1 k2 k3 k4 k5 k6 k7 k8 k9 k10 k11 : Str} {v1 v2 v3 v4 v5 v6 v7 v8 v9 v10 v11 : Value} (F : Fr h₀ L h m) (e1 : m k1 = some v1) (e2 : m k2 = some v2) (e3 : m k3 = some v3) (e4 : m k4 = some v4) (e5 : m k5 = some v5) (e6 : m k6 = some v6) (e7 : m k7 = some v7) (e8 : m k8 = some v8) (e9 : m k9 = some v9) (e10 : m k10 = some v10) (e11 : m k11 = some v11) : Fr h₀ L h (fun y => if y = k1 then some v1 else if y = k2 then some v2 else if y = k3 then some v3 else if y = k4 then some v4 else if y = k5 then some v5 else if y = k6 then some v6 else if y = k7 then some v7 else if y = k8 then some v8 else if y = k9 then some v9 else if y = k10 then some v10 else if y = k11 then some v11 else m y) := by
  rw [show (fun y => if y = k1 then some v1 else if y = k2 then some v2 else if y = k3 then some v3 else if y = k4 then some v4 else if y = k5 then some v5 else if y = k6 then some v6 else if y = k7 then some v7 else if y = k8 then some v8 else if y = k9 then some v9 else if y = k10 then some v10 else if y = k11 then some v11 else m y) = m from funext fun y => by simp only [fill1 e1, fill1 e2, fill1 e3, fill1 e4, fill1 e5, fill1 e6, fill1 e7, fill1 e8, fill1 e9, fill1 e10, fill1 e11]]; exact F
theorem fr_f12 {h₀ h : Heap} {L : Addr} {m : Str → Option Value} {k1 k2 k3 k4 k5 k6 k7 k8 k9 k10 k11 k12 : Str} {v1 v2 v3 v4 v5 v6 v7 v8 v9 v10 v11 v12 : Value} (F : Fr h₀ L h m) (e1 : m k1 = some v1) (e2 : m k2 = some v2) (e3 : m k3 = some v3) (e4 : m k4 = some v4) (e5 : m k5 = some v5) (e6 : m k6 = some v6) (e7 : m k7 = some v7) (e8 : m k8 = some v8) (e9 : m k9 = some v9) (e10 : m k10 = some v10) (e11 : m k11 = some v11) (e12 : m k12 = some v12) : Fr h₀ L h (fun y => if y = k1 then some v1 else if y = k2 then some v2 else if y = k3 then some v3 else if y = k4 then some v4 else if y = k5 then some v5 else if y = k6 then some v6 else if y = k7 then some v7 else if y = k8 then some v8 else if y = k9 then some v9 else if y = k10 then some v10 else if y = k11 then some v11 else if y = k12 then some v12 else m y) := by
  rw [show (fun y => if y = k1 then some v1 else if y = k2 then some v2 else if y = k3 then some v3 else if y = k4 then some v4 else if y = k5 then some v5 else if y = k6 then some v6 else if y = k7 then some v7 else if y = k8 then some v8 else if y = k9 then some v9 else if y = k10 then some v10 else if y = k11 then some v11 else if y = k12 then some v12 else m y) = m from funext fun y => by simp only [fill1 e1, fill1 e2, fill1 e3, fill1 e4, fill1 e5, fill1 e6, fill1 e7, fill1 e8, fill1 e9, fill1 e10, fill1 e11, fill1 e12]]; exact F
theorem fr_f13 {h₀ h : Heap} {L : Addr} {m : Str → Option Value} {k1 k2 k3 k4 k5 k6 k7 k8 k9 k10 k11 k12 k13 : Str} {v1 v2 v3 v4 v5 v6 v7 v8 v9 v10 v11 v12 v13 : Value} (F : Fr h₀ L h m) (e1 : m k1 = some v1) (e2 : m k2 = some v2) (e3 : m k3 = some v3) (e4 : m k4 = some v4) (e5 : m k5 = some v5) (e6 : m k6 = some v6) (e7 : m k7 = some v7) (e8 : m k8 = some v8) (e9 : m k9 = some v9) (e10 : m k10 = some v10) (e11 : m k11 = some v11) (e12 : m k12 = some v12) (e13 : m k13 = some v13) : Fr h₀ L h (fun y => if y = k1 then some v1 else if y = k2 then some v2 else if y = k3 then some v3 else if y = k4 then some v4 else if y = k5 then some v5 else if y = k6 then some v6 else if y = k7 then some v7 else if y = k8 then some v8 else if y = k9 then some v9 else if y = k10 then some v10 else if y = k11 then some v11 else if y = k12 then some v12 else if y = k13 then some v13 else m y) := by
  rw [show (fun y => if y = k1 then some v1 else if y = k2 then some v2 else if y = k3 then some v3 else if y = k4 then some v4 else if y = k5 then some v5 else if y = k6 then some v6 else if y = k7 then some v7 else if y = k8 then some v8 else if y = k9 then some v9 else if y = k10 then some v10 else if y = k11 then some v11 else if y = k12 then some v12 else if y = k13 then some v13 else m y) = m from funext fun y => by simp only [fill1 e1, fill1 e2, fill1 e3, fill1 e4, fill1 e5, fill1 e6, fill1 e7, fill1 e8, fill1 e9, fill1 e10, fill1 e11, fill1 e12, fill1 e13]]; exact F
theorem fr_f14 {h₀ h : Heap} {L : Addr} {m : Str → Option Value} {k1 k2 k3 k4 k5 k6 k7 k8 k9 k10 k11 k12 k13 k14 : Str} {v1 v2 v3 v4 v5 v6 v7 v8 v9 v10 v11 v12 v13 v14 : Value} (F : Fr h₀ L h m) (e1 : m k1 = some v1) (e2 : m k2 = some v2) (e3 : m k3 = some v3) (e4 : m k4 = some v4) (e5 : m k5 = some v5) (e6 : m k6 = some v6) (e7 : m k7 = some v7) (e8 : m k8 = some v8) (e9 : m k9 = some v9) (e10 : m k10 = some v10) (e11 : m k11 = some v11) (e12 : m k12 = some v12) (e13 : m k13 = some v13) (e14 : m k14 = some v14) : Fr h₀ L h (fun y => if y = k1 then some v1 else if y = k2 then some v2 else if y = k3 then some v3 else if y = k4 then some v4 else if y = k5 then some v5 else if y = k6 then some v6 else if y = k7 then some v7 else if y = k8 then some v8 else if y = k9 then some v9 else if y = k10 then some v10 else if y = k11 then some v11 else if y = k12 then some v12 else if y = k13 then some v13 else if y = k14 then some v14 else m y) := by
  rw [show (fun y => if y = k1 then some v1 else if y = k2 then some v2 else if y = k3 then some v3 else if y = k4 then some v4 else if y = k5 then some v5 else if y = k6 then some v6 else if y = k7 then some v7 else if y = k8 then some v8 else if y = k9 then some v9 else if y = k10 then some v10 else if y = k11 then some v11 else if y = k12 then some v12 else if y = k13 then some v13 else if y = k14 then some v14 else m y) = m from funext fun y => by simp only [fill1 e1, fill1 e2, fill1 e3, fill1 e4, fill1 e5, fill1 e6, fill1 e7, fill1 e8, fill1 e9, fill1 e10, fill1 e11, fill1 e12, fill1 e13, fill1 e14]]; exact F
theorem fr_g1 {h₀ h : Heap} {L : Addr} {m : Str → Option Value} {x k1 : Str} {v v1 : Value} (F : Fr h₀ L h (fun y => if y = x then some v else m y)) (e1 : m k1 = some v1) : Fr h₀ L h (fun y => if y = x then some v else if y = k1 then some v1 else m y) := by
  rw [show (fun y => if y = x then some v else if y = k1 then some v1 else m y) = (fun y => if y = x then some v else m y) from funext fun y => by simp only [fill1 e1]]; exact F
theorem fr_g2 {h₀ h : Heap} {L : Addr} {m : Str → Option Value} {x k1 k2 : Str} {v v1 v2 : Value} (F : Fr h₀ L h (fun y => if y = x then some v else m y)) (e1 : m k1 = some v1) (e2 : m k2 = some v2) : Fr h₀ L h (fun y => if y = x then some v else if y = k1 then some v1 else if y = k2 then some v2 else m y) := by
  rw [show (fun y => if y = x then some v else if y = k1 then some v1 else if y = k2 then some v2 else m y) = (fun y => if y = x then some v else m y) from funext fun y => by simp only [fill1 e1, fill1 e2]]; exact F
theorem fr_g3 {h₀ h : Heap} {L : Addr} {m : Str → Option Value} {x k1 k2 k3 : Str} {v v1 v2 v3 : Value} (F : Fr h₀ L h (fun y => if y = x then some v else m y)) (e1 : m k1 = some v1) (e2 : m k2 = some v2) (e3 : m k3 = some v3) : Fr h₀ L h (fun y => if y = x then some v else if y = k1 then some v1 else if y = k2 then some v2 else if y = k3 then some v3 else m y) := by
  rw [show (fun y => if y = x then some v else if y = k1 then some v1 else if y = k2 then some v2 else if y = k3 then some v3 else m y) = (fun y => if y = x then some v else m y) from funext fun y => by simp only [fill1 e1, fill1 e2, fill1 e3]]; exact F
theorem fr_g4 {h₀ h : Heap} {L : Addr} {m : Str → Option Value} {x k1 k2 k3 k4 : Str} {v v1 v2 v3 v4 : Value} (F : Fr h₀ L h (fun y => if y = x then some v else m y)) (e1 : m k1 = some v1) (e2 : m k2 = some v2) (e3 : m k3 = some v3) (e4 : m k4 = some v4) : Fr h₀ L h (fun y => if y = x then some v else if y = k1 then some v1 else if y = k2 then some v2 else if y = k3 then some v3 else if y = k4 then some v4 else m y) := by
  rw [show (fun y => if y = x then some v else if y = k1 then some v1 else if y = k2 then some v2 else if y = k3 then some v3 else if y = k4 then some v4 else m y) = (fun y => if y = x then some v else m y) from funext fun y => by simp only [fill1 e1, fill1 e2, fill1 e3, fill1 e4]]; exact F
theorem fr_g5 {h₀ h : Heap} {L : Addr} {m : Str → Option Value} {x k1 k2 k3 k4 k5 : Str} {v v1 v2 v3 v4 v5 : Value} (F : Fr h₀ L h (fun y => if y = x then some v else m y)) (e1 : m k1 = some v1) (e2 : m k2 = some v2) (e3 : m k3 = some v3) (e4 : m k4 = some v4) (e5 : m k5 = some v5) : Fr h₀ L h (fun y => if y = x then some v else if y = k1 then some v1 else if y = k2 then some v2 else if y = k3 then some v3 else if y = k4 then some v4 else if y = k5 then some v5 else m y) := by
  rw [show (fun y => if y = x then some v else if y = k1 then some v1 else if y = k2 then some v2 else if y = k3 then some v3 else if y = k4 then some v4 else if y = k5 then some v5 else m y) = (fun y => if y = x then some v else m y) from funext fun y => by simp only [fill1 e1, fill1 e2, fill1 e3, fill1 e4, fill1 e5]]; exact F
theorem fr_g6 {h₀ h : Heap} {L : Addr} {m : Str → Option Value} {x k1 k2 k3 k4 k5 k6 : Str} {v v1 v2 v3 v4 v5 v6 : Value} (F : Fr h₀ L h (fun y => if y = x then some v else m y)) (e1 : m k1 = some v1) (e2 : m k2 = some v2) (e3 : m k3 = some v3) (e4 : m k4 = some v4) (e5 : m k5 = some v5) (e6 : m k6 = some v6) : Fr h₀ L h (fun y => if y = x then some v else if y = k1 then some v1 else if y = k2 then some v2 else if y = k3 then some v3 else if y = k4 then some v4 else if y = k5 then some v5 else if y = k6 then some v6 else m y) := by
  rw [show (fun y => if y = x then some v else if y = k1 then some v1 else if y = k2 then some v2 else if y = k3 then some v3 else if y = k4 then some v4 else if y = k5 then some v5 else if y = k6 then some v6 else m y) = (fun y => if y = x then some v else m y) from funext fun y => by simp only [fill1 e1, fill1 e2, fill1 e3, fill1 e4, fill1 e5, fill1 e6]]; exact F
theorem fr_g7 {h₀ h : Heap} {L : Addr} {m : Str → Option Value} {x k1 k2 k3 k4 k5 k6 k7 : Str} {v v1 v2 v3 v4 v5 v6 v7 : Value} (F : Fr h₀ L h (fun y => if y = x then some v else m y)) (e1 : m k1 = some v1) (e2 : m k2 = some v2) (e3 : m k3 = some v3) (e4 : m k4 = some v4) (e5 : m k5 = some v5) (e6 : m k6 = some v6) (e7 : m k7 = some v7) : Fr h₀ L h (fun y => if y = x then some v else if y = k1 then some v1 else if y = k2 then some v2 else if y = k3 then some v3 else if y = k4 then some v4 else if y = k5 then some v5 else if y = k6 then some v6 else if y = k7 then some v7 else m y) := by
  rw [show (fun y => if y = x then some v else if y = k1 then some v1 else if y = k2 then some v2 else if y = k3 then some v3 else if y = k4 then some v4 else if y = k5 then some v5 else if y = k6 then some v6 else if y = k7 then some v7 else m y) = (fun y => if y = x then some v else m y) from funext fun y => by simp only [fill1 e1, fill1 e2, fill1 e3, fill1 e4, fill1 e5, fill1 e6, fill1 e7]]; exact F
theorem fr_g8 {h₀ h : Heap} {L : Addr} {m : Str → Option Value} {x k1 k2 k3 k4 k5 k6 k7 k8 : Str} {v v1 v2 v3 v4 v5 v6 v7 v8 : Value} (F : Fr h₀ L h (fun y => if y = x then some v else m y)) (e1 : m k1 = some v1) (e2 : m k2 = some v2) (e3 : m k3 = some v3) (e4 : m k4 = some v4) (e5 : m k5 = some v5) (e6 : m k6 = some v6) (e7 : m k7 = some v7) (e8 : m k8 = some v8) : Fr h₀ L h (fun y => if y = x then some v else if y = k1 then some v1 else if y = k2 then some v2 else if y = k3 then some v3 else if y = k4 then some v4 else if y = k5 then some v5 else if y = k6 then some v6 else if y = k7 then some v7 else if y = k8 then some v8 else m y) := by
  rw [show (fun y => if y = x then some v else if y = k1 then some v1 else if y = k2 then some v2 else if y = k3 then some v3 else if y = k4 then some v4 else if y = k5 then some v5 else if y = k6 then some v6 else if y = k7 then some v7 else if y = k8 then some v8 else m y) = (fun y => if y = x then some v else m y) from funext fun y => by simp only [fill1 e1, fill1 e2, fill1 e3, fill1 e4, fill1 e5, fill1 e6, fill1 e7, fill1 e8]]; exact F
theorem fr_g9 {h₀ h : Heap} {L : Addr} {m : Str → Option Value} {x k1 k2 k3 k4 k5 k6 k7 k8 k9 : Str} {v v1 v2 v3 v4 v5 v6 v7 v8 v9 : Value} (F : Fr h₀ L h (fun y => if y = x then some v else m y)) (e1 : m k1 = some v1) (e2 : m k2 = some v2) (e3 : m k3 = some v3) (e4 : m k4 = some v4) (e5 : m k5 = some v5) (e6 : m k6 = some v6) (e7 : m k7 = some v7) (e8 : m k8 = some v8) (e9 : m k9 = some v9) : Fr h₀ L h (fun y => if y = x then some v else if y = k1 then some v1 else if y = k2 then some v2 else if y = k3 then some v3 else if y = k4 then some v4 else if y = k5 then some v5 else if y = k6 then some v6 else if y = k7 then some v7 else if y = k8 then some v8 else if y = k9 then some v9 else m y) := by
  rw [show (fun y => if y = x then some v else if y = k1 then some v1 else if y = k2 then some v2 else if y = k3 then some v3 else if y = k4 then some v4 else if y = k5 then some v5 else if y = k6 then some v6 else if y = k7 then some v7 else if y = k8 then some v8 else if y = k9 then some v9 else m y) = (fun y => if y = x then some v else m y) from funext fun y => by simp only [fill1 e1, fill1 e2, fill1 e3, fill1 e4, fill1 e5, fill1 e6, fill1 e7, fill1 e8, fill1 e9]]; exact F
theorem fr_g10 {h₀ h : Heap} {L : Addr} {m : Str → Option Value} {x k1 k2 k3 k4 k5 k6 k7 k8 k9 k10 : Str} {v v1 v2 v3 v4 v5 v6 v7 v8 v9 v10 : Value} (F : Fr h₀ L h (fun y => if y = x then some v else m y)) (e1 : m k1 = some v1) (e2 : m k2 = some v2) (e3 : m k3 = some v3) (e4 : m k4 = some v4) (e5 : m k5 = some v5) (e6 : m k6 = some v6) (e7 : m k7 = some v7) (e8 : m k8 = some v8) (e9 : m k9 = some v9) (e10 : m k10 = some v10) : Fr h₀ L h (fun y => if y = x then some v else if y = k1 then some v1 else if y = k2 then some v2 else if y = k3 then some v3 else if y = k4 then some v4 else if y = k5 then some v5 else if y = k6 then some v6 else if y = k7 then some v7 else if y = k8 then some v8 else if y = k9 then some v9 else if y = k10 then some v10 else m y) := by
  rw [show (fun y => if y = x then some v else if y = k1 then some v1 else if y = k2 then some v2 else if y = k3 then some v3 else if y = k4 then some v4 else if y = k5 then some v5 else if y = k6 then some v6 else if y = k7 then some v7 else if y = k8 then some v8 else if y = k9 then some v9 else if y = k10 then some v10 else m y) = (fun y => if y = x then some v else m y) from funext fun y => by simp only [fill1 e1, fill1 e2, fill1 e3, fill1 e4, fill1 e5, fill1 e6, fill1 e7, fill1 e8, fill1 e9, fill1 e10]]; exact F
theorem fr_g11 {h₀ h : Heap} {L : Addr} {m : Str → Option Value} {x k1 k2 k3 k4 k5 k6 k7 k8 k9 k10 k11 : Str} {v v1 v2 v3 v4 v5 v6 v7 v8 v9 v10 v11 : Value} (F : Fr h₀ L h (fun y => if y = x then some v else m y)) (e1 : m k1 = some v1) (e2 : m k2 = some v2) (e3 : m k3 = some v3) (e4 : m k4 = some v4) (e5 : m k5 = some v5) (e6 : m k6 = some v6) (e7 : m k7 = some v7) (e8 : m k8 = some v8) (e9 : m k9 = some v9) (e10 : m k10 = some v10) (e11 : m k11 = some v11) : Fr h₀ L h (fun y => if y = x then some v else if y = k1 then some v1 else if y = k2 then some v2 else if y = k3 then some v3 else if y = k4 then some v4 else if y = k5 then some v5 else if y = k6 then some v6 else if y = k7 then some v7 else if y = k8 then some v8 else if y = k9 then some v9 else if y = k10 then some v10 else if y = k11 then some v11 else m y) := by
  rw [show (fun y => if y = x then some v else if y = k1 then some v1 else if y = k2 then some v2 else if y = k3 then some v3 else if y = k4 then some v4 else if y = k5 then some v5 else if y = k6 then some v6 else if y = k7 then some v7 else if y = k8 then some v8 else if y = k9 then some v9 else if y = k10 then some v10 else if y = k11 then some v11 else m y) = (fun y => if y = x then some v else m y) from funext fun y => by simp only [fill1 e1, fill1 e2, fill1 e3, fill1 e4, fill1 e5, fill1 e6, fill1 e7, fill1 e8, fill1 e9, fill1 e10, fill1 e11]]; exact F
theorem fr_g12 {h₀ h : Heap} {L : Addr} {m : Str → Option Value} {x k1 k2 k3 k4 k5 k6 k7 k8 k9 k10 k11 k12 : Str} {v v1 v2 v3 v4 v5 v6 v7 v8 v9 v10 v11 v12 : Value} (F : Fr h₀ L h (fun y => if y = x then some v else m y)) (e1 : m k1 = some v1) (e2 : m k2 = some v2) (e3 : m k3 = some v3) (e4 : m k4 = some v4) (e5 : m k5 = some v5) (e6 : m k6 = some v6) (e7 : m k7 = some v7) (e8 : m k8 = some v8) (e9 : m k9 = some v9) (e10 : m k10 = some v10) (e11 : m k11 = some v11) (e12 : m k12 = some v12) : Fr h₀ L h (fun y => if y = x then some v else if y = k1 then some v1 else if y = k2 then some v2 else if y = k3 then some v3 else if y = k4 then some v4 else if y = k5 then some v5 else if y = k6 then some v6 else if y = k7 then some v7 else if y = k8 then some v8 else if y = k9 then some v9 else if y = k10 then some v10 else if y = k11 then some v11 else if y = k12 then some v12 else m y) := by
  rw [show (fun y => if y = x then some v else if y = k1 then some v1 else if y = k2 then some v2 else if y = k3 then some v3 else if y = k4 then some v4 else if y = k5 then some v5 else if y = k6 then some v6 else if y = k7 then some v7 else if y = k8 then some v8 else if y = k9 then some v9 else if y = k10 then some v10 else if y = k11 then some v11 else if y = k12 then some v12 else m y) = (fun y => if y = x then some v else m y) from funext fun y => by simp only [fill1 e1, fill1 e2, fill1 e3, fill1 e4, fill1 e5, fill1 e6, fill1 e7, fill1 e8, fill1 e9, fill1 e10, fill1 e11, fill1 e12]]; exact F
theorem fr_g13 {h₀ h : Heap} {L : Addr} {m : Str → Option Value} {x k1 k2 k3 k4 k5 k6 k7 k8 k9 k10 k11 k12 k13 : Str} {v v1 v2 v3 v4 v5 v6 v7 v8 v9 v10 v11 v12 v13 : Value} (F : Fr h₀ L h (fun y => if y = x then some v else m y)) (e1 : m k1 = some v1) (e2 : m k2 = some v2) (e3 : m k3 = some v3) (e4 : m k4 = some v4) (e5 : m k5 = some v5) (e6 : m k6 = some v6) (e7 : m k7 = some v7) (e8 : m k8 = some v8) (e9 : m k9 = some v9) (e10 : m k10 = some v10) (e11 : m k11 = some v11) (e12 : m k12 = some v12) (e13 : m k13 = some v13) : Fr h₀ L h (fun y => if y = x then some v else if y = k1 then some v1 else if y = k2 then some v2 else if y = k3 then some v3 else if y = k4 then some v4 else if y = k5 then some v5 else if y = k6 then some v6 else if y = k7 then some v7 else if y = k8 then some v8 else if y = k9 then some v9 else if y = k10 then some v10 else if y = k11 then some v11 else if y = k12 then some v12 else if y = k13 then some v13 else m y) := by
  rw [show (fun y => if y = x then some v else if y = k1 then some v1 else if y = k2 then some v2 else if y = k3 then some v3 else if y = k4 then some v4 else if y = k5 then some v5 else if y = k6 then some v6 else if y = k7 then some v7 else if y = k8 then some v8 else if y = k9 then some v9 else if y = k10 then some v10 else if y = k11 then some v11 else if y = k12 then some v12 else if y = k13 then some v13 else m y) = (fun y => if y = x then some v else m y) from funext fun y => by simp only [fill1 e1, fill1 e2, fill1 e3, fill1 e4, fill1 e5, fill1 e6, fill1 e7, fill1 e8, fill1 e9, fill1 e10, fill1 e11, fill1 e12, fill1 e13]]; exact F
theorem fr_g14 {h₀ h : Heap} {L : Addr} {m : Str → Option Value} {x k1 k2 k3 k4 k5 k6 k7 k8 k9 k10 k11 k12 k13 k14 : Str} {v v1 v2 v3 v4 v5 v6 v7 v8 v9 v10 v11 v12 v13 v14 : Value} (F : Fr h₀ L h (fun y => if y = x then some v else m y)) (e1 : m k1 = some v1) (e2 : m k2 = some v2) (e3 : m k3 = some v3) (e4 : m k4 = some v4) (e5 : m k5 = some v5) (e6 : m k6 = some v6) (e7 : m k7 = some v7) (e8 : m k8 = some v8) (e9 : m k9 = some v9) (e10 : m k10 = some v10) (e11 : m k11 = some v11) (e12 : m k12 = some v12) (e13 : m k13 = some v13) (e14 : m k14 = some v14) : Fr h₀ L h (fun y => if y = x then some v else if y = k1 then some v1 else if y = k2 then some v2 else if y = k3 then some v3 else if y = k4 then some v4 else if y = k5 then some v5 else if y = k6 then some v6 else if y = k7 then some v7 else if y = k8 then some v8 else if y = k9 then some v9 else if y = k10 then some v10 else if y = k11 then some v11 else if y = k12 then some v12 else if y = k13 then some v13 else if y = k14 then some v14 else m y) := by
  rw [show (fun y => if y = x then some v else if y = k1 then some v1 else if y = k2 then some v2 else if y = k3 then some v3 else if y = k4 then some v4 else if y = k5 then some v5 else if y = k6 then some v6 else if y = k7 then some v7 else if y = k8 then some v8 else if y = k9 then some v9 else if y = k10 then some v10 else if y = k11 then some v11 else if y = k12 then some v12 else if y = k13 then some v13 else if y = k14 then some v14 else m y) = (fun y => if y = x then some v else m y) from funext fun y => by simp only [fill1 e1, fill1 e2, fill1 e3, fill1 e4, fill1 e5, fill1 e6, fill1 e7, fill1 e8, fill1 e9, fill1 e10, fill1 e11, fill1 e12, fill1 e13, fill1 e14]]; exact F
/-- a cut behind a statement -/
theorem seq_cutP {M : Model} {A : Around} {E : Value → Shared → Prop} {s : Shared} {env : Env} {st : Stmt} {rest : List Stmt} {Q : Flow → Shared → Prop} {h₀ : Heap} {L : Addr} {m : Str → Option Value} (_F : Fr h₀ L s.heap m) (P : (Str → Option Value) → List (Addr × Obj) → Prop)
    (h1 : wpAny M A (exec st env) (fun f s' => f = .next ∧ ∃ h tk m' nw, s' = { s with heap := h, toks := tk } ∧ Fr h₀ L h m' ∧ News h₀ L h nw ∧ P m' nw) E s)
    (h2 : ∀ h tk m' nw, P m' nw → Fr h₀ L h m' → News h₀ L h nw → wpAny M A (execs rest env) Q E { s with heap := h, toks := tk }) :
    wpAny M A (execs (st :: rest) env) Q E s := seq_cut _ h1 fun s' h => by
  obtain ⟨h, tk, m', nw, rfl, F', N', p⟩ := h
  exact h2 h tk m' nw p F' N'
theorem small_range {a b : Int} (ha : -(2 ^ 40) ≤ a) (ha' : a ≤ 2 ^ 40) (hb : -(2 ^ 40) ≤ b) (hb' : b ≤ 2 ^ 40) : Builtin.Range.small a b 1 = true := by
  have h := rangeSize_one a b
  unfold Builtin.Range.small
  simp only [Builtin.Range.rangeFitsLong, h]
  split <;> simp <;> omega
theorem range_n {n : Nat} : Builtin.Range.rangeSize 0 (n : Int) 1 = (n : Int) := by
  rw [rangeSize_nat]; simp
theorem last_led {prog : Program} {w : World} {A : Around} {E : Value → Shared → Prop} {s : Shared} {h₀ : Heap} {L : Addr} {news : List (Addr × Obj)} {value slice : PySem.Expr} {l : Addr} {vs : List Value} {n : Nat} {u : Tok} {v : Value} {Q : Value → Shared → Prop} (N : News h₀ L s.heap news)
    (hl : (l, W.listOf vs.toArray n) ∈ news) (hx : vs.getLast? = some v) (h : Q v s)
    (hs : subscripted slice false (.ref l) (.int (-1) u) = operate [.ref l, .int (-1) u] (getItem (.ref l) (.int (-1) u)) := by with_unfolding_all rfl) :
    wpAny (model prog w) A (subscriptTail value slice (.ref l) (.int (-1) u)) Q E s := by
  have hne : 0 < vs.length := by cases vs with | nil => cases hx | cons => simp
  refine tail_any (News.isList N hl).typeIs slot_list_getitem.lookup (wpAny_getItem_list_neg (News.isList N hl) (by decide) ?_ (by decide) ?_ h) hs
  · rw [List.size_toArray]; omega
  · rw [List.getLast?_eq_getElem?] at hx
    rw [List.size_toArray, List.getElem?_toArray, ← hx]
    congr 1
    omega
end Mine


namespace Mine
/-! loops whose target is any, by an invariant -/
section
variable {prog : Program} {w : World} {A : Around} {E : Value → Shared → Prop} {s : Shared} {env : Env} {h₀ : Heap} {target : PySem.Expr} {body : List Stmt} {Q : Flow → Shared → Prop}
def EndW (h₀ : Heap) (L : Addr) (J : (Str → Option Value) → List (Addr × Obj) → Prop) (own : List (Addr × Obj)) (wr : List Addr) (s₁ s₂ : Shared) : Prop :=
  ∃ h' tk m' news', s₂ = { s₁ with heap := h', toks := tk } ∧ Fr h₀ L h' m' ∧ News h₀ L h' (news' ++ own) ∧ (∀ p ∈ news', p.1 ∉ wr) ∧ J m' news'
def PostW (h₀ : Heap) (L : Addr) (J : (Str → Option Value) → List (Addr × Obj) → Prop) (own : List (Addr × Obj)) (wr : List Addr) (s₁ : Shared) (Q : Flow → Shared → Prop) (f : Flow) (s₂ : Shared) : Prop :=
  match f with
  | .ret v => Q (.ret v) s₂
  | .brk => Q .next s₂
  | _ => EndW h₀ L J own wr s₁ s₂
theorem postW_step {L : Addr} {wr : List Addr} {J : (Str → Option Value) → List (Addr × Obj) → Prop} {own : List (Addr × Obj)} {s₁ s₂ : Shared} {f : Flow} (h : PostW h₀ L J own wr s₁ Q f s₂) :
    LoopStepV h₀ L wr own J s₁ (fun v s' => Q (.ret v) s') (fun s' => Q .next s') f s₂ := by
  have fin : EndW h₀ L J own wr s₁ s₂ → LoopStepU h₀ L wr own J s₁ .next s₂ := by
    rintro ⟨h', tk, m', news', e, F', N', hn, hj⟩
    exact ⟨rfl, h', tk, m', news', e, F', news_comm N', hn, hj⟩
  cases f with
  | ret v => exact .ret h
  | brk => exact .brk h
  | next => exact .next (fin h)
  | cont => exact .cont (fin h)
theorem iter_listT {l : Addr} {vs : List Value} {m₀ : Str → Option Value} {news : List (Addr × Obj)} (J : Nat → (Str → Option Value) → List (Addr × Obj) → Prop)
    (hh : A.handled = none) (hl : s.heap.IsList l vs.toArray) (hlL : l ≠ env.locals) (F : Fr h₀ env.locals s.heap m₀) (N : News h₀ env.locals s.heap news) (hj : J 0 m₀ news)
    (turn : ∀ I i v m₁ news₁ h tk own, vs[i]? = some v → J i m₁ news₁ → (∀ p ∈ news₁, p.1 ∉ [I]) → (∀ p ∈ own, p.1 = I ∨ p.1 = l) → (∃ o, (I, o) ∈ own) → (∀ p ∈ news, p.1 < I) → l < I → Fr h₀ env.locals h m₁ → News h₀ env.locals h (news₁ ++ own) →
      wpAny (model prog w) A (assign target env v) (fun _ s₃ => wpAny (model prog w) A (execs body env) (PostW h₀ env.locals (J (i + 1)) own [I] { s with heap := h, toks := tk } Q) E s₃) E { s with heap := h, toks := tk })
    (done : ∀ m₁ news₁ h tk, J vs.length m₁ news₁ → Fr h₀ env.locals h m₁ → News h₀ env.locals h news₁ → Q .next { s with heap := h, toks := tk }) :
    wpAny (model prog w) A (pyIter (.ref l)) (fun it s₂ => TurnsAt prog w A h₀ env target body Q E it s₂) E s := by
  obtain ⟨ol, hol, _⟩ := id hl
  have hlt : l < s.heap.objs.size := Heap.lt_size hol
  refine wpAny_pyIter_list hl ?_
  have W := Walks.list (prog := prog) (w := w) hh s.heap.objs.size l (Nat.ne_of_lt hlt) vs.toArray
  have hlen : vs.toArray.size = vs.length := by simp
  rw [hlen] at W
  refine ⟨_, _, _, vs.length, _, _, _, m₀, news, J, rfl, KTurns.ofWalks W fun i v s Q E st q => letGo_listiter st.1 q, ?_, ?_, ?_, ⟨⟨_, Heap.get?_push_size _ rfl, rfl, rfl⟩, hl.at fun o e => Heap.get?_push_of_some _ e⟩, F.push _, (fun p hp => ⟨Heap.get?_push_of_some _ (N p hp).1, (N p hp).2⟩), hj, ?_, ?_⟩
  · intro hm
    rcases List.mem_cons.mp hm with e | hm
    · exact absurd F.ns.lt (e ▸ Nat.lt_irrefl _)
    · exact hlL (List.mem_singleton.mp hm).symm
  · intro b hb
    rw [List.mem_singleton.mp hb]
    exact next_is_new F
  · intro p hp hI
    exact absurd (Heap.lt_size (N p hp).1) ((List.mem_singleton.mp hI) ▸ Nat.lt_irrefl _)
  · rintro i v m₁ news₁ h₁ tk₁ own hin hP hJ hoff hown _ hall hst F₁ N₁
    have hIo : ∃ o, (s.heap.objs.size, o) ∈ own := by
      obtain ⟨⟨o, ho, _⟩, _⟩ := hst
      exact ⟨o, hall _ (.head _) (next_is_new F) o ho⟩
    refine wpAny_mono (turn s.heap.objs.size i v m₁ news₁ h₁ tk₁ own (by simpa using hP) hJ hoff (fun p hp => ?_) hIo (fun p hp => Heap.lt_size (N p hp).1) hlt F₁ (news_comm N₁)) (fun _ s₂ p => wpAny_mono p (fun _ _ q => postW_step q) fun _ _ e => e) fun _ _ e => e
    rcases List.mem_cons.mp (hown p hp) with h1 | h1
    · exact .inl h1
    · exact .inr (List.mem_singleton.mp h1)
  · rintro h' tk m' news' F' N' _ hJ
    exact done m' news' h' tk hJ F' N'
theorem iter_enumT {elts : List PySem.Expr} {k : Nat} {pos : Pos} {l : Addr} {vs : List Value} {m₀ : Str → Option Value} {news : List (Addr × Obj)} (J : Nat → (Str → Option Value) → List (Addr × Obj) → Prop)
    (hh : A.handled = none) (hl : s.heap.IsList l vs.toArray) (hlL : l ≠ env.locals) (F : Fr h₀ env.locals s.heap m₀) (N : News h₀ env.locals s.heap news) (hj : J 0 m₀ news)
    (turn : ∀ I i v m₁ news₁ h tk own T t, vs[i]? = some v → J i m₁ news₁ → (∀ p ∈ news₁, p.1 ∉ [I + 1, I]) → (∀ p ∈ own, p.1 = I + 1 ∨ p.1 = I ∨ p.1 = l) → (∃ o, (I, o) ∈ own) → (∃ o, (I + 1, o) ∈ own) → (∀ p ∈ news, p.1 < I) → l < I → Fr h₀ env.locals h m₁ → News h₀ env.locals h (news₁ ++ own) → IsTup h T #[.int (i : Int) t, v] →
      wpAny (model prog w) A (assign (.Tuple elts k pos) env (.ref T)) (fun _ s₃ => wpAny (model prog w) A (execs body env) (PostW h₀ env.locals (J (i + 1)) own [I + 1, I] { s with heap := h, toks := tk } Q) E s₃) E { s with heap := h, toks := tk })
    (done : ∀ m₁ news₁ h tk, J vs.length m₁ news₁ → Fr h₀ env.locals h m₁ → News h₀ env.locals h news₁ → Q .next { s with heap := h, toks := tk }) :
    wpAny (model prog w) A (call (.type "enumerate") [.ref l]) (fun xv s₁ => wpAny (model prog w) A (pyIter xv) (fun it s₂ => TurnsAt prog w A h₀ env (.Tuple elts k pos) body Q E it s₂) E s₁) E s := by
  obtain ⟨ol, hol, _⟩ := id hl
  have hlt : l < s.heap.objs.size := Heap.lt_size hol
  have hLs : env.locals < s.heap.objs.size := F.ns.lt
  refine call_enumerate_list hl fun h' hE hI hsz hk => ?_
  refine wpAny_pyIter_enum hE ?_
  have W := KTurns.ofWalksU (elts := elts) (k := k) (pos := pos) (WalksT.enumerate (prog := prog) (w := w) hh (s.heap.objs.size + 1) s.heap.objs.size l (Nat.succ_ne_self _) (ktu_ne 1 hlt) (Nat.ne_of_lt hlt) vs.toArray).toU
  have hlen : vs.toArray.size = vs.length := by simp
  rw [hlen] at W
  refine ⟨_, _, _, vs.length, _, _, _, m₀, news, J, rfl, W, ?_, ?_, ?_, ⟨⟨.none, hE⟩, hI, hl.at fun o e => hk l o e⟩, F.keeps hk, N.grown hk, hj, ?_, ?_⟩
  · intro hI'
    have hb' : env.locals = s.heap.objs.size + 1 ∨ env.locals = s.heap.objs.size ∨ env.locals = l := by simpa using hI'
    rcases hb' with e | e | e
    · exact ktu_ne 1 hLs e
    · exact Nat.ne_of_lt hLs e
    · exact hlL e.symm
  · intro b hb
    have hb' : b = s.heap.objs.size + 1 ∨ b = s.heap.objs.size := by simpa using hb
    rcases hb' with rfl | rfl
    · exact ktu_new F (Nat.le_add_right _ _)
    · exact ktu_new F (Nat.le_refl _)
  · intro p hp hI'
    have hb' : p.1 = s.heap.objs.size + 1 ∨ p.1 = s.heap.objs.size := by simpa using hI'
    have hlp := Heap.lt_size (N p hp).1
    rcases hb' with e | e
    · exact ktu_ne 1 hlp e
    · exact Nat.ne_of_lt hlp e
  · rintro i v m₁ news₁ h₁ tk₁ own hin ⟨T, vals, rfl, ⟨t, x, hx, rfl⟩, hT⟩ hJ hoff hown _ hall hst F₁ N₁
    obtain ⟨⟨old, he⟩, ⟨oi, hoi, _⟩, _⟩ := hst
    refine wpAny_mono (turn s.heap.objs.size i x m₁ news₁ h₁ tk₁ own T t (by simpa using hx) hJ hoff (fun p hp => ?_) ⟨oi, hall _ (.tail _ (.head _)) (ktu_new F (Nat.le_refl _)) _ hoi⟩ ⟨_, hall _ (.head _) (ktu_new F (Nat.le_add_right _ _)) _ he⟩ (fun p hp => Heap.lt_size (N p hp).1) hlt F₁ (news_comm N₁) hT) (fun _ s₂ p => wpAny_mono p (fun _ _ q => postW_step q) fun _ _ e => e) fun _ _ e => e
    have := hown p hp
    simpa using this
  · rintro h' tk m' news' F' N' _ hJ
    exact done m' news' h' tk hJ F' N'
end
end Mine


namespace Mine
/-! the list sort under 64 items is stable: by what it asks -/
def gp (p : Array Nat) (x : Nat) : Nat := p.getD x 0
theorem gp_eq (p : Array Nat) (x : Nat) : gp p x = (p[x]?).getD 0 := by simp [gp, Array.getD_eq_getD_getElem?]
theorem gp_rev {p : Array Nat} {i j : Nat} (hj : j ≤ p.size) (x : Nat) : gp (kas_rev p i j) x = if i ≤ x ∧ x < j then gp p (i + j - 1 - x) else gp p x := by
  rw [gp_eq]
  unfold kas_rev
  rw [getElem?_mirror_all hj]
  split <;> rw [gp_eq]
theorem gp_bubble {p : Array Nat} {k d : Nat} (hk : k < p.size) (hd : d ≤ k) (x : Nat) : gp (bubble p k d) x = if x = k - d then gp p k else if k - d < x ∧ x ≤ k then gp p (x - 1) else gp p x := by
  rw [gp_eq, getElem?_bubble hk d hd]
  repeat' split
  all_goals rw [gp_eq]
structure Pre (n m : Nat) (p : Array Nat) : Prop where
  size : p.size = n
  perm : p.toList.Perm (List.range n)
  low : ∀ x, x < m → gp p x < m
  high : ∀ x, m ≤ x → x < n → gp p x = x
def Ltk (a b : Nat → Int) (i j : Nat) : Prop := a i < a j ∨ a i = a j ∧ b i < b j
def Rk (a b : Nat → Int) (i j : Nat) : Prop := a i < a j ∨ a i = a j ∧ (b i < b j ∨ b i = b j ∧ i < j)
def Up (a b : Nat → Int) (p : Array Nat) (m : Nat) : Prop := ∀ x y, x < y → y < m → Rk a b (gp p x) (gp p y)
def Dn (a b : Nat → Int) (p : Array Nat) (m : Nat) : Prop := ∀ x y, x < y → y < m → Rk a b (gp p y) (gp p x)
theorem Pre.rev {n m i j : Nat} {p : Array Nat} (h : Pre n m p) (hj : j ≤ m) (hm : m ≤ n) : Pre n m (kas_rev p i j) := by
  have hz : j ≤ p.size := by rw [h.size]; omega
  refine ⟨(mirror_size _ _ _ _).trans h.size, (mirror_perm _ _ _ _).toList.trans h.perm, fun x hx => ?_, fun x h1 h2 => ?_⟩
  · rw [gp_rev hz]
    split
    · exact h.low _ (by omega)
    · exact h.low _ hx
  · rw [gp_rev hz, if_neg (by omega)]
    exact h.high x h1 h2
theorem Pre.succ {n m : Nat} {p : Array Nat} (h : Pre n m p) (hm : m < n) : Pre n (m + 1) p :=
  ⟨h.size, h.perm, fun x hx => by
    by_cases e : x < m
    · have := h.low x e; omega
    · have : x = m := by omega
      subst this
      rw [h.high x (Nat.le_refl _) hm]; omega, fun x h1 h2 => h.high x (by omega) h2⟩
/-- a comparison answers by the keys, and keeps what holds -/
def Asks (n : Nat) (a b : Nat → Int) (I : Shared → Prop) (cmp : Nat → Nat → (Bool → Shared → Prop) → Shared → Prop) : Prop :=
  ∀ i j, i < n → j < n → ∀ (C : Bool → Shared → Prop) s, I s → (Ltk a b i j → ∀ s', I s' → C true s') → (¬ Ltk a b i j → ∀ s', I s' → C false s') → cmp i j C s
section
variable {n : Nat} {a b : Nat → Int} {I : Shared → Prop} {cmp : Nat → Nat → (Bool → Shared → Prop) → Shared → Prop} (H : Asks n a b I cmp)
include H
theorem wp_asc {p : Array Nat} {G : Nat → Shared → Prop} (hG : ∀ m s, I s → 1 ≤ m → m ≤ n → Pre n m p → Up a b p m → (m < n → Ltk a b (gp p m) (gp p (m - 1))) → G m s) :
    ∀ f m s, m + f = n → 1 ≤ m → Pre n m p → Up a b p m → I s → (kas_asc p f m).kasWp cmp G s
  | 0, m, s, e, h1, hp, hu, hi => hG m s hi h1 (by omega) hp hu (by omega)
  | f + 1, m, s, e, h1, hp, hu, hi => by
    have g1 : gp p m = m := hp.high m (Nat.le_refl _) (by omega)
    have g2 : gp p (m - 1) < m := hp.low _ (by omega)
    refine H (gp p m) (gp p (m - 1)) (by omega) (by omega) _ s hi (fun hl s' hi' => ?_) fun hl s' hi' => ?_
    · show (KasT.ret m).kasWp cmp G s'
      exact hG m s' hi' h1 (by omega) hp hu fun _ => hl
    · show (kas_asc p f (m + 1)).kasWp cmp G s'
      refine wp_asc hG f (m + 1) s' (by omega) (by omega) (hp.succ (by omega)) ?_ hi'
      intro x y hxy hy
      by_cases ey : y < m
      · exact hu x y hxy ey
      · have ey' : y = m := by omega
        subst ey'
        have g3 : gp p x < y := hp.low _ hxy
        unfold Ltk at hl
        rw [g1] at hl ⊢
        by_cases ex : x = y - 1
        · subst ex
          unfold Rk
          omega
        · have := hu x (y - 1) (by omega) (by omega)
          unfold Rk at this ⊢
          omega
omit H in
theorem rev_one {p : Array Nat} {m : Nat} (hm : m < p.size) (x : Nat) : gp (kas_rev p m (m + 1)) x = gp p x := by
  rw [gp_rev (by omega)]
  split
  · congr 1; omega
  · rfl
/-- a falling prefix whose last block of equals still rises -/
structure Desc (n : Nat) (a b : Nat → Int) (p : Array Nat) (m q : Nat) : Prop where
  pre : Pre n m p
  le : m ≤ n
  blk : q + 1 ≤ m
  dn : Dn a b (kas_rev p (m - (q + 1)) m) m
  eq : ∀ x, m - (q + 1) ≤ x → x < m → a (gp p x) = a (gp p (m - 1)) ∧ b (gp p x) = b (gp p (m - 1))
  strict : ∀ x, x < m - (q + 1) → Ltk a b (gp p (m - 1)) (gp p x)
omit H in
theorem Desc.flat {p : Array Nat} {m q : Nat} (h : Desc n a b p m q) : Dn a b (if q > 0 then kas_rev p (m - (q + 1)) m else p) m ∧ Pre n m (if q > 0 then kas_rev p (m - (q + 1)) m else p) := by
  have h1 := h.blk
  have h2 := h.le
  have h3 := h.pre.size
  split
  · exact ⟨h.dn, h.pre.rev (Nat.le_refl _) h.le⟩
  · have hq : q = 0 := by omega
    subst hq
    refine ⟨fun x y hxy hy => ?_, h.pre⟩
    have := h.dn x y hxy hy
    obtain ⟨k, rfl⟩ : ∃ k, m = k + 1 := ⟨m - 1, by omega⟩
    rw [show k + 1 - (0 + 1) = k by omega, rev_one (by omega), rev_one (by omega)] at this
    exact this
omit H in
theorem Desc.down {p : Array Nat} {m q : Nat} (h : Desc n a b p m q) (hm : m < n) (hl : Ltk a b (gp p m) (gp p (m - 1))) : Desc n a b (if q > 0 then kas_rev p (m - (q + 1)) m else p) (m + 1) 0 := by
  obtain ⟨hd, hp⟩ := h.flat
  have hblk := h.blk
  have hsz := h.pre.size
  have hlast : ∃ x, m - (q + 1) ≤ x ∧ x < m ∧ gp (if q > 0 then kas_rev p (m - (q + 1)) m else p) (m - 1) = gp p x := by
    split
    · refine ⟨m - (q + 1), by omega, by omega, ?_⟩
      rw [gp_rev (by omega), if_pos (by omega)]
      congr 1; omega
    · exact ⟨m - 1, by omega, by omega, rfl⟩
  obtain ⟨x0, hx1, hx2, hx3⟩ := hlast
  have he := h.eq x0 hx1 hx2
  rw [← hx3] at he
  have hgm : gp (if q > 0 then kas_rev p (m - (q + 1)) m else p) m = gp p m := by
    split
    · rw [gp_rev (by omega), if_neg (by omega)]
    · rfl
  generalize (if q > 0 then kas_rev p (m - (q + 1)) m else p) = p1 at hd hp hx3 he hgm
  have hs1 : p1.size = n := hp.size
  have hlt : Ltk a b (gp p1 m) (gp p1 (m - 1)) := by
    rw [hgm]; unfold Ltk at hl ⊢; omega
  have hall : ∀ x, x < m → Ltk a b (gp p1 m) (gp p1 x) := fun x hx => by
    by_cases e : x = m - 1
    · rw [e]; exact hlt
    · have := hd x (m - 1) (by omega) (by omega)
      unfold Rk at this; unfold Ltk at hlt ⊢; omega
  refine ⟨hp.succ hm, by omega, by omega, fun x y hxy hy => ?_, fun x h1 h2 => ?_, fun x hx => ?_⟩
  · rw [show m + 1 - (0 + 1) = m by omega, rev_one (by omega), rev_one (by omega)]
    by_cases e : y < m
    · exact hd x y hxy e
    · have : y = m := by omega
      subst this
      have := hall x hxy
      unfold Ltk at this; unfold Rk; omega
  · have : x = m := by omega
    subst this
    exact ⟨rfl, rfl⟩
  · exact hall x (by omega)
omit H in
theorem Desc.same {p : Array Nat} {m q : Nat} (h : Desc n a b p m q) (hm : m < n) (hl : ¬ Ltk a b (gp p m) (gp p (m - 1))) (hl2 : ¬ Ltk a b (gp p (m - 1)) (gp p m)) : Desc n a b p (m + 1) (q + 1) := by
  have hblk := h.blk
  have hsz := h.pre.size
  have hg : gp p m = m := h.pre.high m (Nat.le_refl _) hm
  have heq : a (gp p m) = a (gp p (m - 1)) ∧ b (gp p m) = b (gp p (m - 1)) := by unfold Ltk at hl hl2; omega
  refine ⟨h.pre.succ hm, by omega, by omega, fun x y hxy hy => ?_, fun x h1 h2 => ?_, fun x hx => ?_⟩
  · have hD := h.dn
    rw [gp_rev (by omega), gp_rev (by omega)]
    have old : ∀ z, z < m → gp (kas_rev p (m - (q + 1)) m) z = if m - (q + 1) ≤ z then gp p (m - (q + 1) + m - 1 - z) else gp p z := fun z hz => by
      rw [gp_rev (by omega)]
      by_cases e : m - (q + 1) ≤ z
      · rw [if_pos ⟨e, hz⟩, if_pos e]
      · rw [if_neg (fun c => e c.1), if_neg e]
    by_cases ey : m + 1 - (q + 1 + 1) ≤ y
    · rw [if_pos ⟨ey, by omega⟩]
      by_cases ex : m + 1 - (q + 1 + 1) ≤ x
      · rw [if_pos ⟨ex, by omega⟩]
        by_cases e0 : x = m - (q + 1)
        · -- the new one first
          have e1 : m + 1 - (q + 1 + 1) + (m + 1) - 1 - x = m := by omega
          rw [e1, hg]
          have b1 := h.eq (m + 1 - (q + 1 + 1) + (m + 1) - 1 - y) (by omega) (by omega)
          have b2 := h.pre.low (m + 1 - (q + 1 + 1) + (m + 1) - 1 - y) (by omega)
          rw [hg] at heq
          unfold Rk; omega
        · have := hD (x - 1) (y - 1) (by omega) (by omega)
          rw [old _ (by omega), old _ (by omega), if_pos (by omega), if_pos (by omega)] at this
          rw [show m + 1 - (q + 1 + 1) + (m + 1) - 1 - y = m - (q + 1) + m - 1 - (y - 1) by omega, show m + 1 - (q + 1 + 1) + (m + 1) - 1 - x = m - (q + 1) + m - 1 - (x - 1) by omega]
          exact this
      · rw [if_neg (fun c => ex c.1)]
        have hs := h.strict x (by omega)
        by_cases e0 : y = m - (q + 1)
        · have e1 : m + 1 - (q + 1 + 1) + (m + 1) - 1 - y = m := by omega
          rw [e1]
          unfold Ltk at hs; unfold Rk; omega
        · have b1 := h.eq (m + 1 - (q + 1 + 1) + (m + 1) - 1 - y) (by omega) (by omega)
          unfold Ltk at hs; unfold Rk; omega
    · rw [if_neg (fun c => ey c.1), if_neg (by omega)]
      have := hD x y hxy (by omega)
      rw [old _ (by omega), old _ (by omega), if_neg (by omega), if_neg (by omega)] at this
      exact this
  · by_cases e : x < m
    · have := h.eq x (by omega) e
      show a (gp p x) = a (gp p m) ∧ b (gp p x) = b (gp p m)
      omega
    · have : x = m := by omega
      subst this
      exact ⟨rfl, rfl⟩
  · have hs := h.strict x (by omega)
    show Ltk a b (gp p m) (gp p x)
    unfold Ltk at hs ⊢; omega
theorem wp_desc {G : Array Nat × Nat × Nat → Shared → Prop} (hG : ∀ p m q s, I s → Desc n a b p m q → G (p, m, q) s) :
    ∀ f p m q s, m + f = n → Desc n a b p m q → I s → (kas_desc f p m q).kasWp cmp G s
  | 0, p, m, q, s, e, hd, hi => hG p m q s hi hd
  | f + 1, p, m, q, s, e, hd, hi => by
    have hb := hd.blk
    have g1 : gp p m = m := hd.pre.high m (Nat.le_refl _) (by omega)
    have g2 : gp p (m - 1) < m := hd.pre.low _ (by omega)
    refine H (gp p m) (gp p (m - 1)) (by omega) (by omega) _ s hi (fun hl s' hi' => ?_) fun hl s' hi' => ?_
    · show (if q > 0 then kas_desc f (kas_rev p (m - (q + 1)) m) (m + 1) 0 else kas_desc f p (m + 1) 0).kasWp cmp G s'
      have hd' := hd.down (by omega) hl
      by_cases hq : q > 0
      · rw [if_pos hq] at hd' ⊢
        exact wp_desc hG f _ (m + 1) 0 s' (by omega) hd' hi'
      · rw [if_neg hq] at hd' ⊢
        exact wp_desc hG f _ (m + 1) 0 s' (by omega) hd' hi'
    · show cmp (gp p (m - 1)) (gp p m) (fun d s'' => (if d = true then KasT.ret (p, m, q) else kas_desc f p (m + 1) (q + 1)).kasWp cmp G s'') s'
      refine H (gp p (m - 1)) (gp p m) (by omega) (by omega) _ s' hi' (fun hl2 s'' hi'' => ?_) fun hl2 s'' hi'' => ?_
      · show (KasT.ret (p, m, q)).kasWp cmp G s''
        exact hG p m q s'' hi'' hd
      · show (kas_desc f p (m + 1) (q + 1)).kasWp cmp G s''
        exact wp_desc hG f p (m + 1) (q + 1) s'' (by omega) (hd.same (by omega) hl hl2) hi''
theorem wp_tail3 {G : Nat × Array Nat → Shared → Prop} (hG : ∀ p m s, I s → 1 ≤ m → m ≤ n → Pre n m p → Up a b p m → G (m, p) s) {p : Array Nat} {m : Nat} {s : Shared} (h1 : 1 ≤ m) (hm : m ≤ n) (hp : Pre n m p) (hd : Dn a b p m) (hi : I s) :
    (kas_tail3 m n p).kasWp cmp G s := by
  unfold kas_tail3
  rw [KasT.kasWp_bind]
  have hsz := hp.size
  refine wp_asc H (p := kas_rev p 0 m) (fun k s' hi' k1 k2 hp' hu' _ => hG _ k s' hi' k1 k2 hp' hu') (n - m) m s (by omega) h1 (hp.rev (Nat.le_refl _) hm) ?_ hi
  intro x y hxy hy
  rw [gp_rev (by omega), gp_rev (by omega), if_pos (by omega), if_pos (by omega)]
  exact hd _ _ (by omega) (by omega)
theorem wp_descPart {G : Nat × Array Nat → Shared → Prop} (hG : ∀ p m s, I s → 1 ≤ m → m ≤ n → Pre n m p → Up a b p m → G (m, p) s) {p : Array Nat} {m : Nat} {s : Shared} (h1 : 1 ≤ m) (hm : m < n) (hp : Pre n m p) (hd : Dn a b p m) (hl : Ltk a b (gp p m) (gp p (m - 1))) (hi : I s) :
    (kas_descPart m n p).kasWp cmp G s := by
  unfold kas_descPart
  rw [KasT.kasWp_bind]
  have hsz := hp.size
  have hall : ∀ x, x < m → Ltk a b (gp p m) (gp p x) := fun x hx => by
    by_cases e : x = m - 1
    · rw [e]; exact hl
    · have := hd x (m - 1) (by omega) (by omega)
      unfold Rk at this; unfold Ltk at hl ⊢; omega
  have h0 : Desc n a b p (m + 1) 0 := by
    refine ⟨hp.succ hm, by omega, by omega, fun x y hxy hy => ?_, fun x h1 h2 => ?_, fun x hx => hall x (by omega)⟩
    · rw [show m + 1 - (0 + 1) = m by omega, rev_one (by omega), rev_one (by omega)]
      by_cases e : y < m
      · exact hd x y hxy e
      · have : y = m := by omega
        subst this
        have := hall x hxy
        unfold Ltk at this; unfold Rk; omega
    · have : x = m := by omega
      subst this
      exact ⟨rfl, rfl⟩
  refine wp_desc H (fun p' k q s' hi' hd' => ?_) (n - (m + 1)) p (m + 1) 0 s (by omega) h0 hi
  obtain ⟨d1, d2⟩ := hd'.flat
  have hb := hd'.blk
  show (if q > 0 then kas_tail3 k n (kas_rev p' (k - (q + 1)) k) else kas_tail3 k n p').kasWp cmp G s'
  by_cases hq : q > 0
  · rw [if_pos hq] at d1 d2 ⊢
    exact wp_tail3 H hG (by omega) hd'.le d2 d1 hi'
  · rw [if_neg hq] at d1 d2 ⊢
    exact wp_tail3 H hG (by omega) hd'.le d2 d1 hi'
theorem wp_count {G : Nat × Array Nat → Shared → Prop} (hG : ∀ p m s, I s → 1 ≤ m → m ≤ n → Pre n m p → Up a b p m → G (m, p) s) {p : Array Nat} {s : Shared} (hn : 1 ≤ n) (hp : Pre n 1 p) (hi : I s) : (kas_count n p).kasWp cmp G s := by
  unfold kas_count
  rw [KasT.kasWp_bind]
  have hsz := hp.size
  refine wp_asc H (fun m s' hi' h1 hm hp' hu hl => ?_) (n - 1) 1 s (by omega) (Nat.le_refl _) hp (fun x y _ hy => by omega) hi
  show (if (m == n) = true then KasT.ret (m, p) else if m > 1 then KasT.ask (gp p 0) (gp p (m - 1)) fun c => if c = true then KasT.ret (m, p) else kas_descPart m n (kas_rev p 0 m) else kas_descPart m n p).kasWp cmp G s'
  by_cases e : m = n
  · rw [if_pos (by simp [e])]
    exact hG p m s' hi' h1 hm hp' hu
  · rw [if_neg (by simp [e])]
    by_cases e2 : m > 1
    · rw [if_pos e2]
      have g0 := hp'.low 0 (by omega)
      have g1 := hp'.low (m - 1) (by omega)
      refine H (gp p 0) (gp p (m - 1)) (by omega) (by omega) _ s' hi' (fun _ s'' hi'' => ?_) fun hl2 s'' hi'' => ?_
      · show (KasT.ret (m, p)).kasWp cmp G s''
        exact hG p m s'' hi'' h1 hm hp' hu
      · show (kas_descPart m n (kas_rev p 0 m)).kasWp cmp G s''
        have hflat : ∀ x, x < m → a (gp p x) = a (gp p 0) ∧ b (gp p x) = b (gp p 0) := fun x hx => by
          by_cases x0 : x = 0
          · rw [x0]; exact ⟨rfl, rfl⟩
          · have r1 := hu 0 x (by omega) hx
            by_cases x1 : x = m - 1
            · rw [← x1] at hl2
              unfold Rk at r1; unfold Ltk at hl2; omega
            · have r2 := hu x (m - 1) (by omega) (by omega)
              unfold Rk at r1 r2; unfold Ltk at hl2; omega
        refine wp_descPart H hG h1 (by omega) (hp'.rev (Nat.le_refl _) hm) (fun x y hxy hy => ?_) ?_ hi''
        · rw [gp_rev (by omega), gp_rev (by omega), if_pos (by omega), if_pos (by omega)]
          exact hu _ _ (by omega) (by omega)
        · rw [gp_rev (by omega), gp_rev (by omega), if_neg (by omega), if_pos (by omega)]
          have := hl (by omega)
          have f1 := hflat (0 + m - 1 - (m - 1)) (by omega)
          have f2 := hflat (m - 1) (by omega)
          unfold Ltk at this ⊢; omega
    · rw [if_neg e2]
      have : m = 1 := by omega
      subst this
      exact wp_descPart H hG (Nat.le_refl _) (by omega) hp' (fun x y _ hy => by omega) (hl (by omega)) hi'
theorem wp_place {p : Array Nat} {k : Nat} {G : Nat → Shared → Prop} (hk : k < n) (hp : Pre n k p) (hu : Up a b p k) (hG : ∀ l s, I s → l ≤ k → (∀ x, x < l → ¬ Ltk a b (gp p k) (gp p x)) → (∀ x, l ≤ x → x < k → Ltk a b (gp p k) (gp p x)) → G l s) :
    ∀ f l r s, r - l ≤ f → l ≤ r → r ≤ k → (∀ x, x < l → ¬ Ltk a b (gp p k) (gp p x)) → (∀ x, r ≤ x → x < k → Ltk a b (gp p k) (gp p x)) → I s → (kas_place p k f l r).kasWp cmp G s
  | 0, l, r, s, e, h1, h2, h3, h4, hi => hG l s hi (by omega) h3 fun x hx => h4 x (by omega)
  | f + 1, l, r, s, e, h1, h2, h3, h4, hi => by
    show (if l ≥ r then KasT.ret l else KasT.ask (gp p k) (gp p ((l + r) / 2)) fun c => if c = true then kas_place p k f l ((l + r) / 2) else kas_place p k f ((l + r) / 2 + 1) r).kasWp cmp G s
    by_cases q : l ≥ r
    · rw [if_pos q]
      exact hG l s hi (by omega) h3 fun x hx => h4 x (by omega)
    · rw [if_neg q]
      have g1 : gp p k = k := hp.high k (Nat.le_refl _) hk
      have g2 : gp p ((l + r) / 2) < k := hp.low _ (by omega)
      refine H (gp p k) (gp p ((l + r) / 2)) (by omega) (by omega) _ s hi (fun hl s' hi' => ?_) fun hl s' hi' => ?_
      · show (kas_place p k f l ((l + r) / 2)).kasWp cmp G s'
        refine wp_place hk hp hu hG f l ((l + r) / 2) s' (by omega) (by omega) (by omega) h3 (fun x hx1 hx2 => ?_) hi'
        by_cases e2 : x = (l + r) / 2
        · rw [e2]; exact hl
        · have := hu ((l + r) / 2) x (by omega) hx2
          unfold Rk at this; unfold Ltk at hl ⊢; omega
      · show (kas_place p k f ((l + r) / 2 + 1) r).kasWp cmp G s'
        refine wp_place hk hp hu hG f ((l + r) / 2 + 1) r s' (by omega) (by omega) h2 (fun x hx => ?_) h4 hi'
        by_cases e2 : x = (l + r) / 2
        · rw [e2]; exact hl
        · have := hu x ((l + r) / 2) (by omega) (by omega)
          unfold Rk at this; unfold Ltk at hl ⊢; omega
theorem wp_bin {G : Array Nat → Shared → Prop} (hG : ∀ p s, I s → Pre n n p → Up a b p n → G p s) : ∀ f p k s, k + f = n → Pre n k p → Up a b p k → I s → (kas_bin f p k).kasWp cmp G s
  | 0, p, k, s, e, hp, hu, hi => by
    have : k = n := by omega
    subst this
    exact hG p s hi hp hu
  | f + 1, p, k, s, e, hp, hu, hi => by
    show ((kas_place p k k 0 k).bind fun l => kas_bin f (bubble p k (k - l)) (k + 1)).kasWp cmp G s
    rw [KasT.kasWp_bind]
    have hsz := hp.size
    have g1 : gp p k = k := hp.high k (Nat.le_refl _) (by omega)
    refine wp_place H (by omega) hp hu (fun l s' hi' hl h3 h4 => ?_) k 0 k s (by omega) (by omega) (Nat.le_refl _) (fun x hx => by omega) (fun x h1 h2 => by omega) hi
    have gb : ∀ x, gp (bubble p k (k - l)) x = if x = l then k else if l < x ∧ x ≤ k then gp p (x - 1) else gp p x := fun x => by
      rw [gp_bubble (by omega) (by omega), show k - (k - l) = l by omega, g1]
    refine wp_bin hG f _ (k + 1) s' (by omega) ⟨(bubble_size _ _ _).trans hp.size, (bubble_perm _ _ _).toList.trans hp.perm, fun x hx => ?_, fun x h1 h2 => ?_⟩ (fun x y hxy hy => ?_) hi'
    · rw [gb]
      repeat' split
      · omega
      · have := hp.low (x - 1) (by omega); omega
      · have := hp.low x (by omega); omega
    · rw [gb, if_neg (by omega), if_neg (by omega)]
      exact hp.high x (by omega) h2
    · rw [gb, gb]
      by_cases ex : x = l
      · rw [if_pos ex, if_neg (by omega), if_pos (by omega)]
        have := h4 (y - 1) (by omega) (by omega)
        rw [g1] at this
        unfold Ltk at this; unfold Rk; omega
      · rw [if_neg ex]
        by_cases ey : y = l
        · rw [if_pos ey, if_neg (by omega)]
          have := h3 x (by omega)
          have lo := hp.low x (by omega)
          rw [g1] at this
          unfold Ltk at this; unfold Rk; omega
        · rw [if_neg ey]
          by_cases bx : l < x ∧ x ≤ k
          · rw [if_pos bx, if_pos (by omega)]
            exact hu _ _ (by omega) (by omega)
          · rw [if_neg bx]
            by_cases by_ : l < y ∧ y ≤ k
            · rw [if_pos by_]
              by_cases e3 : x = y - 1
              · omega
              · exact hu _ _ (by omega) (by omega)
            · rw [if_neg by_]
              exact hu _ _ hxy (by omega)
/-- the sort's tree ends in the stable order -/
theorem wp_sort {G : Array Nat → Shared → Prop} {s : Shared} (hn : 1 ≤ n) (hG : ∀ p s, I s → Pre n n p → Up a b p n → G p s) (hi : I s) : (kas_sort n).kasWp cmp G s := by
  unfold kas_sort
  rw [KasT.kasWp_bind]
  have gr : ∀ x, x < n → gp (List.toArray (List.range n)) x = x := fun x hx => by
    rw [gp_eq]; simp [hx]
  refine wp_count H (fun p m s' hi' h1 hm hp hu => ?_) hn ⟨by simp, by simp, fun x hx => ?_, fun x _ h2 => gr x h2⟩ hi
  · show (if m < n then kas_bin (n - max m 1) p (max m 1) else KasT.ret p).kasWp cmp G s'
    have hmx : max m 1 = m := by omega
    by_cases e : m < n
    · rw [if_pos e, hmx]
      exact wp_bin H hG (n - m) p m s' (by omega) hp hu hi'
    · rw [if_neg e]
      have : m = n := by omega
      subst this
      exact hG p s' hi' hp hu
  · rw [gr x (by omega)]; exact hx
end
end Mine


namespace Mine
section
variable {prog : Program} {w : World} {A : Around} {E : Value → Shared → Prop} {s : Shared} {h₀ : Heap} {L D : Addr} {m : Str → Option Value} {rest : List (Addr × Obj)}
/-- a list of none or one is sorted -/
theorem sort_short {vs : List Value} {n : Nat} {Q : Value → Shared → Prop} (F : Fr h₀ L s.heap m) (N : News h₀ L s.heap ((D, W.listOf vs.toArray n) :: rest)) (hoff : ∀ p ∈ rest, p.1 ≠ D) (h2 : vs.length < 2)
    (h : ∀ h' c, Fr h₀ L h' m → News h₀ L h' ((D, W.listOf vs.toArray c) :: rest) → Q .none { s with heap := h' }) : wpAny (model prog w) A (call (.builtin "list.sort") [.ref D]) Q E s := by
  have nz := N _ (.head _)
  have ho : s.heap.get? D = some (seqObj "list" vs.toArray n) := nz.1
  have N₀ : News h₀ L s.heap rest := fun p hp => N p (.tail _ hp)
  refine wpAny_call_entry slot_list_sort ⟨_, nz.1, rfl⟩ entry_list_sort ?_ (args_list_sort _)
  have s1 := Heap.SameBut.update s.heap D (Obj.mapSeq fun _ => (#[] : Array Value))
  obtain ⟨e1, ho1⟩ : ∃ e1, (s.heap.update D (Obj.mapSeq fun _ => (#[] : Array Value))).get? D = some (seqObj "list" #[] e1) := ⟨_, get?_update_seq ho fun _ => #[]⟩
  have F3 : Fr h₀ L (((s.heap.update D (Obj.mapSeq fun _ => (#[] : Array Value))).push (seqObj "tuple" vs.toArray 0)).push (seqObj "list" #[] 0)) m := ((kas_fr F s1 nz.2.1 nz.2.2).push _).push _
  have N2 : News h₀ L (((s.heap.update D (Obj.mapSeq fun _ => (#[] : Array Value))).push (seqObj "tuple" vs.toArray 0)).push (seqObj "list" #[] 0)) rest :=
    (kas_news N₀ s1 hoff).grown fun b x e => Heap.get?_push_of_some _ (Heap.get?_push_of_some _ e)
  have hD3 : (((s.heap.update D (Obj.mapSeq fun _ => (#[] : Array Value))).push (seqObj "tuple" vs.toArray 0)).push (seqObj "list" #[] 0)).get? D = some (seqObj "list" #[] e1) := Heap.get?_push_of_some _ (Heap.get?_push_of_some _ ho1)
  rw [list_sort_plain]
  refine wpAny_bind (listItems_at ho rfl ?_)
  refine wpAny_bind (listUpdate_at ho rfl ?_ (by rw [List.size_toArray, sizeLine_eq]; omega) (Nat.zero_le _))
  refine wpAny_bind (seqEpoch_at ho1 rfl ?_)
  refine wpAny_bind (wpAny_newTuple ?_ (by show vs.length ≤ _; rw [sizeLine_eq]; omega))
  refine wpAny_bind (wpAny_newList ?_ (Nat.zero_le _))
  refine wpAny_holding ?_
  show wpAny (model prog w) _ _ _ E { s with heap := ((s.heap.update D (Obj.mapSeq fun _ => (#[] : Array Value))).push (seqObj "tuple" vs.toArray 0)).push (seqObj "list" #[] 0) }
  dsimp only
  have hn2 : vs.toArray.size < 2 := by rw [List.size_toArray]; omega
  rw [if_pos hn2, if_pos hn2]
  refine wpAny_bind (wpAny_pure ?_)
  refine wpAny_bind (wpAny_pure ?_)
  dsimp only
  have hz : (arrOf (SortSt.mk' general' (vs.toArray.zip vs.toArray) #[] 7 none)).map (·.2) = vs.toArray := by
    show (vs.toArray.zip vs.toArray).map (·.2) = vs.toArray
    apply Array.toList_inj.mp
    simp only [Array.toList_map, Array.toList_zip]
    exact List.map_snd_zip (by simp)
  rw [hz]
  generalize ((s.heap.update D (Obj.mapSeq fun _ => (#[] : Array Value))).push (seqObj "tuple" vs.toArray 0)).push (seqObj "list" #[] 0) = H at F3 N2 hD3 ⊢
  have s2 := Heap.SameBut.update H D (Obj.mapSeq fun _ => vs.toArray)
  obtain ⟨c2, hc2⟩ : ∃ c2, (H.update D (Obj.mapSeq fun _ => vs.toArray)).get? D = some (seqObj "list" vs.toArray c2) := ⟨_, get?_update_seq hD3 fun _ => vs.toArray⟩
  refine wpAny_bind (seqEpoch_at hD3 rfl ?_)
  refine wpAny_bind (listUpdate_at hD3 rfl ?_ (Nat.zero_le _) (by rw [List.size_toArray, sizeLine_eq]; omega))
  show wpAny _ _ (if (e1 != e1) = true then _ else _) _ _ _
  rw [if_neg (by simp)]
  refine wpAny_pure ⟨_, rfl, h _ c2 (kas_fr F3 s2 nz.2.1 nz.2.2) fun p hp => ?_⟩
  rcases List.mem_cons.mp hp with rfl | hp
  · exact ⟨hc2, nz.2.1, nz.2.2⟩
  · have := kas_news N2 s2 hoff
    exact this p hp
/-- a pair of ints in the ledger: its place, its two ints -/
structure PR where
  t : Addr
  o : Int
  k : Int
def PairIn (nw : List (Addr × Obj)) (r : PR) : Prop := ∃ n t u, (r.t, { cls := .type "tuple", data := .seq #[.int r.o t, .int r.k u] n }) ∈ nw
def refsP (R : List PR) : List Value := R.map fun r => Value.ref r.t
def PLt (r r' : PR) : Prop := r.o < r'.o ∨ r.o = r'.o ∧ r.k < r'.k
theorem pairs_tups {h : Heap} {nw : List (Addr × Obj)} (N : News h₀ L h nw) : ∀ {R : List PR}, (∀ r ∈ R, PairIn nw r) → ∃ fs, KatTups h (refsP R) fs ∧ fs.length = R.length ∧ ∀ v ∈ fs, ∃ i t, v = .int i t
  | [], _ => ⟨[], trivial, rfl, fun _ h => nomatch h⟩
  | r :: R, hin => by
    obtain ⟨fs, h1, h2, h3⟩ := pairs_tups N (R := R) fun r hr => hin r (.tail _ hr)
    obtain ⟨n, t, u, hm⟩ := hin r (.head _)
    refine ⟨.int r.o t :: fs, .cons (N _ hm).1 rfl rfl rfl h1, by simp [h2], fun v hv => ?_⟩
    rcases List.mem_cons.mp hv with rfl | hv
    · exact ⟨_, _, rfl⟩
    · exact h3 v hv
theorem pair_lt {s : Shared} {nw : List (Addr × Obj)} (N : News h₀ L s.heap nw) {r r' : PR} (hr : PairIn nw r) (hr' : PairIn nw r') {C : Bool → Shared → Prop} (hy : PLt r r' → C true s) (hn : ¬ PLt r r' → C false s) :
    wpAny (model prog w) A (keyLt' (tuples' true) (.ref r.t) (.ref r'.t)) C E s := by
  obtain ⟨n, t, u, h1⟩ := hr
  obtain ⟨n', t', u', h2⟩ := hr'
  refine kat_lt (N _ h1).1 rfl (N _ h2).1 rfl ?_
  refine kat_cons (wpAny_eqBool_int ?_)
  refine kat_go (fun e => kat_yes (kat_cons (wpAny_eqBool_int (kat_go (fun e2 => kat_yes (kat_nil ?_)) fun e2 => kat_no (kat_one _ _ (lt_int ?_)))))) fun e => kat_no (oneLt_int ?_)
  · simp at e e2
    exact hn (by unfold PLt; omega)
  · simp at e e2
    show C (decide (r.k < r'.k)) s
    by_cases q : r.k < r'.k
    · rw [decide_eq_true q]; exact hy (by unfold PLt; omega)
    · rw [decide_eq_false q]; exact hn (by unfold PLt; omega)
  · simp at e
    by_cases q : r.o < r'.o
    · rw [decide_eq_true q]; exact hy (by unfold PLt; omega)
    · rw [decide_eq_false q]; exact hn (by unfold PLt; omega)
/-- p's list of places, through a list -/
theorem picked {α β : Type} (f : α → β) (R : List α) (d : β) (d' : α) (hd : d = d) (p : List Nat) (hp : ∀ i ∈ p, i < R.length) : p.map (fun i => (R.map f).getD i d) = (p.map fun i => R.getD i d').map f := by
  rw [List.map_map]
  refine List.map_congr_left fun i hi => ?_
  have := hp i hi
  simp [List.getD, this]
theorem picked_perm {α : Type} (R : List α) (d : α) {p : List Nat} (hp : p.Perm (List.range R.length)) : (p.map fun i => R.getD i d).Perm R := by
  refine (hp.map _).trans (List.Perm.of_eq ?_)
  apply List.ext_getElem?
  intro i
  by_cases h : i < R.length
  · simp [h, List.getD]
  · simp [h]
/-- list.sort on pairs of ints -/
theorem sort_pairs {R : List PR} {n : Nat} {Q : Value → Shared → Prop} (F : Fr h₀ L s.heap m) (N : News h₀ L s.heap ((D, W.listOf (refsP R).toArray n) :: rest)) (hoff : ∀ p ∈ rest, p.1 ≠ D) (hin : ∀ r ∈ R, PairIn rest r) (h64 : R.length < 64)
    (hdist : R.Pairwise fun r r' => r.k ≠ r'.k)
    (h : ∀ h' c R', R'.Perm R → R'.Pairwise PLt → Fr h₀ L h' m → News h₀ L h' ((D, W.listOf (refsP R').toArray c) :: rest) → Q .none { s with heap := h' }) :
    wpAny (model prog w) A (call (.builtin "list.sort") [.ref D]) Q E s := by
  have hl : (refsP R).length = R.length := by simp [refsP]
  by_cases h2 : 2 ≤ R.length
  · refine kat_lsort (vs := refsP R) F N (.head hoff) (by simp) (by omega) (by omega) fun e1 h' F' N' => ?_
    obtain ⟨fs, t1, t2, t3⟩ := pairs_tups N' (R := R) fun r hr => let ⟨a, b, c, q⟩ := hin r hr; ⟨a, b, c, .tail _ q⟩
    refine kat_kind t1 (by omega) (T := .type "int") (fun v hv => by obtain ⟨i, t, rfl⟩ := t3 v hv; exact Looks.of_pure rfl) (by decide) ?_
    show (kas_sort (refsP R).length).kasWp (kas_ask prog w A.in1 (tuples' true) (refsP R)) _ _
    let dr : PR := ⟨0, 0, 0⟩
    rw [hl]
    refine wp_sort (n := R.length) (a := fun i => (R.getD i dr).o) (b := fun i => (R.getD i dr).k) (I := fun s' => s' = { s with heap := h' }) ?_ (by omega) (fun p s' hi hp hu => ?_) rfl
    · intro i j hi hj C s' e hy hn
      subst e
      have g : ∀ x, x < R.length → (refsP R).getD x Value.none = .ref (R.getD x dr).t := fun x hx => by simp [refsP, List.getD, hx]
      show wpAny _ _ (keyLt' (tuples' true) ((refsP R).getD i Value.none) ((refsP R).getD j Value.none)) C _ _
      rw [g i hi, g j hj]
      have mem : ∀ x, x < R.length → PairIn ((D, seqObj "list" #[] e1) :: rest) (R.getD x dr) := fun x hx => by
        have : R.getD x dr ∈ R := by simp [List.getD, hx]
        obtain ⟨a, b, c, q⟩ := hin _ this
        exact ⟨a, b, c, .tail _ q⟩
      exact pair_lt N' (mem i hi) (mem j hj) (fun q => hy q _ rfl) fun q => hn q _ rfl
    · subst hi
      have hpm : ∀ i ∈ p.toList, i < R.length := fun i hi => by simpa using hp.perm.mem_iff.mp hi
      refine KasFin.intro F' N' (.head hoff) fun h'' c F'' N'' => ?_
      have e : (p.toList.map fun i => (refsP R).getD i Value.none) = refsP (p.toList.map fun i => R.getD i dr) := picked _ R _ dr rfl _ hpm
      rw [e] at N''
      refine h h'' c _ (picked_perm R dr hp.perm) ?_ F'' N''
      rw [List.pairwise_map, List.pairwise_iff_getElem]
      intro i j hi hj hij
      have hz : p.size = R.length := hp.size
      have := hu i j hij (by simpa [hz] using hj)
      have ei : gp p i = p.toList[i] := by rw [gp_eq]; simp at hi; simp [hi]
      have ej : gp p j = p.toList[j] := by rw [gp_eq]; simp at hj; simp [hj]
      rw [ei, ej] at this
      have hne : p.toList[i] ≠ p.toList[j] := by
        have nd : p.toList.Nodup := hp.perm.nodup_iff.mpr List.nodup_range
        exact List.pairwise_iff_getElem.mp nd i j (by simpa using hi) (by simpa using hj) hij
      have hi' := hpm _ (List.getElem_mem hi)
      have hj' := hpm _ (List.getElem_mem hj)
      generalize p.toList[i] = x at *
      generalize p.toList[j] = y at *
      have hkk : (R.getD x dr).k ≠ (R.getD y dr).k := by
        have gx : R.getD x dr = R[x] := by simp [List.getD, hi']
        have gy : R.getD y dr = R[y] := by simp [List.getD, hj']
        rw [gx, gy]
        have pw := List.pairwise_iff_getElem.mp hdist
        rcases Nat.lt_or_gt_of_ne hne with q | q
        · exact pw x y hi' hj' q
        · exact (pw y x hj' hi' q).symm
      unfold Rk at this
      unfold PLt
      dsimp only at this
      omega
  · refine sort_short F N hoff (by omega) fun h' c F' N' => h h' c R (.refl _) ?_ F' N'
    match R, h2 with
    | [], _ => exact .nil
    | [r], _ => exact List.pairwise_singleton _ _
    | _ :: _ :: _, h2 => exact absurd (by simp) h2
end
end Mine


namespace Mine
/-! a generator expression over enumerate of a list, its element pure -/
section
variable {prog : Program} {w : World} {A : Around} {E : Value → Shared → Prop} {s : Shared} {h₁ h₀ : Heap} {c P L l : Addr} {ps : Array Value} {m : Str → Option Value} {env : Env} {elt : PySem.Expr} {scope : Scope} {cl : List (Str × Addr)} {xa xb : Str} {pos : Pos} {Q : Value → Shared → Prop} {vs : List Value}
theorem src_enum (F : Nat → Value → Prop) (hl : s.heap.IsList l vs.toArray) (F₀ : Fr h₀ L s.heap m) (G : AllBare s.gens) (hlim : s.heap.NoLimit) (hPl : P < s.heap.objs.size) (hPne : P ≠ l)
    (hel : ∀ (c' C : Addr) (A' : Around) E' (i : Nat) tk v (t : Shared) m₂, A'.handled = none → A'.depth ≤ A.depth + 1 → A'.units ≤ A.units + 8 → vs[i]? = some v → Fr (regrown h₀ P (ps ++ #[rawInt pos.line, rawInt pos.col, .ref c'])) C t.heap m₂ → m₂ xa = some (.int (i : Int) tk) → m₂ xb = some v → L < C →
      (∀ b o, b ≠ P → b < s.heap.objs.size → s.heap.get? b = some o → t.heap.get? b = some o) →
      wpAny (model prog w) A' (eval elt (genEnv scope cl C (.ref c') builtinsNs env)) (fun y s₃ => F i y ∧ Keeps t s₃) E' t)
    (hQ : ∀ (c' a : Addr) (s₅ : Shared), Based h₁ (regrown h₀ P (ps ++ #[rawInt pos.line, rawInt pos.col, .ref c'])) c P (ps ++ #[rawInt pos.line, rawInt pos.col, .ref c']) →
      Fr (regrown h₀ P (ps ++ #[rawInt pos.line, rawInt pos.col, .ref c'])) L s₅.heap m → AllBare s₅.gens → s₅.os = s.os → (∀ b o, b ≠ P → s.heap.get? b = some o → s₅.heap.get? b = some o) →
      Gen prog w A (s.heap.objs.size - 1) a vs.length (fun j y => ∃ i, (List.range vs.length)[j]? = some i ∧ F i y) s₅ → Q (.ref a) s₅) :
    wpAny (model prog w) A (call (.type "enumerate") [.ref l]) (fun xv s₁ => wpAny (model prog w) A (pyIter xv) (GenPostT prog w A h₁ h₀ c P ps L m env scope cl xa xb [] elt pos Q) E s₁) E s := by
  obtain ⟨ol, hol, _⟩ := id hl
  have hlt : l < s.heap.objs.size := Heap.lt_size hol
  have hLs : L < s.heap.objs.size := F₀.ns.lt
  refine call_enumerate_list hl fun h' hE hI hsz hk => ?_
  refine wpAny_pyIter_enum hE ?_
  have hsz' : s.heap.objs.size < h'.objs.size := by
    obtain ⟨o, q, _⟩ := hI
    exact Heap.lt_size q
  have hsz2 : s.heap.objs.size + 1 < h'.objs.size := Heap.lt_size hE
  have hlen : vs.toArray.size = vs.length := by simp
  have hpass : passing (fun _ => true) vs.length 0 = List.range vs.length := by
    unfold passing
    simp
  refine ⟨F₀.keeps hk, G, hlim.keeps hk, s.heap.objs.size - 1, s.heap.objs.size + 1, _, _, vs.length, _, _, _, (fun _ => true), F, Nat.le_sub_one_of_lt hLs, Nat.lt_of_le_of_lt (Nat.sub_le _ _) hsz', rfl,
    (fun A' hA => hlen ▸ (WalksT.enumerate (prog := prog) (w := w) hA (s.heap.objs.size + 1) s.heap.objs.size l (Nat.succ_ne_self _) (ktu_ne 1 hlt) (Nat.ne_of_lt hlt) vs.toArray).toU), ?_, ⟨⟨.none, hE⟩, hI, hl.at fun o e => hk l o e⟩, ?_, ?_, ?_, ?_, ?_, ?_⟩
  · rintro i vals ⟨t, x, hx, rfl⟩
    exact ⟨_, _, rfl⟩
  · intro b hb
    have hb' : b = s.heap.objs.size + 1 ∨ b = s.heap.objs.size ∨ b = l := by simpa using hb
    rcases hb' with rfl | rfl | rfl
    · exact hsz2
    · exact hsz'
    · exact Nat.lt_trans hlt hsz'
  · intro hb
    have hb' : P = s.heap.objs.size + 1 ∨ P = s.heap.objs.size ∨ P = l := by simpa using hb
    rcases hb' with e | e | e
    · exact absurd hPl (by rw [e]; exact Nat.not_lt.mpr (Nat.le_succ _))
    · exact absurd hPl (by rw [e]; exact Nat.lt_irrefl _)
    · exact hPne e
  · intro b hb
    have hb' : b = s.heap.objs.size + 1 ∨ b = s.heap.objs.size := by simpa using hb
    have hp : 0 < s.heap.objs.size := Nat.lt_of_le_of_lt (Nat.zero_le _) hLs
    rcases hb' with rfl | rfl
    · exact Nat.lt_succ_of_lt (Nat.sub_lt hp Nat.one_pos)
    · exact Nat.sub_lt hp Nat.one_pos
  · intro c' C A' E' i va vb t m₂ _ _ _ _ _ _ _ _ _
    exact wpAny_pure ⟨rfl, _, _, rfl, fun _ _ e => e⟩
  · rintro c' C A' E' i va vb t m₂ hA hD hU ⟨tk, x, hx, e⟩ _ F' hma hmb hLC hkp
    obtain ⟨e1, e2⟩ : va = .int i tk ∧ vb = x := by simpa using congrArg Array.toList e
    subst e1 e2
    refine hel c' C A' E' i tk _ t m₂ hA hD hU (by simpa using hx) F' hma hmb hLC fun b o hbP hbs e => hkp b o hbP (fun hw => ?_) (hk b o e)
    have hb' : b = s.heap.objs.size + 1 ∨ b = s.heap.objs.size := by simpa using hw
    rcases hb' with rfl | rfl
    · exact absurd hbs (Nat.not_lt.mpr (Nat.le_succ _))
    · exact absurd hbs (Nat.lt_irrefl _)
  · intro c' a s₅ B₅ F₅ G₅ hos hk₅ X
    refine hQ c' a s₅ B₅ F₅ G₅ hos (fun b o hb e => hk₅ b o hb (hk b o e)) ?_
    rw [hpass, List.length_range] at X
    exact X
/-- all over such a generator whose elements are all True -/
theorem all_true {K a : Addr} {n : Nat} (Fh : Fr h₀ L s.heap m) (G : AllBare s.gens) (X : Gen prog w A K a n (fun j y => ∃ i, (List.range n)[j]? = some i ∧ y = .bool true) s) (hLK : L ≤ K)
    (hQ : ∀ s', Fr h₀ L s'.heap m → AllBare s'.gens → s'.os = s.os → (∀ b o, b ≤ K → s.heap.get? b = some o → s'.heap.get? b = some o) → Q (.bool true) s') : wpAny (model prog w) A (call (.builtin "all") [.ref a]) Q E s := by
  refine all_rowsK Fh G X hLK (fun _ => true) ?_ fun s' F' G' hos hk => ?_
  · rintro j v s Q E ⟨i, _, rfl⟩ hQ
    exact wpAny_truthy_bool hQ
  · have : (List.range n).all (fun _ => true) = true := by simp
    rw [this]
    exact hQ s' F' G' hos hk
theorem gen_T {iter : PySem.Expr} {pa pb pt : Pos} {kt : Nat} {ifs : List PySem.Expr} {mg : Str → Option Value} {bm : Addr} {ob : Obj} (_F : Fr h₀ L s.heap m)
    (B : Based h₁ h₀ c P ps) (M : BMod h₀ env.globals mg bm ob) (hcode : env.code = .ref c) (hnf : codeAmong pos ps.toList = none)
    (hh : A.handled = none) (hco : scope.isCoroutine = false) (hclos : closureFor scope env = pure cl) (hcell : ∀ y ∈ scope.names, y.2 ≠ .cell) (h0 : scope.names.lookup (".0" : Str) = some NameKind.local)
    (hxa : scope.names.lookup xa = some .local) (hxb : scope.names.lookup xb = some .local) (hab : xa ≠ xb) (hkind : scope.kind = .function) (hroom : A.depth < recursionLimit)
    (h : wpAny (model prog w) A (eval iter env) (fun xv s₁ => wpAny (model prog w) A (pyIter xv) (GenPostT prog w A h₁ h₀ c P ps L m env scope cl xa xb ifs elt pos Q) E s₁) E s)
    (hs : ∀ x, genFold iter env x = pure x) :
    wpAny (model prog w) A (eval (.GeneratorExp elt [⟨.Tuple [.Name xa pa, .Name xb pb] kt pt, iter, ifs, 0⟩] scope pos) env) Q E s :=
  GeneratorExp_rowsTP (L := L) (m := m) B M hcode hnf hh hco hclos hcell h0 hxa hxb hab hkind hroom h hs
theorem item_isl {value slice : PySem.Expr} {k : Int} {u : Tok} {v : Value} (hl : s.heap.IsList l vs.toArray) (h0 : 0 ≤ k) (hhi : k < 2 ^ 63) (hx : vs[k.toNat]? = some v) (h : Q v s)
    (hs : subscripted slice false (.ref l) (.int k u) = operate [.ref l, .int k u] (getItem (.ref l) (.int k u)) := by with_unfolding_all rfl) :
    wpAny (model prog w) A (subscriptTail value slice (.ref l) (.int k u)) Q E s :=
  tail_any hl.typeIs slot_list_getitem.lookup (wpAny_getItem_list hl h0 hhi (by simpa using hx) h) hs
theorem based_lt {h : Heap} (B : Based h₁ h₀ c P ps) (F : Fr h₀ L h m) : P < h.objs.size := Heap.lt_size (B.tabAt F).2
theorem based_ne {h : Heap} {news : List (Addr × Obj)} {a : Addr} {o : Obj} (B : Based h₁ h₀ c P ps) (N : News h₀ L h news) (hm : (a, o) ∈ news) : P ≠ a := fun e => by
  have h1 := B.tab.2
  have h2 := (N _ hm).2.2
  rw [e] at h1
  rw [h2] at h1
  cases h1
theorem bare_nil {g : Array GenState} (h : g = #[]) : AllBare g := by subst h; exact AllBare.empty
end
end Mine


namespace Mine
theorem fill : PySem.Challenge.rw_dn0254_02.row.prog = PySem.Challenge.rw_dn0254_02.row.prog ∧ Mine.hd.heap_39 = Mine.hd.heap_39 := by
  w_top off
  k_fill
  exact ⟨rfl, rfl⟩
def OrdV (C : Addr) (es : List DictEntry) (v : Value) : Prop :=
  (C = 52 ∧ getL "handler_order" es = some none ∧ v = .int 500 208) ∨ (C = 73 ∧ getL "handler_order" es = some none ∧ v = .int 1000 253) ∨ ((C = 52 ∨ C = 73) ∧ getL "handler_order" es = some (some v))
def HdV (news : List (Addr × Obj)) (x : Addr) (v : Value) : Prop := ∃ C dx es n, (x, instObj C dx) ∈ news ∧ (dx, dictOf es n) ∈ news ∧ OrdV C es v
section
variable {w : World} {A : Around} {E : Value → Shared → Prop} {s : Shared} {x y L : Addr} {h₀ : Heap} {m : Str → Option Value} {news : List (Addr × Obj)} {v : Value}
theorem find_order (w : World) {C : Addr} {es : List DictEntry} {n : Nat} (hO : OrdV C es v) : findObj (Mine.hd.heap_39 w.params) C (some (dictOf es n)) "handler_order" = some (.value v) := by
  rcases hO with ⟨rfl, h, rfl⟩ | ⟨rfl, h, rfl⟩ | ⟨rfl | rfl, h⟩
  · exact findObj_cls (by k_is) (by k_is) (by k_is) rfl (by decide +kernel) h
  · exact findObj_cls (by k_is) (by k_is) (by k_is) rfl (by decide +kernel) h
  · exact findObj_own (attr := some (.int 500 208)) (by k_is) (by k_is) (by k_is) h
  · exact findObj_own (attr := some (.int 1000 253)) (by k_is) (by k_is) (by k_is) h
theorem hd_cls {C : Addr} {es : List DictEntry} (hO : OrdV C es v) : C = 52 ∨ C = 73 := by
  rcases hO with ⟨rfl, _⟩ | ⟨rfl, _⟩ | ⟨h, _⟩
  · exact .inl rfl
  · exact .inr rfl
  · exact h
theorem hd_ga (w : World) {C : Addr} (h : C = 52 ∨ C = 73) : findIn (Mine.hd.heap_39 w.params) (.ref C) "__getattribute__" = some (some (.builtin "object.__getattribute__")) ∧ mroIn (Mine.hd.heap_39 w.params) C (.type "module") = some false := by
  rcases h with rfl | rfl
  · exact ⟨by k_is, by k_is⟩
  · exact ⟨by k_is, by k_is⟩
theorem get_order {expr : Bool} {Q : Value → Shared → Prop} (F : Fr h₀ L s.heap m) (X : (Mine.hd.heap_39 w.params).In h₀) (N : News h₀ L s.heap news) (H : HdV news x v) (hv : handedIn v = true)
    (h : Q v { s with toks := s.toks + 1 }) : wpAny (model PySem.Challenge.rw_dn0254_02.row.prog w) A (getAttr (.ref x) "handler_order" expr) Q E s := by
  obtain ⟨C, dx, es, n, h1, h2, hO⟩ := H
  exact get_value (X.keeps F.keep) (InstAt.of_news N h1 h2) (hd_ga w (hd_cls hO)).1 (find_order w (n := n) hO) hv h
theorem has_order {Q : Value → Shared → Prop} {tk : Tok} (F : Fr h₀ L s.heap m) (X : (Mine.hd.heap_39 w.params).In h₀) (N : News h₀ L s.heap news) (H : HdV news x v) (hv : handedIn v = true)
    (h : Q (.bool true) s) : wpAny (model PySem.Challenge.rw_dn0254_02.row.prog w) A (call (.builtin "hasattr") [.ref x, .str "handler_order" tk]) Q E s := by
  obtain ⟨C, dx, es, n, h1, h2, hO⟩ := H
  exact hasattr_yes F X (InstAt.of_news N h1 h2) (hd_ga w (hd_cls hO)).1 (hd_ga w (hd_cls hO)).2 (find_order w (n := n) hO) hv h
local macro_rules | `(tactic| walk_at "getAttr ref") => `(tactic| (k_here; (with_reducible show wpAny _ _ (getAttr (Value.ref _) (PySem.Str.ofString "handler_order") _) _ _ _); k_dflt (refine' get_order ?k1 ?k2 ?k3 ?k4 ?k5 ?_; (case k1 => k_asm); (case k2 => k_asm); (case k3 => k_asm); (case k4 => assumption); (case k5 => rfl); k_whole)))
local macro_rules | `(tactic| walk_at "call builtin:hasattr") => `(tactic| (k_here; k_dflt (refine' has_order ?k1 ?k2 ?k3 ?k4 ?k5 ?_; (case k1 => k_asm); (case k2 => k_asm); (case k3 => k_asm); (case k4 => assumption); (case k5 => rfl); k_whole)))
theorem lt_call {Q : Value → Shared → Prop} {p : Program} {loose : List Str} {mean : ExcName → Option Value} {mg mb : Str → Option Value} {dp un : Nat} {gd : Option (List Code)} {cn : Str} {cs : Scope} {a : Addr} {ccd : Value} {cl : List (Str × Addr)} {outer : List Env} {A₀ : Around} {base : Heap} {o o' : Int} {t t' : Tok}
    (B : Below A₀ base outer h₀) (F : Fr h₀ L s.heap m) (X : (Mine.hd.heap_39 w.params).In h₀) (N : News h₀ L s.heap news) (T : Top p loose mean mg mb h₀) (hk : cs.kind = .function) (hx : HdV news x (.int o t)) (hy : HdV news y (.int o' t')) (hd : dp + 1 < recursionLimit) (hu : un + 8 < cLine)
    (ret : ∀ h' tk', Fr h₀ L h' m → News h₀ L h' news → Q (.bool (decide (o < o'))) { s with heap := h', toks := tk' }) :
    wpAny (model PySem.Challenge.rw_dn0254_02.row.prog w) (ktrTop dp un gd cn cs L a ccd cl outer) (call (.ref 49) [.ref x, .ref y]) Q E s := by
  refine wpAny_call ?_
  k_dflt ktr_enter
  k_steps
  exact ret _ _ (by k_asm) (by k_asm)
theorem lt_cmp {Q : Value → Shared → Prop} {p : Program} {loose : List Str} {mean : ExcName → Option Value} {mg mb : Str → Option Value} {dp un : Nat} {gd : Option (List Code)} {cn : Str} {cs : Scope} {a : Addr} {ccd : Value} {cl : List (Str × Addr)} {outer : List Env} {A₀ : Around} {base : Heap} {o o' : Int} {t t' : Tok}
    (B : Below A₀ base outer h₀) (F : Fr h₀ L s.heap m) (X : (Mine.hd.heap_39 w.params).In h₀) (N : News h₀ L s.heap news) (T : Top p loose mean mg mb h₀) (hk : cs.kind = .function) (hx : HdV news x (.int o t)) (hy : HdV news y (.int o' t')) (hd : dp + 1 < recursionLimit) (hu : un + 8 < cLine)
    (ret : ∀ h' tk', Fr h₀ L h' m → News h₀ L h' news → Q (.bool (decide (o < o'))) { s with heap := h', toks := tk' }) :
    wpAny (model PySem.Challenge.rw_dn0254_02.row.prog w) (ktrTop dp un gd cn cs L a ccd cl outer) (compareOp .Lt (.ref x) (.ref y)) Q E s := by
  have c := lt_call (E := E) (Q := W.CmpBack Q) (gd := gd) (cn := cn) (a := a) (ccd := ccd) (cl := cl) B F X N T hk hx hy hd hu ret
  obtain ⟨C, dx, es, n, h1, h2, hO⟩ := hx
  obtain ⟨D, dy, es', n', g1, g2, gO⟩ := hy
  have I := InstAt.of_news N h1 h2
  have J := InstAt.of_news N g1 g2
  refine cmp_ofLt ?_
  have hu' : (ktrTop dp un gd cn cs L a ccd cl outer).units < cLine := by show un < cLine; omega
  rcases hd_cls hO with rfl | rfl <;> rcases hd_cls gO with rfl | rfl
  · exact lt_inst hu' F X I J.type (.inl rfl) (by k_is) (by k_is) c
  · exact lt_inst hu' F X I J.type (.inr (.inr ⟨_, _, _, _, rfl, rfl, J, by k_is, by k_is, by k_is⟩)) (by k_is) (by k_is) c
  · exact lt_inst hu' F X I J.type (.inr (.inl (by k_is))) (by k_is) (by k_is) c
  · exact lt_inst hu' F X I J.type (.inl rfl) (by k_is) (by k_is) c
theorem allLt_ne {d : Addr} : ∀ {l : List (Addr × Obj)}, W.AllLt d l → ∀ p ∈ l, p.1 ≠ d
  | [], _, _, h => nomatch h
  | _ :: _, h, _, .head _ => Nat.ne_of_lt h.1
  | _ :: _, h, p, .tail _ hp => allLt_ne h.2 p hp
local macro_rules | `(tactic| k_all) => `(tactic| exact allLt_ne (by assumption))
local macro_rules | `(tactic| keq_rows) => `(tactic| first | exact and1 (by assumption) | exact and2 (by assumption) | exact and3 (by assumption) | exact and4 (by assumption) | exact allLt_of (by assumption) | exact allLt_le (by assumption) (Nat.le_of_lt (by assumption)))
theorem make_call {Q : Value → Shared → Prop} {p : Program} {loose : List Str} {mean : ExcName → Option Value} {mg mb : Str → Option Value} {dp un : Nat} {gd : Option (List Code)} {cn : Str} {cs : Scope} {a : Addr} {ccd : Value} {cl : List (Str × Addr)} {outer : List Env} {A₀ : Around} {base : Heap}
    {n : Int} {t : Tok}
    (B : Below A₀ base outer h₀) (F : Fr h₀ L s.heap m) (X : (Mine.hd.heap_39 w.params).In h₀) (N : News h₀ L s.heap news) (T : Top p loose mean mg mb h₀) (hk : cs.kind = .function) (hd : dp + 5 < recursionLimit) (hu : un + 50 < cLine)
    (ret : ∀ h' tk' nw new tup x o to t', Fr h₀ L h' m → News h₀ L h' nw → Made news nw new → (tup, { cls := .type "tuple", data := .seq #[.ref x, .int o to] }) ∈ new → HdV new x (.int o t') → Q (.ref tup) { s with heap := h', toks := tk' }) :
    wpAny (model PySem.Challenge.rw_dn0254_02.row.prog w) (ktrTop dp un gd cn cs L a ccd cl outer) (call (.ref 82) [.int n t]) Q E s := by
  refine wpAny_call ?_
  k_dflt ktr_enter
  k_steps
  · exact ret _ _ _ _ _ _ _ _ _ (by assumption) (by assumption) (made_cons (by keq_rows) (made_cons (by keq_rows) (made_cons (by keq_rows) made_nil))) (by k_mem) ⟨_, _, _, _, by k_mem, by k_mem, .inl ⟨rfl, rfl, rfl⟩⟩
  · exact ret _ _ _ _ _ _ _ _ _ (by assumption) (by assumption) (made_cons (by keq_rows) (made_cons (by keq_rows) (made_cons (by keq_rows) made_nil))) (by k_mem) ⟨_, _, _, _, by k_mem, by k_mem, .inr (.inl ⟨rfl, rfl, rfl⟩)⟩
  · exact ret _ _ _ _ _ _ _ _ _ (by assumption) (by assumption) (made_cons (by keq_rows) (made_cons (by keq_rows) (made_cons (by keq_rows) made_nil))) (by k_mem) ⟨_, _, _, _, by k_mem, by k_mem, .inr (.inr ⟨.inl rfl, rfl⟩)⟩
  · exact ret _ _ _ _ _ _ _ _ _ (by assumption) (by assumption) (made_cons (by keq_rows) (made_cons (by keq_rows) (made_cons (by keq_rows) made_nil))) (by k_mem) ⟨_, _, _, _, by k_mem, by k_mem, .inr (.inr ⟨.inr rfl, rfl⟩)⟩
  · exact ret _ _ _ _ _ _ _ _ _ (by assumption) (by assumption) (made_cons (by keq_rows) (made_cons (by keq_rows) (made_cons (by keq_rows) made_nil))) (by k_mem) ⟨_, _, _, _, by k_mem, by k_mem, .inr (.inr ⟨.inl rfl, rfl⟩)⟩
end
end Mine


namespace Mine
theorem fill2 : PySem.Challenge.rw_dn0254_02.row.prog = PySem.Challenge.rw_dn0254_02.row.prog ∧ Mine.hd.heap_39 = Mine.hd.heap_39 := by
  w_top off
  k_fill
  exact ⟨rfl, rfl⟩
theorem updF_upd {d : Addr} {o o' : Obj} : ∀ {l : List (Addr × Obj)} {g : Obj → List (Addr × Obj)}, UpdF d o l g → Upd d o o' l (g o')
  | _, _, .head h => .head h
  | _, _, .tail h r => .tail h (updF_upd r)
/-- the row: its values, and their orders -/
structure RowIn (news : List (Addr × Obj)) (vs : List Value) (os : List Int) : Prop where
  len : vs.length = os.length
  at_ : ∀ (i : Nat) (o : Int), os[i]? = some o → ∃ (y : Addr) (t : Tok), vs[i]? = some (Value.ref y) ∧ HdV news y (.int o t)
  up : os.Pairwise (· ≤ ·)
theorem int_name {m : Str → Option Value} {k : Str} {i j : Int} {t : Tok} (h : m k = some (.int i t)) (e : i = j) : ∃ t, m k = some (.int j t) := ⟨t, e ▸ h⟩
def LoopP (news : List (Addr × Obj)) (row x : Addr) (o : Int) (os : List Int) (fuel : Nat) (m₁ : Str → Option Value) (nw : List (Addr × Obj)) : Prop :=
  nw = news ∧ ∃ (lo hi : Nat), lo ≤ hi ∧ hi ≤ os.length ∧ fuel = hi - lo ∧ (∀ (i : Nat) (z : Int), os[i]? = some z → i < lo → z ≤ o) ∧ (∀ (i : Nat) (z : Int), os[i]? = some z → hi ≤ i → o < z) ∧
    (∃ t, m₁ "low" = some (.int lo t)) ∧ (∃ t, m₁ "high" = some (.int hi t)) ∧ m₁ "row" = some (.ref row) ∧ m₁ "new" = some (.ref x)
section
variable {w : World} {A : Around} {E : Value → Shared → Prop} {s : Shared} {x y L : Addr} {h₀ : Heap} {m : Str → Option Value} {news : List (Addr × Obj)}
local macro_rules | `(tactic| keq_rows) => `(tactic| first | (k_unfold; (try dsimp only)) | walk1 | (dsimp only; walk1))
local macro_rules | `(tactic| keq_hits) => `(tactic| repeat' ((fail_if_success (with_reducible show wpAny _ _ (exec (PySem.Stmt.While _ _ _ _) _) _ _ _)); keq_rows))
local macro_rules | `(tactic| walk_at "call builtin:len") => `(tactic| (k_here; (with_reducible show wpAny _ _ (call (Value.builtin "len") [Value.ref _]) _ _ _); k_dflt (refine' len_led ?k1 ?k2 ?k3 ?_; (case k1 => k_asm); (case k2 => assumption); (case k3 => assumption); k_whole)))
local macro_rules | `(tactic| walk_at "compareOp Lt ref") => `(tactic| (k_here; (with_reducible show wpAny _ _ (compareOp CmpOp.Lt (Value.ref _) (Value.ref _)) _ _ _); k_dflt (refine' lt_cmp ?k1 ?k2 ?k3 ?k4 ?k5 ?k6 ?k7 ?k8 ?k9 ?k10 ?_; (case k1 => k_asm); (case k2 => k_asm); (case k3 => k_asm); (case k4 => k_asm); (case k5 => k_asm); (case k6 => exact rfl); (case k7 => assumption); (case k8 => assumption); (case k9 => ktr_room); (case k10 => ktr_units); k_whole); intro h' tk' F' N'))
local macro_rules | `(tactic| walk_at "subscriptTail") => `(tactic| (k_here; (with_reducible show wpAny _ _ (subscriptTail _ _ (Value.ref _) (Value.int _ _)) _ _ _); k_dflt (refine' item_led ?k1 ?k2 ?k3 ?k4 ?k5 ?_ ?k6; (case k1 => k_asm); (case k2 => assumption); (case k5 => assumption); (case k3 => assumption); (case k4 => assumption); (case k6 => with_unfolding_all rfl); k_whole)))
local macro_rules | `(tactic| walk_at "call builtin:list.insert") => `(tactic| (k_here; (with_reducible show wpAny _ _ (call (Value.builtin _) [Value.ref _, Value.int _ _, _]) _ _ _); k_dflt (refine' insert_led ?F ?N ?k ?z ?U ?_; (case F => k_asm); (case N => k_asm); (case k => assumption); (case z => assumption); (case U => exact updF_upd (by assumption))); intro h' F' N'))
theorem put_call {Q : Value → Shared → Prop} {p : Program} {loose : List Str} {mean : ExcName → Option Value} {mg mb : Str → Option Value} {dp un : Nat} {gd : Option (List Code)} {cn : Str} {cs : Scope} {a : Addr} {ccd : Value} {cl : List (Str × Addr)} {outer : List Env} {A₀ : Around} {base : Heap}
    {row : Addr} {vs : List Value} {os : List Int} {o : Int} {t : Tok} {n : Nat} {g : Obj → List (Addr × Obj)}
    (B : Below A₀ base outer h₀) (F : Fr h₀ L s.heap m) (X : (Mine.hd.heap_39 w.params).In h₀) (N : News h₀ L s.heap news) (T : Top p loose mean mg mb h₀) (hk : cs.kind = .function) (hd : dp + 5 < recursionLimit) (hu : un + 50 < cLine)
    (hrow : (row, W.listOf vs.toArray n) ∈ news) (U : UpdF row (W.listOf vs.toArray n) news g) (hR : RowIn news vs os) (hx : HdV news x (.int o t)) (hz : vs.length ≤ 60)
    (ret : ∀ h' tk' pre suf n', vs = pre ++ suf → (∀ (i : Nat) (z : Int), os[i]? = some z → i < pre.length → z ≤ o) → (∀ (i : Nat) (z : Int), os[i]? = some z → pre.length ≤ i → o < z) → Fr h₀ L h' m → News h₀ L h' (g (W.listOf (pre ++ Value.ref x :: suf).toArray n')) → Q .none { s with heap := h', toks := tk' }) :
    wpAny (model PySem.Challenge.rw_dn0254_02.row.prog w) (ktrTop dp un gd cn cs L a ccd cl outer) (call (.ref 89) [.ref row, .ref x]) Q E s := by
  have hz2 : vs.length ≤ 2 ^ 20 := by omega
  have hvo := hR.len
  refine wpAny_call ?_
  k_dflt ktr_enter
  keq_hits
  rename Fr _ _ _ _ => F1
  rename News _ _ _ _ => N1
  replace N1 := news_sub N1 (news' := news) (fun p hp => .tail _ hp)
  refine While_inv2 (n₀ := vs.length) (LoopP news row x o os) F1 N1 ⟨rfl, 0, vs.length, Nat.zero_le _, by omega, by omega, (fun i z _ h => by omega), (fun i z h1 h2 => ?_), ⟨_, rfl⟩, ⟨_, rfl⟩, rfl, rfl⟩ ?turn
  · have := (List.getElem?_eq_some_iff.mp h1).1
    omega
  case turn =>
    clear F1 N1
    intro fuel m₁ nw h tk F2 N2 hJ
    obtain ⟨rfl, lo, hi, l1, l2, hf, lb, hb, ⟨t1, m1⟩, ⟨t2, m2⟩, m3, m4⟩ := hJ
    replace F2 := fr_f4 F2 m1 m2 m3 m4
    by_cases hlt : lo < hi
    · have hmid : os[(lo + hi) / 2]? = some os[(lo + hi) / 2] := by simp
      obtain ⟨y, ty, hv, hy⟩ := hR.at_ _ _ hmid
      have em : (Int.fdiv ((lo : Int) + (hi : Int)) 2).toNat = (lo + hi) / 2 := by
        rw [Int.fdiv_eq_ediv_of_nonneg _ (by decide)]; omega
      have k0 : 0 ≤ Int.fdiv ((lo : Int) + (hi : Int)) 2 := by rw [Int.fdiv_eq_ediv_of_nonneg _ (by decide)]; omega
      have k1 : Int.fdiv ((lo : Int) + (hi : Int)) 2 < 2 ^ 63 := by rw [Int.fdiv_eq_ediv_of_nonneg _ (by decide)]; omega
      have hv' : vs[(Int.fdiv ((lo : Int) + (hi : Int)) 2).toNat]? = some (.ref y) := by rw [em]; exact hv
      have em2 : Int.fdiv ((lo : Int) + (hi : Int)) 2 = (((lo + hi) / 2 : Nat) : Int) := by omega
      have em3 : Int.fdiv ((lo : Int) + (hi : Int)) 2 + 1 = (((lo + hi) / 2 + 1 : Nat) : Int) := by omega
      have hup : ∀ (i j : Nat) (z z' : Int), os[i]? = some z → os[j]? = some z' → i ≤ j → z ≤ z' := fun i j z z' h1 h2 hij => by
        obtain ⟨b1, e1⟩ := List.getElem?_eq_some_iff.mp h1
        obtain ⟨b2, e2⟩ := List.getElem?_eq_some_iff.mp h2
        rcases Nat.lt_or_eq_of_le hij with q | q
        · have := List.pairwise_iff_getElem.mp hR.up i j b1 b2 q
          rw [e1, e2] at this; exact this
        · subst q
          rw [h1] at h2
          have := Option.some.inj h2
          omega
      repeat' keq_rows
      · refine ⟨_, _, _, _, (lo + hi) / 2 - lo, rfl, by k_asm, by k_asm, by omega, rfl, lo, (lo + hi) / 2, by omega, by omega, rfl, lb, fun i z h1 h2 => ?_, ⟨_, rfl⟩, int_name rfl em2, rfl, rfl⟩
        · have := hup _ _ _ _ hmid h1 h2
          omega
      · refine ⟨_, _, _, _, hi - ((lo + hi) / 2 + 1), rfl, by k_asm, by k_asm, by omega, rfl, (lo + hi) / 2 + 1, hi, by omega, by omega, rfl, fun i z h1 h2 => ?_, hb, int_name rfl em3, ⟨_, rfl⟩, rfl, rfl⟩
        · have := hup _ _ _ _ h1 hmid (by omega)
          omega
    · have e : lo = hi := by omega
      subst e
      obtain ⟨pre, suf, rfl, hpl⟩ : ∃ pre suf, vs = pre ++ suf ∧ pre.length = lo := ⟨vs.take lo, vs.drop lo, (List.take_append_drop ..).symm, by rw [List.length_take]; omega⟩
      have hpk : ((lo : Nat) : Int) = (pre.length : Int) := by omega
      k_steps
      exact ret _ _ pre suf _ rfl (fun i z h1 h2 => lb i z h1 (by omega)) (fun i z h1 h2 => hb i z h1 (by omega)) (by k_asm) (by k_asm)
end
end Mine


namespace Mine
theorem fill3 : PySem.Challenge.rw_dn0254_02.row.prog = PySem.Challenge.rw_dn0254_02.row.prog ∧ Mine.hd.heap_39 = Mine.hd.heap_39 := by
  w_top off
  k_fill
  exact ⟨rfl, rfl⟩
theorem perm_unique {α : Type} {r : α → α → Prop} (as : ∀ a b, r a b → ¬ r b a) : ∀ {l l' : List α}, l.Perm l' → l.Pairwise r → l'.Pairwise r → l = l'
  | [], l', h, _, _ => (List.Perm.nil_eq h)
  | a :: t, [], h, _, _ => absurd h.length_eq (by simp)
  | a :: t, b :: t', h, h1, h2 => by
    have e : a = b := by
      have ha : a ∈ b :: t' := h.mem_iff.mp (.head _)
      have hb : b ∈ a :: t := h.mem_iff.mpr (.head _)
      rcases List.mem_cons.mp ha with q | q
      · exact q
      · rcases List.mem_cons.mp hb with q' | q'
        · exact q'.symm
        · exact absurd ((List.pairwise_cons.mp h2).1 a q) (as _ _ ((List.pairwise_cons.mp h1).1 b q'))
    subst e
    rw [perm_unique as ((List.perm_cons a).mp h) (List.pairwise_cons.mp h1).2 (List.pairwise_cons.mp h2).2]
/-- a handler that was made: its place, its order -/
structure HM where
  x : Addr
  o : Int
def hmAt (M : List HM) (k : Nat) : HM := M.getD k ⟨0, 0⟩
def KLt (M : List HM) (i j : Nat) : Prop := (hmAt M i).o < (hmAt M j).o ∨ (hmAt M i).o = (hmAt M j).o ∧ i < j
structure Core (W : List (Addr × Obj)) (M : List HM) (R : List PR) (K : List Nat) : Prop where
  hm : ∀ r ∈ M, ∃ t, HdV W r.x (.int r.o t)
  pr : ∀ r ∈ R, PairIn W r
  ro : ∀ r ∈ R, ∃ k : Nat, r.k = (k : Int) ∧ k < M.length ∧ r.o = (hmAt M k).o
  kb : ∀ k ∈ K, k < M.length
  kp : K.Pairwise (KLt M)
  perm : (R.map (·.k)).Perm (K.map fun k : Nat => (k : Int))
def rowV (M : List HM) (K : List Nat) : List Value := K.map fun k => Value.ref (hmAt M k).x
def madeV (M : List HM) : List Value := M.map fun r => Value.ref r.x
section
variable {W W' : List (Addr × Obj)} {M : List HM} {R R' : List PR} {K : List Nat}
theorem HdV.mono {a b : List (Addr × Obj)} {x : Addr} {v : Value} (hs : ∀ p ∈ a, p ∈ b) (h : HdV a x v) : HdV b x v := by
  obtain ⟨C, dx, es, n, h1, h2, h3⟩ := h
  exact ⟨C, dx, es, n, hs _ h1, hs _ h2, h3⟩
theorem PairIn.mono {a b : List (Addr × Obj)} {r : PR} (hs : ∀ p ∈ a, p ∈ b) (h : PairIn a r) : PairIn b r := by
  obtain ⟨n, t, u, h⟩ := h; exact ⟨n, t, u, hs _ h⟩
theorem Core.mono (hs : ∀ p ∈ W, p ∈ W') (h : Core W M R K) : Core W' M R K := ⟨fun r hr => let ⟨t, q⟩ := h.hm r hr; ⟨t, q.mono hs⟩, fun r hr => (h.pr r hr).mono hs, h.ro, h.kb, h.kp, h.perm⟩
theorem Core.nil : Core W [] [] [] := ⟨(fun _ h => nomatch h), (fun _ h => nomatch h), (fun _ h => nomatch h), (fun _ h => nomatch h), .nil, .nil⟩
theorem klt_asymm (i j : Nat) (h : KLt M i j) : ¬ KLt M j i := by unfold KLt at *; omega
theorem hmAt_mem {k : Nat} (h : k < M.length) : hmAt M k ∈ M := by simp [hmAt, List.getD, h]
theorem Core.dist (h : Core W M R K) : R.Pairwise fun r r' => r.k ≠ r'.k := by
  have nd : (K.map fun k : Nat => (k : Int)).Nodup := by
    rw [List.Nodup, List.pairwise_map]
    exact h.kp.imp fun {a b} q e => by
      have e' : a = b := by omega
      subst e'
      unfold KLt at q; omega
  have := h.perm.nodup_iff.mpr nd
  rw [List.Nodup, List.pairwise_map] at this
  exact this
/-- sorted pairs stand as the row stands -/
theorem Core.sorted (h : Core W M R K) (hp : R'.Perm R) (hs : R'.Pairwise PLt) : Core W M R' K ∧ R'.map (·.k) = K.map fun k : Nat => (k : Int) := by
  have h' : Core W M R' K := ⟨h.hm, fun r hr => h.pr r (hp.mem_iff.mp hr), fun r hr => h.ro r (hp.mem_iff.mp hr), h.kb, h.kp, (hp.map _).trans h.perm⟩
  refine ⟨h', ?_⟩
  let r2 : Int → Int → Prop := fun i j => KLt M i.toNat j.toNat ∧ 0 ≤ i ∧ 0 ≤ j
  refine perm_unique (r := r2) (fun a b q q' => klt_asymm _ _ q.1 q'.1) h'.perm ?_ ?_
  · rw [List.pairwise_map]
    refine hs.imp_of_mem fun {a b} ha hb q => ?_
    obtain ⟨k, e1, _, e2⟩ := h'.ro a ha
    obtain ⟨k', e1', _, e2'⟩ := h'.ro b hb
    refine ⟨?_, by omega, by omega⟩
    rw [e1, e1']
    unfold PLt at q
    unfold KLt
    simp only [Int.toNat_natCast]
    omega
  · rw [List.pairwise_map]
    exact h.kp.imp fun {a b} q => ⟨by simpa using q, by omega, by omega⟩
theorem Core.len (h : Core W M R K) : R.length = K.length := by simpa using h.perm.length_eq
/-- one is let go -/
theorem Core.pop {r1 r2 : List PR} {r : PR} {k1 k2 : List Nat} {k : Nat} (h : Core W M (r1 ++ r :: r2) (k1 ++ k :: k2)) (he : r.k = (k : Int)) : Core W M (r1 ++ r2) (k1 ++ k2) := by
  refine ⟨h.hm, fun q hq => h.pr q ?_, fun q hq => h.ro q ?_, fun q hq => h.kb q ?_, ?_, ?_⟩
  · rcases List.mem_append.mp hq with hq | hq
    · exact List.mem_append_left _ hq
    · exact List.mem_append_right _ (.tail _ hq)
  · rcases List.mem_append.mp hq with hq | hq
    · exact List.mem_append_left _ hq
    · exact List.mem_append_right _ (.tail _ hq)
  · rcases List.mem_append.mp hq with hq | hq
    · exact List.mem_append_left _ hq
    · exact List.mem_append_right _ (.tail _ hq)
  · have := h.kp
    rw [List.pairwise_append, List.pairwise_cons] at this
    rw [List.pairwise_append]
    exact ⟨this.1, this.2.1.2, fun a ha b hb => this.2.2 a ha b (.tail _ hb)⟩
  · have := h.perm
    simp only [List.map_append, List.map_cons] at this ⊢
    rw [he] at this
    exact (List.perm_cons (k : Int)).mp ((List.perm_middle.symm.trans this).trans List.perm_middle)
theorem hmAt_old {m : HM} {k : Nat} (h : k < M.length) : hmAt (M ++ [m]) k = hmAt M k := by
  simp [hmAt, List.getD, List.getElem?_append_left h]
theorem hmAt_new {m : HM} : hmAt (M ++ [m]) M.length = m := by simp [hmAt, List.getD]
theorem rowV_old {m : HM} (h : ∀ k ∈ K, k < M.length) : rowV (M ++ [m]) K = rowV M K := List.map_congr_left fun k hk => by rw [hmAt_old (h k hk)]
/-- a new one is put in -/
theorem Core.put {k1 k2 : List Nat} {m : HM} {r : PR} (h : Core W M R (k1 ++ k2)) (hs : ∀ p ∈ W, p ∈ W') (hm : ∃ t, HdV W' m.x (.int m.o t)) (hr : PairIn W' r) (ho : r.o = m.o) (hk : r.k = (M.length : Int))
    (lo : ∀ k ∈ k1, (hmAt M k).o ≤ m.o) (hi : ∀ k ∈ k2, m.o < (hmAt M k).o) : Core W' (M ++ [m]) (R ++ [r]) (k1 ++ M.length :: k2) := by
  have hb1 : ∀ k ∈ k1, k < M.length := fun k hk => h.kb k (List.mem_append_left _ hk)
  have hb2 : ∀ k ∈ k2, k < M.length := fun k hk => h.kb k (List.mem_append_right _ hk)
  have h' := h.mono hs
  refine ⟨fun q hq => ?_, fun q hq => ?_, fun q hq => ?_, fun k hk => ?_, ?_, ?_⟩
  · rcases List.mem_append.mp hq with hq | hq
    · exact h'.hm q hq
    · rw [List.mem_singleton.mp hq]; exact hm
  · rcases List.mem_append.mp hq with hq | hq
    · exact h'.pr q hq
    · rw [List.mem_singleton.mp hq]; exact hr
  · rcases List.mem_append.mp hq with hq | hq
    · obtain ⟨k, e1, e2, e3⟩ := h'.ro q hq
      exact ⟨k, e1, by simp; omega, by rw [hmAt_old e2]; exact e3⟩
    · rw [List.mem_singleton.mp hq]
      exact ⟨M.length, hk, by simp, by rw [hmAt_new]; exact ho⟩
  · simp only [List.length_append, List.length_cons, List.length_nil]
    rcases List.mem_append.mp hk with hk | hk
    · have := hb1 k hk; omega
    · rcases List.mem_cons.mp hk with rfl | hk
      · omega
      · have := hb2 k hk; omega
  · have := h.kp
    rw [List.pairwise_append] at this
    have old : ∀ i j, i < M.length → j < M.length → KLt M i j → KLt (M ++ [m]) i j := fun i j hi hj q => by
      unfold KLt at *; rw [hmAt_old hi, hmAt_old hj]; exact q
    rw [List.pairwise_append, List.pairwise_cons]
    refine ⟨this.1.imp_of_mem fun ha hb q => old _ _ (hb1 _ ha) (hb1 _ hb) q, ⟨fun b hb => ?_, this.2.1.imp_of_mem fun ha hb q => old _ _ (hb2 _ ha) (hb2 _ hb) q⟩, fun a ha b hb => ?_⟩
    · have q := hi b hb
      unfold KLt; rw [hmAt_new, hmAt_old (hb2 b hb)]; exact .inl q
    · rcases List.mem_cons.mp hb with rfl | hb
      · have q := lo a ha
        have q2 := hb1 a ha
        unfold KLt; rw [hmAt_new, hmAt_old q2]; omega
      · exact old _ _ (hb1 a ha) (hb2 b hb) (this.2.2 a ha b hb)
  · simp only [List.map_append, List.map_cons, List.map_nil]
    rw [hk]
    refine (List.perm_append_comm (l₁ := R.map (·.k)) (l₂ := [(M.length : Int)])).trans ?_
    refine List.Perm.trans ?_ List.perm_middle.symm
    refine List.Perm.cons _ ?_
    have := h.perm
    rw [List.map_append] at this
    exact this
/-- the row for the walk that puts in -/
theorem Core.row (h : Core W M R K) : RowIn W (rowV M K) (K.map fun k => (hmAt M k).o) := by
  refine ⟨by simp [rowV], fun i o ho => ?_, ?_⟩
  · rw [List.getElem?_map] at ho
    cases e : K[i]? with
    | none => rw [e] at ho; cases ho
    | some k =>
      rw [e] at ho
      obtain rfl := Option.some.inj ho
      have hk := h.kb k (List.mem_of_getElem? e)
      obtain ⟨t, q⟩ := h.hm _ (hmAt_mem hk)
      exact ⟨(hmAt M k).x, t, by simp [rowV, e], q⟩
  · rw [List.pairwise_map]
    exact h.kp.imp fun {a b} q => by unfold KLt at q; omega
end
end Mine


namespace Mine
theorem fill9 : PySem.Challenge.rw_dn0254_02.row.prog = PySem.Challenge.rw_dn0254_02.row.prog ∧ Mine.hd.heap_39 = Mine.hd.heap_39 := by
  k_fill
  exact ⟨rfl, rfl⟩
section
variable {prog : Program} {w : World} {A : Around} {E : Value → Shared → Prop} {s : Shared} {h₀ : Heap} {L D : Addr} {m : Str → Option Value} {news : List (Addr × Obj)}
theorem sort_led {R : List PR} {n : Nat} {Q : Value → Shared → Prop} {g : Obj → List (Addr × Obj)} (F : Fr h₀ L s.heap m) (N : News h₀ L s.heap news) (U : UpdF D (W.listOf (refsP R).toArray n) news g) (hin : ∀ r ∈ R, PairIn news r) (h64 : R.length < 64)
    (hdist : R.Pairwise fun r r' => r.k ≠ r'.k)
    (h : ∀ h' c R', R'.Perm R → R'.Pairwise PLt → Fr h₀ L h' m → News h₀ L h' (g (W.listOf (refsP R').toArray c)) → Q .none { s with heap := h' }) :
    wpAny (model prog w) A (call (.builtin "list.sort") [.ref D]) Q E s := by
  obtain ⟨pre, post, e0, hg, x1, x2⟩ := U.split
  subst e0
  have N' : News h₀ L s.heap ((D, W.listOf (refsP R).toArray n) :: (pre ++ post)) := fun p hp => N p (by
    rcases List.mem_cons.mp hp with rfl | hp
    · exact List.mem_append_right _ (.head _)
    · rcases List.mem_append.mp hp with hp | hp
      · exact List.mem_append_left _ hp
      · exact List.mem_append_right _ (.tail _ hp))
  refine sort_pairs F N' (fun p hp => (List.mem_append.mp hp).elim (x1 p) (x2 p)) (fun r hr => ?_) h64 hdist fun h' c R' hp hs F' N'' => h h' c R' hp hs F' ?_
  · obtain ⟨k, t, u, q⟩ := hin r hr
    refine ⟨k, t, u, ?_⟩
    rcases List.mem_append.mp q with q | q
    · exact List.mem_append_left _ q
    · rcases List.mem_cons.mp q with q | q
      · have := congrArg (fun p => p.2.cls) q
        exact absurd (show Value.type "tuple" = Value.type "list" from this) (by decide)
      · exact List.mem_append_right _ q
  · rw [hg]
    intro p hp
    refine N'' p ?_
    rcases List.mem_append.mp hp with hp | hp
    · exact .tail _ (List.mem_append_left _ hp)
    · rcases List.mem_cons.mp hp with rfl | hp
      · exact .head _
      · exact .tail _ (List.mem_append_right _ hp)
end
theorem nodup_lt : ∀ (n : Nat) (K : List Nat), K.Nodup → (∀ k ∈ K, k < n) → K.length ≤ n
  | 0, K, _, hb => by
    cases K with
    | nil => simp
    | cons a r => exact absurd (hb a (.head _)) (by omega)
  | n + 1, K, nd, hb => by
    have h1 := nodup_lt n (K.erase n) (nd.erase n) fun k hk => by
      have := hb k (List.mem_of_mem_erase hk)
      have hne : k ≠ n := ((List.Nodup.mem_erase_iff nd).mp hk).1
      omega
    by_cases hm : n ∈ K
    · have := List.length_erase_of_mem hm
      omega
    · rw [List.erase_of_not_mem hm] at h1
      omega
theorem Core.kle {W : List (Addr × Obj)} {M : List HM} {R : List PR} {K : List Nat} (h : Core W M R K) : K.length ≤ M.length := by
  have nd : K.Nodup := h.kp.imp fun {a b} q e => by subst e; unfold KLt at q; omega
  exact nodup_lt _ K nd h.kb
theorem tail6 {h₀ h : Heap} {L : Addr} {a1 a2 a3 a4 a5 a6 : Addr × Obj} {T' : List (Addr × Obj)} {R : List PR} (_N : News h₀ L h (a1 :: a2 :: a3 :: a4 :: a5 :: a6 :: T')) (hr : ∀ r ∈ R, PairIn T' r) : ∀ r ∈ R, PairIn (a1 :: a2 :: a3 :: a4 :: a5 :: a6 :: T') r :=
  fun r q => (hr r q).mono fun p hp => .tail _ (.tail _ (.tail _ (.tail _ (.tail _ (.tail _ hp)))))
def LoopS (lm lp lr ls c2 c1 : Nat) (os oc2 oc1 : Obj) (i : Nat) (m₁ : Str → Option Value) (nw : List (Addr × Obj)) : Prop :=
  ∃ M R K T nm np nr, nw = (lm, W.listOf (madeV M).toArray nm) :: (lp, W.listOf (refsP R).toArray np) :: (lr, W.listOf (rowV M K).toArray nr) :: (ls, os) :: (c2, oc2) :: (c1, oc1) :: T ∧ Core T M R K ∧ M.length ≤ i ∧ (∀ p ∈ T, @LT.lt Nat _ lm p.1) ∧
    m₁ "pairs" = some (.ref lp)
local macro_rules | `(tactic| keq_rows) => `(tactic| first | (k_unfold; (try dsimp only)) | walk1 | (dsimp only; walk1))
local macro_rules | `(tactic| bits_by_make) => `(tactic| repeat' ((fail_if_success (with_reducible show wpAny _ _ (pyIter _) _ _ _)); keq_rows))
local macro_rules | `(tactic| keq_hits) => `(tactic| repeat' ((fail_if_success (with_reducible show wpAny _ _ (execs (PySem.Stmt.Assign [PySem.Expr.Name (PySem.Str.ofString "place") _] _ _ :: _) _) _ _ _)); (fail_if_success (with_reducible show wpAny _ _ (call (Value.ref 82) _) _ _ _)); keq_rows))
local macro_rules | `(tactic| walk_at "exec For Name Name cons nil") => `(tactic| (k_here; (rename Fr _ _ _ _ => lF'); (with_unfolding_all refine' For_invVF lF' ?k1 ?k2 ?_; (case k1 => exact rfl); (case k2 => exact rfl); k_whole)))
local macro_rules | `(tactic| walk_at "PostJ") => `(tactic| (dsimp only [PostJ]))
local macro_rules | `(tactic| k_mem) => `(tactic| ((with_reducible show List.Mem _ (_ ++ _)); assumption))
local macro_rules | `(tactic| k_all) => `(tactic| assumption)
local macro_rules | `(tactic| walk_at "call builtin:len") => `(tactic| (k_here; (with_reducible show wpAny _ _ (call (Value.builtin "len") [Value.ref _]) _ _ _); k_dflt (refine' len_led ?k1 ?k2 ?k3 ?_; (case k1 => k_asm); (case k2 => k_mem); (case k3 => assumption); k_whole)))
local macro_rules | `(tactic| walk_at "truthy ref") => `(tactic| (k_here; (with_reducible show wpAny _ _ (truthy (Value.ref _)) _ _ _); k_dflt (refine' truthy_led ?k1 ?k2 ?k3 ?_; (case k1 => k_asm); (case k2 => k_mem); (case k3 => assumption); k_whole)))
local macro_rules | `(tactic| walk_at "call builtin:list.sort") => `(tactic| (k_here; k_dflt (refine' sort_led ?F ?N ?U ?i ?z ?d ?_; (case F => k_asm); (case N => k_asm); (case U => k_updF); (case i => assumption); (case z => assumption); (case d => assumption)); intro h' c' R' hp' hs' F' N'; (try dsimp only at N')))
local macro_rules | `(tactic| walk_at "call builtin:list.pop") => `(tactic| (k_here; (with_reducible show wpAny _ _ (call (Value.builtin _) [Value.ref _, Value.int _ _]) _ _ _); k_dflt (refine' popAt_led ?F ?N ?k ?z ?U ?_; (case F => k_asm); (case N => k_asm); (case U => k_upd); (case k => assumption); (case z => assumption)); intro h' F' N'))
local macro_rules | `(tactic| walk_at "subscriptTail") => `(tactic| (k_here; (with_reducible show wpAny _ _ (subscriptTail _ _ (Value.ref _) (Value.int _ _)) _ _ _); k_dflt (refine' item_led ?k1 ?k2 ?k3 ?k4 ?k5 ?_ ?k6; (case k1 => k_asm); (case k2 => k_mem); (case k5 => assumption); (case k3 => assumption); (case k4 => assumption); (case k6 => with_unfolding_all rfl); k_whole)))
local macro_rules | `(tactic| walk_at "compareOp IsNot") => `(tactic| (k_here; k_dflt (with_reducible refine wpAny_isNot_ref_self ?_)))
theorem split_len {α : Type} (l : List α) {n : Nat} (h : n < l.length) : ∃ a x b, l = a ++ x :: b ∧ a.length = n := ⟨l.take n, l[n], l.drop (n + 1), by rw [List.getElem_cons_drop]; exact (List.take_append_drop ..).symm, by rw [List.length_take]; omega⟩
section
variable {h₀ h : Heap} {L : Addr} {T T' nw new : List (Addr × Obj)} {I b1 b2 b3 b4 b5 b6 : Addr} {o1 o2 o3 o4 o5 o6 q1 q2 q3 q4 q5 q6 : Obj} {a1 a2 a3 a4 a5 a6 : Addr × Obj}
theorem off6 (hh : ∀ p ∈ (b1, o1) :: (b2, o2) :: (b3, o3) :: (b4, o4) :: (b5, o5) :: (b6, o6) :: T, p.1 ≠ I) (hT : ∀ p ∈ T', p.1 ≠ I) : ∀ p ∈ (b1, q1) :: (b2, q2) :: (b3, q3) :: (b4, q4) :: (b5, q5) :: (b6, q6) :: T', p.1 ≠ I := fun p hp => by
  have c1 := hh (b1, o1) (.head _)
  have c2 := hh (b2, o2) (.tail _ (.head _))
  have c3 := hh (b3, o3) (.tail _ (.tail _ (.head _)))
  have c4 := hh (b4, o4) (.tail _ (.tail _ (.tail _ (.head _))))
  have c5 := hh (b5, o5) (.tail _ (.tail _ (.tail _ (.tail _ (.head _)))))
  have c6 := hh (b6, o6) (.tail _ (.tail _ (.tail _ (.tail _ (.tail _ (.head _))))))
  simp only [List.mem_cons] at hp
  rcases hp with rfl | rfl | rfl | rfl | rfl | rfl | hp
  · exact c1
  · exact c2
  · exact c3
  · exact c4
  · exact c5
  · exact c6
  · exact hT p hp
theorem made6 (hM : Made (a1 :: a2 :: a3 :: a4 :: a5 :: a6 :: T) nw new) (N : News h₀ L h nw) : News h₀ L h (a1 :: a2 :: a3 :: a4 :: a5 :: a6 :: (new ++ T)) := fun p hp => by
  refine N p ?_
  rw [hM.1]
  simp only [List.mem_cons, List.mem_append] at hp ⊢
  rcases hp with h | h | h | h | h | h | h | h
  · exact .inr (.inl h)
  · exact .inr (.inr (.inl h))
  · exact .inr (.inr (.inr (.inl h)))
  · exact .inr (.inr (.inr (.inr (.inl h))))
  · exact .inr (.inr (.inr (.inr (.inr (.inl h)))))
  · exact .inr (.inr (.inr (.inr (.inr (.inr (.inl h))))))
  · exact .inl h
  · exact .inr (.inr (.inr (.inr (.inr (.inr (.inr h))))))
theorem tail6' (_N : News h₀ L h (a1 :: a2 :: a3 :: a4 :: a5 :: a6 :: T)) : ∀ p ∈ T, p ∈ a1 :: a2 :: a3 :: a4 :: a5 :: a6 :: T := fun p hp => .tail _ (.tail _ (.tail _ (.tail _ (.tail _ (.tail _ hp)))))
end
theorem end_put {s : Shared} {h₀ h h' : Heap} {L I x tp : Addr} {m' : Str → Option Value} {lm lp lr ls c2 c1 nm np nr i tk tk' : Nat} {os oc2 oc1 : Obj} {T new own : List (Addr × Obj)} {M : List HM} {R : List PR} {K : List Nat} {pre suf : List Value} {o : Int} {to t2 t' : Tok} {q1 q2 q3 : Obj}
    (F : Fr h₀ L h' m') (N : News h₀ L h' ((tp, { cls := .type "tuple", data := .seq #[.int o to, .int ((madeV M).length : Int) t2] }) :: (lm, W.listOf (madeV M ++ [Value.ref x]).toArray nm) :: (lp, W.listOf (refsP R ++ [Value.ref tp]).toArray np) :: (lr, W.listOf (pre ++ Value.ref x :: suf).toArray nr) :: (ls, os) :: (c2, oc2) :: (c1, oc1) :: (new ++ (T ++ own))))
    (hC : Core T M R K) (hMi : M.length ≤ i) (hTl : ∀ p ∈ T, @LT.lt Nat _ lm p.1) (hvs : rowV M K = pre ++ suf)
    (hlo : ∀ (i : Nat) (z : Int), (K.map fun k => (hmAt M k).o)[i]? = some z → i < pre.length → z ≤ o) (hhi : ∀ (i : Nat) (z : Int), (K.map fun k => (hmAt M k).o)[i]? = some z → pre.length ≤ i → o < z)
    (hxn : HdV new x (.int o t')) (hnew : ∀ p ∈ new, @LT.lt Nat _ lm p.1 ∧ @LT.lt Nat _ I p.1) (htp : @LT.lt Nat _ lm tp ∧ @LT.lt Nat _ I tp)
    (hoI : ∀ p ∈ (lm, q1) :: (lp, q2) :: (lr, q3) :: (ls, os) :: (c2, oc2) :: (c1, oc1) :: T, p.1 ≠ I) (hm : m' "pairs" = some (.ref lp)) :
    EndJ h₀ L (LoopS lm lp lr ls c2 c1 os oc2 oc1 (i + 1)) own I { s with heap := h, toks := tk } { s with heap := h', toks := tk' } := by
  have hpl : pre.length ≤ K.length := by
    have := congrArg List.length hvs
    simp only [rowV, List.length_map, List.length_append] at this
    omega
  have eK : K = K.take pre.length ++ K.drop pre.length := (List.take_append_drop ..).symm
  have hl1 : (K.take pre.length).length = pre.length := by rw [List.length_take]; omega
  have e12 : rowV M (K.take pre.length) ++ rowV M (K.drop pre.length) = pre ++ suf := by
    rw [← hvs]
    conv => rhs; rw [eK]
    simp [rowV]
  obtain ⟨e1, e2⟩ := List.append_inj e12 (by simp only [rowV, List.length_map]; exact hl1)
  have lo : ∀ k ∈ K.take pre.length, (hmAt M k).o ≤ o := fun k hk => by
    obtain ⟨j, hj⟩ := List.mem_iff_getElem?.mp hk
    have hj2 := (List.getElem?_eq_some_iff.mp hj).1
    rw [hl1] at hj2
    refine hlo j _ ?_ hj2
    rw [List.getElem?_take, if_pos hj2] at hj
    simp [hj]
  have hi : ∀ k ∈ K.drop pre.length, o < (hmAt M k).o := fun k hk => by
    obtain ⟨j, hj⟩ := List.mem_iff_getElem?.mp hk
    rw [List.getElem?_drop] at hj
    exact hhi (pre.length + j) _ (by simp [hj]) (by omega)
  have hb : ∀ k ∈ K, k < M.length := hC.kb
  rw [eK] at hC
  have hC' := hC.put (W' := (tp, ({ cls := .type "tuple", data := .seq #[.int o to, .int ((madeV M).length : Int) t2] } : Obj)) :: (new ++ T)) (m := ⟨x, o⟩) (r := ⟨tp, o, (M.length : Int)⟩) (fun p hp => .tail _ (List.mem_append_right _ hp)) ⟨t', hxn.mono fun p hp => .tail _ (List.mem_append_left _ hp)⟩ ⟨0, to, t2, by rw [show (madeV M).length = M.length by simp [madeV]]; exact .head _⟩ rfl rfl lo hi
  refine ⟨h', tk', m', (lm, W.listOf (madeV (M ++ [⟨x, o⟩])).toArray nm) :: (lp, W.listOf (refsP (R ++ [⟨tp, o, (M.length : Int)⟩])).toArray np) :: (lr, W.listOf (rowV (M ++ [⟨x, o⟩]) (K.take pre.length ++ M.length :: K.drop pre.length)).toArray nr) :: (ls, os) :: (c2, oc2) :: (c1, oc1) :: _, rfl, F, ?_, ?_, _, _, _, _, nm, np, nr, rfl, hC', by simp; omega, ?_, hm⟩
  · have q1 : madeV (M ++ [⟨x, o⟩]) = madeV M ++ [Value.ref x] := by simp [madeV]
    have q2 : refsP (R ++ [⟨tp, o, (M.length : Int)⟩]) = refsP R ++ [Value.ref tp] := by simp [refsP]
    have q3 : rowV (M ++ [⟨x, o⟩]) (K.take pre.length ++ M.length :: K.drop pre.length) = pre ++ Value.ref x :: suf := by
      have a1 : rowV (M ++ [⟨x, o⟩]) (K.take pre.length) = pre := (rowV_old fun k hk => hb k (List.mem_of_mem_take hk)).trans e1
      have a2 : rowV (M ++ [⟨x, o⟩]) (K.drop pre.length) = suf := (rowV_old fun k hk => hb k (List.mem_of_mem_drop hk)).trans e2
      have a3 : rowV (M ++ [⟨x, o⟩]) (K.take pre.length ++ M.length :: K.drop pre.length) = rowV (M ++ [⟨x, o⟩]) (K.take pre.length) ++ Value.ref (hmAt (M ++ [⟨x, o⟩]) M.length).x :: rowV (M ++ [⟨x, o⟩]) (K.drop pre.length) := by simp [rowV]
      rw [a3, a1, a2, hmAt_new]
    rw [q1, q2, q3]
    refine news_sub N fun p hp => ?_
    simp only [List.cons_append, List.mem_cons, List.mem_append] at hp ⊢
    rcases hp with h | h | h | h | h | h | h | (h | h) | h
    · exact .inr (.inl h)
    · exact .inr (.inr (.inl h))
    · exact .inr (.inr (.inr (.inl h)))
    · exact .inr (.inr (.inr (.inr (.inl h))))
    · exact .inr (.inr (.inr (.inr (.inr (.inl h)))))
    · exact .inr (.inr (.inr (.inr (.inr (.inr (.inl h))))))
    · exact .inl h
    · exact .inr (.inr (.inr (.inr (.inr (.inr (.inr (.inl h)))))))
    · exact .inr (.inr (.inr (.inr (.inr (.inr (.inr (.inr (.inl h))))))))
    · exact .inr (.inr (.inr (.inr (.inr (.inr (.inr (.inr (.inr h))))))))
  · refine off6 hoI fun p hp => ?_
    rcases List.mem_cons.mp hp with rfl | hp
    · exact Nat.ne_of_gt htp.2
    · rcases List.mem_append.mp hp with hp | hp
      · exact Nat.ne_of_gt (hnew p hp).2
      · exact hoI p (.tail _ (.tail _ (.tail _ (.tail _ (.tail _ (.tail _ hp))))))
  · intro p hp
    rcases List.mem_cons.mp hp with rfl | hp
    · exact htp.1
    · rcases List.mem_append.mp hp with hp | hp
      · exact (hnew p hp).1
      · exact hTl p hp
local macro_rules | `(tactic| ktr_unf) => `(tactic| repeat' ((fail_if_success (with_reducible show wpAny _ _ (assign _ _ _) _ _ _)); keq_rows))
local macro_rules | `(tactic| walk_at "call ref") => `(tactic| (k_here; (with_reducible show wpAny _ _ (call (Value.ref 82) [Value.int _ _]) _ _ _); k_dflt (refine' make_call ?k1 ?k2 ?k3 ?k4 ?k5 ?k6 ?k7 ?k8 ?_; (case k1 => k_asm); (case k2 => k_asm); (case k3 => k_asm); (case k4 => k_asm); (case k5 => k_asm); (case k6 => exact rfl); (case k7 => ktr_room); (case k8 => ktr_units); k_whole)))
local macro_rules | `(tactic| walk_at "call ref") => `(tactic| (k_here; (with_reducible show wpAny _ _ (call (Value.ref 89) _) _ _ _); k_dflt (refine' put_call ?k1 ?k2 ?k3 ?k4 ?k5 ?k6 ?k7 ?k8 ?a1 ?a2 ?a3 ?a4 ?a5 ?_; (case k1 => k_asm); (case k2 => k_asm); (case k3 => k_asm); (case k4 => k_asm); (case k5 => k_asm); (case k6 => exact rfl); (case k7 => ktr_room); (case k8 => ktr_units); (case a1 => k_mem); (case a2 => k_updF); (case a3 => assumption); (case a4 => assumption); (case a5 => assumption); k_whole); intro h' tk' pre' suf' n' hvs' hlo' hhi' F' N'; (try dsimp only at N')))
local macro_rules | `(tactic| walk_at "call builtin:list.append") => `(tactic| (k_here; (with_reducible show wpAny _ _ (call (Value.builtin _) [Value.ref _, _]) _ _ _); k_dflt (refine' append_led ?F ?N ?z ?U ?_; (case F => k_asm); (case N => k_asm); (case U => k_upd); (case z => assumption)); intro h' F' N'))
local macro_rules | `(tactic| ktr_rel) => `(tactic| repeat' ((fail_if_success (with_reducible show wpAny _ _ (eval (PySem.Expr.GeneratorExp _ _ _ _) _) _ _ _)); keq_rows))
theorem keepN {h₁ h₀ h h' : Heap} {c P L : Addr} {ps : Array Value} {news : List (Addr × Obj)} {a : Addr} {o : Obj} (B : Based h₁ h₀ c P ps) (N : News h₀ L h news) (hk : ∀ b o, b ≠ P → b < h.objs.size → h.get? b = some o → h'.get? b = some o) (hm : (a, o) ∈ news) : h'.get? a = some o :=
  hk a o (based_ne B N hm).symm (Heap.lt_size (N _ hm).1) (N _ hm).1
local macro_rules | `(tactic| walk_at "eval Name") => `(tactic| ((with_reducible show wpAny _ _ (eval (PySem.Expr.Name _ _) (genEnv _ _ _ _ _ _)) _ _ _); k_dflt (first | (refine ldVarG (by assumption) (by assumption) ?_) | (refine ldFreeG rfl (by assumption) ?_))))
local macro_rules | `(tactic| walk_at "subscriptTail") => `(tactic| ((with_reducible show wpAny _ _ (subscriptTail _ _ (Value.ref _) (Value.int _ _)) _ _ _); (rename Heap.IsCell _ _ _ => hCell9); k_dflt (first | (refine' item_isl ?a ?b ?c ?d ?_ ?e; (case a => assumption); (case d => assumption); (case b => assumption); (case c => assumption); (case e => with_unfolding_all rfl)) | (refine' item_tupleT (j := 1) ?a ?b ?c ?d ?g ?_ ?e; (case a => assumption); (case b => decide); (case c => decide); (case d => rfl); (case g => rfl); (case e => with_unfolding_all rfl)))))
theorem t : PySem.Challenge.rw_dn0254_02.Holds := hd (by
  w_strict (
    lge_go0
    (all_goals try k_fold)
    bits_by_make
    rename Fr _ _ _ _ => F1
    rename News _ _ _ _ => N1
    rename IntsAre _ (List.take _ _) => hI
    rename _ = min _ _ => hmin
    have hwl := hI.length
    rename_i ls ws _ _ hls _ lr _ hlr _ oc2 dc2 _ lp _ hlp _ lm _ hlm _ oc1 dc1
    have ho : @LT.lt Nat _ ls lr ∧ @LT.lt Nat _ lr lp ∧ @LT.lt Nat _ lp lm := by omega
    refine iter_listJ (LoopS _ _ _ _ _ _ _ _ _) rfl (News.isList N1 (by k_mem)) (N1 _ (.tail _ (.tail _ (.tail _ (.head _))))).2.1 F1 N1 ⟨[], [], [], [], _, _, _, rfl, .nil, Nat.le_refl _, (fun _ h => nomatch h), rfl⟩ ?turn ?done
    case turn =>
      intro I i v m₁ nw h tk own hv hJ hoI hown hIo hltI hlI F2 N2
      obtain ⟨M, R, K, T, nm, np, nr, rfl, hC, hMi, hTl, m1⟩ := hJ
      obtain ⟨n, t, e, hk⟩ := IntsAre.at hI i v hv
      subst e
      replace F2 := fr_g1 F2 m1
      simp only [List.cons_append] at N2
      clear F1 N1
      have hi40 : i < 40 := by
        have := (List.getElem?_eq_some_iff.mp hv).1
        omega
      have hKl : K.length = R.length := hC.len.symm
      have hKM : K.length ≤ M.length := hC.kle
      have lM : (madeV M).length ≤ 2 ^ 20 := by rw [madeV, List.length_map]; omega
      have lR : (refsP R).length ≤ 2 ^ 20 := by rw [refsP, List.length_map]; omega
      have lK : (rowV M K).length ≤ 2 ^ 20 := by rw [rowV, List.length_map]; omega
      have hIm : @LT.lt Nat _ lm I := hltI _ (.head _)
      have hoff : ∀ p ∈ T ++ own, @Ne Nat p.1 lm ∧ @Ne Nat p.1 lp ∧ @Ne Nat p.1 lr := fun p hp => by
        rcases List.mem_append.mp hp with hp | hp
        · have q := hTl p hp
          omega
        · rcases hown p hp with e | e
          · have e' : @Eq Nat p.1 I := e
            omega
          · have e' : @Eq Nat p.1 ls := e
            omega
      have hofm : ∀ p ∈ T ++ own, p.1 ≠ lm := fun p hp => (hoff p hp).1
      have hofp : ∀ p ∈ T ++ own, p.1 ≠ lp := fun p hp => (hoff p hp).2.1
      have hofr : ∀ p ∈ T ++ own, p.1 ≠ lr := fun p hp => (hoff p hp).2.2
      have hin := tail6 N2 (fun r hr => (hC.pr r hr).mono fun p hp => List.mem_append_left own hp)
      have hR64 : R.length < 64 := by omega
      have hdist := hC.dist
      keq_hits
      · exact ⟨_, _, _, _, rfl, by k_asm, by k_asm, hoI, M, R, K, T, _, _, _, rfl, hC, Nat.le_succ_of_le hMi, hTl, rfl⟩
      · rename List.Perm _ _ => hp
        rename List.Pairwise PLt _ => hs
        rename Fr _ _ _ _ => F3
        rename News _ _ _ _ => N3
        obtain ⟨hC', hmap⟩ := hC.sorted hp hs
        clear F2 N2 hin hdist hp hs
        have hpos : 0 < K.length := by
          cases K with
          | nil => simp [rowV] at *
          | cons => simp
        have q0 : 0 ≤ Int.fmod (Int.fdiv n 6) (K.length : Int) := Int.fmod_nonneg_of_pos _ (by omega)
        have q1 : Int.fmod (Int.fdiv n 6) (K.length : Int) < K.length := Int.fmod_lt_of_pos _ (by omega)
        rename List PR => R'
        have hRK : R'.length = K.length := hC'.len
        obtain ⟨k1, kk, k2, eK, hk1⟩ := split_len K (n := (Int.fmod (Int.fdiv n 6) (K.length : Int)).toNat) (by omega)
        obtain ⟨r1, rr, r2, eR, hr1⟩ := split_len R' (n := (Int.fmod (Int.fdiv n 6) (K.length : Int)).toNat) (by omega)
        have eV : rowV M K = rowV M k1 ++ Value.ref (hmAt M kk).x :: rowV M k2 := by rw [eK]; simp [rowV]
        have eP : refsP R' = refsP r1 ++ Value.ref rr.t :: refsP r2 := by rw [eR]; simp [refsP]
        have hrk : rr.k = (kk : Int) := by
          rw [eR, eK, List.map_append, List.map_cons, List.map_append, List.map_cons] at hmap
          have := List.append_inj_right hmap (by simp [hr1, hk1])
          exact (List.cons.inj this).1
        have hkM : kk < M.length := hC'.kb kk (by rw [eK]; simp)
        obtain ⟨np', t1, t2, hpm⟩ := hC'.pr rr (by rw [eR]; simp)
        have hpm' : (rr.t, ({ cls := .type "tuple", data := .seq #[.int rr.o t1, .int rr.k t2] np' } : Obj)) ∈ T ++ own := List.mem_append_left _ hpm
        have hC2 : Core T M (r1 ++ r2) (k1 ++ k2) := by
          rw [eR, eK] at hC'
          exact hC'.pop hrk
        have lV : (rowV M k1 ++ Value.ref (hmAt M kk).x :: rowV M k2).length = K.length := by rw [← eV, rowV, List.length_map]
        have lPP : (refsP r1 ++ Value.ref rr.t :: refsP r2).length = K.length := by rw [← eP, refsP, List.length_map, hRK]
        rw [eV, eP] at N3
        have z1 : (rowV M k1 ++ Value.ref (hmAt M kk).x :: rowV M k2).length ≤ 2 ^ 20 := by omega
        have z2 : (refsP r1 ++ Value.ref rr.t :: refsP r2).length ≤ 2 ^ 20 := by omega
        have p0 : ((rowV M k1 ++ Value.ref (hmAt M kk).x :: rowV M k2).length : Int) ≠ 0 := by omega
        have p1 : Int.fmod (Int.fdiv n 6) ((rowV M k1 ++ Value.ref (hmAt M kk).x :: rowV M k2).length : Int) = ((rowV M k1).length : Int) := by rw [lV, rowV, List.length_map, hk1]; omega
        have p2 : Int.fmod (Int.fdiv n 6) ((rowV M k1 ++ Value.ref (hmAt M kk).x :: rowV M k2).length : Int) = ((refsP r1).length : Int) := by rw [lV, refsP, List.length_map, hr1]; omega
        have j0 : 0 ≤ rr.k := by omega
        have j1 : rr.k < 2 ^ 63 := by omega
        have j2 : (madeV M)[rr.k.toNat]? = some (Value.ref (hmAt M kk).x) := by
          rw [hrk, Int.toNat_natCast]
          simp [madeV, hmAt, List.getD, hkM]
        dsimp only
        repeat' keq_rows
        rename News _ _ _ _ => N5
        rw [show refsP r1 ++ refsP r2 = refsP (r1 ++ r2) by simp [refsP], show rowV M k1 ++ rowV M k2 = rowV M (k1 ++ k2) by simp [rowV]] at N5
        exact ⟨_, _, _, (lm, W.listOf (madeV M).toArray _) :: (lp, W.listOf (refsP (r1 ++ r2)).toArray _) :: (lr, W.listOf (rowV M (k1 ++ k2)).toArray _) :: (ls, W.listOf ws.toArray 0) :: (_, oc2) :: (_, oc1) :: T, rfl, by k_asm, N5, off6 hoI (fun p hp => hoI p (.tail _ (.tail _ (.tail _ (.tail _ (.tail _ (.tail _ hp))))))), M, r1 ++ r2, k1 ++ k2, T, _, _, _, rfl, hC2, Nat.le_succ_of_le hMi, hTl, rfl⟩
      · ktr_unf
        rename Fr _ _ _ _ => F3
        rename News _ _ _ _ => N3
        rename Made _ _ _ => hM
        rename HdV _ _ _ => hxn
        replace N3 := made6 hM N3
        rename_i _ _ _ new tup x o to t' htup
        clear F2 N2 hin hdist
        have htup' := List.mem_append_left (T ++ own) htup
        have hsub := tail6' N3
        have hx' := hxn.mono (fun p hp => hsub p (List.mem_append_left _ hp))
        have hRow := (hC.mono (fun p hp => hsub p (List.mem_append_right _ (List.mem_append_left _ hp)))).row
        have hnew : ∀ p ∈ new, @LT.lt Nat _ lm p.1 ∧ @LT.lt Nat _ I p.1 := fun p hp => by
          have q := allLt_mem (hM.2 p hp)
          obtain ⟨oI, hoI'⟩ := hIo
          exact ⟨q _ (.head _), q (I, oI) (.tail _ (.tail _ (.tail _ (.tail _ (.tail _ (.tail _ (List.mem_append_right _ hoI')))))))⟩
        have hoff' : ∀ p ∈ new ++ (T ++ own), @Ne Nat p.1 lm ∧ @Ne Nat p.1 lp ∧ @Ne Nat p.1 lr := fun p hp => by
          rcases List.mem_append.mp hp with hp | hp
          · have q := (hnew p hp).1
            omega
          · exact hoff p hp
        have hofm' : ∀ p ∈ new ++ (T ++ own), p.1 ≠ lm := fun p hp => (hoff' p hp).1
        have hofp' : ∀ p ∈ new ++ (T ++ own), p.1 ≠ lp := fun p hp => (hoff' p hp).2.1
        have hofr' : ∀ p ∈ new ++ (T ++ own), p.1 ≠ lr := fun p hp => (hoff' p hp).2.2
        have hz60 : (rowV M K).length ≤ 60 := by rw [rowV, List.length_map]; omega
        clear hoff hofm hofp hofr
        repeat' keq_rows
        rename (_ ∧ _ ∧ _ ∧ _ ∧ _ ∧ _ ∧ AllLt _ (_ ++ _)) => hD
        have htpI : _ ∧ @LT.lt Nat _ I _ := ⟨hD.1, by
          obtain ⟨oI, hoI'⟩ := hIo
          exact allLt_mem hD.2.2.2.2.2.2 (I, oI) (List.mem_append_right _ (List.mem_append_right _ hoI'))⟩
        exact end_put (by k_asm) (by k_asm) hC hMi hTl (by assumption) (by assumption) (by assumption) hxn hnew htpI hoI rfl
    case done =>
      intro m₁ nw h tk hJ F2 N2
      obtain ⟨M, R, K, T, nm, np, nr, rfl, hC, hMi, hTl, m1⟩ := hJ
      replace F2 := fr_f1 F2 m1
      clear F1 N1
      have hKl : K.length = R.length := hC.len.symm
      have hKM : K.length ≤ M.length := hC.kle
      have lM : (madeV M).length ≤ 2 ^ 20 := by rw [madeV, List.length_map]; omega
      have lR : (refsP R).length ≤ 2 ^ 20 := by rw [refsP, List.length_map]; omega
      have lK : (rowV M K).length ≤ 2 ^ 20 := by rw [rowV, List.length_map]; omega
      have hofp : ∀ p ∈ T, p.1 ≠ lp := fun p hp => by
        have q := hTl p hp
        exact neN (by omega)
      have hin := tail6 N2 (fun r hr => hC.pr r hr)
      have hR64 : R.length < 64 := by omega
      have hdist := hC.dist
      dsimp only
      ktr_rel
      rename Based _ _ _ _ _ => B0
      rename Fr _ _ _ _ => F8
      rename News _ _ _ _ => N8
      rename List.Perm _ _ => hp
      rename List.Pairwise PLt _ => hs
      obtain ⟨hC', hmap⟩ := hC.sorted hp hs
      rename List PR => R'
      rename (Shared.gens _ = #[]) => hgn
      rename Top _ _ _ _ _ _ => hTop
      clear F2 N2 hin hdist hp hs
      (with_reducible apply gen_T F8 B0)
      (case M => first | (with_reducible assumption) | assumption | with_unfolding_all assumption)
      (case hcode => with_unfolding_all rfl)
      (case hnf => with_unfolding_all rfl)
      (case hh => with_unfolding_all rfl)
      (case hco => with_unfolding_all rfl)
      (case hclos => with_unfolding_all rfl)
      (case hcell => decide)
      (case h0 => with_unfolding_all rfl)
      (case hxa => with_unfolding_all rfl)
      (case hxb => with_unfolding_all rfl)
      (case hab => decide)
      (case hkind => with_unfolding_all rfl)
      (case hroom => (simp only [depth_deeper, depth_caller]; decide))
      (case hs => intro _; with_unfolding_all rfl)
      repeat' ((fail_if_success (with_reducible show wpAny _ _ (call (Value.type "enumerate") _) _ _ _)); keq_rows)
      k_dflt (refine src_enum (fun _ y => y = .bool true) (vs := refsP R') (News.isList N8 (by k_mem)) F8 (bare_nil hgn) (hTop.nolimit.keeps F8.keep) (based_lt B0 F8) (based_ne B0 N8 (.tail _ (.head _))) ?hel ?hQ)
      case hel =>
        intro c' C A' E' i tk v t m₂ hA hD hU hvi F9 hma hmb hLC hkp
        obtain ⟨rr, hrr, rfl⟩ : ∃ rr, R'[i]? = some rr ∧ v = .ref rr.t := by
          rw [refsP, List.getElem?_map] at hvi
          cases e : R'[i]? with
          | none => rw [e] at hvi; cases hvi
          | some r => rw [e] at hvi; exact ⟨r, rfl, (Option.some.inj hvi).symm⟩
        obtain ⟨kk, hkk, hrk⟩ : ∃ kk : Nat, K[i]? = some kk ∧ rr.k = (kk : Int) := by
          have := congrArg (fun l : List Int => l[i]?) hmap
          simp only [List.getElem?_map, hrr] at this
          cases e : K[i]? with
          | none => rw [e] at this; cases this
          | some k => rw [e] at this; exact ⟨k, rfl, Option.some.inj this⟩
        have hkM : kk < M.length := hC'.kb kk (List.mem_of_getElem? hkk)
        have hi40 : i < 64 := by
          have := (List.getElem?_eq_some_iff.mp hkk).1
          omega
        obtain ⟨np', t1, t2, hpm⟩ := hC'.pr rr (List.mem_of_getElem? hrr)
        have g1 : t.heap.IsList lm (madeV M).toArray := ⟨_, keepN B0 N8 hkp (.head _), rfl, _, rfl⟩
        have g2 : t.heap.IsList lr (rowV M K).toArray := ⟨_, keepN B0 N8 hkp (.tail _ (.tail _ (.head _))), rfl, _, rfl⟩
        have g3 : t.heap.IsCell _ (some (.ref lr)) := ⟨_, keepN B0 N8 hkp (.tail _ (.tail _ (.tail _ (.tail _ (.head _))))), dc2⟩
        have g4 : t.heap.IsCell _ (some (.ref lm)) := ⟨_, keepN B0 N8 hkp (.tail _ (.tail _ (.tail _ (.tail _ (.tail _ (.head _)))))), dc1⟩
        have g5 : IsTup t.heap rr.t ([Value.int rr.o t1, Value.int rr.k t2] : List Value).toArray := ⟨_, keepN B0 N8 hkp (.tail _ (.tail _ (.tail _ (.tail _ (.tail _ (.tail _ hpm)))))), rfl, _, rfl⟩
        have j0 : 0 ≤ rr.k := by omega
        have j1 : rr.k < 2 ^ 63 := by omega
        have j2 : (madeV M)[rr.k.toNat]? = some (Value.ref (hmAt M kk).x) := by
          rw [hrk, Int.toNat_natCast]
          simp [madeV, hmAt, List.getD, hkM]
        have i0 : 0 ≤ (i : Int) := by omega
        have i1 : (i : Int) < 2 ^ 63 := by omega
        have i2 : (rowV M K)[(i : Int).toNat]? = some (Value.ref (hmAt M kk).x) := by
          rw [Int.toNat_natCast]
          simp [rowV, hkk]
        clear F8 N8
        repeat' keq_rows
        k_dflt (refine item_isl g2 i0 i1 i2 ?_)
        repeat' keq_rows
        k_dflt (refine item_isl g1 j0 j1 j2 ?_)
        repeat' keq_rows
        all_goals first
          | rfl
          | exact ⟨_, _, rfl, fun _ _ e => e⟩
          | exact wpAny_is_ref_self ⟨rfl, _, _, rfl, fun _ _ e => e⟩
          | (refine wpAny_is_ref_self ?_; exact ⟨rfl, _, _, rfl, fun _ _ e => e⟩)
          | exact ⟨rfl, _, _, rfl, fun _ _ e => e⟩
      case hQ =>
        intro c' a s₅ B₅ F₅ G₅ hos hk₅ X
        keq_rows
        k_dflt (refine all_true F₅ G₅ (by simpa [refsP] using X) (Nat.le_sub_one_of_lt F8.ns.lt) ?_)
        intro s' F' G' hos' hk'
        wrow_closeG))
end Mine


theorem PySem.Challenge.cw_dn0254_02_holds : PySem.Challenge.rw_dn0254_02.Holds :=
  Mine.t
