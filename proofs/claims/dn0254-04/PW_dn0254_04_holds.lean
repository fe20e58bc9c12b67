import PyProof.Rows.All
import Wide.All
import OpenK.AllK
import Wide.FinOn
import PySem.Challenge.RW_dn0254_04
open PySem PySem.W PyProof.Rows PySem.Calls
set_option Elab.async false
set_option maxRecDepth 100000
namespace Mine
set_option maxHeartbeats 8000000
open_top hd for PySem.Challenge.rw_dn0254_04
end Mine
set_option maxHeartbeats 8000000

namespace Mine
theorem entry_hasattr : entryFor table "hasattr" = some Builtin.«hasattr» := entryFor_of_tree (by kernel_rfl)
theorem kind_hasattr : builtinKind "hasattr" = none := by decide +kernel
theorem plain_hasattr : plainId "hasattr" = true := by decide +kernel
theorem args_hasattr2 (a b : Value) : argsOk "hasattr" ⟨[a, b], []⟩ := by unfold argsOk; kernel_rfl

section
variable {prog : Program} {w : World} {A : Around} {E : Value → Shared → Prop} {s : Shared} {K : Frag} {x C L f : Addr} {h₀ : Heap} {m : Str → Option Value} {ox : Obj} {od : Option Obj}
theorem getBy_open {expr fill : Bool} {Q : Value → Shared → Prop} {name : Str} {tk : Tok} (X : K.In s.heap) (I : W.InstAt s.heap x ox C od) (hga : findIn K (.ref C) "__getattribute__" = some (some (.builtin "object.__getattribute__")))
    (h : wpAny (model prog w) A.in1 (Builtin.«proto.getattr_hooked» ⟨[.ref x, .str name tk], []⟩)
      (fun fin s' => match fin with | .done (.ret v) => wpAny (model prog w) A (handedOut v) Q E s' | _ => False) (fun e s' => wpAny (model prog w) A (noteIf fill (.ref x) (.str name tk) e) (fun _ s'' => E e s'') E s') s) :
    wpAny (model prog w) A (getAttrBy (.ref x) (.str name tk) fill expr) Q E s := by
  obtain ⟨hh, g, d, t, os⟩ := s
  have L0 := I.type (M := model prog w)
  have L1 := looks_findIn (M := model prog w) X hga
  unfold getAttrBy
  refine wpAny_holding (wpAny_bind (L0.at (wpAny_bind (L1.at ?_))))
  show wpAny _ _ (getAttrEveryday _ _ _) _ _ _
  refine wpAny_bind (wpAny_onRaise (wpAny_runValue (codeAny_builtin F.plainObj_entry_getattr_hooked (wpAny_mono h (fun fin s' z => ?_) fun _ _ z => z))))
  rcases fin with (_ | _ | _ | _) | _ <;> first | exact z | exact z.elim
theorem getBy_value {expr fill : Bool} {Q : Value → Shared → Prop} {name : Str} {tk : Tok} {v : Value} (X : K.In s.heap) (I : W.InstAt s.heap x ox C od) (hga : findIn K (.ref C) "__getattribute__" = some (some (.builtin "object.__getattribute__")))
    (hf : findObj K C od name = some (.value v)) (hh : handedIn v = true) (h : Q v s) : wpAny (model prog w) A (getAttrBy (.ref x) (.str name tk) fill expr) Q E s := by
  refine getBy_open X I hga ?_
  obtain ⟨hh', g, d, t, os⟩ := s
  have L0 := I.type (M := model prog w)
  have L1 := looks_find (M := model prog w) X I hf
  refine wpAny_bind (wpAny_pure (wpAny_bind (L0.at (wpAny_bind (L1.at ?_)))))
  refine wpAny_pure ?_
  show wpAny _ _ (handedOut v) _ _ _
  rw [handedOut_of hh]; exact wpAny_pure h
theorem hasattr_yes {Q : Value → Shared → Prop} {name : Str} {v : Value} {tk : Tok} (F : Fr h₀ L s.heap m) (X₀ : K.In h₀) (I : InstAt s.heap x ox C od)
    (hga : findIn K (.ref C) "__getattribute__" = some (some (.builtin "object.__getattribute__"))) (hmod : mroIn K C (.type "module") = some false)
    (hf : findObj K C od name = some (.value v)) (hh : handedIn v = true)
    (h : Q (.bool true) s) : wpAny (model prog w) A (call (.builtin "hasattr") [.ref x, .str name tk]) Q E s := by
  refine Calls.call_function_entry kind_hasattr plain_hasattr entry_hasattr (args_hasattr2 _ _) ?_
  have X := X₀.keeps F.keep
  obtain ⟨hh', g, d, t, os⟩ := s
  have L0 := I.type (M := model prog w)
  have L1 := looks_findIn (M := model prog w) X hga
  have L2 := looks_find (M := model prog w) X I hf
  have L3 := looks_mroIn (M := model prog w) X hmod
  unfold Builtin.«hasattr»
  refine wpAny_bind (m := someArgs "hasattr" 2 2 _) (wpAny_pure ?_)
  dsimp only
  refine wpAny_bind (wpAny_bind (wpAny_pure ?_))
  show wpAny _ _ (pure _) _ _ _
  refine wpAny_pure ?_
  show wpAny _ _ (do
    let y ← typeOf (Value.ref x)
    _) _ _ _
  refine wpAny_bind (L0.at ?_)
  dsimp only
  refine wpAny_bind ?_
  repeat ((fail_if_success (with_reducible show wpAny _ _ (getAttrBy? _ _) _ _ _)); lk)
  refine wpAny_bind (wpAny_attempt (getBy_value X I hga hf hh ?_))
  refine wpAny_pure ?_
  show wpAny _ _ (ret (Value.bool true)) _ _ _
  exact wpAny_pure ⟨_, rfl, h⟩
/-- object's own __gt__ declines -/
theorem gt_declined {Q : Option Value → Shared → Prop} {b : Value} (X : K.In s.heap) (I : W.InstAt s.heap x ox C od) (hg : findIn K (.ref C) "__gt__" = some (some (.builtin "object.__gt__"))) (hm : mroIn K C (.type "object") = some true)
    (h : Q none s) : wpAny (model prog w) A (tryCompare (.ref x) "__gt__" b) Q E s := by
  unfold tryCompare
  simp only [callSpecialIfBound?, bindSpecialIfBound?]
  refine wpAny_bind (wpAny_holding (wpAny_bind (wpAny_bind (wpAny_bind (I.type.here ((looks_findIn X hg).here ?_))))))
  refine wpAny_bind (wpAny_askSetting (wpAny_ite ?_))
  have fin : wpAny (model prog w) A (call (.builtin "object.__gt__") ([.ref x] ++ [b]) >>= fun v => pure (some v)) (fun a s' => wpAny (model prog w) A (match a with | some Value.notImplemented => pure none | none => pure none | some v => pure (some v)) Q E s') E s := by
    refine wpAny_bind (wpAny_call (codeAny_call_builtin F.slot_object_gt.plain F.entry_object_gt (check_slot (i := "object.__gt__") (owner := "object") (n := "__gt__") (by decide +kernel) (by decide +kernel) (I.type.andThen (looks_mroIn X hm)) (F.args_object_gt_2 _ _) ?_)))
    unfold Builtin.«object.__gt__»
    show wpAny _ _ (do let _ ← slotArgs "__gt__" 1 _; ret .notImplemented) _ _ _
    refine wpAny_bind (m := slotArgs "__gt__" 1 _) (wpAny_pure ?_)
    refine wpAny_pure ?_
    exact wpAny_pure (wpAny_pure h)
  split
  · exact wpAny_bind ((Looks.of_pure (F.slot_object_gt.bind _)).here (wpAny_pure (by exact fin)))
  · exact wpAny_tryCatch (wpAny_bind ((Looks.of_pure (F.slot_object_gt.bind _)).here (wpAny_pure (by exact fin))))
/-- a thing of an own class at the left of <, any at the right whose class's own __gt__ is object's where it is asked first -/
theorem lt_inst {Q : Value → Shared → Prop} {b tb : Value} (hu : A.units < cLine) (F : Fr h₀ L s.heap m) (X₀ : K.In h₀) (I : W.InstAt s.heap x ox C od) (hb : Looks (model prog w) s.heap (typeOf b) tb)
    (hn : tb = .ref C ∨ subIn K tb (.ref C) = some false ∨ ∃ y oy D dy, b = .ref y ∧ tb = .ref D ∧ W.InstAt s.heap y oy D dy ∧ findIn K (.ref D) "__gt__" = some (some (.builtin "object.__gt__")) ∧ mroIn K D (.type "object") = some true ∧ mroIn K D (.ref C) = some true)
    (hs : findIn K (.ref C) "__lt__" = some (some (.ref f))) (hf : isFn K (.ref f) = true)
    (h : wpAny (model prog w) A (call (.ref f) [.ref x, b]) (W.CmpBack Q) E s) : wpAny (model prog w) A (richCompare .Lt (.ref x) b) Q E s := by
  have X := X₀.keeps F.keep
  have one : wpAny (model prog w) A (tryCompare (.ref x) "__lt__" b) (fun r s' => ∃ v, r = some v ∧ Q v s') E s := by
    unfold tryCompare
    refine wpAny_bind (ifBound_K X I hs hf (wpAny_mono h (fun v s' hv => ?_) fun _ _ e => e))
    cases v <;> first | exact hv.elim | exact wpAny_pure ⟨_, rfl, hv⟩
  rcases hn with hn | hn
  · exact cmp_K hu F X₀ I hb (by rw [hn]; simp [notFirst]) hs hf h
  rcases hn with hn | ⟨y, oy, D, dy, rfl, rfl, J, hg, hm, hsub⟩
  · exact cmp_K hu F X₀ I hb (by simp [notFirst, hn]) hs hf h
  unfold richCompare
  simp only [oneThing_ref]
  refine wpAny_holding (wpAny_bind (wpAny_cRoomFor hu ?_))
  refine wpAny_bind (I.type.here (wpAny_bind (hb.here ?_)))
  split
  · refine wpAny_bind ((looks_mroIn X hsub).here ?_)
    simp only [if_true, cmpInfo]
    refine wpAny_bind (gt_declined X J hg hm ?_)
    refine wpAny_bind (wpAny_mono one (fun r s' z => ?_) fun _ _ e => e)
    obtain ⟨v, rfl, hq⟩ := z
    exact wpAny_pure hq
  · refine wpAny_bind (wpAny_pure ?_)
    simp only [Bool.false_eq_true, if_false]
    refine wpAny_bind (wpAny_mono one (fun r s' z => ?_) fun _ _ e => e)
    obtain ⟨v, rfl, hq⟩ := z
    exact wpAny_pure hq
end

/-! loops by an invariant over the frame's names and the ledger -/
section
variable {prog : Program} {w : World} {A : Around} {E : Value → Shared → Prop} {s : Shared} {env : Env} {h₀ : Heap} {x : Str} {body : List Stmt} {Q : Flow → Shared → Prop}
def EndJ (h₀ : Heap) (L : Addr) (J : (Str → Option Value) → List (Addr × Obj) → Prop) (own : List (Addr × Obj)) (I : Addr) (s₁ s₂ : Shared) : Prop :=
  ∃ h' tk m' news', s₂ = { s₁ with heap := h', toks := tk } ∧ Fr h₀ L h' m' ∧ News h₀ L h' (news' ++ own) ∧ (∀ p ∈ news', p.1 ≠ I) ∧ J m' news'
def PostJ (h₀ : Heap) (L : Addr) (J : (Str → Option Value) → List (Addr × Obj) → Prop) (own : List (Addr × Obj)) (I : Addr) (s₁ : Shared) (Q : Flow → Shared → Prop) (f : Flow) (s₂ : Shared) : Prop :=
  match f with
  | .ret v => Q (.ret v) s₂
  | .brk => Q .next s₂
  | _ => EndJ h₀ L J own I s₁ s₂
theorem news_comm {L : Addr} {h : Heap} {a b : List (Addr × Obj)} (N : News h₀ L h (a ++ b)) : News h₀ L h (b ++ a) := fun p hp => N p ((List.mem_append.mp hp).elim (fun h => List.mem_append.mpr (.inr h)) fun h => List.mem_append.mpr (.inl h))
theorem postJ_step {L I : Addr} {J : (Str → Option Value) → List (Addr × Obj) → Prop} {own : List (Addr × Obj)} {s₁ s₂ : Shared} {f : Flow} (h : PostJ h₀ L J own I s₁ Q f s₂) :
    LoopStepV h₀ L [I] own J s₁ (fun v s' => Q (.ret v) s') (fun s' => Q .next s') f s₂ := by
  have fin : EndJ h₀ L J own I s₁ s₂ → LoopStepU h₀ L [I] own J s₁ .next s₂ := by
    rintro ⟨h', tk, m', news', e, F', N', hn, hj⟩
    exact ⟨rfl, h', tk, m', news', e, F', news_comm N', fun p hp q => hn p hp (List.mem_singleton.mp q), hj⟩
  cases f with
  | ret v => exact .ret h
  | brk => exact .brk h
  | next => exact .next (fin h)
  | cont => exact .cont (fin h)
theorem iter_listJ {l : Addr} {vs : List Value} {m₀ : Str → Option Value} {news : List (Addr × Obj)} (J : Nat → (Str → Option Value) → List (Addr × Obj) → Prop)
    (hh : A.handled = none) (hl : s.heap.IsList l vs.toArray) (hlL : l ≠ env.locals) (F : Fr h₀ env.locals s.heap m₀) (N : News h₀ env.locals s.heap news) (hj : J 0 m₀ news)
    (turn : ∀ I i v m₁ news₁ h tk own, vs[i]? = some v → J i m₁ news₁ → (∀ p ∈ news₁, p.1 ≠ I) → (∀ p ∈ own, p.1 = I ∨ p.1 = l) → (∃ o, (I, o) ∈ own) → (∀ p ∈ news, p.1 < I) → l < I → Fr h₀ env.locals h (fun y => if y = x then some v else m₁ y) → News h₀ env.locals h (news₁ ++ own) →
      wpAny (model prog w) A (execs body env) (PostJ h₀ env.locals (J (i + 1)) own I { s with heap := h, toks := tk } Q) E { s with heap := h, toks := tk })
    (done : ∀ m₁ news₁ h tk, J vs.length m₁ news₁ → Fr h₀ env.locals h m₁ → News h₀ env.locals h news₁ → Q .next { s with heap := h, toks := tk }) :
    wpAny (model prog w) A (pyIter (.ref l)) (fun it s₂ => LoopAtV prog w A h₀ env x body Q E it s₂) E s := by
  obtain ⟨ol, hol, _⟩ := id hl
  have hlt : l < s.heap.objs.size := Heap.lt_size hol
  refine wpAny_pyIter_list hl ?_
  have W := Walks.list (prog := prog) (w := w) hh s.heap.objs.size l (Nat.ne_of_lt hlt) vs.toArray
  have hlen : vs.toArray.size = vs.length := by simp
  rw [hlen] at W
  refine ⟨_, _, _, vs.length, _, _, m₀, news, J, rfl, W, ?_, ?_, ?_, ⟨⟨_, Heap.get?_push_size _ rfl, rfl, rfl⟩, hl.at fun o e => Heap.get?_push_of_some _ e⟩, F.push _, (fun p hp => ⟨Heap.get?_push_of_some _ (N p hp).1, (N p hp).2⟩), hj, ?_, ?_⟩
  · intro hm
    rcases List.mem_cons.mp hm with e | hm
    · exact absurd F.ns.lt (e ▸ Nat.lt_irrefl _)
    · exact hlL (List.mem_singleton.mp hm).symm
  · intro b hb
    rw [List.mem_singleton.mp hb]
    exact next_is_new F
  · intro p hp hI
    exact absurd (Heap.lt_size (N p hp).1) ((List.mem_singleton.mp hI) ▸ Nat.lt_irrefl _)
  · rintro i v m₁ news₁ s₁ own ⟨hh', tk', rfl⟩ hin hP hJ hoff hown _ hall hst F₁ N₁
    have hIo : ∃ o, (s.heap.objs.size, o) ∈ own := by
      obtain ⟨⟨o, ho, _⟩, _⟩ := hst
      exact ⟨o, hall _ (.head _) (next_is_new F) o ho⟩
    refine wpAny_mono (turn s.heap.objs.size i v m₁ news₁ hh' tk' own (by simpa using hP) hJ (fun p hp q => hoff p hp (by rw [q]; exact .head _)) (fun p hp => ?_) hIo (fun p hp => Heap.lt_size (N p hp).1) hlt F₁ (news_comm N₁)) (fun f s₂ p => postJ_step p) fun _ _ e => e
    rcases List.mem_cons.mp (hown p hp) with h1 | h1
    · exact .inl h1
    · exact .inr (List.mem_singleton.mp h1)
  · rintro h' tk m' news' F' N' _ hJ
    exact done m' news' h' tk hJ F' N'
theorem iter_rangeJ {r : Addr} {a₀ b₀ : Int} {t₀ u₀ v₀ : Tok} {n : Nat} {m₀ : Str → Option Value} {news : List (Addr × Obj)} (J : Nat → (Str → Option Value) → List (Addr × Obj) → Prop)
    (hh : A.handled = none) (hr : IsRange s.heap r a₀ b₀ 1 t₀ u₀ v₀) (hsmall : Builtin.Range.small a₀ b₀ 1 = true) (hn : Builtin.Range.rangeSize a₀ b₀ 1 = (n : Int)) (F : Fr h₀ env.locals s.heap m₀) (N : News h₀ env.locals s.heap news) (hj : J 0 m₀ news)
    (turn : ∀ I (i : Nat) t m₁ news₁ h tk own, i < n → J i m₁ news₁ → (∀ p ∈ news₁, p.1 ≠ I) → (∀ p ∈ own, p.1 = I) → (∃ o, (I, o) ∈ own) → (∀ p ∈ news, p.1 < I) → Fr h₀ env.locals h (fun y => if y = x then some (.int (a₀ + i) t) else m₁ y) → News h₀ env.locals h (news₁ ++ own) →
      wpAny (model prog w) A (execs body env) (PostJ h₀ env.locals (J (i + 1)) own I { s with heap := h, toks := tk } Q) E { s with heap := h, toks := tk })
    (done : ∀ m₁ news₁ h tk, J n m₁ news₁ → Fr h₀ env.locals h m₁ → News h₀ env.locals h news₁ → Q .next { s with heap := h, toks := tk }) :
    wpAny (model prog w) A (pyIter (.ref r)) (fun it s₂ => LoopAtV prog w A h₀ env x body Q E it s₂) E s := by
  refine wpAny_pyIter_range hr hsmall ?_
  have W : Walks prog w A s.heap.objs.size [s.heap.objs.size] [s.heap.objs.size] n (fun i v => i < n ∧ ∃ t, v = .int (a₀ + i * 1) t)
      (fun i h => IsRangeIter h s.heap.objs.size (a₀ + (i : Nat) * 1) ((n : Int) - (i : Nat)) 1) := (Walks.range hh _ a₀ 1 n).bound
  refine ⟨_, _, _, n, _, _, m₀, news, J, rfl, W, ?_, ?_, ?_, (by show IsRangeIter _ _ _ _ _; rw [hn]; simpa using Heap.get?_push_size _ rfl), F.push _, (fun p hp => ⟨Heap.get?_push_of_some _ (N p hp).1, (N p hp).2⟩), hj, ?_, ?_⟩
  · intro hm
    exact absurd F.ns.lt ((List.mem_singleton.mp hm) ▸ Nat.lt_irrefl _)
  · intro b hb
    rw [List.mem_singleton.mp hb]
    exact next_is_new F
  · intro p hp hI
    exact absurd (Heap.lt_size (N p hp).1) ((List.mem_singleton.mp hI) ▸ Nat.lt_irrefl _)
  · rintro i v m₁ news₁ s₁ own ⟨hh', tk', rfl⟩ hin ⟨_, t, rfl⟩ hJ hoff hown _ hall hst F₁ N₁
    refine wpAny_mono (turn s.heap.objs.size i t m₁ news₁ hh' tk' own hin hJ (fun p hp q => hoff p hp (by rw [q]; exact .head _)) (fun p hp => List.mem_singleton.mp (hown p hp)) ⟨_, hall _ (.head _) (next_is_new F) _ hst⟩ (fun p hp => Heap.lt_size (N p hp).1) (by simpa using F₁) (news_comm N₁)) (fun f s₂ p => postJ_step p) fun _ _ e => e
  · rintro h' tk m' news' F' N' _ hJ
    exact done m' news' h' tk hJ F' N'
end

/-! a name put into a dict's entries -/
theorem isStr_str (a b : Str) (t : Tok) : (Value.str a t).isStr b = (a == b) := rfl
theorem isStr_two {k : Value} {a b : Str} (h : k.isStr a = true) (hne : b ≠ a) : k.isStr b = false := by
  cases k with
  | str x t =>
    have e : x = a := by simpa [Value.isStr] using h
    subst e
    simp only [Value.isStr]
    exact beq_false_of_ne (fun q => hne q.symm)
  | _ => cases h
theorem find_put_same (name : Str) (hsh : Int) (t : Tok) (v : Value) : ∀ es : List DictEntry, ((putL name hsh (.str name t) v es).find? (·.key.isStr name)).map (·.val) = some v
  | [] => by simp [putL, Value.isStr]
  | e :: r => by
    unfold putL
    split
    · rename_i h; simp [h]
    · rename_i h
      rw [List.find?_cons_of_neg (p := fun x : DictEntry => x.key.isStr name) h]
      exact find_put_same name hsh t v r
theorem find_put_other {name nm : Str} (hne : nm ≠ name) (hsh : Int) (t : Tok) (v : Value) : ∀ es : List DictEntry, (putL name hsh (.str name t) v es).find? (·.key.isStr nm) = es.find? (·.key.isStr nm)
  | [] => by
    unfold putL
    have : (name == nm) = false := beq_false_of_ne fun q => hne q.symm
    simp [Value.isStr, this]
  | e :: r => by
    unfold putL
    split
    · rename_i h
      have h2 := isStr_two h hne
      rw [List.find?_cons_of_neg (by simp [h2]), List.find?_cons_of_neg (by simp [h2])]
    · rename_i h
      rw [List.find?_cons, List.find?_cons, find_put_other hne hsh t v r]
theorem refKey_put (name : Str) (hsh : Int) (t : Tok) (v : Value) : ∀ es : List DictEntry, (putL name hsh (.str name t) v es).any (·.refKey) = es.any (·.refKey)
  | [] => by simp [putL]; rfl
  | e :: r => by
    unfold putL
    split
    · rfl
    · rw [List.any_cons, List.any_cons, refKey_put name hsh t v r]
theorem getL_put_same (name : Str) (hsh : Int) (t : Tok) (v : Value) (es : List DictEntry) : getL name (putL name hsh (.str name t) v es) = some (some v) := by
  have h := find_put_same name hsh t v es
  unfold getL
  cases q : (putL name hsh (.str name t) v es).find? (·.key.isStr name) with
  | none => rw [q] at h; cases h
  | some e => rw [q] at h; simp at h; simp [h]
theorem getL_put_other {name nm : Str} (hne : nm ≠ name) (hsh : Int) (t : Tok) (v : Value) (es : List DictEntry) : getL nm (putL name hsh (.str name t) v es) = getL nm es := by
  unfold getL
  rw [find_put_other hne, refKey_put]
theorem put_len (name : Str) (hsh : Int) (t : Tok) (v : Value) : ∀ es : List DictEntry, (putL name hsh (.str name t) v es).length = if (es.find? (·.key.isStr name)).isSome then es.length else es.length + 1
  | [] => by simp [putL]
  | e :: r => by
    unfold putL
    split
    · rename_i h; simp [h]
    · rename_i h
      rw [List.length_cons, put_len name hsh t v r, List.find?_cons_of_neg (p := fun x : DictEntry => x.key.isStr name) h]
      split <;> simp
/-- the ledger without one address -/
def off (d : Addr) (news : List (Addr × Obj)) : List (Addr × Obj) := news.filter fun p => p.1 != d
theorem mem_off {d : Addr} {news : List (Addr × Obj)} {p : Addr × Obj} : p ∈ off d news ↔ p ∈ news ∧ p.1 ≠ d := by
  unfold off; rw [List.mem_filter]; simp
theorem off_ne {d : Addr} {news : List (Addr × Obj)} : ∀ p ∈ off d news, p.1 ≠ d := fun _ hp => (mem_off.mp hp).2
theorem news_front {h₀ h : Heap} {L d : Addr} {o : Obj} {news : List (Addr × Obj)} (N : News h₀ L h news) (hm : (d, o) ∈ news) : News h₀ L h ((d, o) :: off d news) := fun p hp => by
  rcases List.mem_cons.mp hp with rfl | hp
  · exact N _ hm
  · exact N p (mem_off.mp hp).1
theorem news_sub {h₀ h : Heap} {L : Addr} {news news' : List (Addr × Obj)} (N : News h₀ L h news) (hs : ∀ p ∈ news', p ∈ news) : News h₀ L h news' := fun p hp => N p (hs p hp)
theorem news_one {h₀ h : Heap} {L d : Addr} {o o' : Obj} {news : List (Addr × Obj)} (N : News h₀ L h news) (h1 : (d, o) ∈ news) (h2 : (d, o') ∈ news) : o = o' := Option.some.inj ((N _ h1).1.symm.trans (N _ h2).1)

theorem fill1 {m : Str → Option Value} {k : Str} {v : Value} (h : m k = some v) (y : Str) : (if y = k then some v else m y) = m y := by
  split
  · rename_i e; rw [e, h]
  · rfl
section
variable {M : Model} {A : Around} {E : Value → Shared → Prop} {s : Shared} {h₀ : Heap} {L a b : Addr} {oa ob : Obj} {news : List (Addr × Obj)} {Q : Value → Shared → Prop}
theorem is_refs (N : News h₀ L s.heap news) (ha : (a, oa) ∈ news) (hb : (b, ob) ∈ news) (hnt : oa.cls ≠ .type "tuple") (h : Q (.bool (decide (a = b))) s) : wpAny M A (compareOp .Is (.ref a) (.ref b)) Q E s := by
  show wpAny M A (do return .bool (← isSame (.ref a) (.ref b))) Q E s
  by_cases e : a = b
  · subst e
    rw [decide_eq_true rfl] at h
    exact wpAny_bind (wpAny_isSame_ref_self (wpAny_pure h))
  · rw [decide_eq_false e] at h
    exact wpAny_bind (wpAny_isSame_ref_other e (N _ ha).1 (N _ hb).1 hnt (wpAny_pure h))
theorem isNot_refs (N : News h₀ L s.heap news) (ha : (a, oa) ∈ news) (hb : (b, ob) ∈ news) (hnt : oa.cls ≠ .type "tuple") (h : Q (.bool (!decide (a = b))) s) : wpAny M A (compareOp .IsNot (.ref a) (.ref b)) Q E s := by
  show wpAny M A (do return .bool (!(← isSame (.ref a) (.ref b)))) Q E s
  by_cases e : a = b
  · subst e
    rw [decide_eq_true rfl] at h
    exact wpAny_bind (wpAny_isSame_ref_self (wpAny_pure h))
  · rw [decide_eq_false e] at h
    exact wpAny_bind (wpAny_isSame_ref_other e (N _ ha).1 (N _ hb).1 hnt (wpAny_pure h))
end

section
variable {prog : Program} {w : World} {A : Around} {E : Value → Shared → Prop} {s : Shared} {h₀ : Heap} {L : Addr} {news : List (Addr × Obj)}
theorem item_led {value slice : PySem.Expr} {l : Addr} {vs : List Value} {n : Nat} {k : Int} {u : Tok} {v : Value} {Q : Value → Shared → Prop} (N : News h₀ L s.heap news)
    (hl : (l, W.listOf vs.toArray n) ∈ news) (h0 : 0 ≤ k) (hhi : k < 2 ^ 63) (hx : vs[k.toNat]? = some v) (h : Q v s)
    (hs : subscripted slice false (.ref l) (.int k u) = operate [.ref l, .int k u] (getItem (.ref l) (.int k u)) := by with_unfolding_all rfl) :
    wpAny (model prog w) A (subscriptTail value slice (.ref l) (.int k u)) Q E s :=
  tail_any (News.isList N hl).typeIs slot_list_getitem.lookup (wpAny_getItem_list (News.isList N hl) h0 hhi (by simpa using hx) h) hs
end

/-! lists of the ledger -/
section
variable {prog : Program} {w : World} {A : Around} {E : Value → Shared → Prop} {s : Shared} {h₀ : Heap} {L D : Addr} {m : Str → Option Value} {news news' : List (Addr × Obj)} {vs : List Value} {v : Value} {n : Nat}
theorem lineBig : 2 ^ 20 ≤ sizeLine := by decide
theorem len_led {Q : Value → Shared → Prop} (N : News h₀ L s.heap news) (hl : (D, W.listOf vs.toArray n) ∈ news) (hz : vs.length ≤ 2 ^ 20) (h : Q (.int vs.length (s.toks + 1)) { s with toks := s.toks + 1 + 1 }) : wpAny (model prog w) A (call (.builtin "len") [.ref D]) Q E s :=
  len_list (News.isList N hl) (by rw [List.size_toArray]; omega) (by rw [List.size_toArray]; exact h)
theorem truthy_led {Q : Bool → Shared → Prop} (N : News h₀ L s.heap news) (hl : (D, W.listOf vs.toArray n) ∈ news) (hz : vs.length ≤ 2 ^ 20) (h : Q (!vs.isEmpty) { s with toks := s.toks + 1 + 1 }) : wpAny (model prog w) A (truthy (.ref D)) Q E s :=
  wpAny_truthy_list (News.isList N hl) (by rw [List.size_toArray]; omega) (by rw [List.isEmpty_toArray]; exact h)
theorem fits_index {k : Int} (h0 : 0 ≤ k) (h1 : k < 2 ^ 62) : Builtin.List.listFitsIndex k = true := by
  unfold Builtin.List.listFitsIndex
  simp only [Bool.and_eq_true, decide_eq_true_eq]
  omega
theorem cut_at : ∀ (p : List Value) (y : Value) (q : List Value), kl_cut (p ++ y :: q) p.length = some (p, y, q)
  | [], _, _ => rfl
  | x :: p, y, q => by
    show (match kl_cut (p ++ y :: q) p.length with | some (p', y', q') => some (x :: p', y', q') | none => none) = _
    rw [cut_at p y q]
theorem popAt_led {p q : List Value} {y : Value} {k : Int} {u : Tok} {Q : Value → Shared → Prop} (F : Fr h₀ L s.heap m) (N : News h₀ L s.heap news) (hk : k = (p.length : Int)) (hz : (p ++ y :: q).length ≤ 2 ^ 20) (U : Upd D (W.listOf (p ++ y :: q).toArray n) (W.listOf (p ++ q).toArray (n + 1)) news news')
    (h : ∀ h', Fr h₀ L h' m → News h₀ L h' news' → Q y { s with heap := h' }) : wpAny (model prog w) A (call (.builtin "list.pop") [.ref D, .int k u]) Q E s := by
  have hz' := lineBig
  refine kl_popAt (k := p.length) F N (fits_index (by omega) (by simp only [List.length_append, List.length_cons] at hz; omega)) ?_ (cut_at p y q) U (by simpa using Nat.le_trans hz hz') h
  unfold seqIndex?
  subst hk
  simp
  omega
theorem pop0_led {u : Tok} {Q : Value → Shared → Prop} (F : Fr h₀ L s.heap m) (N : News h₀ L s.heap news) (hz : (v :: vs).length ≤ 2 ^ 20) (U : Upd D (W.listOf (v :: vs).toArray n) (W.listOf vs.toArray (n + 1)) news news')
    (h : ∀ h', Fr h₀ L h' m → News h₀ L h' news' → Q v { s with heap := h' }) : wpAny (model prog w) A (call (.builtin "list.pop") [.ref D, .int 0 u]) Q E s :=
  popAt_led (p := []) F N rfl hz U h
theorem insert_led {p q : List Value} {k : Int} {u : Tok} {y : Value} {Q : Value → Shared → Prop} (F : Fr h₀ L s.heap m) (N : News h₀ L s.heap news) (hk : k = (p.length : Int)) (hz : (p ++ q).length ≤ 2 ^ 20) (U : Upd D (W.listOf (p ++ q).toArray n) (W.listOf (p ++ y :: q).toArray (n + 1)) news news')
    (h : ∀ h', Fr h₀ L h' m → News h₀ L h' news' → Q .none { s with heap := h' }) : wpAny (model prog w) A (call (.builtin "list.insert") [.ref D, .int k u, y]) Q E s := by
  have hz' := lineBig
  refine kl_insert F N (fits_index (by omega) (by simp only [List.length_append] at hz; omega)) ?_ U (by simpa using Nat.le_trans hz hz') h
  unfold kl_ins
  subst hk
  rw [if_neg (by omega)]
  have : min ((p.length : Int).toNat) (p ++ q).toArray.toList.length = p.length := by simp
  rw [this]
  simp
theorem append_led {Q : Value → Shared → Prop} (F : Fr h₀ L s.heap m) (N : News h₀ L s.heap news) (hz : vs.length ≤ 2 ^ 20) (U : Upd D (W.listOf vs.toArray n) (W.listOf (vs ++ [v]).toArray (n + 1)) news news')
    (h : ∀ h', Fr h₀ L h' m → News h₀ L h' news' → Q .none { s with heap := h' }) : wpAny (model prog w) A (call (.builtin "list.append") [.ref D, v]) Q E s :=
  append_K (its := vs.toArray) F N (by rw [List.push_toArray]; exact U) h (by rw [List.size_toArray]; exact Nat.le_trans hz lineBig)
end
theorem seq_cut {M : Model} {A : Around} {E : Value → Shared → Prop} {s : Shared} {env : Env} {st : Stmt} {rest : List Stmt} {Q : Flow → Shared → Prop} (I : Shared → Prop) (h1 : wpAny M A (exec st env) (fun f s' => f = .next ∧ I s') E s) (h2 : ∀ s', I s' → wpAny M A (execs rest env) Q E s') :
    wpAny M A (execs (st :: rest) env) Q E s := wpAny_execs_cons (wpAny_mono h1 (fun f s' h => by obtain ⟨rfl, hi⟩ := h; exact h2 s' hi) fun _ _ e => e)
end Mine


namespace Mine
section
variable {prog : Program} {w : World} {A : Around} {E : Value → Shared → Prop} {s : Shared}
theorem getBy_miss_int {i : Int} {t : Tok} {tk : Tok} {name : Str} {Q : Option Value → Shared → Prop} (hmiss : typeLookup (.type "int") name = pure none) (hA : A.handled = none)
    (h : ∀ h' tk', (∀ b o, s.heap.get? b = some o → h'.get? b = some o) → Q none { s with heap := h', toks := tk' }) (hsz : name.length + 100 ≤ sizeLine) :
    wpAny (model prog w) A (getAttrBy? (.int i t) (.str name tk)) Q E s := by
  obtain ⟨hp, g, d, tk0, os⟩ := s
  have hT : ∀ s' : Shared, s'.TypeIs (.int i t) "int" := fun _ => rfl
  have f1 := sub_AttributeError
  have f3 := F.slot_int_getattribute.lookup
  have f4 := F.slot_int_getattribute.bind (.int i t)
  have f5 := am_int_getattr_none
  unfold getAttrBy? getAttrBy
  repeat (any_goals (first | assumption | ((with_reducible show wpAny _ _ (call (Value.builtin "int.__getattribute__") _ _) _ _ _); refine call_meets F.slot_int_getattribute (hT _) am_entry_int_getattribute (F.args_int_getattribute_2 _ _) (meets_getattribute_miss_int i t name _ hmiss hsz) ⟨hA, fun h' tk' e hx => ?_⟩) | wp_step))
  obtain ⟨t', u', he⟩ := hx.there
  show wpAny _ _ (getattributeRaised _ _ _ _ _ _ _) _ _ _
  unfold getattributeRaised
  repeat (any_goals (first | assumption | wp_step))
  exact h _ _ hx.keeps
theorem hasattr_int {i : Int} {t : Tok} {tk : Tok} {name : Str} {Q : Value → Shared → Prop} (hmiss : typeLookup (.type "int") name = pure none) (hA : A.handled = none)
    (h : ∀ h' tk', (∀ b o, s.heap.get? b = some o → h'.get? b = some o) → Q (.bool false) { s with heap := h', toks := tk' }) (hsz : name.length + 100 ≤ sizeLine) :
    wpAny (model prog w) A (call (.builtin "hasattr") [(.int i t), .str name tk]) Q E s := by
  refine Calls.call_function_entry kind_hasattr plain_hasattr entry_hasattr (args_hasattr2 _ _) ?_
  unfold Builtin.«hasattr»
  refine wpAny_bind (m := someArgs "hasattr" 2 2 _) (wpAny_pure ?_)
  dsimp only
  refine wpAny_bind (wpAny_bind (wpAny_pure ?_))
  show wpAny _ _ (pure _) _ _ _
  refine wpAny_pure ?_
  show wpAny _ _ (typeOf (.int i t) >>= _) _ _ _
  refine wpAny_bind (m := typeOf (.int i t)) (wpAny_pure (a := Value.type "int") ?_)
  dsimp only
  refine wpAny_bind (m := asStr? _) (wpAny_pure ?_)
  dsimp only
  rw [hmiss]
  refine wpAny_bind (wpAny_pure ?_)
  dsimp only
  refine wpAny_bind (wpAny_pure (a := 0) ?_)
  show wpAny _ _ (getAttrBy? _ _ >>= _) _ _ _
  refine wpAny_bind (getBy_miss_int (A := A.in1) hmiss hA (fun h' tk' hk => ?_) hsz)
  show wpAny _ _ (ret (.bool false)) _ _ _
  exact wpAny_pure ⟨_, rfl, h h' tk' hk⟩
theorem getBy_miss_str {x : Str} {t : Tok} {tk : Tok} {name : Str} {Q : Option Value → Shared → Prop} (hmiss : typeLookup (.type "str") name = pure none) (hA : A.handled = none)
    (h : ∀ h' tk', (∀ b o, s.heap.get? b = some o → h'.get? b = some o) → Q none { s with heap := h', toks := tk' }) (hsz : name.length + 100 ≤ sizeLine) :
    wpAny (model prog w) A (getAttrBy? (.str x t) (.str name tk)) Q E s := by
  obtain ⟨hp, g, d, tk0, os⟩ := s
  have hT : ∀ s' : Shared, s'.TypeIs (.str x t) "str" := fun _ => rfl
  have f1 := sub_AttributeError
  have f3 := F.slot_str_getattribute.lookup
  have f4 := F.slot_str_getattribute.bind (.str x t)
  have f5 := am_str_getattr_none
  unfold getAttrBy? getAttrBy
  repeat (any_goals (first | assumption | ((with_reducible show wpAny _ _ (call (Value.builtin "object.__getattribute__") _ _) _ _ _); refine call_meets F.slot_str_getattribute (hT _) F.entry_object_getattribute (F.args_object_getattribute_2 _ _) (meets_getattribute_miss_str x t name _ hmiss hsz) ⟨hA, fun h' tk' e hx => ?_⟩) | wp_step))
  obtain ⟨t', u', he⟩ := hx.there
  show wpAny _ _ (getattributeRaised _ _ _ _ _ _ _) _ _ _
  unfold getattributeRaised
  repeat (any_goals (first | assumption | wp_step))
  exact h _ _ hx.keeps
theorem hasattr_str {x : Str} {t : Tok} {tk : Tok} {name : Str} {Q : Value → Shared → Prop} (hmiss : typeLookup (.type "str") name = pure none) (hA : A.handled = none)
    (h : ∀ h' tk', (∀ b o, s.heap.get? b = some o → h'.get? b = some o) → Q (.bool false) { s with heap := h', toks := tk' }) (hsz : name.length + 100 ≤ sizeLine) :
    wpAny (model prog w) A (call (.builtin "hasattr") [(.str x t), .str name tk]) Q E s := by
  refine Calls.call_function_entry kind_hasattr plain_hasattr entry_hasattr (args_hasattr2 _ _) ?_
  unfold Builtin.«hasattr»
  refine wpAny_bind (m := someArgs "hasattr" 2 2 _) (wpAny_pure ?_)
  dsimp only
  refine wpAny_bind (wpAny_bind (wpAny_pure ?_))
  show wpAny _ _ (pure _) _ _ _
  refine wpAny_pure ?_
  show wpAny _ _ (typeOf (.str x t) >>= _) _ _ _
  refine wpAny_bind (m := typeOf (.str x t)) (wpAny_pure (a := Value.type "str") ?_)
  dsimp only
  refine wpAny_bind (m := asStr? _) (wpAny_pure ?_)
  dsimp only
  rw [hmiss]
  refine wpAny_bind (wpAny_pure ?_)
  dsimp only
  refine wpAny_bind (wpAny_pure (a := 0) ?_)
  show wpAny _ _ (getAttrBy? _ _ >>= _) _ _ _
  refine wpAny_bind (getBy_miss_str (A := A.in1) hmiss hA (fun h' tk' hk => ?_) hsz)
  show wpAny _ _ (ret (.bool false)) _ _ _
  exact wpAny_pure ⟨_, rfl, h h' tk' hk⟩
theorem getBy_miss_none  {tk : Tok} {name : Str} {Q : Option Value → Shared → Prop} (hmiss : typeLookup (.type "NoneType") name = pure none) (hA : A.handled = none)
    (h : ∀ h' tk', (∀ b o, s.heap.get? b = some o → h'.get? b = some o) → Q none { s with heap := h', toks := tk' }) (hsz : name.length + 100 ≤ sizeLine) :
    wpAny (model prog w) A (getAttrBy? .none (.str name tk)) Q E s := by
  obtain ⟨hp, g, d, tk0, os⟩ := s
  have hT : ∀ s' : Shared, s'.TypeIs .none "NoneType" := fun _ => rfl
  have f1 := sub_AttributeError
  have f3 := F.slot_NoneType_getattribute.lookup
  have f4 := F.slot_NoneType_getattribute.bind .none
  have f5 := am_none_getattr_none
  unfold getAttrBy? getAttrBy
  repeat (any_goals (first | assumption | ((with_reducible show wpAny _ _ (call (Value.builtin "object.__getattribute__") _ _) _ _ _); refine call_meets F.slot_NoneType_getattribute (hT _) F.entry_object_getattribute (F.args_object_getattribute_2 _ _) (meets_getattribute_miss_none  name _ hmiss hsz) ⟨hA, fun h' tk' e hx => ?_⟩) | wp_step))
  obtain ⟨t', u', he⟩ := hx.there
  show wpAny _ _ (getattributeRaised _ _ _ _ _ _ _) _ _ _
  unfold getattributeRaised
  repeat (any_goals (first | assumption | wp_step))
  exact h _ _ hx.keeps
theorem hasattr_none  {tk : Tok} {name : Str} {Q : Value → Shared → Prop} (hmiss : typeLookup (.type "NoneType") name = pure none) (hA : A.handled = none)
    (h : ∀ h' tk', (∀ b o, s.heap.get? b = some o → h'.get? b = some o) → Q (.bool false) { s with heap := h', toks := tk' }) (hsz : name.length + 100 ≤ sizeLine) :
    wpAny (model prog w) A (call (.builtin "hasattr") [.none, .str name tk]) Q E s := by
  refine Calls.call_function_entry kind_hasattr plain_hasattr entry_hasattr (args_hasattr2 _ _) ?_
  unfold Builtin.«hasattr»
  refine wpAny_bind (m := someArgs "hasattr" 2 2 _) (wpAny_pure ?_)
  dsimp only
  refine wpAny_bind (wpAny_bind (wpAny_pure ?_))
  show wpAny _ _ (pure _) _ _ _
  refine wpAny_pure ?_
  show wpAny _ _ (typeOf .none >>= _) _ _ _
  refine wpAny_bind (m := typeOf .none) (wpAny_pure (a := Value.type "NoneType") ?_)
  dsimp only
  refine wpAny_bind (m := asStr? _) (wpAny_pure ?_)
  dsimp only
  rw [hmiss]
  refine wpAny_bind (wpAny_pure ?_)
  dsimp only
  refine wpAny_bind (wpAny_pure (a := 0) ?_)
  show wpAny _ _ (getAttrBy? _ _ >>= _) _ _ _
  refine wpAny_bind (getBy_miss_none (A := A.in1) hmiss hA (fun h' tk' hk => ?_) hsz)
  show wpAny _ _ (ret (.bool false)) _ _ _
  exact wpAny_pure ⟨_, rfl, h h' tk' hk⟩
theorem getBy_miss_list {a : Addr} {xs : Array Value} {k : Nat} {sl : Array (Option Value)} {tk : Tok} {name : Str} {Q : Option Value → Shared → Prop} (hx : s.heap.get? a = some { cls := .type "list", dict := none, data := .seq xs k, slots := sl }) (hmiss : typeLookup (.type "list") name = pure none) (hname : (["__module__", "__name__", "__qualname__", "__doc__", "__annotations__"] : List Str).contains name = false) (hA : A.handled = none)
    (h : ∀ h' tk', (∀ b o, s.heap.get? b = some o → h'.get? b = some o) → Q none { s with heap := h', toks := tk' }) (hsz : name.length + 100 ≤ sizeLine) :
    wpAny (model prog w) A (getAttrBy? (.ref a) (.str name tk)) Q E s := by
  obtain ⟨hp, g, d, tk0, os⟩ := s
  have hT : ∀ tk', (⟨hp, g, d, tk', os⟩ : Shared).TypeIs (.ref a) "list" := fun _ => ⟨_, hx, rfl⟩
  have f1 := sub_AttributeError
  have f3 := F.slot_list_getattribute.lookup
  have f4 := F.slot_list_getattribute.bind (.ref a)
  have f5 := am_list_getattr_none
  unfold getAttrBy? getAttrBy
  repeat (any_goals (first | assumption | exact hT _ | ((with_reducible show wpAny _ _ (call (Value.builtin "list.__getattribute__") _ _) _ _ _); refine call_meets F.slot_list_getattribute (hT _) am_entry_list_getattribute (F.args_list_getattribute_2 _ _) (meets_getattribute_miss_list a xs k sl name _ hmiss hname hsz) ⟨hx, hA, fun h' tk' e hx' => ?_⟩) | wp_step))
  obtain ⟨t', u', he⟩ := hx'.there
  show wpAny _ _ (getattributeRaised _ _ _ _ _ _ _) _ _ _
  unfold getattributeRaised
  repeat (any_goals (first | assumption | wp_step))
  exact h _ _ hx'.keeps
theorem getBy_miss_dict {a : Addr} {es : Array DictEntry} {k : Nat} {sl : Array (Option Value)} {tk : Tok} {name : Str} {Q : Option Value → Shared → Prop} (hx : s.heap.get? a = some { cls := .type "dict", dict := none, data := .dict es k, slots := sl }) (hmiss : typeLookup (.type "dict") name = pure none) (hname : (["__module__", "__name__", "__qualname__", "__doc__", "__annotations__"] : List Str).contains name = false) (hA : A.handled = none)
    (h : ∀ h' tk', (∀ b o, s.heap.get? b = some o → h'.get? b = some o) → Q none { s with heap := h', toks := tk' }) (hsz : name.length + 100 ≤ sizeLine) :
    wpAny (model prog w) A (getAttrBy? (.ref a) (.str name tk)) Q E s := by
  obtain ⟨hp, g, d, tk0, os⟩ := s
  have hT : ∀ tk', (⟨hp, g, d, tk', os⟩ : Shared).TypeIs (.ref a) "dict" := fun _ => ⟨_, hx, rfl⟩
  have f1 := sub_AttributeError
  have f3 := F.slot_dict_getattribute.lookup
  have f4 := F.slot_dict_getattribute.bind (.ref a)
  have f5 := am_dict_getattr_none
  unfold getAttrBy? getAttrBy
  repeat (any_goals (first | assumption | exact hT _ | ((with_reducible show wpAny _ _ (call (Value.builtin "dict.__getattribute__") _ _) _ _ _); refine call_meets F.slot_dict_getattribute (hT _) am_entry_dict_getattribute (F.args_dict_getattribute_2 _ _) (meets_getattribute_miss_dict a es k sl name _ hmiss hname hsz) ⟨hx, hA, fun h' tk' e hx' => ?_⟩) | wp_step))
  obtain ⟨t', u', he⟩ := hx'.there
  show wpAny _ _ (getattributeRaised _ _ _ _ _ _ _) _ _ _
  unfold getattributeRaised
  repeat (any_goals (first | assumption | wp_step))
  exact h _ _ hx'.keeps
end
end Mine


namespace Mine
section
variable {prog : Program} {w : World} {A : Around} {E : Value → Shared → Prop} {s : Shared} {K : Frag} {x C L f : Addr} {h₀ : Heap} {m : Str → Option Value} {ox : Obj} {od : Option Obj}
/-- a written class's name is short -/
def nameIn (K : Frag) (C : Addr) : Bool := (clsIn K C).any fun cd => decide (cd.name.cps.foldl (fun k c => k + (Str.utf8Of c).length) 0 ≤ 50) && decide (cd.name.toString.length ≤ 100)
theorem name_inst {Q : String → Shared → Prop} (X : K.In s.heap) (I : W.InstAt s.heap x ox C od) (hn : nameIn K C = true) (h : ∀ n : String, n.length ≤ 100 → Q n s) : wpAny (model prog w) A (PySem.typeNameOf (.ref x)) Q E s := by
  obtain ⟨cd, hc, hb⟩ := any_some hn
  simp only [Bool.and_eq_true, decide_eq_true_eq] at hb
  unfold PySem.typeNameOf PySem.shownTypeOf
  refine wpAny_bind (wpAny_bind (I.type.here ?_))
  simp only [show (Value.ref C == Value.type "builtin_function_or_method") = false from rfl, Bool.false_eq_true, if_false]
  refine wpAny_pure ?_
  unfold PySem.typeName
  refine wpAny_bind ((looks_clsIn X hc).here ?_)
  dsimp only
  rw [if_neg (by omega)]
  exact wpAny_pure (h _ hb.2)
theorem msg_fits {a b : String} (ha : a.length ≤ 100) (hb : b.length ≤ 100) : (Str.ofString s!"'{"<"}' not supported between instances of '{a}' and '{b}'").length ≤ sizeLine := by
  rw [PySem.ofString_length, sizeLine_eq]
  simp only [String.length_append, toString]
  have e1 : "'".length ≤ 100 := by decide
  have e2 : "<".length ≤ 100 := by decide
  have e3 : "' not supported between instances of '".length ≤ 100 := by decide
  have e4 : "' and '".length ≤ 100 := by decide
  omega
theorem asInt_no {Q : Option Int → Shared → Prop} (hx : s.heap.get? x = some ox) (hnp : ∀ p, ox.data ≠ .prim p) (h : Q none s) : wpAny (model prog w) A (asInt? (.ref x)) Q E s := by
  unfold asInt?
  refine wpAny_bind (wpAny_load hx ?_)
  split
  · rename_i h1; exact absurd h1 (hnp _)
  · exact wpAny_pure h
/-- an int at the left of <, a thing of an own class at the right -/
theorem lt_int_inst {Q : Value → Shared → Prop} {i : Int} {t : Tok} (hh : A.handled = none) (hu : A.units < cLine) (F : Fr h₀ L s.heap m) (X₀ : K.In h₀) (I : W.InstAt s.heap x ox C od)
    (hg : findIn K (.ref C) "__gt__" = some (some (.builtin "object.__gt__"))) (hm : mroIn K C (.type "object") = some true) (hi : mroIn K C (.type "int") = some false) (hn : nameIn K C = true) (hnp : ∀ p, ox.data ≠ .prim p)
    (h : ∀ h' tk e, Heap.NewExc s.heap h' e "TypeError" → E (.ref e) { s with heap := h', toks := tk }) : wpAny (model prog w) A (compareOp .Lt (.int i t) (.ref x)) Q E s := by
  have X := X₀.keeps F.keep
  refine cmp_ofLt ?_
  have hT : ∀ s' : Shared, s'.TypeIs (.int i t) "int" := fun _ => rfl
  simp only [richCompare, cmpInfo, (hT s).oneThing_none]
  refine wpAny_holding (wpAny_bind (wpAny_cRoomFor hu ?_))
  refine wpAny_bind (wpAny_typeOf (hT s) (wpAny_bind (I.type.here ?_)))
  simp only [show (Value.type "int" != Value.ref C) = true from rfl, if_true]
  refine wpAny_bind ((looks_mroIn X hi).here ?_)
  simp only [Bool.false_eq_true, if_false, Bool.not_false, if_true]
  refine wpAny_bind (wpAny_tryCompare_declines (hT s) PySem.F.slot_int_lt ?_)
  refine wpAny_call_entry PySem.F.slot_int_lt (hT s) PySem.F.entry_int_lt ?_ (PySem.F.args_int_lt_2 _ _)
  show wpAny _ _ (Builtin.Int.intBinary "__lt__" (fun x y => ret (.bool (decide (x < y)))) false _) _ _ _
  unfold Builtin.Int.intBinary
  refine wpAny_bind (m := slotArgs "__lt__" 1 _) (wpAny_pure (a := (Value.int i t, [Value.ref x])) ?_)
  refine wpAny_bind (m := Builtin.Int.intOfSelf _) (wpAny_pure (a := i) ?_)
  refine wpAny_bind (m := asInt? (.ref x)) (asInt_no I.at_ hnp ?_)
  refine wpAny_bind (wpAny_rule (wpAny_pure ⟨_, rfl, rfl, ?_⟩))
  dsimp only
  refine wpAny_bind (gt_declined X I hg hm ?_)
  dsimp only
  refine wpAny_bind (wpAny_rule (wpAny_bind (wpAny_typeNameOf' (hT _) (by decide) (wpAny_bind (name_inst X I hn fun n hl => ?_)))))
  exact wpAny_raiseTypeError hh h (msg_fits (by decide) hl)
end
end Mine


namespace Mine
section
variable {p1 p2 p3 p4 p5 p6 p7 p8 p9 pa pb pc pd pe pf q : Prop}
theorem and1 (h : p1 ∧ q) : q := h.2
theorem and2 (h : p1 ∧ p2 ∧ q) : q := h.2.2
theorem and3 (h : p1 ∧ p2 ∧ p3 ∧ q) : q := h.2.2.2
theorem and4 (h : p1 ∧ p2 ∧ p3 ∧ p4 ∧ q) : q := h.2.2.2.2
theorem and5 (h : p1 ∧ p2 ∧ p3 ∧ p4 ∧ p5 ∧ q) : q := h.2.2.2.2.2
theorem and6 (h : p1 ∧ p2 ∧ p3 ∧ p4 ∧ p5 ∧ p6 ∧ q) : q := h.2.2.2.2.2.2
theorem and7 (h : p1 ∧ p2 ∧ p3 ∧ p4 ∧ p5 ∧ p6 ∧ p7 ∧ q) : q := h.2.2.2.2.2.2.2
theorem and8 (h : p1 ∧ p2 ∧ p3 ∧ p4 ∧ p5 ∧ p6 ∧ p7 ∧ p8 ∧ q) : q := h.2.2.2.2.2.2.2.2
theorem and9 (h : p1 ∧ p2 ∧ p3 ∧ p4 ∧ p5 ∧ p6 ∧ p7 ∧ p8 ∧ p9 ∧ q) : q := h.2.2.2.2.2.2.2.2.2
theorem anda (h : p1 ∧ p2 ∧ p3 ∧ p4 ∧ p5 ∧ p6 ∧ p7 ∧ p8 ∧ p9 ∧ pa ∧ q) : q := h.2.2.2.2.2.2.2.2.2.2
theorem andb (h : p1 ∧ p2 ∧ p3 ∧ p4 ∧ p5 ∧ p6 ∧ p7 ∧ p8 ∧ p9 ∧ pa ∧ pb ∧ q) : q := h.2.2.2.2.2.2.2.2.2.2.2
theorem andc (h : p1 ∧ p2 ∧ p3 ∧ p4 ∧ p5 ∧ p6 ∧ p7 ∧ p8 ∧ p9 ∧ pa ∧ pb ∧ pc ∧ q) : q := h.2.2.2.2.2.2.2.2.2.2.2.2
theorem andd (h : p1 ∧ p2 ∧ p3 ∧ p4 ∧ p5 ∧ p6 ∧ p7 ∧ p8 ∧ p9 ∧ pa ∧ pb ∧ pc ∧ pd ∧ q) : q := h.2.2.2.2.2.2.2.2.2.2.2.2.2
theorem ande (h : p1 ∧ p2 ∧ p3 ∧ p4 ∧ p5 ∧ p6 ∧ p7 ∧ p8 ∧ p9 ∧ pa ∧ pb ∧ pc ∧ pd ∧ pe ∧ q) : q := h.2.2.2.2.2.2.2.2.2.2.2.2.2.2
end
def Offs (I : Addr) (l : List (Addr × Obj)) : Prop := ∀ p ∈ l, p.1 ≠ I
theorem offs_cons {I : Addr} {p : Addr × Obj} {r : List (Addr × Obj)} (h : p.1 ≠ I) (t : Offs I r) : Offs I (p :: r) := fun q hq => by
  rcases List.mem_cons.mp hq with rfl | hq
  · exact h
  · exact t q hq
theorem allLt_mem {d : Nat} : ∀ {l : List (Addr × Obj)}, AllLt d l → ∀ p ∈ l, @LT.lt Nat _ p.1 d
  | [], _, _, h => nomatch h
  | _ :: _, x, p, h => by
    rcases List.mem_cons.mp h with rfl | h
    · exact x.1
    · exact allLt_mem x.2 p h
theorem allLt_le {d e : Nat} {l : List (Addr × Obj)} (h : ∀ p ∈ l, @LT.lt Nat _ p.1 d) (hle : d ≤ e) : AllLt e l := allLt_of fun p hp => Nat.lt_of_lt_of_le (h p hp) hle
theorem offs_tail {I : Addr} {r : List (Addr × Obj)} (h : AllLt I r) : Offs I r := fun p hp e => absurd (allLt_mem h p hp) (by rw [show p.1 = I from e]; exact Nat.lt_irrefl _)
/-- nw is news and new things -/
def Grown (news nw : List (Addr × Obj)) : Prop := (∀ p ∈ news, p ∈ nw) ∧ ∀ p ∈ nw, p ∈ news ∨ AllLt p.1 news
theorem grown_nil {news : List (Addr × Obj)} : Grown news news := ⟨fun _ h => h, fun _ h => .inl h⟩
theorem grown_cons {news nw : List (Addr × Obj)} {p : Addr × Obj} (h : AllLt p.1 news) (g : Grown news nw) : Grown news (p :: nw) := ⟨fun q hq => .tail _ (g.1 q hq), fun q hq => by
  rcases List.mem_cons.mp hq with rfl | hq
  · exact .inr h
  · exact g.2 q hq⟩
/-- nw is the new things, then news -/
def Made (news nw new : List (Addr × Obj)) : Prop := nw = new ++ news ∧ ∀ p ∈ new, AllLt p.1 news
theorem made_nil {news : List (Addr × Obj)} : Made news news [] := ⟨rfl, fun _ h => nomatch h⟩
theorem made_cons {news nw new : List (Addr × Obj)} {p : Addr × Obj} (h : AllLt p.1 news) (g : Made news nw new) : Made news (p :: nw) (p :: new) := ⟨by rw [g.1]; rfl, fun q hq => by
  rcases List.mem_cons.mp hq with rfl | hq
  · exact h
  · exact g.2 q hq⟩
section
variable {h₀ : Heap} {L I : Addr} {it : Obj} {rest : (Str → Option Value) → List (Addr × Obj) → Prop} {s₁ : Shared} {h' : Heap} {tk : Nat} {m' : Str → Option Value} {a1 a2 a3 a4 a5 a6 a7 a8 a9 : Addr × Obj} {post : List (Addr × Obj)}
theorem unr_of (F : Fr h₀ L h' m') (pre : List (Addr × Obj)) (N : News h₀ L h' (pre ++ (I, it) :: post)) (off : Offs I (pre ++ post)) (r : rest m' (pre ++ post)) : UnrEnd h₀ L s₁ I it rest { s₁ with heap := h', toks := tk } :=
  UnrEnd.intro F N (pre ++ post) (fun p hp => by
    rcases List.mem_cons.mp hp with rfl | hp
    · exact List.mem_append_right _ (.head _)
    · rcases List.mem_append.mp hp with hp | hp
      · exact List.mem_append_left _ hp
      · exact List.mem_append_right _ (.tail _ hp)) off r
theorem unr0 (F : Fr h₀ L h' m') (N : News h₀ L h' ((I, it) :: post)) (off : Offs I post) (r : rest m' post) : UnrEnd h₀ L s₁ I it rest { s₁ with heap := h', toks := tk } := unr_of F [] N off r
theorem unr1 (F : Fr h₀ L h' m') (N : News h₀ L h' (a1 :: (I, it) :: post)) (off : Offs I (a1 :: post)) (r : rest m' (a1 :: post)) : UnrEnd h₀ L s₁ I it rest { s₁ with heap := h', toks := tk } := unr_of F [a1] N off r
theorem unr2 (F : Fr h₀ L h' m') (N : News h₀ L h' (a1 :: a2 :: (I, it) :: post)) (off : Offs I (a1 :: a2 :: post)) (r : rest m' (a1 :: a2 :: post)) : UnrEnd h₀ L s₁ I it rest { s₁ with heap := h', toks := tk } := unr_of F [a1, a2] N off r
theorem unr3 (F : Fr h₀ L h' m') (N : News h₀ L h' (a1 :: a2 :: a3 :: (I, it) :: post)) (off : Offs I (a1 :: a2 :: a3 :: post)) (r : rest m' (a1 :: a2 :: a3 :: post)) : UnrEnd h₀ L s₁ I it rest { s₁ with heap := h', toks := tk } := unr_of F [a1, a2, a3] N off r
theorem unr4 (F : Fr h₀ L h' m') (N : News h₀ L h' (a1 :: a2 :: a3 :: a4 :: (I, it) :: post)) (off : Offs I (a1 :: a2 :: a3 :: a4 :: post)) (r : rest m' (a1 :: a2 :: a3 :: a4 :: post)) : UnrEnd h₀ L s₁ I it rest { s₁ with heap := h', toks := tk } := unr_of F [a1, a2, a3, a4] N off r
end
end Mine


namespace Mine
/-! a list comprehension by an invariant over what is built and the ledger -/
section
variable {prog : Program} {w : World} {A : Around} {s : Shared} {h₀ : Heap} {L : Addr} {m : Str → Option Value} {env : Env} {elt : PySem.Expr} {x : Str} {scope : Scope} {cl : List (Str × Addr)} {S : List (Addr × Obj) → Prop} {P : Nat → Value → Prop} {Fin : List Value → List (Addr × Obj) → Prop}
theorem comp_inv {n : Nat} (J : Nat → List Value → List (Addr × Obj) → Prop)
    (step : ∀ i ys news, i < n → J i ys news → ∀ v I oI C oC D m₂ h tk (E' : Value → Shared → Prop), P i v → LCg.NsObj oC m₂ → m₂ x = some v → Fr h₀ L h m → News h₀ L h ((I, oI) :: (C, oC) :: (D, LCg.lst ys) :: news) → LCg.Off3 I C D news → ((@Ne Nat I C) ∧ (@Ne Nat I D) ∧ (@Ne Nat C D)) →
      wpAny (model prog w) A (eval elt (compEnvC scope cl C env)) (LCg.CompEnd h₀ L m { s with heap := h, toks := tk } I oI C oC D (LCg.lst ys) S (fun y news' => J (i + 1) (ys ++ [y]) news')) E' { s with heap := h, toks := tk })
    (fin : ∀ ys news, J n ys news → Fin ys news) : ∀ k i ys news, i + k = n → J i ys news → LCg.CompRest prog w A h₀ L m env elt x scope cl s S P Fin k i ys news
  | 0, i, ys, news, e, hj => .zero (fin ys news ((show i = n by omega) ▸ hj))
  | k + 1, i, ys, news, e, hj => .succ (fun v I oI C oC D m₂ h tk E' h1 h2 h3 h4 h5 h6 h7 => by
      refine wpAny_mono (step i ys news (by omega) hj v I oI C oC D m₂ h tk E' h1 h2 h3 h4 h5 h6 h7) (fun y s₂ z => ?_) fun _ _ e => e
      obtain ⟨h', tk', news', a1, a2, a3, a4, a5, a6⟩ := z
      exact ⟨h', tk', news', a1, a2, a3, a4, a5, comp_inv J step fin k (i + 1) (ys ++ [y]) news' (by omega) a6⟩)
theorem comp_inv0 {n : Nat} {news : List (Addr × Obj)} (J : Nat → List Value → List (Addr × Obj) → Prop) (hj : J 0 [] news)
    (step : ∀ i ys news, i < n → J i ys news → ∀ v I oI C oC D m₂ h tk (E' : Value → Shared → Prop), P i v → LCg.NsObj oC m₂ → m₂ x = some v → Fr h₀ L h m → News h₀ L h ((I, oI) :: (C, oC) :: (D, LCg.lst ys) :: news) → LCg.Off3 I C D news → ((@Ne Nat I C) ∧ (@Ne Nat I D) ∧ (@Ne Nat C D)) →
      wpAny (model prog w) A (eval elt (compEnvC scope cl C env)) (LCg.CompEnd h₀ L m { s with heap := h, toks := tk } I oI C oC D (LCg.lst ys) S (fun y news' => J (i + 1) (ys ++ [y]) news')) E' { s with heap := h, toks := tk })
    (fin : ∀ ys news, J n ys news → Fin ys news) : LCg.CompRest prog w A h₀ L m env elt x scope cl s S P Fin n 0 [] news := comp_inv J step fin n 0 [] news (Nat.zero_add n) hj
theorem off3_made {I C D : Addr} {oI oC oD : Obj} {news new nw : List (Addr × Obj)} (h : Made ((I, oI) :: (C, oC) :: (D, oD) :: news) nw new) (ho : LCg.Off3 I C D news) : LCg.Off3 I C D (new ++ news) := LCg.Off3.of fun p hp => by
  rcases List.mem_append.mp hp with hp | hp
  · have := allLt_mem (h.2 p hp)
    exact ⟨fun e => Nat.lt_irrefl _ (e ▸ this (I, oI) (.head _)), fun e => Nat.lt_irrefl _ (e ▸ this (C, oC) (.tail _ (.head _))), fun e => Nat.lt_irrefl _ (e ▸ this (D, oD) (.tail _ (.tail _ (.head _))))⟩
  · exact ho.mem p hp
theorem news_made {I C D : Addr} {oI oC oD : Obj} {news new nw : List (Addr × Obj)} {h : Heap} (hm : Made ((I, oI) :: (C, oC) :: (D, oD) :: news) nw new) (N : News h₀ L h nw) : News h₀ L h ((I, oI) :: (C, oC) :: (D, oD) :: (new ++ news)) := fun p hp => by
  refine N p ?_
  rw [hm.1]
  rcases List.mem_cons.mp hp with rfl | hp
  · exact List.mem_append_right _ (.head _)
  · rcases List.mem_cons.mp hp with rfl | hp
    · exact List.mem_append_right _ (.tail _ (.head _))
    · rcases List.mem_cons.mp hp with rfl | hp
      · exact List.mem_append_right _ (.tail _ (.tail _ (.head _)))
      · rcases List.mem_append.mp hp with hp | hp
        · exact List.mem_append_left _ hp
        · exact List.mem_append_right _ (.tail _ (.tail _ (.tail _ hp)))
end
end Mine


namespace Mine
theorem fr_f1 {h₀ h : Heap} {L : Addr} {m : Str → Option Value} {k1 : Str} {v1 : Value} (F : Fr h₀ L h m) (e1 : m k1 = some v1) : Fr h₀ L h (fun y => if y = k1 then some v1 else m y) := by
  rw [show (fun y => if y = k1 then some v1 else m y) = m from funext fun y => by simp only [fill1 e1]]; exact F
theorem fr_f2 {h₀ h : Heap} {L : Addr} {m : Str → Option Value} {k1 k2 : Str} {v1 v2 : Value} (F : Fr h₀ L h m) (e1 : m k1 = some v1) (e2 : m k2 = some v2) : Fr h₀ L h (fun y => if y = k1 then some v1 else if y = k2 then some v2 else m y) := by
  rw [show (fun y => if y = k1 then some v1 else if y = k2 then some v2 else m y) = m from funext fun y => by simp only [fill1 e1, fill1 e2]]; exact F
theorem fr_f3 {h₀ h : Heap} {L : Addr} {m : Str → Option Value} {k1 k2 k3 : Str} {v1 v2 v3 : Value} (F : Fr h₀ L h m) (e1 : m k1 = some v1) (e2 : m k2 = some v2) (e3 : m k3 = some v3) : Fr h₀ L h (fun y => if y = k1 then some v1 else if y = k2 then some v2 else if y = k3 then some v3 else m y) := by
  rw [show (fun y => if y = k1 then some v1 else if y = k2 then some v2 else if y = k3 then some v3 else m y) = m from funext fun y => by simp only [fill1 e1, fill1 e2, fill1 e3]]; exact F
theorem fr_f4 {h₀ h : Heap} {L : Addr} {m : Str → Option Value} {k1 k2 k3 k4 : Str} {v1 v2 v3 v4 : Value} (F : Fr h₀ L h m) (e1 : m k1 = some v1) (e2 : m k2 = some v2) (e3 : m k3 = some v3) (e4 : m k4 = some v4) : Fr h₀ L h (fun y => if y = k1 then some v1 else if y = k2 then some v2 else if y = k3 then some v3 else if y = k4 then some v4 else m y) := by
  rw [show (fun y => if y = k1 then some v1 else if y = k2 then some v2 else if y = k3 then some v3 else if y = k4 then some v4 else m y) = m from funext fun y => by simp only [fill1 e1, fill1 e2, fill1 e3, fill1 e4]]; exact F
theorem fr_f5 {h₀ h : Heap} {L : Addr} {m : Str → Option Value} {k1 k2 k3 k4 k5 : Str} {v1 v2 v3 v4 v5 : Value} (F : Fr h₀ L h m) (e1 : m k1 = some v1) (e2 : m k2 = some v2) (e3 : m k3 = some v3) (e4 : m k4 = some v4) (e5 : m k5 = some v5) : Fr h₀ L h (fun y => if y = k1 then some v1 else if y = k2 then some v2 else if y = k3 then some v3 else if y = k4 then some v4 else if y = k5 then some v5 else m y) := by
  rw [show (fun y => if y = k1 then some v1 else if y = k2 then some v2 else if y = k3 then some v3 else if y = k4 then some v4 else if y = k5 then some v5 else m y) = m from funext fun y => by simp only [fill1 e1, fill1 e2, fill1 e3, fill1 e4, fill1 e5]]; exact F
theorem fr_f6 {h₀ h : Heap} {L : Addr} {m : Str → Option Value} {k1 k2 k3 k4 k5 k6 : Str} {v1 v2 v3 v4 v5 v6 : Value} (F : Fr h₀ L h m) (e1 : m k1 = some v1) (e2 : m k2 = some v2) (e3 : m k3 = some v3) (e4 : m k4 = some v4) (e5 : m k5 = some v5) (e6 : m k6 = some v6) : Fr h₀ L h (fun y => if y = k1 then some v1 else if y = k2 then some v2 else if y = k3 then some v3 else if y = k4 then some v4 else if y = k5 then some v5 else if y = k6 then some v6 else m y) := by
  rw [show (fun y => if y = k1 then some v1 else if y = k2 then some v2 else if y = k3 then some v3 else if y = k4 then some v4 else if y = k5 then some v5 else if y = k6 then some v6 else m y) = m from funext fun y => by simp only [fill1 e1, fill1 e2, fill1 e3, fill1 e4, fill1 e5, fill1 e6]]; exact F
theorem fr_f7 {h₀ h : Heap} {L : Addr} {m : Str → Option Value} {k1 k2 k3 k4 k5 k6 k7 : Str} {v1 v2 v3 v4 v5 v6 v7 : Value} (F : Fr h₀ L h m) (e1 : m k1 = some v1) (e2 : m k2 = some v2) (e3 : m k3 = some v3) (e4 : m k4 = some v4) (e5 : m k5 = some v5) (e6 : m k6 = some v6) (e7 : m k7 = some v7) : Fr h₀ L h (fun y => if y = k1 then some v1 else if y = k2 then some v2 else if y = k3 then some v3 else if y = k4 then some v4 else if y = k5 then some v5 else if y = k6 then some v6 else if y = k7 then some v7 else m y) := by
  rw [show (fun y => if y = k1 then some v1 else if y = k2 then some v2 else if y = k3 then some v3 else if y = k4 then some v4 else if y = k5 then some v5 else if y = k6 then some v6 else if y = k7 then some v7 else m y) = m from funext fun y => by simp only [fill1 e1, fill1 e2, fill1 e3, fill1 e4, fill1 e5, fill1 e6, fill1 e7]]; exact F
theorem fr_f8 {h₀ h : Heap} {L : Addr} {m : Str → Option Value} {k1 k2 k3 k4 k5 k6 k7 k8 : Str} {v1 v2 v3 v4 v5 v6 v7 v8 : Value} (F : Fr h₀ L h m) (e1 : m k1 = some v1) (e2 : m k2 = some v2) (e3 : m k3 = some v3) (e4 : m k4 = some v4) (e5 : m k5 = some v5) (e6 : m k6 = some v6) (e7 : m k7 = some v7) (e8 : m k8 = some v8) : Fr h₀ L h (fun y => if y = k1 then some v1 else if y = k2 then some v2 else if y = k3 then some v3 else if y = k4 then some v4 else if y = k5 then some v5 else if y = k6 then some v6 else if y = k7 then some v7 else if y = k8 then some v8 else m y) := by
  rw [show (fun y => if y = k1 then some v1 else if y = k2 then some v2 else if y = k3 then some v3 else if y = k4 then some v4 else if y = k5 then some v5 else if y = k6 then some v6 else if y = k7 then some v7 else if y = k8 then some v8 else m y) = m from funext fun y => by simp only [fill1 e1, fill1 e2, fill1 e3, fill1 e4, fill1 e5, fill1 e6, fill1 e7, fill1 e8]]; exact F
theorem fr_f9 {h₀ h : Heap} {L : Addr} {m : Str → Option Value} {k1 k2 k3 k4 k5 k6 k7 k8 k9 : Str} {v1 v2 v3 v4 v5 v6 v7 v8 v9 : Value} (F : Fr h₀ L h m) (e1 : m k1 = some v1) (e2 : m k2 = some v2) (e3 : m k3 = some v3) (e4 : m k4 = some v4) (e5 : m k5 = some v5) (e6 : m k6 = some v6) (e7 : m k7 = some v7) (e8 : m k8 = some v8) (e9 : m k9 = some v9) : Fr h₀ L h (fun y => if y = k1 then some v1 else if y = k2 then some v2 else if y = k3 then some v3 else if y = k4 then some v4 else if y = k5 then some v5 else if y = k6 then some v6 else if y = k7 then some v7 else if y = k8 then some v8 else if y = k9 then some v9 else m y) := by
  rw [show (fun y => if y = k1 then some v1 else if y = k2 then some v2 else if y = k3 then some v3 else if y = k4 then some v4 else if y = k5 then some v5 else if y = k6 then some v6 else if y = k7 then some v7 else if y = k8 then some v8 else if y = k9 then some v9 else m y) = m from funext fun y => by simp only [fill1 e1, fill1 e2, fill1 e3, fill1 e4, fill1 e5, fill1 e6, fill1 e7, fill1 e8, fill1 e9]]; exact F
theorem fr_f10 {h₀ h : Heap} {L : Addr} {m : Str → Option Value} {k1 k2 k3 k4 k5 k6 k7 k8 k9 k10 : Str} {v1 v2 v3 v4 v5 v6 v7 v8 v9 v10 : Value} (F : Fr h₀ L h m) (e1 : m k1 = some v1) (e2 : m k2 = some v2) (e3 : m k3 = some v3) (e4 : m k4 = some v4) (e5 : m k5 = some v5) (e6 : m k6 = some v6) (e7 : m k7 = some v7) (e8 : m k8 = some v8) (e9 : m k9 = some v9) (e10 : m k10 = some v10) : Fr h₀ L h (fun y => if y = k1 then some v1 else if y = k2 then some v2 else if y = k3 then some v3 else if y = k4 then some v4 else if y = k5 then some v5 else if y = k6 then some v6 else if y = k7 then some v7 else if y = k8 then some v8 else if y = k9 then some v9 else if y = k10 then some v10 else m y) := by
  rw [show (fun y => if y = k1 then some v1 else if y = k2 then some v2 else if y = k3 then some v3 else if y = k4 then some v4 else if y = k5 then some v5 else if y = k6 then some v6 else if y = k7 then some v7 else if y = k8 then some v8 else if y = k9 then some v9 else if y = k10 then some v10 else m y) = m from funext fun y => by simp only [fill1 e1, fill1 e2, fill1 e3, fill1 e4, fill1 e5, fill1 e6, fill1 e7, fill1 e8, fill1 e9, fill1 e10]]; exact F
theorem fr_f11 {h₀ h : Heap} {L : Addr} {m : Str → Option Value} {k1 k2 k3 k4 k5 k6 k7 k8 k9 k10 k11 : Str} {v1 v2 v3 v4 v5 v6 v7 v8 v9 v10 v11 : Value} (F : Fr h₀ L h m) (e1 : m k1 = some v1) (e2 : m k2 = some v2) (e3 : m k3 = some v3) (e4 : m k4 = some v4) (e5 : m k5 = some v5) (e6 : m k6 = some v6) (e7 : m k7 = some v7) (e8 : m k8 = some v8) (e9 : m k9 = some v9) (e10 : m k10 = some v10) (e11 : m k11 = some v11) : Fr h₀ L h (fun y => if y = k1 then some v1 else if y = k2 then some v2 else if y = k3 then some v3 else if y = k4 then some v4 else if y = k5 then some v5 else if y = k6 then some v6 else if y = k7 then some v7 else if y = k8 then some v8 else if y = k9 then some v9 else if y = k10 then some v10 else if y = k11 then some v11 else m y) := by
  rw [show (fun y => if y = k1 then some v1 else if y = k2 then some v2 else if y = k3 then some v3 else if y = k4 then some v4 else if y = k5 then some v5 else if y = k6 then some v6 else if y = k7 then some v7 else if y = k8 then some v8 else if y = k9 then some v9 else if y = k10 then some v10 else if y = k11 then some v11 else m y) = m from funext fun y => by simp only [fill1 e1, fill1 e2, fill1 e3, fill1 e4, fill1 e5, fill1 e6, fill1 e7, fill1 e8, fill1 e9, fill1 e10, fill1 e11]]; exact F
theorem fr_f12 {h₀ h : Heap} {L : Addr} {m : Str → Option Value} {k1 k2 k3 k4 k5 k6 k7 k8 k9 k10 k11 k12 : Str} {v1 v2 v3 v4 v5 v6 v7 v8 v9 v10 v11 v12 : Value} (F : Fr h₀ L h m) (e1 : m k1 = some v1) (e2 : m k2 = some v2) (e3 : m k3 = some v3) (e4 : m k4 = some v4) (e5 : m k5 = some v5) (e6 : m k6 = some v6) (e7 : m k7 = some v7) (e8 : m k8 = some v8) (e9 : m k9 = some v9) (e10 : m k10 = some v10) (e11 : m k11 = some v11) (e12 : m k12 = some v12) : Fr h₀ L h (fun y => if y = k1 then some v1 else if y = k2 then some v2 else if y = k3 then some v3 else if y = k4 then some v4 else if y = k5 then some v5 else if y = k6 then some v6 else if y = k7 then some v7 else if y = k8 then some v8 else if y = k9 then some v9 else if y = k10 then some v10 else if y = k11 then some v11 else if y = k12 then some v12 else m y) := by
  rw [show (fun y => if y = k1 then some v1 else if y = k2 then some v2 else if y = k3 then some v3 else if y = k4 then some v4 else if y = k5 then some v5 else if y = k6 then some v6 else if y = k7 then some v7 else if y = k8 then some v8 else if y = k9 then some v9 else if y = k10 then some v10 else if y = k11 then some v11 else if y = k12 then some v12 else m y) = m from funext fun y => by simp only [fill1 e1, fill1 e2, fill1 e3, fill1 e4, fill1 e5, fill1 e6, fill1 e7, fill1 e8, fill1 e9, fill1 e10, fill1 e11, fill1 e12]]; exact F
theorem fr_f13 {h₀ h : Heap} {L : Addr} {m : Str → Option Value} {k1 k2 k3 k4 k5 k6 k7 k8 k9 k10 k11 k12 k13 : Str} {v1 v2 v3 v4 v5 v6 v7 v8 v9 v10 v11 v12 v13 : Value} (F : Fr h₀ L h m) (e1 : m k1 = some v1) (e2 : m k2 = some v2) (e3 : m k3 = some v3) (e4 : m k4 = some v4) (e5 : m k5 = some v5) (e6 : m k6 = some v6) (e7 : m k7 = some v7) (e8 : m k8 = some v8) (e9 : m k9 = some v9) (e10 : m k10 = some v10) (e11 : m k11 = some v11) (e12 : m k12 = some v12) (e13 : m k13 = some v13) : Fr h₀ L h (fun y => if y = k1 then some v1 else if y = k2 then some v2 else if y = k3 then some v3 else if y = k4 then some v4 else if y = k5 then some v5 else if y = k6 then some v6 else if y = k7 then some v7 else if y = k8 then some v8 else if y = k9 then some v9 else if y = k10 then some v10 else if y = k11 then some v11 else if y = k12 then some v12 else if y = k13 then some v13 else m y) := by
  rw [show (fun y => if y = k1 then some v1 else if y = k2 then some v2 else if y = k3 then some v3 else if y = k4 then some v4 else if y = k5 then some v5 else if y = k6 then some v6 else if y = k7 then some v7 else if y = k8 then some v8 else if y = k9 then some v9 else if y = k10 then some v10 else if y = k11 then some v11 else if y = k12 then some v12 else if y = k13 then some v13 else m y) = m from funext fun y => by simp only [fill1 e1, fill1 e2, fill1 e3, fill1 e4, fill1 e5, fill1 e6, fill1 e7, fill1 e8, fill1 e9, fill1 e10, fill1 e11, fill1 e12, fill1 e13]]; exact F
theorem fr_f14 {h₀ h : Heap} {L : Addr} {m : Str → Option Value} {k1 k2 k3 k4 k5 k6 k7 k8 k9 k10 k11 k12 k13 k14 : Str} {v1 v2 v3 v4 v5 v6 v7 v8 v9 v10 v11 v12 v13 v14 : Value} (F : Fr h₀ L h m) (e1 : m k1 = some v1) (e2 : m k2 = some v2) (e3 : m k3 = some v3) (e4 : m k4 = some v4) (e5 : m k5 = some v5) (e6 : m k6 = some v6) (e7 : m k7 = some v7) (e8 : m k8 = some v8) (e9 : m k9 = some v9) (e10 : m k10 = some v10) (e11 : m k11 = some v11) (e12 : m k12 = some v12) (e13 : m k13 = some v13) (e14 : m k14 = some v14) : Fr h₀ L h (fun y => if y = k1 then some v1 else if y = k2 then some v2 else if y = k3 then some v3 else if y = k4 then some v4 else if y = k5 then some v5 else if y = k6 then some v6 else if y = k7 then some v7 else if y = k8 then some v8 else if y = k9 then some v9 else if y = k10 then some v10 else if y = k11 then some v11 else if y = k12 then some v12 else if y = k13 then some v13 else if y = k14 then some v14 else m y) := by
  rw [show (fun y => if y = k1 then some v1 else if y = k2 then some v2 else if y = k3 then some v3 else if y = k4 then some v4 else if y = k5 then some v5 else if y = k6 then some v6 else if y = k7 then some v7 else if y = k8 then some v8 else if y = k9 then some v9 else if y = k10 then some v10 else if y = k11 then some v11 else if y = k12 then some v12 else if y = k13 then some v13 else if y = k14 then some v14 else m y) = m from funext fun y => by simp only [fill1 e1, fill1 e2, fill1 e3, fill1 e4, fill1 e5, fill1 e6, fill1 e7, fill1 e8, fill1 e9, fill1 e10, fill1 e11, fill1 e12, fill1 e13, fill1 e14]]; exact F
theorem fr_g1 {h₀ h : Heap} {L : Addr} {m : Str → Option Value} {x k1 : Str} {v v1 : Value} (F : Fr h₀ L h (fun y => if y = x then some v else m y)) (e1 : m k1 = some v1) : Fr h₀ L h (fun y => if y = x then some v else if y = k1 then some v1 else m y) := by
  rw [show (fun y => if y = x then some v else if y = k1 then some v1 else m y) = (fun y => if y = x then some v else m y) from funext fun y => by simp only [fill1 e1]]; exact F
theorem fr_g2 {h₀ h : Heap} {L : Addr} {m : Str → Option Value} {x k1 k2 : Str} {v v1 v2 : Value} (F : Fr h₀ L h (fun y => if y = x then some v else m y)) (e1 : m k1 = some v1) (e2 : m k2 = some v2) : Fr h₀ L h (fun y => if y = x then some v else if y = k1 then some v1 else if y = k2 then some v2 else m y) := by
  rw [show (fun y => if y = x then some v else if y = k1 then some v1 else if y = k2 then some v2 else m y) = (fun y => if y = x then some v else m y) from funext fun y => by simp only [fill1 e1, fill1 e2]]; exact F
theorem fr_g3 {h₀ h : Heap} {L : Addr} {m : Str → Option Value} {x k1 k2 k3 : Str} {v v1 v2 v3 : Value} (F : Fr h₀ L h (fun y => if y = x then some v else m y)) (e1 : m k1 = some v1) (e2 : m k2 = some v2) (e3 : m k3 = some v3) : Fr h₀ L h (fun y => if y = x then some v else if y = k1 then some v1 else if y = k2 then some v2 else if y = k3 then some v3 else m y) := by
  rw [show (fun y => if y = x then some v else if y = k1 then some v1 else if y = k2 then some v2 else if y = k3 then some v3 else m y) = (fun y => if y = x then some v else m y) from funext fun y => by simp only [fill1 e1, fill1 e2, fill1 e3]]; exact F
theorem fr_g4 {h₀ h : Heap} {L : Addr} {m : Str → Option Value} {x k1 k2 k3 k4 : Str} {v v1 v2 v3 v4 : Value} (F : Fr h₀ L h (fun y => if y = x then some v else m y)) (e1 : m k1 = some v1) (e2 : m k2 = some v2) (e3 : m k3 = some v3) (e4 : m k4 = some v4) : Fr h₀ L h (fun y => if y = x then some v else if y = k1 then some v1 else if y = k2 then some v2 else if y = k3 then some v3 else if y = k4 then some v4 else m y) := by
  rw [show (fun y => if y = x then some v else if y = k1 then some v1 else if y = k2 then some v2 else if y = k3 then some v3 else if y = k4 then some v4 else m y) = (fun y => if y = x then some v else m y) from funext fun y => by simp only [fill1 e1, fill1 e2, fill1 e3, fill1 e4]]; exact F
theorem fr_g5 {h₀ h : Heap} {L : Addr} {m : Str → Option Value} {x k1 k2 k3 k4 k5 : Str} {v v1 v2 v3 v4 v5 : Value} (F : Fr h₀ L h (fun y => if y = x then some v else m y)) (e1 : m k1 = some v1) (e2 : m k2 = some v2) (e3 : m k3 = some v3) (e4 : m k4 = some v4) (e5 : m k5 = some v5) : Fr h₀ L h (fun y => if y = x then some v else if y = k1 then some v1 else if y = k2 then some v2 else if y = k3 then some v3 else if y = k4 then some v4 else if y = k5 then some v5 else m y) := by
  rw [show (fun y => if y = x then some v else if y = k1 then some v1 else if y = k2 then some v2 else if y = k3 then some v3 else if y = k4 then some v4 else if y = k5 then some v5 else m y) = (fun y => if y = x then some v else m y) from funext fun y => by simp only [fill1 e1, fill1 e2, fill1 e3, fill1 e4, fill1 e5]]; exact F
theorem fr_g6 {h₀ h : Heap} {L : Addr} {m : Str → Option Value} {x k1 k2 k3 k4 k5 k6 : Str} {v v1 v2 v3 v4 v5 v6 : Value} (F : Fr h₀ L h (fun y => if y = x then some v else m y)) (e1 : m k1 = some v1) (e2 : m k2 = some v2) (e3 : m k3 = some v3) (e4 : m k4 = some v4) (e5 : m k5 = some v5) (e6 : m k6 = some v6) : Fr h₀ L h (fun y => if y = x then some v else if y = k1 then some v1 else if y = k2 then some v2 else if y = k3 then some v3 else if y = k4 then some v4 else if y = k5 then some v5 else if y = k6 then some v6 else m y) := by
  rw [show (fun y => if y = x then some v else if y = k1 then some v1 else if y = k2 then some v2 else if y = k3 then some v3 else if y = k4 then some v4 else if y = k5 then some v5 else if y = k6 then some v6 else m y) = (fun y => if y = x then some v else m y) from funext fun y => by simp only [fill1 e1, fill1 e2, fill1 e3, fill1 e4, fill1 e5, fill1 e6]]; exact F
theorem fr_g7 {h₀ h : Heap} {L : Addr} {m : Str → Option Value} {x k1 k2 k3 k4 k5 k6 k7 : Str} {v v1 v2 v3 v4 v5 v6 v7 : Value} (F : Fr h₀ L h (fun y => if y = x then some v else m y)) (e1 : m k1 = some v1) (e2 : m k2 = some v2) (e3 : m k3 = some v3) (e4 : m k4 = some v4) (e5 : m k5 = some v5) (e6 : m k6 = some v6) (e7 : m k7 = some v7) : Fr h₀ L h (fun y => if y = x then some v else if y = k1 then some v1 else if y = k2 then some v2 else if y = k3 then some v3 else if y = k4 then some v4 else if y = k5 then some v5 else if y = k6 then some v6 else if y = k7 then some v7 else m y) := by
  rw [show (fun y => if y = x then some v else if y = k1 then some v1 else if y = k2 then some v2 else if y = k3 then some v3 else if y = k4 then some v4 else if y = k5 then some v5 else if y = k6 then some v6 else if y = k7 then some v7 else m y) = (fun y => if y = x then some v else m y) from funext fun y => by simp only [fill1 e1, fill1 e2, fill1 e3, fill1 e4, fill1 e5, fill1 e6, fill1 e7]]; exact F
theorem fr_g8 {h₀ h : Heap} {L : Addr} {m : Str → Option Value} {x k1 k2 k3 k4 k5 k6 k7 k8 : Str} {v v1 v2 v3 v4 v5 v6 v7 v8 : Value} (F : Fr h₀ L h (fun y => if y = x then some v else m y)) (e1 : m k1 = some v1) (e2 : m k2 = some v2) (e3 : m k3 = some v3) (e4 : m k4 = some v4) (e5 : m k5 = some v5) (e6 : m k6 = some v6) (e7 : m k7 = some v7) (e8 : m k8 = some v8) : Fr h₀ L h (fun y => if y = x then some v else if y = k1 then some v1 else if y = k2 then some v2 else if y = k3 then some v3 else if y = k4 then some v4 else if y = k5 then some v5 else if y = k6 then some v6 else if y = k7 then some v7 else if y = k8 then some v8 else m y) := by
  rw [show (fun y => if y = x then some v else if y = k1 then some v1 else if y = k2 then some v2 else if y = k3 then some v3 else if y = k4 then some v4 else if y = k5 then some v5 else if y = k6 then some v6 else if y = k7 then some v7 else if y = k8 then some v8 else m y) = (fun y => if y = x then some v else m y) from funext fun y => by simp only [fill1 e1, fill1 e2, fill1 e3, fill1 e4, fill1 e5, fill1 e6, fill1 e7, fill1 e8]]; exact F
theorem fr_g9 {h₀ h : Heap} {L : Addr} {m : Str → Option Value} {x k1 k2 k3 k4 k5 k6 k7 k8 k9 : Str} {v v1 v2 v3 v4 v5 v6 v7 v8 v9 : Value} (F : Fr h₀ L h (fun y => if y = x then some v else m y)) (e1 : m k1 = some v1) (e2 : m k2 = some v2) (e3 : m k3 = some v3) (e4 : m k4 = some v4) (e5 : m k5 = some v5) (e6 : m k6 = some v6) (e7 : m k7 = some v7) (e8 : m k8 = some v8) (e9 : m k9 = some v9) : Fr h₀ L h (fun y => if y = x then some v else if y = k1 then some v1 else if y = k2 then some v2 else if y = k3 then some v3 else if y = k4 then some v4 else if y = k5 then some v5 else if y = k6 then some v6 else if y = k7 then some v7 else if y = k8 then some v8 else if y = k9 then some v9 else m y) := by
  rw [show (fun y => if y = x then some v else if y = k1 then some v1 else if y = k2 then some v2 else if y = k3 then some v3 else if y = k4 then some v4 else if y = k5 then some v5 else if y = k6 then some v6 else if y = k7 then some v7 else if y = k8 then some v8 else if y = k9 then some v9 else m y) = (fun y => if y = x then some v else m y) from funext fun y => by simp only [fill1 e1, fill1 e2, fill1 e3, fill1 e4, fill1 e5, fill1 e6, fill1 e7, fill1 e8, fill1 e9]]; exact F
theorem fr_g10 {h₀ h : Heap} {L : Addr} {m : Str → Option Value} {x k1 k2 k3 k4 k5 k6 k7 k8 k9 k10 : Str} {v v1 v2 v3 v4 v5 v6 v7 v8 v9 v10 : Value} (F : Fr h₀ L h (fun y => if y = x then some v else m y)) (e1 : m k1 = some v1) (e2 : m k2 = some v2) (e3 : m k3 = some v3) (e4 : m k4 = some v4) (e5 : m k5 = some v5) (e6 : m k6 = some v6) (e7 : m k7 = some v7) (e8 : m k8 = some v8) (e9 : m k9 = some v9) (e10 : m k10 = some v10) : Fr h₀ L h (fun y => if y = x then some v else if y = k1 then some v1 else if y = k2 then some v2 else if y = k3 then some v3 else if y = k4 then some v4 else if y = k5 then some v5 else if y = k6 then some v6 else if y = k7 then some v7 else if y = k8 then some v8 else if y = k9 then some v9 else if y = k10 then some v10 else m y) := by
  rw [show (fun y => if y = x then some v else if y = k1 then some v1 else if y = k2 then some v2 else if y = k3 then some v3 else if y = k4 then some v4 else if y = k5 then some v5 else if y = k6 then some v6 else if y = k7 then some v7 else if y = k8 then some v8 else if y = k9 then some v9 else if y = k10 then some v10 else m y) = (fun y => if y = x then some v else m y) from funext fun y => by simp only [fill1 e1, fill1 e2, fill1 e3, fill1 e4, fill1 e5, fill1 e6, fill1 e7, fill1 e8, fill1 e9, fill1 e10]]; exact F
theorem fr_g11 {h₀ h : Heap} {L : Addr} {m : Str → Option Value} {x k1 k2 k3 k4 k5 k6 k7 k8 k9 k10 k11 : Str} {v v1 v2 v3 v4 v5 v6 v7 v8 v9 v10 v11 : Value} (F : Fr h₀ L h (fun y => if y = x then some v else m y)) (e1 : m k1 = some v1) (e2 : m k2 = some v2) (e3 : m k3 = some v3) (e4 : m k4 = some v4) (e5 : m k5 = some v5) (e6 : m k6 = some v6) (e7 : m k7 = some v7) (e8 : m k8 = some v8) (e9 : m k9 = some v9) (e10 : m k10 = some v10) (e11 : m k11 = some v11) : Fr h₀ L h (fun y => if y = x then some v else if y = k1 then some v1 else if y = k2 then some v2 else if y = k3 then some v3 else if y = k4 then some v4 else if y = k5 then some v5 else if y = k6 then some v6 else if y = k7 then some v7 else if y = k8 then some v8 else if y = k9 then some v9 else if y = k10 then some v10 else if y = k11 then some v11 else m y) := by
  rw [show (fun y => if y = x then some v else if y = k1 then some v1 else if y = k2 then some v2 else if y = k3 then some v3 else if y = k4 then some v4 else if y = k5 then some v5 else if y = k6 then some v6 else if y = k7 then some v7 else if y = k8 then some v8 else if y = k9 then some v9 else if y = k10 then some v10 else if y = k11 then some v11 else m y) = (fun y => if y = x then some v else m y) from funext fun y => by simp only [fill1 e1, fill1 e2, fill1 e3, fill1 e4, fill1 e5, fill1 e6, fill1 e7, fill1 e8, fill1 e9, fill1 e10, fill1 e11]]; exact F
theorem fr_g12 {h₀ h : Heap} {L : Addr} {m : Str → Option Value} {x k1 k2 k3 k4 k5 k6 k7 k8 k9 k10 k11 k12 : Str} {v v1 v2 v3 v4 v5 v6 v7 v8 v9 v10 v11 v12 : Value} (F : Fr h₀ L h (fun y => if y = x then some v else m y)) (e1 : m k1 = some v1) (e2 : m k2 = some v2) (e3 : m k3 = some v3) (e4 : m k4 = some v4) (e5 : m k5 = some v5) (e6 : m k6 = some v6) (e7 : m k7 = some v7) (e8 : m k8 = some v8) (e9 : m k9 = some v9) (e10 : m k10 = some v10) (e11 : m k11 = some v11) (e12 : m k12 = some v12) : Fr h₀ L h (fun y => if y = x then some v else if y = k1 then some v1 else if y = k2 then some v2 else if y = k3 then some v3 else if y = k4 then some v4 else if y = k5 then some v5 else if y = k6 then some v6 else if y = k7 then some v7 else if y = k8 then some v8 else if y = k9 then some v9 else if y = k10 then some v10 else if y = k11 then some v11 else if y = k12 then some v12 else m y) := by
  rw [show (fun y => if y = x then some v else if y = k1 then some v1 else if y = k2 then some v2 else if y = k3 then some v3 else if y = k4 then some v4 else if y = k5 then some v5 else if y = k6 then some v6 else if y = k7 then some v7 else if y = k8 then some v8 else if y = k9 then some v9 else if y = k10 then some v10 else if y = k11 then some v11 else if y = k12 then some v12 else m y) = (fun y => if y = x then some v else m y) from funext fun y => by simp only [fill1 e1, fill1 e2, fill1 e3, fill1 e4, fill1 e5, fill1 e6, fill1 e7, fill1 e8, fill1 e9, fill1 e10, fill1 e11, fill1 e12]]; exact F
theorem fr_g13 {h₀ h : Heap} {L : Addr} {m : Str → Option Value} {x k1 k2 k3 k4 k5 k6 k7 k8 k9 k10 k11 k12 k13 : Str} {v v1 v2 v3 v4 v5 v6 v7 v8 v9 v10 v11 v12 v13 : Value} (F : Fr h₀ L h (fun y => if y = x then some v else m y)) (e1 : m k1 = some v1) (e2 : m k2 = some v2) (e3 : m k3 = some v3) (e4 : m k4 = some v4) (e5 : m k5 = some v5) (e6 : m k6 = some v6) (e7 : m k7 = some v7) (e8 : m k8 = some v8) (e9 : m k9 = some v9) (e10 : m k10 = some v10) (e11 : m k11 = some v11) (e12 : m k12 = some v12) (e13 : m k13 = some v13) : Fr h₀ L h (fun y => if y = x then some v else if y = k1 then some v1 else if y = k2 then some v2 else if y = k3 then some v3 else if y = k4 then some v4 else if y = k5 then some v5 else if y = k6 then some v6 else if y = k7 then some v7 else if y = k8 then some v8 else if y = k9 then some v9 else if y = k10 then some v10 else if y = k11 then some v11 else if y = k12 then some v12 else if y = k13 then some v13 else m y) := by
  rw [show (fun y => if y = x then some v else if y = k1 then some v1 else if y = k2 then some v2 else if y = k3 then some v3 else if y = k4 then some v4 else if y = k5 then some v5 else if y = k6 then some v6 else if y = k7 then some v7 else if y = k8 then some v8 else if y = k9 then some v9 else if y = k10 then some v10 else if y = k11 then some v11 else if y = k12 then some v12 else if y = k13 then some v13 else m y) = (fun y => if y = x then some v else m y) from funext fun y => by simp only [fill1 e1, fill1 e2, fill1 e3, fill1 e4, fill1 e5, fill1 e6, fill1 e7, fill1 e8, fill1 e9, fill1 e10, fill1 e11, fill1 e12, fill1 e13]]; exact F
theorem fr_g14 {h₀ h : Heap} {L : Addr} {m : Str → Option Value} {x k1 k2 k3 k4 k5 k6 k7 k8 k9 k10 k11 k12 k13 k14 : Str} {v v1 v2 v3 v4 v5 v6 v7 v8 v9 v10 v11 v12 v13 v14 : Value} (F : Fr h₀ L h (fun y => if y = x then some v else m y)) (e1 : m k1 = some v1) (e2 : m k2 = some v2) (e3 : m k3 = some v3) (e4 : m k4 = some v4) (e5 : m k5 = some v5) (e6 : m k6 = some v6) (e7 : m k7 = some v7) (e8 : m k8 = some v8) (e9 : m k9 = some v9) (e10 : m k10 = some v10) (e11 : m k11 = some v11) (e12 : m k12 = some v12) (e13 : m k13 = some v13) (e14 : m k14 = some v14) : Fr h₀ L h (fun y => if y = x then some v else if y = k1 then some v1 else if y = k2 then some v2 else if y = k3 then some v3 else if y = k4 then some v4 else if y = k5 then some v5 else if y = k6 then some v6 else if y = k7 then some v7 else if y = k8 then some v8 else if y = k9 then some v9 else if y = k10 then some v10 else if y = k11 then some v11 else if y = k12 then some v12 else if y = k13 then some v13 else if y = k14 then some v14 else m y) := by
  rw [show (fun y => if y = x then some v else if y = k1 then some v1 else if y = k2 then some v2 else if y = k3 then some v3 else if y = k4 then some v4 else if y = k5 then some v5 else if y = k6 then some v6 else if y = k7 then some v7 else if y = k8 then some v8 else if y = k9 then some v9 else if y = k10 then some v10 else if y = k11 then some v11 else if y = k12 then some v12 else if y = k13 then some v13 else if y = k14 then some v14 else m y) = (fun y => if y = x then some v else m y) from funext fun y => by simp only [fill1 e1, fill1 e2, fill1 e3, fill1 e4, fill1 e5, fill1 e6, fill1 e7, fill1 e8, fill1 e9, fill1 e10, fill1 e11, fill1 e12, fill1 e13, fill1 e14]]; exact F
/-- a cut behind a statement -/
theorem seq_cutP {M : Model} {A : Around} {E : Value → Shared → Prop} {s : Shared} {env : Env} {st : Stmt} {rest : List Stmt} {Q : Flow → Shared → Prop} {h₀ : Heap} {L : Addr} {m : Str → Option Value} (_F : Fr h₀ L s.heap m) (P : (Str → Option Value) → List (Addr × Obj) → Prop)
    (h1 : wpAny M A (exec st env) (fun f s' => f = .next ∧ ∃ h tk m' nw, s' = { s with heap := h, toks := tk } ∧ Fr h₀ L h m' ∧ News h₀ L h nw ∧ P m' nw) E s)
    (h2 : ∀ h tk m' nw, P m' nw → Fr h₀ L h m' → News h₀ L h nw → wpAny M A (execs rest env) Q E { s with heap := h, toks := tk }) :
    wpAny M A (execs (st :: rest) env) Q E s := seq_cut _ h1 fun s' h => by
  obtain ⟨h, tk, m', nw, rfl, F', N', p⟩ := h
  exact h2 h tk m' nw p F' N'
theorem small_range {a b : Int} (ha : -(2 ^ 40) ≤ a) (ha' : a ≤ 2 ^ 40) (hb : -(2 ^ 40) ≤ b) (hb' : b ≤ 2 ^ 40) : Builtin.Range.small a b 1 = true := by
  have h := rangeSize_one a b
  unfold Builtin.Range.small
  simp only [Builtin.Range.rangeFitsLong, h]
  split <;> simp <;> omega
theorem range_n {n : Nat} : Builtin.Range.rangeSize 0 (n : Int) 1 = (n : Int) := by
  rw [rangeSize_nat]; simp
theorem last_led {prog : Program} {w : World} {A : Around} {E : Value → Shared → Prop} {s : Shared} {h₀ : Heap} {L : Addr} {news : List (Addr × Obj)} {value slice : PySem.Expr} {l : Addr} {vs : List Value} {n : Nat} {u : Tok} {v : Value} {Q : Value → Shared → Prop} (N : News h₀ L s.heap news)
    (hl : (l, W.listOf vs.toArray n) ∈ news) (hx : vs.getLast? = some v) (h : Q v s)
    (hs : subscripted slice false (.ref l) (.int (-1) u) = operate [.ref l, .int (-1) u] (getItem (.ref l) (.int (-1) u)) := by with_unfolding_all rfl) :
    wpAny (model prog w) A (subscriptTail value slice (.ref l) (.int (-1) u)) Q E s := by
  have hne : 0 < vs.length := by cases vs with | nil => cases hx | cons => simp
  refine tail_any (News.isList N hl).typeIs slot_list_getitem.lookup (wpAny_getItem_list_neg (News.isList N hl) (by decide) ?_ (by decide) ?_ h) hs
  · rw [List.size_toArray]; omega
  · rw [List.getLast?_eq_getElem?] at hx
    rw [List.size_toArray, List.getElem?_toArray, ← hx]
    congr 1
    omega
end Mine


namespace Mine
/-! loops whose target is any, by an invariant -/
section
variable {prog : Program} {w : World} {A : Around} {E : Value → Shared → Prop} {s : Shared} {env : Env} {h₀ : Heap} {target : PySem.Expr} {body : List Stmt} {Q : Flow → Shared → Prop}
def EndW (h₀ : Heap) (L : Addr) (J : (Str → Option Value) → List (Addr × Obj) → Prop) (own : List (Addr × Obj)) (wr : List Addr) (s₁ s₂ : Shared) : Prop :=
  ∃ h' tk m' news', s₂ = { s₁ with heap := h', toks := tk } ∧ Fr h₀ L h' m' ∧ News h₀ L h' (news' ++ own) ∧ (∀ p ∈ news', p.1 ∉ wr) ∧ J m' news'
def PostW (h₀ : Heap) (L : Addr) (J : (Str → Option Value) → List (Addr × Obj) → Prop) (own : List (Addr × Obj)) (wr : List Addr) (s₁ : Shared) (Q : Flow → Shared → Prop) (f : Flow) (s₂ : Shared) : Prop :=
  match f with
  | .ret v => Q (.ret v) s₂
  | .brk => Q .next s₂
  | _ => EndW h₀ L J own wr s₁ s₂
theorem postW_step {L : Addr} {wr : List Addr} {J : (Str → Option Value) → List (Addr × Obj) → Prop} {own : List (Addr × Obj)} {s₁ s₂ : Shared} {f : Flow} (h : PostW h₀ L J own wr s₁ Q f s₂) :
    LoopStepV h₀ L wr own J s₁ (fun v s' => Q (.ret v) s') (fun s' => Q .next s') f s₂ := by
  have fin : EndW h₀ L J own wr s₁ s₂ → LoopStepU h₀ L wr own J s₁ .next s₂ := by
    rintro ⟨h', tk, m', news', e, F', N', hn, hj⟩
    exact ⟨rfl, h', tk, m', news', e, F', news_comm N', hn, hj⟩
  cases f with
  | ret v => exact .ret h
  | brk => exact .brk h
  | next => exact .next (fin h)
  | cont => exact .cont (fin h)
theorem iter_listT {l : Addr} {vs : List Value} {m₀ : Str → Option Value} {news : List (Addr × Obj)} (J : Nat → (Str → Option Value) → List (Addr × Obj) → Prop)
    (hh : A.handled = none) (hl : s.heap.IsList l vs.toArray) (hlL : l ≠ env.locals) (F : Fr h₀ env.locals s.heap m₀) (N : News h₀ env.locals s.heap news) (hj : J 0 m₀ news)
    (turn : ∀ I i v m₁ news₁ h tk own, vs[i]? = some v → J i m₁ news₁ → (∀ p ∈ news₁, p.1 ∉ [I]) → (∀ p ∈ own, p.1 = I ∨ p.1 = l) → (∃ o, (I, o) ∈ own) → (∀ p ∈ news, p.1 < I) → l < I → Fr h₀ env.locals h m₁ → News h₀ env.locals h (news₁ ++ own) →
      wpAny (model prog w) A (assign target env v) (fun _ s₃ => wpAny (model prog w) A (execs body env) (PostW h₀ env.locals (J (i + 1)) own [I] { s with heap := h, toks := tk } Q) E s₃) E { s with heap := h, toks := tk })
    (done : ∀ m₁ news₁ h tk, J vs.length m₁ news₁ → Fr h₀ env.locals h m₁ → News h₀ env.locals h news₁ → Q .next { s with heap := h, toks := tk }) :
    wpAny (model prog w) A (pyIter (.ref l)) (fun it s₂ => TurnsAt prog w A h₀ env target body Q E it s₂) E s := by
  obtain ⟨ol, hol, _⟩ := id hl
  have hlt : l < s.heap.objs.size := Heap.lt_size hol
  refine wpAny_pyIter_list hl ?_
  have W := Walks.list (prog := prog) (w := w) hh s.heap.objs.size l (Nat.ne_of_lt hlt) vs.toArray
  have hlen : vs.toArray.size = vs.length := by simp
  rw [hlen] at W
  refine ⟨_, _, _, vs.length, _, _, _, m₀, news, J, rfl, KTurns.ofWalks W fun i v s Q E st q => letGo_listiter st.1 q, ?_, ?_, ?_, ⟨⟨_, Heap.get?_push_size _ rfl, rfl, rfl⟩, hl.at fun o e => Heap.get?_push_of_some _ e⟩, F.push _, (fun p hp => ⟨Heap.get?_push_of_some _ (N p hp).1, (N p hp).2⟩), hj, ?_, ?_⟩
  · intro hm
    rcases List.mem_cons.mp hm with e | hm
    · exact absurd F.ns.lt (e ▸ Nat.lt_irrefl _)
    · exact hlL (List.mem_singleton.mp hm).symm
  · intro b hb
    rw [List.mem_singleton.mp hb]
    exact next_is_new F
  · intro p hp hI
    exact absurd (Heap.lt_size (N p hp).1) ((List.mem_singleton.mp hI) ▸ Nat.lt_irrefl _)
  · rintro i v m₁ news₁ h₁ tk₁ own hin hP hJ hoff hown _ hall hst F₁ N₁
    have hIo : ∃ o, (s.heap.objs.size, o) ∈ own := by
      obtain ⟨⟨o, ho, _⟩, _⟩ := hst
      exact ⟨o, hall _ (.head _) (next_is_new F) o ho⟩
    refine wpAny_mono (turn s.heap.objs.size i v m₁ news₁ h₁ tk₁ own (by simpa using hP) hJ hoff (fun p hp => ?_) hIo (fun p hp => Heap.lt_size (N p hp).1) hlt F₁ (news_comm N₁)) (fun _ s₂ p => wpAny_mono p (fun _ _ q => postW_step q) fun _ _ e => e) fun _ _ e => e
    rcases List.mem_cons.mp (hown p hp) with h1 | h1
    · exact .inl h1
    · exact .inr (List.mem_singleton.mp h1)
  · rintro h' tk m' news' F' N' _ hJ
    exact done m' news' h' tk hJ F' N'
theorem iter_enumT {elts : List PySem.Expr} {k : Nat} {pos : Pos} {l : Addr} {vs : List Value} {m₀ : Str → Option Value} {news : List (Addr × Obj)} (J : Nat → (Str → Option Value) → List (Addr × Obj) → Prop)
    (hh : A.handled = none) (hl : s.heap.IsList l vs.toArray) (hlL : l ≠ env.locals) (F : Fr h₀ env.locals s.heap m₀) (N : News h₀ env.locals s.heap news) (hj : J 0 m₀ news)
    (turn : ∀ I i v m₁ news₁ h tk own T t, vs[i]? = some v → J i m₁ news₁ → (∀ p ∈ news₁, p.1 ∉ [I + 1, I]) → (∀ p ∈ own, p.1 = I + 1 ∨ p.1 = I ∨ p.1 = l) → (∃ o, (I, o) ∈ own) → (∃ o, (I + 1, o) ∈ own) → (∀ p ∈ news, p.1 < I) → l < I → Fr h₀ env.locals h m₁ → News h₀ env.locals h (news₁ ++ own) → IsTup h T #[.int (i : Int) t, v] →
      wpAny (model prog w) A (assign (.Tuple elts k pos) env (.ref T)) (fun _ s₃ => wpAny (model prog w) A (execs body env) (PostW h₀ env.locals (J (i + 1)) own [I + 1, I] { s with heap := h, toks := tk } Q) E s₃) E { s with heap := h, toks := tk })
    (done : ∀ m₁ news₁ h tk, J vs.length m₁ news₁ → Fr h₀ env.locals h m₁ → News h₀ env.locals h news₁ → Q .next { s with heap := h, toks := tk }) :
    wpAny (model prog w) A (call (.type "enumerate") [.ref l]) (fun xv s₁ => wpAny (model prog w) A (pyIter xv) (fun it s₂ => TurnsAt prog w A h₀ env (.Tuple elts k pos) body Q E it s₂) E s₁) E s := by
  obtain ⟨ol, hol, _⟩ := id hl
  have hlt : l < s.heap.objs.size := Heap.lt_size hol
  have hLs : env.locals < s.heap.objs.size := F.ns.lt
  refine call_enumerate_list hl fun h' hE hI hsz hk => ?_
  refine wpAny_pyIter_enum hE ?_
  have W := KTurns.ofWalksU (elts := elts) (k := k) (pos := pos) (WalksT.enumerate (prog := prog) (w := w) hh (s.heap.objs.size + 1) s.heap.objs.size l (Nat.succ_ne_self _) (ktu_ne 1 hlt) (Nat.ne_of_lt hlt) vs.toArray).toU
  have hlen : vs.toArray.size = vs.length := by simp
  rw [hlen] at W
  refine ⟨_, _, _, vs.length, _, _, _, m₀, news, J, rfl, W, ?_, ?_, ?_, ⟨⟨.none, hE⟩, hI, hl.at fun o e => hk l o e⟩, F.keeps hk, N.grown hk, hj, ?_, ?_⟩
  · intro hI'
    have hb' : env.locals = s.heap.objs.size + 1 ∨ env.locals = s.heap.objs.size ∨ env.locals = l := by simpa using hI'
    rcases hb' with e | e | e
    · exact ktu_ne 1 hLs e
    · exact Nat.ne_of_lt hLs e
    · exact hlL e.symm
  · intro b hb
    have hb' : b = s.heap.objs.size + 1 ∨ b = s.heap.objs.size := by simpa using hb
    rcases hb' with rfl | rfl
    · exact ktu_new F (Nat.le_add_right _ _)
    · exact ktu_new F (Nat.le_refl _)
  · intro p hp hI'
    have hb' : p.1 = s.heap.objs.size + 1 ∨ p.1 = s.heap.objs.size := by simpa using hI'
    have hlp := Heap.lt_size (N p hp).1
    rcases hb' with e | e
    · exact ktu_ne 1 hlp e
    · exact Nat.ne_of_lt hlp e
  · rintro i v m₁ news₁ h₁ tk₁ own hin ⟨T, vals, rfl, ⟨t, x, hx, rfl⟩, hT⟩ hJ hoff hown _ hall hst F₁ N₁
    obtain ⟨⟨old, he⟩, ⟨oi, hoi, _⟩, _⟩ := hst
    refine wpAny_mono (turn s.heap.objs.size i x m₁ news₁ h₁ tk₁ own T t (by simpa using hx) hJ hoff (fun p hp => ?_) ⟨oi, hall _ (.tail _ (.head _)) (ktu_new F (Nat.le_refl _)) _ hoi⟩ ⟨_, hall _ (.head _) (ktu_new F (Nat.le_add_right _ _)) _ he⟩ (fun p hp => Heap.lt_size (N p hp).1) hlt F₁ (news_comm N₁) hT) (fun _ s₂ p => wpAny_mono p (fun _ _ q => postW_step q) fun _ _ e => e) fun _ _ e => e
    have := hown p hp
    simpa using this
  · rintro h' tk m' news' F' N' _ hJ
    exact done m' news' h' tk hJ F' N'
end
end Mine


namespace Mine
/-- a value of one of four built-in kinds -/
inductive Plain (h : Heap) : String → Value → Prop
  | int {i : Int} {t : Tok} : Plain h "int" (.int i t)
  | str {x : Str} {t : Tok} : Plain h "str" (.str x t)
  | none : Plain h "NoneType" .none
  | list {a : Addr} {xs : Array Value} {n : Nat} : h.get? a = some (W.listOf xs n) → Plain h "list" (.ref a)
section
variable {prog : Program} {w : World} {A : Around} {E : Value → Shared → Prop} {s : Shared} {a b : Value} {T T' : String}
theorem Plain.type (h : Plain s.heap T a) : s.TypeIs a T := by
  cases h with
  | int => rfl
  | str => rfl
  | none => rfl
  | list h => exact ⟨_, h, rfl⟩
theorem Plain.noInt {Q : Option Int → Shared → Prop} (h : Plain s.heap T b) (hne : T ≠ "int") (hq : Q .none s) : wpAny (model prog w) A (asInt? b) Q E s := by
  cases h with
  | int => exact absurd rfl hne
  | str => exact wpAny_pure hq
  | none => exact wpAny_pure hq
  | list h => exact asInt_no h (fun p e => by cases e) hq
theorem Plain.noStr {Q : Option Str → Shared → Prop} (h : Plain s.heap T b) (hne : T ≠ "str") (hq : Q .none s) : wpAny (model prog w) A (asStr? b) Q E s := by
  cases h with
  | int => exact wpAny_pure hq
  | str => exact absurd rfl hne
  | none => exact wpAny_pure hq
  | list h =>
    unfold asStr?
    exact wpAny_bind (wpAny_load h (wpAny_pure hq))
theorem Plain.sub (h : Plain s.heap T b) : T = "list" ∨ isSubtype (.type T) (.type "list") = pure false := by
  cases h with
  | int => exact .inr (by rw [isSubtype_type]; kernel_rfl)
  | str => exact .inr (by rw [isSubtype_type]; kernel_rfl)
  | none => exact .inr (by rw [isSubtype_type]; kernel_rfl)
  | list h => exact .inl rfl
theorem declines_lt {Q : Option Value → Shared → Prop} (ha : Plain s.heap T a) (hb : Plain s.heap T' b) (hne : T ≠ T' ∨ T = "NoneType") (h : Q .none s) : wpAny (model prog w) A (tryCompare a "__lt__" b) Q E s := by
  have hT := ha.type
  cases ha with
  | int =>
    have hne' : T' ≠ "int" := fun e => hne.elim (fun q => q e.symm) (fun q => absurd q (by decide))
    refine wpAny_tryCompare_declines hT PySem.F.slot_int_lt ?_
    refine wpAny_call_entry PySem.F.slot_int_lt hT PySem.F.entry_int_lt ?_ (PySem.F.args_int_lt_2 _ _)
    show wpAny _ _ (Builtin.Int.intBinary "__lt__" (fun x y => ret (.bool (decide (x < y)))) false _) _ _ _
    unfold Builtin.Int.intBinary
    refine wpAny_bind (m := slotArgs "__lt__" 1 _) (wpAny_pure (a := (Value.int _ _, [b])) ?_)
    refine wpAny_bind (m := Builtin.Int.intOfSelf _) (wpAny_pure ?_)
    refine wpAny_bind (m := asInt? b) (hb.noInt hne' ?_)
    exact wpAny_bind (wpAny_rule (wpAny_pure ⟨_, rfl, rfl, h⟩))
  | str =>
    have hne' : T' ≠ "str" := fun e => hne.elim (fun q => q e.symm) (fun q => absurd q (by decide))
    refine wpAny_tryCompare_declines hT PySem.F.slot_str_lt ?_
    refine wpAny_call_entry PySem.F.slot_str_lt hT PySem.F.entry_str_lt ?_ (PySem.F.args_str_lt_2 _ _)
    show wpAny _ _ (Builtin.Str.strCompare "__lt__" _ _) _ _ _
    unfold Builtin.Str.strCompare
    refine wpAny_bind (m := Builtin.Str.strSlot "__lt__" 1 _) (wpAny_pure (a := (Value.str _ _, _, [b])) ?_)
    refine wpAny_bind (m := asStr? b) (hb.noStr hne' ?_)
    exact wpAny_bind (wpAny_rule (wpAny_pure ⟨_, rfl, rfl, h⟩))
  | none =>
    refine wpAny_tryCompare_declines hT PySem.F.slot_NoneType_lt ?_
    refine wpAny_call_entry PySem.F.slot_NoneType_lt hT PySem.F.entry_NoneType_lt ?_ (PySem.F.args_NoneType_lt_2 _ _)
    show wpAny _ _ (do let _ ← slotArgs "__lt__" 1 _; ret .notImplemented) _ _ _
    exact wpAny_bind (m := slotArgs "__lt__" 1 _) (wpAny_pure (wpAny_pure ⟨_, rfl, rfl, h⟩))
  | list ho =>
    have hne' : T' ≠ "list" := fun e => hne.elim (fun q => q e.symm) (fun q => absurd q (by decide))
    have hs := hb.sub.resolve_left hne'
    refine wpAny_tryCompare_declines hT PySem.F.slot_list_lt ?_
    refine wpAny_call_entry PySem.F.slot_list_lt hT PySem.F.entry_list_lt ?_ (PySem.F.args_list_lt_2 _ _)
    show wpAny _ _ (do
      let (_, [b]) ← slotArgs "__lt__" 1 _ | unsupported "internal:list.compare"
      _) _ _ _
    refine wpAny_bind (m := slotArgs "__lt__" 1 _) (wpAny_pure ?_)
    show wpAny _ _ (isInstance b (.type "list") >>= _) _ _ _
    unfold isInstance
    refine wpAny_bind (wpAny_bind (wpAny_typeOf hb.type ?_))
    rw [hs]
    exact wpAny_pure (wpAny_pure ⟨_, rfl, rfl, h⟩)
theorem declines_gt {Q : Option Value → Shared → Prop} (ha : Plain s.heap T a) (hb : Plain s.heap T' b) (hne : T ≠ T' ∨ T = "NoneType") (h : Q .none s) : wpAny (model prog w) A (tryCompare a "__gt__" b) Q E s := by
  have hT := ha.type
  cases ha with
  | int =>
    have hne' : T' ≠ "int" := fun e => hne.elim (fun q => q e.symm) (fun q => absurd q (by decide))
    refine wpAny_tryCompare_declines hT PySem.F.slot_int_gt ?_
    refine wpAny_call_entry PySem.F.slot_int_gt hT PySem.F.entry_int_gt ?_ (PySem.F.args_int_gt_2 _ _)
    show wpAny _ _ (Builtin.Int.intBinary "__gt__" (fun x y => ret (.bool (decide (x > y)))) false _) _ _ _
    unfold Builtin.Int.intBinary
    refine wpAny_bind (m := slotArgs "__gt__" 1 _) (wpAny_pure (a := (Value.int _ _, [b])) ?_)
    refine wpAny_bind (m := Builtin.Int.intOfSelf _) (wpAny_pure ?_)
    refine wpAny_bind (m := asInt? b) (hb.noInt hne' ?_)
    exact wpAny_bind (wpAny_rule (wpAny_pure ⟨_, rfl, rfl, h⟩))
  | str =>
    have hne' : T' ≠ "str" := fun e => hne.elim (fun q => q e.symm) (fun q => absurd q (by decide))
    refine wpAny_tryCompare_declines hT PySem.F.slot_str_gt ?_
    refine wpAny_call_entry PySem.F.slot_str_gt hT PySem.F.entry_str_gt ?_ (PySem.F.args_str_gt_2 _ _)
    show wpAny _ _ (Builtin.Str.strCompare "__gt__" _ _) _ _ _
    unfold Builtin.Str.strCompare
    refine wpAny_bind (m := Builtin.Str.strSlot "__gt__" 1 _) (wpAny_pure (a := (Value.str _ _, _, [b])) ?_)
    refine wpAny_bind (m := asStr? b) (hb.noStr hne' ?_)
    exact wpAny_bind (wpAny_rule (wpAny_pure ⟨_, rfl, rfl, h⟩))
  | none =>
    refine wpAny_tryCompare_declines hT PySem.F.slot_NoneType_gt ?_
    refine wpAny_call_entry PySem.F.slot_NoneType_gt hT PySem.F.entry_NoneType_gt ?_ (PySem.F.args_NoneType_gt_2 _ _)
    show wpAny _ _ (do let _ ← slotArgs "__gt__" 1 _; ret .notImplemented) _ _ _
    exact wpAny_bind (m := slotArgs "__gt__" 1 _) (wpAny_pure (wpAny_pure ⟨_, rfl, rfl, h⟩))
  | list ho =>
    have hne' : T' ≠ "list" := fun e => hne.elim (fun q => q e.symm) (fun q => absurd q (by decide))
    have hs := hb.sub.resolve_left hne'
    refine wpAny_tryCompare_declines hT PySem.F.slot_list_gt ?_
    refine wpAny_call_entry PySem.F.slot_list_gt hT PySem.F.entry_list_gt ?_ (PySem.F.args_list_gt_2 _ _)
    show wpAny _ _ (do
      let (_, [b]) ← slotArgs "__gt__" 1 _ | unsupported "internal:list.compare"
      _) _ _ _
    refine wpAny_bind (m := slotArgs "__gt__" 1 _) (wpAny_pure ?_)
    show wpAny _ _ (isInstance b (.type "list") >>= _) _ _ _
    unfold isInstance
    refine wpAny_bind (wpAny_bind (wpAny_typeOf hb.type ?_))
    rw [hs]
    exact wpAny_pure (wpAny_pure ⟨_, rfl, rfl, h⟩)
theorem Plain.sub2 (ha : Plain s.heap T a) (hb : Plain s.heap T' b) : T = T' ∨ isSubtype (.type T') (.type T) = pure false := by
  cases ha <;> cases hb <;> first | exact .inl rfl | exact .inr (by rw [isSubtype_type]; kernel_rfl)
theorem Plain.one (ha : Plain s.heap T a) (hne : T ≠ T' ∨ T = "NoneType") (hb : Plain s.heap T' b) : oneThing? .Lt a b = Option.none := by
  cases ha <;> cases hb <;> rfl
theorem Plain.short (ha : Plain s.heap T a) : (Value.type T == Value.type "builtin_function_or_method") = false ∧ (shownName T).length ≤ 100 := by
  cases ha <;> exact ⟨by decide, by decide⟩
/-- < between two kinds, or None's -/
theorem lt_bad {Q : Value → Shared → Prop} (hh : A.handled = none) (hu : A.units < cLine) (ha : Plain s.heap T a) (hb : Plain s.heap T' b) (hne : T ≠ T' ∨ T = "NoneType")
    (h : ∀ h' tk e, Heap.NewExc s.heap h' e "TypeError" → E (.ref e) { s with heap := h', toks := tk }) : wpAny (model prog w) A (compareOp .Lt a b) Q E s := by
  refine cmp_ofLt ?_
  simp only [richCompare, cmpInfo, ha.one hne hb]
  refine wpAny_holding (wpAny_bind (wpAny_cRoomFor hu ?_))
  refine wpAny_bind (wpAny_typeOf ha.type (wpAny_bind (wpAny_typeOf hb.type ?_)))
  have fin : wpAny (model prog w) A (do
      if let some v ← tryCompare a "__lt__" b then return v
      if let some v ← tryCompare b "__gt__" a then return v
      rule "compare.unsupported"
      raiseError "TypeError" s!"'{"<"}' not supported between instances of '{← typeNameOf a}' and '{← typeNameOf b}'") Q E s := by
    refine wpAny_bind (declines_lt ha hb hne ?_)
    refine wpAny_bind (declines_gt hb ha (hne.elim (fun q => .inl (Ne.symm q)) fun q => ?_) ?_)
    · by_cases e : T' = T
      · exact .inr (e.trans q)
      · exact .inl e
    exact wpAny_bind (wpAny_rule (wpAny_bind (wpAny_typeNameOf' ha.type ha.short.1 (wpAny_bind (wpAny_typeNameOf' hb.type hb.short.1 (wpAny_raiseTypeError hh h (msg_fits ha.short.2 hb.short.2)))))))
  by_cases e : T = T'
  · subst e
    simp only [bne_self_eq_false, Bool.false_eq_true, if_false]
    refine wpAny_bind (wpAny_pure ?_)
    simp only [Bool.false_eq_true, if_false, Bool.not_false, if_true]
    exact fin
  · have hs := (ha.sub2 hb).resolve_left e
    have hn : (Value.type T != Value.type T') = true := by simp [e]
    simp only [hn, if_true]
    refine wpAny_bind (wpAny_of_eq hs ?_)
    simp only [Bool.false_eq_true, if_false, Bool.not_false, if_true]
    exact fin
theorem entry_list_loop : entryFor table "list.__eq__.loop" = some Builtin.«list.__eq__.loop» := entryFor_of_tree (by kernel_rfl)
theorem plain_list_loop : plainId "list.__eq__.loop" = true := by decide +kernel
section
variable {l b : Addr} {xs ys : Array Value} {x y : Int} {t u : Tok} {n n' i : Nat} {R : Result → Shared → Prop}
theorem lt_loop_end (hl : s.heap.get? l = some (W.listOf xs n)) (hb : s.heap.get? b = some (W.listOf ys n')) (hx : xs[((i : Nat) : Int).toNat]? = Option.none) (hz : xs.size = ys.size) (h : R (.ok (.ret (.bool false))) s) :
    codeAny (model prog w) A (.builtin "list.__eq__.loop" ⟨[.ref l, .ref b, rawInt (i : Nat), rawInt 0], []⟩) R s := codeAny_builtin entry_list_loop (by
  rw [Around.under_plainId plain_list_loop _]
  obtain ⟨hp, g, d, tk, os⟩ := s
  wp_walk using wpAny_loadPart' hl, wpAny_loadPart' hb
  rw [hx]
  wp_walk using wpAny_loadPart' hl, wpAny_loadPart' hb
  show R (.ok (.ret (.bool (decide (xs.size < ys.size))))) _
  rw [hz]
  simpa using h)
theorem lt_loop_step (hl : s.heap.get? l = some (W.listOf xs n)) (hb : s.heap.get? b = some (W.listOf ys n')) (hx : xs[((i : Nat) : Int).toNat]? = some (.int x t)) (hy : ys[((i : Nat) : Int).toNat]? = some (.int y u))
    (h1 : x = y → codeAny (model prog w) A (.builtin "list.__eq__.loop" ⟨[.ref l, .ref b, rawInt ((i + 1 : Nat) : Int), rawInt 0], []⟩) R s) (h2 : x ≠ y → R (.ok (.ret (.bool (decide (x < y))))) s) :
    codeAny (model prog w) A (.builtin "list.__eq__.loop" ⟨[.ref l, .ref b, rawInt (i : Nat), rawInt 0], []⟩) R s := codeAny_builtin entry_list_loop (by
  rw [Around.under_plainId plain_list_loop _]
  obtain ⟨hp, g, d, tk, os⟩ := s
  wp_walk using wpAny_loadPart' hl, wpAny_loadPart' hb
  rw [hx, hy]
  refine wpAny_bind (wpAny_eqBool_int ?_)
  by_cases e : x = y
  · have e' : (x == y) = true := by simp [e]
    rw [e']
    simp only [if_true]
    refine wpAny_pure ⟨plainId_quiet plain_list_loop _, ?_⟩
    exact h1 e
  · have e' : (x == y) = false := by simp [e]
    rw [e']
    simp only [Bool.false_eq_true, if_false]
    wp_walk using wpAny_loadPart' hl, wpAny_loadPart' hb
    rw [hx, hy]
    refine wpAny_bind (lt_int (s := ⟨hp, g, d, tk, os⟩) ?_)
    exact wpAny_pure (h2 e))
end
theorem list_lt2 (l b : Addr) (x y x' y' : Int) (t u t' u' : Tok) (n n' : Nat) :
    Meets (Builtin.«list.__lt__» ⟨[.ref l, .ref b], []⟩)
      (fun _ R s => s.heap.get? l = some (W.listOf #[.int x t, .int y u] n) ∧ s.heap.get? b = some (W.listOf #[.int x' t', .int y' u'] n') ∧
        R (.ok (.ret (.bool (decide (x < x' ∨ x = x' ∧ y < y'))))) s) := by
  intro prog w A R s h
  obtain ⟨hp, g, d, tk, os⟩ := s; obtain ⟨hl, hb, h⟩ := h
  have f3 := AutoSeq1.sub_list_list
  wp_walk using wpAny_loadPart' hl, wpAny_loadPart' hb
  refine ⟨plainId_quiet plain_list_loop _, ?_⟩
  refine lt_loop_step (i := 0) hl hb rfl rfl (fun e => lt_loop_step (i := 1) hl hb rfl rfl (fun e2 => lt_loop_end (i := 2) hl hb rfl rfl ?_) fun e2 => ?_) fun e => ?_
  · have q : decide (x < x' ∨ x = x' ∧ y < y') = false := decide_eq_false (by omega)
    rw [q] at h; exact h
  · have q : decide (x < x' ∨ x = x' ∧ y < y') = decide (y < y') := by congr 1; simp [e]
    rw [q] at h; exact h
  · have q : decide (x < x' ∨ x = x' ∧ y < y') = decide (x < x') := by congr 1; simp [e]
    rw [q] at h; exact h
/-- < of two lists of two ints -/
theorem lt_list2 {Q : Value → Shared → Prop} {l b : Addr} {x y x' y' : Int} {t u t' u' : Tok} {n n' : Nat} (hu : A.units < cLine) (hl : s.heap.get? l = some (W.listOf #[.int x t, .int y u] n)) (hb : s.heap.get? b = some (W.listOf #[.int x' t', .int y' u'] n'))
    (h : Q (.bool (decide (x < x' ∨ x = x' ∧ y < y'))) s) : wpAny (model prog w) A (compareOp .Lt (.ref l) (.ref b)) Q E s :=
  cmp_ofLt (richCompare_meets_room (op := .Lt) ⟨_, hl, rfl⟩ ⟨_, hb, rfl⟩ PySem.F.slot_list_lt PySem.F.entry_list_lt (PySem.F.args_list_lt_2 _ _) (list_lt2 l b x y x' y' t u t' u' n n') ⟨hl, hb, (fun e => Value.noConfusion e), h⟩ hu)
end
end Mine


namespace Mine
section
variable {prog : Program} {w : World} {A : Around} {E : Value → Shared → Prop} {s : Shared}
theorem hasattr_list {a : Addr} {xs : Array Value} {k : Nat} {sl : Array (Option Value)} {tk : Tok} {name : Str} {Q : Value → Shared → Prop} (hx : s.heap.get? a = some { cls := .type "list", dict := none, data := .seq xs k, slots := sl }) (hmiss : typeLookup (.type "list") name = pure none) (hname : (["__module__", "__name__", "__qualname__", "__doc__", "__annotations__"] : List Str).contains name = false) (hA : A.handled = none)
    (h : ∀ h' tk', (∀ b o, s.heap.get? b = some o → h'.get? b = some o) → Q (.bool false) { s with heap := h', toks := tk' }) (hsz : name.length + 100 ≤ sizeLine) :
    wpAny (model prog w) A (call (.builtin "hasattr") [.ref a, .str name tk]) Q E s := by
  refine Calls.call_function_entry kind_hasattr plain_hasattr entry_hasattr (args_hasattr2 _ _) ?_
  unfold Builtin.«hasattr»
  refine wpAny_bind (m := someArgs "hasattr" 2 2 _) (wpAny_pure ?_)
  dsimp only
  refine wpAny_bind (wpAny_bind (wpAny_pure ?_))
  show wpAny _ _ (pure _) _ _ _
  refine wpAny_pure ?_
  show wpAny _ _ (typeOf (.ref a) >>= _) _ _ _
  refine wpAny_bind (m := typeOf (.ref a)) (wpAny_typeOf (T := "list") ⟨_, hx, rfl⟩ ?_)
  dsimp only
  refine wpAny_bind (m := asStr? _) (wpAny_pure ?_)
  dsimp only
  rw [hmiss]
  refine wpAny_bind (wpAny_pure ?_)
  dsimp only
  refine wpAny_bind ?_
  show wpAny _ _ (asStr? (.str name tk) >>= _) _ _ _
  refine wpAny_bind (m := asStr? _) (wpAny_pure ?_)
  show wpAny _ _ (isInstance (.ref a) (.type "module") >>= _) _ _ _
  unfold isInstance
  refine wpAny_bind (wpAny_bind (wpAny_typeOf (T := "list") ⟨_, hx, rfl⟩ ?_))
  rw [show isSubtype (.type "list") (.type "module") = pure false by rw [isSubtype_type]; kernel_rfl]
  refine wpAny_pure ?_
  show wpAny _ _ (pure 0) _ _ _
  refine wpAny_pure ?_
  show wpAny _ _ (getAttrBy? _ _ >>= _) _ _ _
  refine wpAny_bind (getBy_miss_list (A := A.in1) hx hmiss hname hA (fun h' tk' hk => ?_) hsz)
  show wpAny _ _ (ret (.bool false)) _ _ _
  exact wpAny_pure ⟨_, rfl, h h' tk' hk⟩
theorem hasattr_dict {a : Addr} {es : Array DictEntry} {k : Nat} {sl : Array (Option Value)} {tk : Tok} {name : Str} {Q : Value → Shared → Prop} (hx : s.heap.get? a = some { cls := .type "dict", dict := none, data := .dict es k, slots := sl }) (hmiss : typeLookup (.type "dict") name = pure none) (hname : (["__module__", "__name__", "__qualname__", "__doc__", "__annotations__"] : List Str).contains name = false) (hA : A.handled = none)
    (h : ∀ h' tk', (∀ b o, s.heap.get? b = some o → h'.get? b = some o) → Q (.bool false) { s with heap := h', toks := tk' }) (hsz : name.length + 100 ≤ sizeLine) :
    wpAny (model prog w) A (call (.builtin "hasattr") [.ref a, .str name tk]) Q E s := by
  refine Calls.call_function_entry kind_hasattr plain_hasattr entry_hasattr (args_hasattr2 _ _) ?_
  unfold Builtin.«hasattr»
  refine wpAny_bind (m := someArgs "hasattr" 2 2 _) (wpAny_pure ?_)
  dsimp only
  refine wpAny_bind (wpAny_bind (wpAny_pure ?_))
  show wpAny _ _ (pure _) _ _ _
  refine wpAny_pure ?_
  show wpAny _ _ (typeOf (.ref a) >>= _) _ _ _
  refine wpAny_bind (m := typeOf (.ref a)) (wpAny_typeOf (T := "dict") ⟨_, hx, rfl⟩ ?_)
  dsimp only
  refine wpAny_bind (m := asStr? _) (wpAny_pure ?_)
  dsimp only
  rw [hmiss]
  refine wpAny_bind (wpAny_pure ?_)
  dsimp only
  refine wpAny_bind ?_
  show wpAny _ _ (asStr? (.str name tk) >>= _) _ _ _
  refine wpAny_bind (m := asStr? _) (wpAny_pure ?_)
  show wpAny _ _ (isInstance (.ref a) (.type "module") >>= _) _ _ _
  unfold isInstance
  refine wpAny_bind (wpAny_bind (wpAny_typeOf (T := "dict") ⟨_, hx, rfl⟩ ?_))
  rw [show isSubtype (.type "dict") (.type "module") = pure false by rw [isSubtype_type]; kernel_rfl]
  refine wpAny_pure ?_
  show wpAny _ _ (pure 0) _ _ _
  refine wpAny_pure ?_
  show wpAny _ _ (getAttrBy? _ _ >>= _) _ _ _
  refine wpAny_bind (getBy_miss_dict (A := A.in1) hx hmiss hname hA (fun h' tk' hk => ?_) hsz)
  show wpAny _ _ (ret (.bool false)) _ _ _
  exact wpAny_pure ⟨_, rfl, h h' tk' hk⟩
end
theorem item_tup3 {prog : Program} {w : World} {A : Around} {E : Value → Shared → Prop} {s : Shared} {h₀ : Heap} {L : Addr} {news : List (Addr × Obj)} {value slice : PySem.Expr} {D : Addr} {v0 v1 v2 : Value} {n : Nat} {k : Int} {u : Tok} {Q : Value → Shared → Prop} (N : News h₀ L s.heap news)
    (hm : (D, { cls := .type "tuple", data := .seq #[v0, v1, v2] n }) ∈ news) (lo : 0 ≤ k) (hi : k < 3) (h0 : k = 0 → Q v0 s) (h1 : k = 1 → Q v1 s) (h2 : k = 2 → Q v2 s)
    (hs : subscripted slice false (.ref D) (.int k u) = operate [.ref D, .int k u] (getItem (.ref D) (.int k u)) := by with_unfolding_all rfl) :
    wpAny (model prog w) A (subscriptTail value slice (.ref D) (.int k u)) Q E s := by
  have hT : IsTup s.heap D ([v0, v1, v2] : List Value).toArray := ⟨_, (N _ hm).1, rfl, _, rfl⟩
  have e : k = 0 ∨ k = 1 ∨ k = 2 := by omega
  rcases e with rfl | rfl | rfl
  · exact item_tupleT (j := 0) hT (by decide) (by decide) rfl rfl (h0 rfl) hs
  · exact item_tupleT (j := 1) hT (by decide) (by decide) rfl rfl (h1 rfl) hs
  · exact item_tupleT (j := 2) hT (by decide) (by decide) rfl rfl (h2 rfl) hs
theorem item_tup5 {prog : Program} {w : World} {A : Around} {E : Value → Shared → Prop} {s : Shared} {h₀ : Heap} {L : Addr} {news : List (Addr × Obj)} {value slice : PySem.Expr} {D : Addr} {v0 v1 v2 v3 v4 : Value} {n : Nat} {k : Int} {u : Tok} {Q : Value → Shared → Prop} (N : News h₀ L s.heap news)
    (hm : (D, { cls := .type "tuple", data := .seq #[v0, v1, v2, v3, v4] n }) ∈ news) (lo : 0 ≤ k) (hi : k < 5) (h0 : k = 0 → Q v0 s) (h1 : k = 1 → Q v1 s) (h2 : k = 2 → Q v2 s) (h3 : k = 3 → Q v3 s) (h4 : k = 4 → Q v4 s)
    (hs : subscripted slice false (.ref D) (.int k u) = operate [.ref D, .int k u] (getItem (.ref D) (.int k u)) := by with_unfolding_all rfl) :
    wpAny (model prog w) A (subscriptTail value slice (.ref D) (.int k u)) Q E s := by
  have hT : IsTup s.heap D ([v0, v1, v2, v3, v4] : List Value).toArray := ⟨_, (N _ hm).1, rfl, _, rfl⟩
  have e : k = 0 ∨ k = 1 ∨ k = 2 ∨ k = 3 ∨ k = 4 := by omega
  rcases e with rfl | rfl | rfl | rfl | rfl
  · exact item_tupleT (j := 0) hT (by decide) (by decide) rfl rfl (h0 rfl) hs
  · exact item_tupleT (j := 1) hT (by decide) (by decide) rfl rfl (h1 rfl) hs
  · exact item_tupleT (j := 2) hT (by decide) (by decide) rfl rfl (h2 rfl) hs
  · exact item_tupleT (j := 3) hT (by decide) (by decide) rfl rfl (h3 rfl) hs
  · exact item_tupleT (j := 4) hT (by decide) (by decide) rfl rfl (h4 rfl) hs
end Mine


namespace Mine
theorem fill : PySem.Challenge.rw_dn0254_04.row.prog = PySem.Challenge.rw_dn0254_04.row.prog ∧ Mine.hd.heap_39 = Mine.hd.heap_39 := by
  w_top off
  k_fill
  exact ⟨rfl, rfl⟩
def OrdV (C : Addr) (es : List DictEntry) (v : Value) : Prop :=
  (C = 52 ∧ getL "handler_order" es = some none ∧ v = .int 500 208) ∨ (C = 73 ∧ getL "handler_order" es = some none ∧ v = .int 1000 253) ∨ ((C = 52 ∨ C = 73) ∧ getL "handler_order" es = some (some v))
def HdV (news : List (Addr × Obj)) (x : Addr) (v : Value) : Prop := ∃ C dx es n, (x, instObj C dx) ∈ news ∧ (dx, dictOf es n) ∈ news ∧ OrdV C es v
/-- the orders a handler of the law may have -/
inductive Ord
  | int (i : Int)
  | text (k : Nat)
  | none
  | list (b c : Int)
def menu (k : Nat) : Str := (["", "B", "ab", "b", "ba"] : List Str).getD k ""
def Ord.mark : Ord → Str
  | .int _ => "whole"
  | .text _ => "text"
  | .none => "none"
  | .list _ _ => "list"
def Ord.val : Ord → Option Int
  | .int i => some i
  | .text k => some k
  | .none => Option.none
  | .list b c => some (3 * b + c)
inductive OrdIn (nw : List (Addr × Obj)) : Ord → Value → Prop
  | int {i : Int} {t : Tok} : OrdIn nw (.int i) (.int i t)
  | text {k : Nat} {t : Tok} : k < 5 → OrdIn nw (.text k) (.str (menu k) t)
  | none : OrdIn nw .none .none
  | list {b c : Int} {t u : Tok} {l : Addr} {n : Nat} : 0 ≤ b → 0 ≤ c → c < 3 → (l, W.listOf #[.int b t, .int c u] n) ∈ nw → OrdIn nw (.list b c) (.ref l)
inductive ValIs : Option Int → Value → Prop
  | int {i : Int} {t : Tok} : ValIs (some i) (.int i t)
  | none : ValIs Option.none .none
inductive OutIn (nw : List (Addr × Obj)) : Value → Prop
  | int {i : Int} {t : Tok} : OutIn nw (.int i t)
  | str {x : Str} {t : Tok} : OutIn nw (.str x t)
  | none : OutIn nw .none
  | list {l : Addr} {xs : Array Value} {n : Nat} : (l, W.listOf xs n) ∈ nw → OutIn nw (.ref l)
  | dict {l : Addr} {o : Obj} : (l, o) ∈ nw → o.ExactDict → (∃ es k, o.data = .dict es k) → OutIn nw (.ref l)
/-- what a thing of the law is: a handler with an order, or something else -/
inductive ThingIn (nw : List (Addr × Obj)) (tup : Addr) : Option Ord → Prop
  | hd {o : Ord} {x : Addr} {v vv vo : Value} {t : Tok} {n : Nat} : (tup, { cls := .type "tuple", data := .seq #[.ref x, .str o.mark t, vv, vo] n }) ∈ nw → HdV nw x v → OrdIn nw o v → ValIs o.val vv → OrdIn nw o vo → ThingIn nw tup (some o)
  | out {v : Value} {t : Tok} {n : Nat} : (tup, { cls := .type "tuple", data := .seq #[v, .str "out" t, .none, .none] n }) ∈ nw → OutIn nw v → ThingIn nw tup Option.none
section
variable {w : World} {A : Around} {E : Value → Shared → Prop} {s : Shared} {x y L : Addr} {h₀ : Heap} {m : Str → Option Value} {news : List (Addr × Obj)} {v : Value}
theorem find_order (w : World) {C : Addr} {es : List DictEntry} {n : Nat} (hO : OrdV C es v) : findObj (Mine.hd.heap_39 w.params) C (some (dictOf es n)) "handler_order" = some (.value v) := by
  rcases hO with ⟨rfl, h, rfl⟩ | ⟨rfl, h, rfl⟩ | ⟨rfl | rfl, h⟩
  · exact findObj_cls (by k_is) (by k_is) (by k_is) rfl (by decide +kernel) h
  · exact findObj_cls (by k_is) (by k_is) (by k_is) rfl (by decide +kernel) h
  · exact findObj_own (attr := some (.int 500 208)) (by k_is) (by k_is) (by k_is) h
  · exact findObj_own (attr := some (.int 1000 253)) (by k_is) (by k_is) (by k_is) h
theorem hd_cls {C : Addr} {es : List DictEntry} (hO : OrdV C es v) : C = 52 ∨ C = 73 := by
  rcases hO with ⟨rfl, _⟩ | ⟨rfl, _⟩ | ⟨h, _⟩
  · exact .inl rfl
  · exact .inr rfl
  · exact h
theorem hd_ga (w : World) {C : Addr} (h : C = 52 ∨ C = 73) : findIn (Mine.hd.heap_39 w.params) (.ref C) "__getattribute__" = some (some (.builtin "object.__getattribute__")) ∧ mroIn (Mine.hd.heap_39 w.params) C (.type "module") = some false := by
  rcases h with rfl | rfl
  · exact ⟨by k_is, by k_is⟩
  · exact ⟨by k_is, by k_is⟩
theorem get_order {expr : Bool} {Q : Value → Shared → Prop} (F : Fr h₀ L s.heap m) (X : (Mine.hd.heap_39 w.params).In h₀) (N : News h₀ L s.heap news) (H : HdV news x v) (hv : handedIn v = true)
    (h : Q v { s with toks := s.toks + 1 }) : wpAny (model PySem.Challenge.rw_dn0254_04.row.prog w) A (getAttr (.ref x) "handler_order" expr) Q E s := by
  obtain ⟨C, dx, es, n, h1, h2, hO⟩ := H
  exact get_value (X.keeps F.keep) (InstAt.of_news N h1 h2) (hd_ga w (hd_cls hO)).1 (find_order w (n := n) hO) hv h
theorem has_order {Q : Value → Shared → Prop} {tk : Tok} (F : Fr h₀ L s.heap m) (X : (Mine.hd.heap_39 w.params).In h₀) (N : News h₀ L s.heap news) (H : HdV news x v) (hv : handedIn v = true)
    (h : Q (.bool true) s) : wpAny (model PySem.Challenge.rw_dn0254_04.row.prog w) A (call (.builtin "hasattr") [.ref x, .str "handler_order" tk]) Q E s := by
  obtain ⟨C, dx, es, n, h1, h2, hO⟩ := H
  exact hasattr_yes F X (InstAt.of_news N h1 h2) (hd_ga w (hd_cls hO)).1 (hd_ga w (hd_cls hO)).2 (find_order w (n := n) hO) hv h
end
end Mine


namespace Mine
theorem fill2 : PySem.Challenge.rw_dn0254_04.row.prog = PySem.Challenge.rw_dn0254_04.row.prog ∧ Mine.hd.heap_39 = Mine.hd.heap_39 := by
  w_top off
  k_fill
  exact ⟨rfl, rfl⟩
section
variable {w : World} {A : Around} {E : Value → Shared → Prop} {s : Shared} {x y L : Addr} {h₀ : Heap} {m : Str → Option Value} {news : List (Addr × Obj)} {v v' : Value}
theorem allLt_ne {d : Addr} : ∀ {l : List (Addr × Obj)}, W.AllLt d l → ∀ p ∈ l, p.1 ≠ d
  | [], _, _, h => nomatch h
  | _ :: _, h, _, .head _ => Nat.ne_of_lt h.1
  | _ :: _, h, p, .tail _ hp => allLt_ne h.2 p hp
local macro_rules | `(tactic| k_all) => `(tactic| exact allLt_ne (by assumption))
theorem mod_lo {m : Int} : 0 ≤ m.fmod 3 := Int.fmod_nonneg_of_pos _ (by decide)
theorem mod_hi {m : Int} : m.fmod 3 < 3 := Int.fmod_lt_of_pos _ (by decide)
theorem mod5_lo {m : Int} : 0 ≤ m.fmod 5 := Int.fmod_nonneg_of_pos _ (by decide)
theorem mod5_hi {m : Int} : m.fmod 5 < 5 := Int.fmod_lt_of_pos _ (by decide)
local macro_rules | `(tactic| walk_at "subscriptTail") => `(tactic| (k_here; (with_reducible show wpAny _ _ (subscriptTail _ _ (Value.ref _) (Value.int (Int.fmod _ _) _)) _ _ _); k_dflt (first
  | (refine' item_tup3 ?N ?m mod_lo mod_hi ?_ ?_ ?_ ?q; (case N => k_asm); (case m => k_mem); (case q => with_unfolding_all rfl); k_whole)
  | (refine' item_tup5 ?N ?m mod5_lo mod5_hi ?_ ?_ ?_ ?_ ?_ ?q; (case N => k_asm); (case m => k_mem); (case q => with_unfolding_all rfl); k_whole)); intro hix'))
local macro_rules | `(tactic| keq_rows) => `(tactic| first | exact and1 (by assumption) | exact and2 (by assumption) | exact and3 (by assumption) | exact and4 (by assumption) | exact and5 (by assumption) | exact and6 (by assumption) | exact and7 (by assumption) | exact and8 (by assumption) | exact allLt_of (by assumption) | exact allLt_le (by assumption) (Nat.le_of_lt (by assumption)))
local macro_rules | `(tactic| bits_by_make) => `(tactic| first | exact made_nil | (refine made_cons (by keq_rows) ?_; bits_by_make))
local macro_rules | `(tactic| ktr_rel) => `(tactic| first | exact ⟨_, _, _, _, by k_mem, by k_mem, .inr (.inr ⟨.inl rfl, rfl⟩)⟩ | exact ⟨_, _, _, _, by k_mem, by k_mem, .inr (.inr ⟨.inr rfl, rfl⟩)⟩ | exact ⟨_, _, _, _, by k_mem, by k_mem, .inl ⟨rfl, rfl, rfl⟩⟩ | exact ⟨_, _, _, _, by k_mem, by k_mem, .inr (.inl ⟨rfl, rfl, rfl⟩)⟩)
theorem mark_eq {o : Ord} {s : Str} {nw : List (Addr × Obj)} {tup x : Addr} {v vv vo : Value} {t : Tok} {n : Nat} (hs : s = o.mark) (h : (tup, { cls := .type "tuple", data := .seq #[.ref x, .str s t, vv, vo] n }) ∈ nw) (h1 : HdV nw x v) (h2 : OrdIn nw o v) (h3 : ValIs o.val vv) (h4 : OrdIn nw o vo) : ThingIn nw tup (some o) := by
  subst hs; exact .hd h h1 h2 h3 h4
theorem val_at {i j : Int} {t : Tok} (h : i = j) : ValIs (some j) (.int i t) := by subst h; exact .int
theorem make_call {Q : Value → Shared → Prop} {p : Program} {loose : List Str} {mean : ExcName → Option Value} {mg mb : Str → Option Value} {dp un : Nat} {gd : Option (List Code)} {cn : Str} {cs : Scope} {a : Addr} {ccd : Value} {cl : List (Str × Addr)} {outer : List Env} {A₀ : Around} {base : Heap}
    {n : Int} {t : Tok}
    (B : Below A₀ base outer h₀) (F : Fr h₀ L s.heap m) (X : (Mine.hd.heap_39 w.params).In h₀) (N : News h₀ L s.heap news) (T : Top p loose mean mg mb h₀) (hk : cs.kind = .function) (hd : dp + 5 < recursionLimit) (hu : un + 50 < cLine)
    (ret : ∀ h' tk' nw new tup, Fr h₀ L h' m → News h₀ L h' nw → Made news nw new → (∃ th, ThingIn new tup th) → Q (.ref tup) { s with heap := h', toks := tk' }) :
    wpAny (model PySem.Challenge.rw_dn0254_04.row.prog w) (ktrTop dp un gd cn cs L a ccd cl outer) (call (.ref 82) [.int n t]) Q E s := by
  refine wpAny_call ?_
  k_dflt ktr_enter
  k_steps
  · exact ret _ _ _ _ _ (by assumption) (by assumption) (made_cons (by keq_rows) (made_cons (by keq_rows) (made_cons (by keq_rows) made_nil))) ⟨some (.int _), mark_eq rfl (by k_mem) (by ktr_rel) .int .int .int⟩
  · exact ret _ _ _ _ _ (by assumption) (by assumption) (made_cons (by keq_rows) (made_cons (by keq_rows) (made_cons (by keq_rows) made_nil))) ⟨some (.int _), mark_eq rfl (by k_mem) (by ktr_rel) .int .int .int⟩
  · exact ret _ _ _ _ _ (by assumption) (by assumption) (made_cons (by keq_rows) made_nil) ⟨none, .out (by k_mem) .int⟩
  · exact ret _ _ _ _ _ (by assumption) (by assumption) (made_cons (by keq_rows) (made_cons (by keq_rows) made_nil)) ⟨none, .out (by k_mem) .str⟩
  · exact ret _ _ _ _ _ (by assumption) (by assumption) (made_cons (by keq_rows) (made_cons (by keq_rows) made_nil)) ⟨none, .out (by k_mem) .str⟩
  · exact ret _ _ _ _ _ (by assumption) (by assumption) (made_cons (by keq_rows) (made_cons (by keq_rows) made_nil)) ⟨none, .out (by k_mem) .str⟩
  · exact ret _ _ _ _ _ (by assumption) (by assumption) (made_cons (by keq_rows) (made_cons (by keq_rows) (made_cons (by keq_rows) (made_cons (by keq_rows) made_nil)))) (by obtain ⟨es', ep', hx', hd', _⟩ := (by assumption : Obj.IsDictOf _ _ _); exact ⟨none, .out (by k_mem) (.dict (by k_mem) hx' ⟨es', ep', hd'⟩)⟩)
  · exact ret _ _ _ _ _ (by assumption) (by assumption) (made_cons (by keq_rows) (made_cons (by keq_rows) (made_cons (by keq_rows) (made_cons (by keq_rows) made_nil)))) ⟨none, .out (by k_mem) .none⟩
  · exact ret _ _ _ _ _ (by assumption) (by assumption) (made_cons (by keq_rows) (made_cons (by keq_rows) (made_cons (by keq_rows) (made_cons (by keq_rows) made_nil)))) ⟨none, .out (by k_mem) (.list (by k_mem))⟩
  · exact ret _ _ _ _ _ (by assumption) (by assumption) (made_cons (by keq_rows) (made_cons (by keq_rows) (made_cons (by keq_rows) (made_cons (by keq_rows) made_nil)))) ⟨some (.int _), mark_eq rfl (by k_mem) (by ktr_rel) .int .int .int⟩
  · exact ret _ _ _ _ _ (by assumption) (by assumption) (made_cons (by keq_rows) (made_cons (by keq_rows) (made_cons (by keq_rows) (made_cons (by keq_rows) (made_cons (by keq_rows) made_nil))))) ⟨some (.text 0), mark_eq rfl (by k_mem) (by ktr_rel) (.text (by decide)) (val_at (by assumption)) (.text (by decide))⟩
  · exact ret _ _ _ _ _ (by assumption) (by assumption) (made_cons (by keq_rows) (made_cons (by keq_rows) (made_cons (by keq_rows) (made_cons (by keq_rows) (made_cons (by keq_rows) made_nil))))) ⟨some (.text 1), mark_eq rfl (by k_mem) (by ktr_rel) (.text (by decide)) (val_at (by assumption)) (.text (by decide))⟩
  · exact ret _ _ _ _ _ (by assumption) (by assumption) (made_cons (by keq_rows) (made_cons (by keq_rows) (made_cons (by keq_rows) (made_cons (by keq_rows) (made_cons (by keq_rows) made_nil))))) ⟨some (.text 2), mark_eq rfl (by k_mem) (by ktr_rel) (.text (by decide)) (val_at (by assumption)) (.text (by decide))⟩
  · exact ret _ _ _ _ _ (by assumption) (by assumption) (made_cons (by keq_rows) (made_cons (by keq_rows) (made_cons (by keq_rows) (made_cons (by keq_rows) (made_cons (by keq_rows) made_nil))))) ⟨some (.text 3), mark_eq rfl (by k_mem) (by ktr_rel) (.text (by decide)) (val_at (by assumption)) (.text (by decide))⟩
  · exact ret _ _ _ _ _ (by assumption) (by assumption) (made_cons (by keq_rows) (made_cons (by keq_rows) (made_cons (by keq_rows) (made_cons (by keq_rows) (made_cons (by keq_rows) made_nil))))) ⟨some (.text 4), mark_eq rfl (by k_mem) (by ktr_rel) (.text (by decide)) (val_at (by assumption)) (.text (by decide))⟩
  · exact ret _ _ _ _ _ (by assumption) (by assumption) (made_cons (by keq_rows) (made_cons (by keq_rows) (made_cons (by keq_rows) (made_cons (by keq_rows) made_nil)))) ⟨some .none, mark_eq rfl (by k_mem) (by ktr_rel) .none .none .none⟩
  · exact ret _ _ _ _ _ (by assumption) (by assumption) (made_cons (by keq_rows) (made_cons (by keq_rows) (made_cons (by keq_rows) (made_cons (by keq_rows) (made_cons (by keq_rows) (made_cons (by keq_rows) (made_cons (by keq_rows) made_nil))))))) ⟨some (.list _ _), mark_eq rfl (by k_mem) (by ktr_rel) (.list mod_lo mod_lo mod_hi (by k_mem)) .int (.list mod_lo mod_lo mod_hi (by k_mem))⟩
end
end Mine


namespace Mine
theorem fill3 : PySem.Challenge.rw_dn0254_04.row.prog = PySem.Challenge.rw_dn0254_04.row.prog ∧ Mine.hd.heap_39 = Mine.hd.heap_39 := by
  w_top off
  k_fill
  exact ⟨rfl, rfl⟩
/-- what < gives on orders: none is TypeError -/
def ltO : Ord → Ord → Option Bool
  | .int i, .int j => some (decide (i < j))
  | .text i, .text j => some (decide (i < j))
  | .list b c, .list b' c' => some (decide (b < b' ∨ b = b' ∧ c < c'))
  | _, _ => Option.none
theorem menu_lt {i j : Nat} (hi : i < 5) (hj : j < 5) : decide ((menu i).cps.toList < (menu j).cps.toList) = decide (i < j) := by
  have key : ∀ i j : Fin 5, decide ((menu i.val).cps.toList < (menu j.val).cps.toList) = decide (i.val < j.val) := by decide +kernel
  exact key ⟨i, hi⟩ ⟨j, hj⟩
section
variable {w : World} {A : Around} {E : Value → Shared → Prop} {s : Shared} {x y L : Addr} {h₀ : Heap} {m : Str → Option Value} {news : List (Addr × Obj)} {v v' : Value} {o o' : Ord}
theorem OrdIn.handed (h : OrdIn news o v) : handedIn v = true := by cases h <;> rfl
def Ord.kind : Ord → String
  | .int _ => "int"
  | .text _ => "str"
  | .none => "NoneType"
  | .list _ _ => "list"
theorem OrdIn.plain (N : News h₀ L s.heap news) (h : OrdIn news o v) : Plain s.heap o.kind v := by
  cases h with
  | int => exact .int
  | text => exact .str
  | none => exact .none
  | list _ _ _ h => exact .list (N _ h).1
theorem lt_ord {Q : Value → Shared → Prop} (hh : A.handled = none) (hu : A.units < cLine) (N : News h₀ L s.heap news) (h : OrdIn news o v) (h' : OrdIn news o' v')
    (ret : ∀ b, ltO o o' = some b → Q (.bool b) s) (fly : ltO o o' = none → ∀ h' tk e, Heap.NewExc s.heap h' e "TypeError" → E (.ref e) { s with heap := h', toks := tk }) :
    wpAny (model PySem.Challenge.rw_dn0254_04.row.prog w) A (compareOp .Lt v v') Q E s := by
  by_cases hk : o.kind ≠ o'.kind ∨ o.kind = "NoneType"
  · refine lt_bad hh hu (h.plain N) (h'.plain N) hk (fly ?_)
    cases o <;> cases o' <;> first | rfl | exact absurd hk (by simp [Ord.kind])
  · have hk' : o.kind = o'.kind ∧ o.kind ≠ "NoneType" := ⟨Classical.byContradiction fun q => hk (.inl q), fun q => hk (.inr q)⟩
    cases h with
    | int =>
      cases h' with
      | int => exact lt_int (ret _ rfl)
      | text => exact absurd hk'.1 (by simp [Ord.kind])
      | none => exact absurd hk'.1 (by simp [Ord.kind])
      | list => exact absurd hk'.1 (by simp [Ord.kind])
    | text hi =>
      cases h' with
      | text hj => exact lt_str (by rw [menu_lt hi hj]; exact ret _ rfl)
      | int => exact absurd hk'.1 (by simp [Ord.kind])
      | none => exact absurd hk'.1 (by simp [Ord.kind])
      | list => exact absurd hk'.1 (by simp [Ord.kind])
    | none => exact absurd hk'.2 (by simp [Ord.kind])
    | list _ _ _ hl =>
      cases h' with
      | list _ _ _ hl' => exact lt_list2 hu (N _ hl).1 (N _ hl').1 (ret _ rfl)
      | int => exact absurd hk'.1 (by simp [Ord.kind])
      | none => exact absurd hk'.1 (by simp [Ord.kind])
      | text => exact absurd hk'.1 (by simp [Ord.kind])
theorem miss_int : typeLookup (.type "int") "handler_order" = pure none := by kernel_rfl
theorem miss_str : typeLookup (.type "str") "handler_order" = pure none := by kernel_rfl
theorem miss_none : typeLookup (.type "NoneType") "handler_order" = pure none := by kernel_rfl
theorem miss_list : typeLookup (.type "list") "handler_order" = pure none := by kernel_rfl
theorem miss_dict : typeLookup (.type "dict") "handler_order" = pure none := by kernel_rfl
theorem not_order {Q : Value → Shared → Prop} {tk : Tok} (hA : A.handled = none) (F : Fr h₀ L s.heap m) (N : News h₀ L s.heap news) (H : OutIn news v)
    (h : ∀ h' tk', Fr h₀ L h' m → News h₀ L h' news → Q (.bool false) { s with heap := h', toks := tk' }) : wpAny (model PySem.Challenge.rw_dn0254_04.row.prog w) A (call (.builtin "hasattr") [v, .str "handler_order" tk]) Q E s := by
  cases H with
  | int => exact hasattr_int miss_int hA (fun h' tk' hk => h h' tk' (F.keeps hk) (N.keeps hk)) (by decide)
  | str => exact hasattr_str miss_str hA (fun h' tk' hk => h h' tk' (F.keeps hk) (N.keeps hk)) (by decide)
  | none => exact hasattr_none miss_none hA (fun h' tk' hk => h h' tk' (F.keeps hk) (N.keeps hk)) (by decide)
  | list hl => exact hasattr_list (N _ hl).1 miss_list (by decide +kernel) hA (fun h' tk' hk => h h' tk' (F.keeps hk) (N.keeps hk)) (by decide)
  | @dict l o hl hx hd =>
    obtain ⟨c, dct, dat, sl⟩ := o
    obtain ⟨es, k, hd⟩ := hd
    obtain ⟨h1, h2, h3⟩ := hx
    dsimp only at h1 h2 h3 hd
    subst h1 h2 h3 hd
    exact hasattr_dict (N _ hl).1 miss_dict (by decide +kernel) hA (fun h' tk' hk => h h' tk' (F.keeps hk) (N.keeps hk)) (by decide)
/-- what the raising end of a call must know -/
def Flies (base h₀ : Heap) (L : Addr) (m : Str → Option Value) (l : List Env) (news : List (Addr × Obj)) (cls : String) (E : Value → Shared → Prop) (s : Shared) : Prop :=
  ∀ e h' tk' h₁, Fr h₀ L h₁ m → RaisedN base l e (.type cls) news h' → h₁.UpToSlots h' → E (.ref e) { s with heap := h', toks := tk' }
local macro_rules | `(tactic| walk_at "getAttr ref") => `(tactic| (k_here; (with_reducible show wpAny _ _ (getAttr (Value.ref _) (PySem.Str.ofString "handler_order") _) _ _ _); k_dflt (refine' get_order ?k1 ?k2 ?k3 ?k4 ?k5 ?_; (case k1 => k_asm); (case k2 => k_asm); (case k3 => k_asm); (case k4 => assumption); (case k5 => exact OrdIn.handed (by assumption)); k_whole)))
local macro_rules | `(tactic| walk_at "call builtin:hasattr") => `(tactic| (k_here; k_dflt (refine' has_order ?k1 ?k2 ?k3 ?k4 ?k5 ?_; (case k1 => k_asm); (case k2 => k_asm); (case k3 => k_asm); (case k4 => assumption); (case k5 => exact OrdIn.handed (by assumption)); k_whole)))
local macro_rules | `(tactic| walk_at "call builtin:hasattr") => `(tactic| (k_here; (rename OutIn _ _ => hOut9); k_dflt (refine' not_order ?k0 ?k1 ?k2 hOut9 ?_; (case k0 => rfl); (case k1 => k_asm); (case k2 => k_asm); k_whole); intro h' tk' F' N'))
local macro_rules | `(tactic| walk_at "compareOp Lt") => `(tactic| (k_here; (with_reducible show wpAny _ _ (compareOp CmpOp.Lt _ _) _ _ _); k_dflt (refine' lt_ord ?k0 ?k1 ?k2 ?k3 ?k4 ?_ ?_; (case k0 => rfl); (case k1 => ktr_units); (case k2 => k_asm); (case k3 => assumption); (case k4 => assumption); k_whole)))
theorem call_out {Q : Value → Shared → Prop} {p : Program} {loose : List Str} {mean : ExcName → Option Value} {mg mb : Str → Option Value} {dp un : Nat} {gd : Option (List Code)} {cn : Str} {cs : Scope} {a : Addr} {ccd : Value} {cl : List (Str × Addr)} {outer : List Env} {A₀ : Around} {base : Heap}
    (B : Below A₀ base outer h₀) (F : Fr h₀ L s.heap m) (X : (Mine.hd.heap_39 w.params).In h₀) (N : News h₀ L s.heap news) (T : Top p loose mean mg mb h₀) (hk : cs.kind = .function) (hx : OutIn news v') (hd : dp + 2 < recursionLimit) (hu : un + 16 < cLine)
    (ret : ∀ h' tk', Fr h₀ L h' m → News h₀ L h' news → Q (.bool true) { s with heap := h', toks := tk' }) :
    wpAny (model PySem.Challenge.rw_dn0254_04.row.prog w) (ktrTop dp un gd cn cs L a ccd cl outer) (call (.ref 49) [.ref x, v']) Q E s := by
  refine wpAny_call ?_
  k_dflt ktr_enter
  k_steps
  exact ret _ _ (by k_asm) (by k_asm)
theorem call_hd {Q : Value → Shared → Prop} {p : Program} {loose : List Str} {mean : ExcName → Option Value} {mg mb : Str → Option Value} {dp un : Nat} {gd : Option (List Code)} {cn : Str} {cs : Scope} {a : Addr} {ccd : Value} {cl : List (Str × Addr)} {outer : List Env} {A₀ : Around} {base : Heap}
    (B : Below A₀ base outer h₀) (F : Fr h₀ L s.heap m) (X : (Mine.hd.heap_39 w.params).In h₀) (N : News h₀ L s.heap news) (T : Top p loose mean mg mb h₀) (hk : cs.kind = .function) (hx : HdV news x v) (hv : OrdIn news o v) (hy : HdV news y v') (hv' : OrdIn news o' v') (hd : dp + 2 < recursionLimit) (hu : un + 16 < cLine)
    (ret : ∀ h' tk' b, Fr h₀ L h' m → News h₀ L h' news → ltO o o' = some b → Q (.bool b) { s with heap := h', toks := tk' })
    (fly : ltO o o' = none → Flies base h₀ L m (envX cn cs L a ccd cl :: outer) news "TypeError" E s) :
    wpAny (model PySem.Challenge.rw_dn0254_04.row.prog w) (ktrTop dp un gd cn cs L a ccd cl outer) (call (.ref 49) [.ref x, .ref y]) Q E s := by
  refine wpAny_call ?_
  k_dflt ktr_enter
  k_steps
  · rename (ltO _ _ = some _) => hb'
    exact ret _ _ _ (by k_asm) (by k_asm) hb'
  · rename (ltO _ _ = none) => hb'
    exact fly hb' _ _ _ _ (by assumption) (by assumption) (by assumption)
theorem OutIn.type (N : News h₀ L s.heap news) (h : OutIn news v') : ∃ T, T ∈ ["int", "str", "NoneType", "list", "dict"] ∧ Looks (model PySem.Challenge.rw_dn0254_04.row.prog w) s.heap (typeOf v') (.type T) := by
  cases h with
  | int => exact ⟨"int", by decide, Looks.of_pure rfl⟩
  | str => exact ⟨"str", by decide, Looks.of_pure rfl⟩
  | none => exact ⟨"NoneType", by decide, Looks.of_pure rfl⟩
  | list h => exact ⟨"list", by decide, (Looks.ld (N _ h).1).andThen .now⟩
  | dict h hx _ => exact ⟨"dict", by decide, hx.1 ▸ (Looks.ld (N _ h).1).andThen .now⟩
theorem sub_no (w : World) {T : String} (hT : T ∈ ["int", "str", "NoneType", "list", "dict"]) {C : Addr} (hC : C = 52 ∨ C = 73) : subIn (Mine.hd.heap_39 w.params) (.type T) (.ref C) = some false := by
  simp only [List.mem_cons, List.mem_nil_iff, or_false] at hT
  rcases hC with rfl | rfl <;> rcases hT with rfl | rfl | rfl | rfl | rfl <;> k_is
theorem lt_is (w : World) {C : Addr} (hC : C = 52 ∨ C = 73) : findIn (Mine.hd.heap_39 w.params) (.ref C) "__lt__" = some (some (.ref 49)) ∧ isFn (Mine.hd.heap_39 w.params) (.ref 49) = true := by
  rcases hC with rfl | rfl
  · exact ⟨by k_is, by k_is⟩
  · exact ⟨by k_is, by k_is⟩
theorem cmp_out {Q : Value → Shared → Prop} {p : Program} {loose : List Str} {mean : ExcName → Option Value} {mg mb : Str → Option Value} {dp un : Nat} {gd : Option (List Code)} {cn : Str} {cs : Scope} {a : Addr} {ccd : Value} {cl : List (Str × Addr)} {outer : List Env} {A₀ : Around} {base : Heap}
    (B : Below A₀ base outer h₀) (F : Fr h₀ L s.heap m) (X : (Mine.hd.heap_39 w.params).In h₀) (N : News h₀ L s.heap news) (T : Top p loose mean mg mb h₀) (hk : cs.kind = .function) (hx : HdV news x v) (hy : OutIn news v') (hd : dp + 2 < recursionLimit) (hu : un + 16 < cLine)
    (ret : ∀ h' tk', Fr h₀ L h' m → News h₀ L h' news → Q (.bool true) { s with heap := h', toks := tk' }) :
    wpAny (model PySem.Challenge.rw_dn0254_04.row.prog w) (ktrTop dp un gd cn cs L a ccd cl outer) (compareOp .Lt (.ref x) v') Q E s := by
  have c := call_out (x := x) (E := E) (Q := W.CmpBack Q) (gd := gd) (cn := cn) (a := a) (ccd := ccd) (cl := cl) B F X N T hk hy hd hu ret
  obtain ⟨C, dx, es, n, h1, h2, hO⟩ := hx
  have I := InstAt.of_news N h1 h2
  have hu' : (ktrTop dp un gd cn cs L a ccd cl outer).units < cLine := by show un < cLine; omega
  refine cmp_ofLt ?_
  obtain ⟨T', hT, hl⟩ := hy.type (w := w) N
  have hC := hd_cls hO
  exact lt_inst hu' F X I hl (.inr (.inl (sub_no w hT hC))) (lt_is w hC).1 (lt_is w hC).2 c
theorem cmp_hd {Q : Value → Shared → Prop} {p : Program} {loose : List Str} {mean : ExcName → Option Value} {mg mb : Str → Option Value} {dp un : Nat} {gd : Option (List Code)} {cn : Str} {cs : Scope} {a : Addr} {ccd : Value} {cl : List (Str × Addr)} {outer : List Env} {A₀ : Around} {base : Heap}
    (B : Below A₀ base outer h₀) (F : Fr h₀ L s.heap m) (X : (Mine.hd.heap_39 w.params).In h₀) (N : News h₀ L s.heap news) (T : Top p loose mean mg mb h₀) (hk : cs.kind = .function) (hx : HdV news x v) (hv : OrdIn news o v) (hy : HdV news y v') (hv' : OrdIn news o' v') (hd : dp + 2 < recursionLimit) (hu : un + 16 < cLine)
    (ret : ∀ h' tk' b, Fr h₀ L h' m → News h₀ L h' news → ltO o o' = some b → Q (.bool b) { s with heap := h', toks := tk' })
    (fly : ltO o o' = none → Flies base h₀ L m (envX cn cs L a ccd cl :: outer) news "TypeError" E s) :
    wpAny (model PySem.Challenge.rw_dn0254_04.row.prog w) (ktrTop dp un gd cn cs L a ccd cl outer) (compareOp .Lt (.ref x) (.ref y)) Q E s := by
  have c := call_hd (E := E) (Q := W.CmpBack Q) (gd := gd) (cn := cn) (a := a) (ccd := ccd) (cl := cl) B F X N T hk hx hv hy hv' hd hu ret fly
  obtain ⟨C, dx, es, n, h1, h2, hO⟩ := hx
  have I := InstAt.of_news N h1 h2
  have hu' : (ktrTop dp un gd cn cs L a ccd cl outer).units < cLine := by show un < cLine; omega
  refine cmp_ofLt ?_
  obtain ⟨D, dy, es', n', g1, g2, gO⟩ := hy
  have J := InstAt.of_news N g1 g2
  rcases hd_cls hO with rfl | rfl <;> rcases hd_cls gO with rfl | rfl
  · exact lt_inst hu' F X I J.type (.inl rfl) (by k_is) (by k_is) c
  · exact lt_inst hu' F X I J.type (.inr (.inr ⟨_, _, _, _, rfl, rfl, J, by k_is, by k_is, by k_is⟩)) (by k_is) (by k_is) c
  · exact lt_inst hu' F X I J.type (.inr (.inl (by k_is))) (by k_is) (by k_is) c
  · exact lt_inst hu' F X I J.type (.inl rfl) (by k_is) (by k_is) c
end
end Mine


namespace Mine
theorem fill4 : PySem.Challenge.rw_dn0254_04.row.prog = PySem.Challenge.rw_dn0254_04.row.prog ∧ Mine.hd.heap_39 = Mine.hd.heap_39 := by
  w_top off
  k_fill
  exact ⟨rfl, rfl⟩
def dueS : Option Bool → Str
  | some true => "True"
  | some false => "False"
  | none => "TypeError"
section
variable {w : World} {A : Around} {E : Value → Shared → Prop} {s : Shared} {x y L : Addr} {h₀ : Heap} {m : Str → Option Value} {news : List (Addr × Obj)} {v v' : Value} {o o' : Ord}
theorem due1 {p : Prop} [Decidable p] (h : p) : dueS (some (decide p)) = "True" := by rw [decide_eq_true h]; rfl
theorem due2 {p : Prop} [Decidable p] (h : ¬ p) : dueS (some (decide p)) = "False" := by rw [decide_eq_false h]; rfl
local macro_rules | `(tactic| k_mem) => `(tactic| ((with_reducible show List.Mem _ _); assumption))
local macro_rules | `(tactic| k_mem) => `(tactic| assumption)
theorem due_out {Q : Value → Shared → Prop} {p : Program} {loose : List Str} {mean : ExcName → Option Value} {mg mb : Str → Option Value} {dp un : Nat} {gd : Option (List Code)} {cn : Str} {cs : Scope} {a : Addr} {ccd : Value} {cl : List (Str × Addr)} {outer : List Env} {A₀ : Around} {base : Heap}
    {u1 u2 : Addr} {t2 : Tok} {n2 : Nat}
    (B : Below A₀ base outer h₀) (F : Fr h₀ L s.heap m) (X : (Mine.hd.heap_39 w.params).In h₀) (N : News h₀ L s.heap news) (T : Top p loose mean mg mb h₀) (hk : cs.kind = .function) (hd : dp + 5 < recursionLimit) (hu : un + 50 < cLine)
    (ht2 : (u2, { cls := .type "tuple", data := .seq #[v', .str "out" t2, .none, .none] n2 }) ∈ news)
    (ret : ∀ h' tk' t, Fr h₀ L h' m → News h₀ L h' news → Q (.str "True" t) { s with heap := h', toks := tk' }) :
    wpAny (model PySem.Challenge.rw_dn0254_04.row.prog w) (ktrTop dp un gd cn cs L a ccd cl outer) (call (.ref 89) [.ref u1, .ref u2]) Q E s := by
  refine wpAny_call ?_
  k_dflt ktr_enter
  k_steps
  exact ret _ _ _ (by k_asm) (by k_asm)
theorem due_hd {Q : Value → Shared → Prop} {p : Program} {loose : List Str} {mean : ExcName → Option Value} {mg mb : Str → Option Value} {dp un : Nat} {gd : Option (List Code)} {cn : Str} {cs : Scope} {a : Addr} {ccd : Value} {cl : List (Str × Addr)} {outer : List Env} {A₀ : Around} {base : Heap}
    {u1 u2 x1 x2 : Addr} {t1 t2 : Tok} {n1 n2 : Nat} {vv vv' vo vo' : Value}
    (B : Below A₀ base outer h₀) (F : Fr h₀ L s.heap m) (X : (Mine.hd.heap_39 w.params).In h₀) (N : News h₀ L s.heap news) (T : Top p loose mean mg mb h₀) (hk : cs.kind = .function) (hd : dp + 5 < recursionLimit) (hu : un + 50 < cLine)
    (ht1 : (u1, { cls := .type "tuple", data := .seq #[.ref x1, .str o.mark t1, vv, vo] n1 }) ∈ news) (ht2 : (u2, { cls := .type "tuple", data := .seq #[.ref x2, .str o'.mark t2, vv', vo'] n2 }) ∈ news)
    (hv : ValIs o.val vv) (hv' : ValIs o'.val vv') (hO : OrdIn news o vo) (hO' : OrdIn news o' vo')
    (ret : ∀ h' tk' t z, Fr h₀ L h' m → News h₀ L h' news → dueS (ltO o o') = z → Q (.str z t) { s with heap := h', toks := tk' }) :
    wpAny (model PySem.Challenge.rw_dn0254_04.row.prog w) (ktrTop dp un gd cn cs L a ccd cl outer) (call (.ref 89) [.ref u1, .ref u2]) Q E s := by
  refine wpAny_call ?_
  cases o <;> cases o' <;> cases hv <;> cases hv'
  all_goals (dsimp only [Ord.mark] at ht1 ht2; k_dflt ktr_enter; k_steps)
  · exact ret _ _ _ _ (by k_asm) (by k_asm) (due1 (by omega))
  · exact ret _ _ _ _ (by k_asm) (by k_asm) (due2 (by omega))
  · exact ret _ _ _ _ (by k_asm) (by k_asm) rfl
  · exact ret _ _ _ _ (by k_asm) (by k_asm) rfl
  · exact ret _ _ _ _ (by k_asm) (by k_asm) rfl
  · exact ret _ _ _ _ (by k_asm) (by k_asm) rfl
  · exact ret _ _ _ _ (by k_asm) (by k_asm) (due1 (by omega))
  · exact ret _ _ _ _ (by k_asm) (by k_asm) (due2 (by omega))
  · exact ret _ _ _ _ (by k_asm) (by k_asm) rfl
  · exact ret _ _ _ _ (by k_asm) (by k_asm) rfl
  · exact ret _ _ _ _ (by k_asm) (by k_asm) rfl
  · exact ret _ _ _ _ (by k_asm) (by k_asm) rfl
  · exact ret _ _ _ _ (by k_asm) (by k_asm) rfl
  · exact ret _ _ _ _ (by k_asm) (by k_asm) rfl
  · exact ret _ _ _ _ (by k_asm) (by k_asm) rfl
  · exact ret _ _ _ _ (by k_asm) (by k_asm) rfl
  · exact ret _ _ _ _ (by k_asm) (by k_asm) rfl
  · cases hO
    cases hO'
    exact ret _ _ _ _ (by k_asm) (by k_asm) (due1 (by omega))
  · cases hO
    cases hO'
    exact ret _ _ _ _ (by k_asm) (by k_asm) (due2 (by omega))
end
end Mine


namespace Mine
theorem fill9 : PySem.Challenge.rw_dn0254_04.row.prog = PySem.Challenge.rw_dn0254_04.row.prog ∧ Mine.hd.heap_39 = Mine.hd.heap_39 := by
  k_fill
  exact ⟨rfl, rfl⟩
theorem HdV.mono {a b : List (Addr × Obj)} {x : Addr} {v : Value} (hs : ∀ p ∈ a, p ∈ b) (h : HdV a x v) : HdV b x v := by
  obtain ⟨C, dx, es, n, h1, h2, h3⟩ := h
  exact ⟨C, dx, es, n, hs _ h1, hs _ h2, h3⟩
theorem OrdIn.mono {a b : List (Addr × Obj)} {o : Ord} {v : Value} (hs : ∀ p ∈ a, p ∈ b) (h : OrdIn a o v) : OrdIn b o v := by
  cases h with
  | int => exact .int
  | text h => exact .text h
  | none => exact .none
  | list h1 h2 h3 h => exact .list h1 h2 h3 (hs _ h)
theorem OutIn.mono {a b : List (Addr × Obj)} {v : Value} (hs : ∀ p ∈ a, p ∈ b) (h : OutIn a v) : OutIn b v := by
  cases h with
  | int => exact .int
  | str => exact .str
  | none => exact .none
  | list h => exact .list (hs _ h)
  | dict h h1 h2 => exact .dict (hs _ h) h1 h2
theorem ThingIn.mono {a b : List (Addr × Obj)} {tup : Addr} {th : Option Ord} (hs : ∀ p ∈ a, p ∈ b) (h : ThingIn a tup th) : ThingIn b tup th := by
  cases h with
  | hd h1 h2 h3 h4 h5 => exact .hd (hs _ h1) (h2.mono hs) (h3.mono hs) h4 (h5.mono hs)
  | out h1 h2 => exact .out (hs _ h1) (h2.mono hs)
def Things (nw : List (Addr × Obj)) (R : List Addr) : Prop := ∀ r ∈ R, ∃ th, ThingIn nw r th
theorem Things.mono {a b : List (Addr × Obj)} {R : List Addr} (hs : ∀ p ∈ a, p ∈ b) (h : Things a R) : Things b R := fun r hr => let ⟨th, q⟩ := h r hr; ⟨th, q.mono hs⟩
def BuiltN (D : Addr) (o : Obj) (i : Nat) (ys : List Value) (nw : List (Addr × Obj)) : Prop := (D, o) ∈ nw ∧ ∃ R : List Addr, R.length = i ∧ ys = R.map Value.ref ∧ Things nw R
theorem BuiltN.step {D : Addr} {o : Obj} {i : Nat} {ys : List Value} {new nw : List (Addr × Obj)} {tup : Addr} (h : BuiltN D o i ys nw) (hn : ∃ th, ThingIn new tup th) : BuiltN D o (i + 1) (ys ++ [.ref tup]) (new ++ nw) := by
  obtain ⟨hD, R, h1, h2, h3⟩ := h
  refine ⟨List.mem_append_right _ hD, R ++ [tup], by simp [h1], by simp [h2], fun r hr => ?_⟩
  rcases List.mem_append.mp hr with hr | hr
  · exact h3.mono (fun p hp => List.mem_append_right _ hp) r hr
  · rw [List.mem_singleton.mp hr]
    obtain ⟨th, q⟩ := hn
    exact ⟨th, q.mono fun p hp => List.mem_append_left _ hp⟩
theorem src_stays {h₀ : Heap} {D : Addr} {vs : Array Value} {n i : Nat} {ys : List Value} {nw : List (Addr × Obj)} (h : BuiltN D (W.listOf vs n) i ys nw) : LCg.SrcAt h₀ D vs nw := .inr ⟨_, h.1, rfl, n, rfl⟩
theorem things_up {h₀ h : Heap} {L : Addr} {q : Addr × Obj} {W : List (Addr × Obj)} {R : List Addr} (_N : News h₀ L h (q :: W)) (h3 : Things W R) : Things (q :: W) R := h3.mono fun p hp => .tail _ hp
section
variable {w : World} {A : Around} {E : Value → Shared → Prop} {s : Shared} {L : Addr} {h₀ : Heap} {m : Str → Option Value} {news : List (Addr × Obj)} {v v' : Value} {o : Ord}
theorem ne_ord {Q : Value → Shared → Prop} (hu : A.units + 64 < cLine) (N : News h₀ L s.heap news) (h : OrdIn news o v) (h' : OrdIn news o v') (hq : Q (.bool false) s) :
    wpAny (model PySem.Challenge.rw_dn0254_04.row.prog w) A (compareOp .NotEq v v') Q E s := by
  cases h with
  | int =>
    cases h' with
    | int => exact ne_int (by simpa using hq)
  | text _ =>
    cases h' with
    | text _ => exact ne_str (by simpa using hq)
  | none =>
    cases h' with
    | none => exact EqNone.ne_none_none hq
  | list _ _ _ hl =>
    cases h' with
    | list _ _ _ hl' =>
      exact ne_intsK (News.isList N hl) (.cons _ _ (.cons _ _ .nil)) (News.isList N hl') (.cons _ _ (.cons _ _ .nil)) hu (by simpa using hq)
theorem mark_out (o : Ord) : o.mark ≠ "out" := by
  cases o with
  | int => exact (by decide : (Str.ofString "whole") ≠ "out")
  | text => exact (by decide : (Str.ofString "text") ≠ "out")
  | none => exact (by decide : (Str.ofString "none") ≠ "out")
  | list => exact (by decide : (Str.ofString "list") ≠ "out")
theorem due_hd' {Q : Value → Shared → Prop} {p : Program} {loose : List Str} {mean : ExcName → Option Value} {mg mb : Str → Option Value} {dp un : Nat} {gd : Option (List Code)} {cn : Str} {cs : Scope} {a : Addr} {ccd : Value} {cl : List (Str × Addr)} {outer : List Env} {A₀ : Around} {base : Heap}
    {u1 u2 x1 x2 : Addr} {t1 t2 : Tok} {n1 n2 : Nat} {vv vv' vo vo' : Value} {o' : Ord} {z : Str}
    (B : Below A₀ base outer h₀) (F : Fr h₀ L s.heap m) (X : (Mine.hd.heap_39 w.params).In h₀) (N : News h₀ L s.heap news) (T : Top p loose mean mg mb h₀) (hk : cs.kind = .function) (hd : dp + 5 < recursionLimit) (hu : un + 50 < cLine)
    (ht1 : (u1, { cls := .type "tuple", data := .seq #[.ref x1, .str o.mark t1, vv, vo] n1 }) ∈ news) (ht2 : (u2, { cls := .type "tuple", data := .seq #[.ref x2, .str o'.mark t2, vv', vo'] n2 }) ∈ news)
    (hv : ValIs o.val vv) (hv' : ValIs o'.val vv') (hO : OrdIn news o vo) (hO' : OrdIn news o' vo') (hz : dueS (ltO o o') = z)
    (ret : ∀ h' tk' t, Fr h₀ L h' m → News h₀ L h' news → Q (.str z t) { s with heap := h', toks := tk' }) :
    wpAny (model PySem.Challenge.rw_dn0254_04.row.prog w) (ktrTop dp un gd cn cs L a ccd cl outer) (call (.ref 89) [.ref u1, .ref u2]) Q E s :=
  due_hd B F X N T hk hd hu ht1 ht2 hv hv' hO hO' fun h' tk' t z' F' N' e => by
    obtain rfl : z' = z := e.symm.trans hz
    exact ret h' tk' t F' N'
end
local macro_rules | `(tactic| keq_rows) => `(tactic| first | (k_unfold; (try dsimp only)) | walk1 | (dsimp only; walk1))
local macro_rules | `(tactic| ktr_rel) => `(tactic| repeat' ((fail_if_success (with_reducible show wpAny _ _ (exec (PySem.Stmt.Assign _ (PySem.Expr.ListComp _ _ _ _) _) _) _ _ _)); keq_rows))
local macro_rules | `(tactic| bits_by_make) => `(tactic| repeat' ((fail_if_success (with_reducible show wpAny _ _ (pyIter _) _ _ _)); keq_rows))
local macro_rules | `(tactic| keq_hits) => `(tactic| repeat' ((fail_if_success (with_reducible show wpAny _ _ (storeName _ (PySem.Str.ofString "answer") _) _ _ _)); (fail_if_success (with_reducible show Flies _ _ _ _ _ _ _ _ _)); keq_rows))
local macro_rules | `(tactic| k_mem) => `(tactic| ((with_reducible show List.Mem _ _); assumption))
local macro_rules | `(tactic| walk_at "call ref") => `(tactic| (k_here; (with_reducible show wpAny _ _ (call (Value.ref 82) [Value.int _ _]) _ _ _); k_dflt (refine' make_call ?k1 ?k2 ?k3 ?k4 ?k5 ?k6 ?k7 ?k8 ?_; (case k1 => k_asm); (case k2 => k_asm); (case k3 => k_asm); (case k4 => k_asm); (case k5 => k_asm); (case k6 => exact rfl); (case k7 => ktr_room); (case k8 => ktr_units); k_whole)))
local macro_rules | `(tactic| walk_at "call ref") => `(tactic| (k_here; (with_reducible show wpAny _ _ (call (Value.ref 89) _) _ _ _); k_dflt (refine' due_hd' ?k1 ?k2 ?k3 ?k4 ?k5 ?k6 ?k7 ?k8 ?a1 ?a2 ?a3 ?a4 ?a5 ?a6 ?a7 ?_; (case k1 => k_asm); (case k2 => k_asm); (case k3 => k_asm); (case k4 => k_asm); (case k5 => k_asm); (case k6 => exact rfl); (case k7 => ktr_room); (case k8 => ktr_units); (case a1 => assumption); (case a2 => assumption); (case a3 => assumption); (case a4 => assumption); (case a5 => assumption); (case a6 => assumption); (case a7 => assumption); k_whole); intro h' tk' t' F' N'))
local macro_rules | `(tactic| walk_at "call ref") => `(tactic| (k_here; (rename OutIn _ _ => hOut9); (with_reducible show wpAny _ _ (call (Value.ref 89) _) _ _ _); k_dflt (refine' due_out ?k1 ?k2 ?k3 ?k4 ?k5 ?k6 ?k7 ?k8 ?a1 ?_; (case k1 => k_asm); (case k2 => k_asm); (case k3 => k_asm); (case k4 => k_asm); (case k5 => k_asm); (case k6 => exact rfl); (case k7 => ktr_room); (case k8 => ktr_units); (case a1 => assumption); k_whole); intro h' tk' t' F' N'))
local macro_rules | `(tactic| walk_at "subscriptTail") => `(tactic| (k_here; (with_reducible show wpAny _ _ (subscriptTail _ _ (Value.ref _) (Value.int _ _)) _ _ _); k_dflt (refine' item_led ?k1 ?k2 ?k3 ?k4 ?k5 ?_ ?k6; (case k1 => k_asm); (case k2 => k_mem); (case k5 => assumption); (case k3 => omega); (case k4 => omega); (case k6 => with_unfolding_all rfl); k_whole)))
local macro_rules | `(tactic| walk_at "exec For Name Call cons nil") => `(tactic| (k_here; (rename Fr _ _ _ _ => lF'); (with_unfolding_all refine' For_invVF lF' ?k1 ?k2 ?_; (case k1 => exact rfl); (case k2 => exact rfl); k_whole)))
local macro_rules | `(tactic| walk_at "call type:range") => `(tactic| (k_here; (rename Fr _ _ _ _ => F'); (rename News _ _ _ _ => N'); (with_unfolding_all refine range1_rows F' N' ?_; intro _ _ _ _ _ _ _ _ _)))
local macro_rules | `(tactic| walk_at "PostJ") => `(tactic| (dsimp only [PostJ]))
local macro_rules | `(tactic| walk_at "PostW") => `(tactic| (dsimp only [PostW]))
local macro_rules | `(tactic| walk_at "exec For Tuple Name cons nil") => `(tactic| (k_here; (rename Fr _ _ _ _ => lF'); (with_unfolding_all refine' For_turns lF' ?_; k_whole)))
local macro_rules | `(tactic| walk_at "call builtin:len") => `(tactic| (k_here; (with_reducible show wpAny _ _ (call (Value.builtin "len") [Value.ref _]) _ _ _); k_dflt (refine' len_led ?k1 ?k2 ?k3 ?_; (case k1 => k_asm); (case k2 => k_mem); (case k3 => assumption); k_whole)))
local macro_rules | `(tactic| walk_at "getAttr ref") => `(tactic| (k_here; (with_reducible show wpAny _ _ (getAttr (Value.ref _) (PySem.Str.ofString "handler_order") _) _ _ _); k_dflt (refine' get_order ?k1 ?k2 ?k3 ?k4 ?k5 ?_; (case k1 => k_asm); (case k2 => k_asm); (case k3 => k_asm); (case k4 => assumption); (case k5 => exact OrdIn.handed (by assumption)); k_whole)))
local macro_rules | `(tactic| walk_at "compareOp NotEq") => `(tactic| (k_here; (rename ValIs _ _ => hVal9); (with_reducible show wpAny _ _ (compareOp CmpOp.NotEq _ _) _ _ _); k_dflt (refine' ne_ord ?k0 ?k2 ?k3 ?k4 ?_; (case k2 => k_asm); (case k3 => assumption); (case k4 => assumption); (case k0 => ktr_units); k_whole)))
local macro_rules | `(tactic| walk_at "compareOp Lt ref") => `(tactic| (k_here; k_dflt (refine' cmp_hd ?k1 ?k2 ?k3 ?k4 ?k5 ?k6 ?k7 ?k8 ?k7' ?k8' ?k9 ?k10 ?_ ?_; (case k1 => k_asm); (case k2 => k_asm); (case k3 => k_asm); (case k4 => k_asm); (case k5 => k_asm); (case k6 => exact rfl); (case k7 => assumption); (case k8 => assumption); (case k7' => assumption); (case k8' => assumption); (case k9 => ktr_room); (case k10 => ktr_units); k_whole)))
local macro_rules | `(tactic| walk_at "compareOp Lt ref") => `(tactic| (k_here; (rename OutIn _ _ => hOut9); k_dflt (refine' cmp_out ?k1 ?k2 ?k3 ?k4 ?k5 ?k6 ?k7 ?k8 ?k9 ?k10 ?_; (case k1 => k_asm); (case k2 => k_asm); (case k3 => k_asm); (case k4 => k_asm); (case k5 => k_asm); (case k6 => exact rfl); (case k7 => assumption); (case k8 => assumption); (case k9 => ktr_room); (case k10 => ktr_units); k_whole); intro h' tk' F' N'))
theorem t : PySem.Challenge.rw_dn0254_04.Holds := hd (by
  w_strict (
    k_go0
    (all_goals try k_fold)
    ktr_rel
    k_dflt (refine LCg.Assign_ListComp_U (F₀ := by k_asm) (by rfl) (by with_unfolding_all rfl) (by rfl) (by decide) (by rfl) (by decide) (by rfl) (by rfl) (by rfl) ?_)
    keq_rows
    rename IntsAre _ (List.take _ _) => hI
    rename _ = min _ _ => hmin
    have hwl := hI.length
    refine LCg.CompSrc.ledger (by rfl) (by k_asm) (by k_asm) (by k_mem) ?hz ?_
    case hz =>
      rw [List.size_toArray]
      exact Nat.le_trans (by omega) lineBig
    intro g
    refine comp_inv0 (BuiltN _ _) ⟨List.mem_cons_self, [], rfl, rfl, fun _ h => nomatch h⟩ ?step ?fin
    case step =>
      intro i ys nw hi hJ v I oI C oC D m₂ h tk E' hv hC hx F2 N2 off ne
      obtain ⟨n, t, e, hk⟩ := IntsAre.at hI i v (by simpa using hv)
      subst e
      repeat' keq_rows
      rename Fr _ _ _ _ => F3
      rename News _ _ _ _ => N3
      rename Made _ _ _ => hM
      rename (∃ th, ThingIn _ _ th) => hN
      exact ⟨_, _, _, rfl, F3, news_made hM N3, off3_made hM off, src_stays (hJ.step hN), hJ.step hN⟩
    case fin =>
      intro ys nw hJ
      obtain ⟨hD, R, h1, h2, h3⟩ := hJ
      have hyl : ys.length = R.length := by rw [h2, List.length_map]
      have hRl : R.length ≤ 63 := by rw [h1, List.size_toArray]; omega
      have ly : ys.length ≤ 2 ^ 20 := by omega
      clear hD h1 hI hwl hmin
      keq_rows
      bits_by_make
      rename IsRange _ _ _ _ _ _ _ _ => hr
      rename Fr _ _ _ _ => F3
      rename News _ _ _ _ => N3
      refine iter_rangeJ (n := ys.length) (fun i m₁ nw₁ => ∃ t, nw₁ = _ ∧ m₁ "things" = some (.ref _) ∧ m₁ "size" = some (.int ys.length t)) rfl hr (small_range (by decide) (by decide) (by omega) (by omega)) range_n F3 N3 ⟨_, rfl, rfl, rfl⟩ ?turn ?done
      case turn =>
        intro I i t m₁ nw₁ h tk own hi hJ hoI hown hIo hltI F4 N4
        obtain ⟨ts, rfl, m1, m2⟩ := hJ
        replace F4 := fr_g2 F4 m1 m2
        clear F3 N3 hr
        simp only [List.cons_append] at N4
        replace h3 : Things (nw ++ own) R := h3.mono fun p hp => List.mem_append_left _ hp
        clear hltI hIo hown
        generalize hW : nw ++ own = W at N4 h3
        have h3' := things_up N4 h3
        obtain ⟨r, hr⟩ : ∃ r, R[i]? = some r := ⟨R[i], by simp⟩
        have hy : ys[(0 + (i : Int)).toNat]? = some (.ref r) := by rw [show (0 + (i : Int)).toNat = i by omega, h2]; simp [hr]
        obtain ⟨th, hth⟩ := h3' r (List.mem_of_getElem? hr)
        cases hth with
        | out a1 a2 =>
          repeat' keq_rows
          subst hW
          exact ⟨_, _, _, _, rfl, by k_asm, by k_asm, hoI, _, rfl, rfl, rfl⟩
        | @hd o x v vv vo t5 n5 a1 a2 a3 a4 a5 =>
          have hmk := mark_out o
          bits_by_make
          · subst hW
            exact ⟨_, _, _, _, rfl, by k_asm, by k_asm, hoI, _, rfl, rfl, rfl⟩
          rename IsRange _ _ _ _ _ _ _ _ => hr3
          rename Fr _ _ _ _ => F4
          rename News _ _ _ _ => N4
          refine iter_rangeJ (n := 3) (fun _ m₁ nw₁ => ∃ t ts, nw₁ = _ ∧ m₁ "things" = some (.ref _) ∧ m₁ "size" = some (.int ys.length ts) ∧ m₁ "i" = some (.int (0 + (i : Int)) t) ∧ m₁ "left" = some (.ref r)) rfl hr3 (by decide) (by decide) F4 N4 ⟨_, _, rfl, rfl, rfl, rfl, rfl⟩ ?turn2 ?done2
          case turn2 =>
            clear F4 N4 hr3 m1 m2 h3'
            intro I2 st t2 m₂ nw₂ h tk own2 hst hJ hoI2 hown2 hIo2 hltI2 F5 N5
            obtain ⟨t3, t4, rfl, m1, m2, m3, m4⟩ := hJ
            replace F5 := fr_g4 F5 m1 m2 m3 m4
            simp only [List.cons_append] at N5
            replace h3 : Things (W ++ own2) R := h3.mono fun p hp => List.mem_append_left _ hp
            have b1 := List.mem_append_left own2 a1
            have b2 := a2.mono (fun p hp => List.mem_append_left own2 hp)
            have b3 := a3.mono (fun p hp => List.mem_append_left own2 hp)
            have b5 := a5.mono (fun p hp => List.mem_append_left own2 hp)
            simp only [List.cons_append] at b1 b2 b3 b5
            clear hltI2 hIo2 hown2 a1 a2 a3 a5
            generalize hW2 : W ++ own2 = W2 at N5 h3 b1 b2 b3 b5
            replace h3 := things_up N5 h3
            have hq0 : (ys.length : Int) ≠ 0 := by omega
            have hj0 : 0 ≤ Int.fmod (0 + (i : Int) + (0 + (st : Int))) ys.length := Int.fmod_nonneg_of_pos _ (by omega)
            have hj1 : Int.fmod (0 + (i : Int) + (0 + (st : Int))) ys.length < ys.length := Int.fmod_lt_of_pos _ (by omega)
            obtain ⟨r', hr'⟩ : ∃ r', R[(Int.fmod (0 + (i : Int) + (0 + (st : Int))) ys.length).toNat]? = some r' := by
              rw [List.getElem?_eq_getElem (by omega)]; exact ⟨_, rfl⟩
            have hy' : ys[(Int.fmod (0 + (i : Int) + (0 + (st : Int))) ys.length).toNat]? = some (.ref r') := by rw [h2, List.getElem?_map]; simp only [← h2]; rw [hr']; rfl
            obtain ⟨th', hth'⟩ := h3 r' (List.mem_of_getElem? hr')
            cases hth' with
            | out c1 c2 =>
              repeat' keq_rows
              subst hW2
              exact ⟨_, _, _, _, rfl, by k_asm, by k_asm, hoI2, _, _, rfl, rfl, rfl, rfl, rfl⟩
            | @hd o' x' v' vv' vo' t5' n5' c1 c2 c3 c4 c5 =>
              keq_hits
              · rename Bool => b
                rename (ltO _ _ = some _) => hb
                have hdue : dueS (ltO o o') = _ := congrArg dueS hb
                cases b
                · repeat' keq_rows
                  subst hW2
                  exact ⟨_, _, _, _, rfl, by k_asm, by k_asm, hoI2, _, _, rfl, rfl, rfl, rfl, rfl⟩
                · repeat' keq_rows
                  subst hW2
                  exact ⟨_, _, _, _, rfl, by k_asm, by k_asm, hoI2, _, _, rfl, rfl, rfl, rfl, rfl⟩
              · rename (ltO _ _ = none) => hb
                have hdue : dueS (ltO o o') = "TypeError" := congrArg dueS hb
                intro e h' tk' h₁ F' R' U'
                dsimp only
                repeat' keq_rows
                subst hW2
                exact ⟨_, _, _, _, rfl, by k_asm, by k_asm, hoI2, _, _, rfl, rfl, rfl, rfl, rfl⟩
          case done2 =>
            intro m₂ nw₂ h tk hJ F5 N5
            obtain ⟨t3, t4, rfl, m1, m2, m3, m4⟩ := hJ
            replace F5 := fr_f2 F5 m1 m2
            dsimp only
            subst hW
            repeat' keq_rows
            exact ⟨_, _, _, _, rfl, by k_asm, by k_asm, hoI, _, rfl, rfl, rfl⟩
      case done =>
        intro m₂ nw₂ h tk hJ F5 N5
        obtain ⟨ts, rfl, m1, m2⟩ := hJ
        replace F5 := fr_f2 F5 m1 m2
        dsimp only
        clear F3 N3 hr
        bits_by_make
        rename Fr _ _ _ _ => F5
        rename News _ _ _ _ => N5
        refine iter_listT (vs := ys) (fun _ m₁ nw₁ => nw₁ = _) rfl (News.isList N5 (by k_mem)) (N5 _ List.mem_cons_self).2.1 F5 N5 rfl ?turn ?done
        case turn =>
          intro I i v m₁ nw₁ h tk own hi hJ hoI hown hIo hltI hlI F6 N6
          subst hJ
          clear F5 N5
          simp only [List.cons_append] at N6
          replace h3 : Things (nw ++ own) R := h3.mono fun p hp => List.mem_append_left _ hp
          clear hltI hIo hown
          generalize hW : nw ++ own = W at N6 h3
          replace h3 := things_up N6 h3
          obtain ⟨r, hr, rfl⟩ : ∃ r, r ∈ R ∧ v = .ref r := by
            rw [h2, List.getElem?_map] at hi
            cases e : R[i]? with
            | none => rw [e] at hi; cases hi
            | some r => rw [e] at hi; exact ⟨r, List.mem_of_getElem? e, (Option.some.inj hi).symm⟩
          obtain ⟨th, hth⟩ := h3 r hr
          cases hth with
          | out a1 a2 =>
            repeat' keq_rows
            all_goals (subst hW; exact ⟨_, _, _, _, rfl, by k_asm, by k_asm, hoI, rfl⟩)
          | @hd o x v vv vo t5 n5 a1 a2 a3 a4 a5 =>
            have hmk := mark_out o
            repeat' keq_rows
            all_goals (subst hW; exact ⟨_, _, _, _, rfl, by k_asm, by k_asm, hoI, rfl⟩)
        case done =>
          intro m₂ nw₂ h tk hJ F7 N7
          subst hJ
          dsimp only
          k_steps))
end Mine


theorem PySem.Challenge.cw_dn0254_04_holds : PySem.Challenge.rw_dn0254_04.Holds :=
  Mine.t
