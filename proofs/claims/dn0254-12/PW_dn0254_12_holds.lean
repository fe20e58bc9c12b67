import PyProof.Rows.All
import Wide.All
import OpenK.AllK
import Wide.FinOn
import PyProof.AttrMissHeap
import KE.KTryDeepN
import PyProof.CollectWalk
import PySem.Challenge.RW_dn0254_12
open PySem PySem.W PyProof.Rows PySem.Calls
set_option Elab.async false
set_option maxRecDepth 100000
set_option rowWalk.seconds 0
set_option compiler.extract_closed false
set_option genInjectivity false
namespace Mine
set_option maxHeartbeats 8000000
noncomputable def viewQ : Program := view PySem.Challenge.rw_dn0254_12.row.toRowW.1 [0, 2, 3, 4, 6, 7, 8, 9, 10, 11]
set_option hygiene false in
local macro_rules | `(tactic| o_head $H) => `(tactic| (refine holds_open (q := Mine.viewQ) (loose := [Str.ofString "BaseHandler", Str.ofString "HTTPErrorProcessor", Str.ofString "HTTPCookieProcessor"]) (Xt := fun s => xlAt Mine.viewQ [] s && recOk (RowW.records PySem.Challenge.rw_dn0254_12.row.toRowW) s) (XP := XL Mine.viewQ []) (Yf := Hook.obs $H) (Ya := Hook.val $H) (YP := Hook.says $H) (N := 2446) ?hl (Hook.of $H) (Hook.keeps $H) (fun s e => xl_of s (Bool.and_eq_true_iff.mp e).1) XL.keeps (by rfl) (by rfl) (by rfl) (fun s e => recFacts_of (Bool.and_eq_true_iff.mp e).2) (by rfl) (by first | assumption | decide +kernel) (by decide +kernel) ⟨rfl, rfl, rfl, rfl, rfl, by decide +kernel⟩ ?hw ?hc; (case hl => (intro w; (show Option.map (fun s => (openSeen _ _ _ _ _ s, _)) (openEnds treeTable PySem.Challenge.pw_dn0254_12 w 2446) = _); unfold openEnds fencedOpening topFrom; rw [Fast.te10274390034422433532, Fast.te1435165496053646825, Fast.te14289696077712309145, Fast.te14082659384304107361, Fast.te8920871248978507458, Fast.te5923862056798008813, Fast.te4187177175401517315, Fast.te14364793385576792824, Fast.te6353142431599544183]; kernel_rfl))))
open_top hd for PySem.Challenge.rw_dn0254_12
end Mine
set_option maxHeartbeats 8000000

namespace Mine
theorem entry_hasattr : entryFor table "hasattr" = some Builtin.«hasattr» := entryFor_of_tree (by kernel_rfl)
theorem kind_hasattr : builtinKind "hasattr" = none := by decide +kernel
theorem plain_hasattr : plainId "hasattr" = true := by decide +kernel
theorem args_hasattr2 (a b : Value) : argsOk "hasattr" ⟨[a, b], []⟩ := by unfold argsOk; kernel_rfl

section
variable {prog : Program} {w : World} {A : Around} {E : Value → Shared → Prop} {s : Shared} {K : Frag} {x C L f : Addr} {h₀ : Heap} {m : Str → Option Value} {ox : Obj} {od : Option Obj}
theorem getBy_open {expr fill : Bool} {Q : Value → Shared → Prop} {name : Str} {tk : Tok} (X : K.In s.heap) (I : W.InstAt s.heap x ox C od) (hga : findIn K (.ref C) "__getattribute__" = some (some (.builtin "object.__getattribute__")))
    (h : wpAny (model prog w) A.in1 (Builtin.«proto.getattr_hooked» ⟨[.ref x, .str name tk], []⟩)
      (fun fin s' => match fin with | .done (.ret v) => wpAny (model prog w) A (handedOut v) Q E s' | _ => False) (fun e s' => wpAny (model prog w) A (noteIf fill (.ref x) (.str name tk) e) (fun _ s'' => E e s'') E s') s) :
    wpAny (model prog w) A (getAttrBy (.ref x) (.str name tk) fill expr) Q E s := by
  obtain ⟨hh, g, d, t, os⟩ := s
  have L0 := I.type (M := model prog w)
  have L1 := looks_findIn (M := model prog w) X hga
  unfold getAttrBy
  refine wpAny_holding (wpAny_bind (L0.at (wpAny_bind (L1.at ?_))))
  show wpAny _ _ (getAttrEveryday _ _ _) _ _ _
  refine wpAny_bind (wpAny_onRaise (wpAny_runValue (codeAny_builtin F.plainObj_entry_getattr_hooked (wpAny_mono h (fun fin s' z => ?_) fun _ _ z => z))))
  rcases fin with (_ | _ | _ | _) | _ <;> first | exact z | exact z.elim
theorem getBy_value {expr fill : Bool} {Q : Value → Shared → Prop} {name : Str} {tk : Tok} {v : Value} (X : K.In s.heap) (I : W.InstAt s.heap x ox C od) (hga : findIn K (.ref C) "__getattribute__" = some (some (.builtin "object.__getattribute__")))
    (hf : findObj K C od name = some (.value v)) (hh : handedIn v = true) (h : Q v s) : wpAny (model prog w) A (getAttrBy (.ref x) (.str name tk) fill expr) Q E s := by
  refine getBy_open X I hga ?_
  obtain ⟨hh', g, d, t, os⟩ := s
  have L0 := I.type (M := model prog w)
  have L1 := looks_find (M := model prog w) X I hf
  refine wpAny_bind (wpAny_pure (wpAny_bind (L0.at (wpAny_bind (L1.at ?_)))))
  refine wpAny_pure ?_
  show wpAny _ _ (handedOut v) _ _ _
  rw [handedOut_of hh]; exact wpAny_pure h
theorem hasattr_yes {Q : Value → Shared → Prop} {name : Str} {v : Value} {tk : Tok} (F : Fr h₀ L s.heap m) (X₀ : K.In h₀) (I : InstAt s.heap x ox C od)
    (hga : findIn K (.ref C) "__getattribute__" = some (some (.builtin "object.__getattribute__"))) (hmod : mroIn K C (.type "module") = some false)
    (hf : findObj K C od name = some (.value v)) (hh : handedIn v = true)
    (h : Q (.bool true) s) : wpAny (model prog w) A (call (.builtin "hasattr") [.ref x, .str name tk]) Q E s := by
  refine Calls.call_function_entry kind_hasattr plain_hasattr entry_hasattr (args_hasattr2 _ _) ?_
  have X := X₀.keeps F.keep
  obtain ⟨hh', g, d, t, os⟩ := s
  have L0 := I.type (M := model prog w)
  have L1 := looks_findIn (M := model prog w) X hga
  have L2 := looks_find (M := model prog w) X I hf
  have L3 := looks_mroIn (M := model prog w) X hmod
  unfold Builtin.«hasattr»
  refine wpAny_bind (m := someArgs "hasattr" 2 2 _) (wpAny_pure ?_)
  dsimp only
  refine wpAny_bind (wpAny_bind (wpAny_pure ?_))
  show wpAny _ _ (pure _) _ _ _
  refine wpAny_pure ?_
  show wpAny _ _ (do
    let y ← typeOf (Value.ref x)
    _) _ _ _
  refine wpAny_bind (L0.at ?_)
  dsimp only
  refine wpAny_bind ?_
  repeat ((fail_if_success (with_reducible show wpAny _ _ (getAttrBy? _ _) _ _ _)); lk)
  refine wpAny_bind (wpAny_attempt (getBy_value X I hga hf hh ?_))
  refine wpAny_pure ?_
  show wpAny _ _ (ret (Value.bool true)) _ _ _
  exact wpAny_pure ⟨_, rfl, h⟩
/-- object's own __gt__ declines -/
theorem gt_declined {Q : Option Value → Shared → Prop} {b : Value} (X : K.In s.heap) (I : W.InstAt s.heap x ox C od) (hg : findIn K (.ref C) "__gt__" = some (some (.builtin "object.__gt__"))) (hm : mroIn K C (.type "object") = some true)
    (h : Q none s) : wpAny (model prog w) A (tryCompare (.ref x) "__gt__" b) Q E s := by
  unfold tryCompare
  simp only [callSpecialIfBound?, bindSpecialIfBound?]
  refine wpAny_bind (wpAny_holding (wpAny_bind (wpAny_bind (wpAny_bind (I.type.here ((looks_findIn X hg).here ?_))))))
  refine wpAny_bind (wpAny_askSetting (wpAny_ite ?_))
  have fin : wpAny (model prog w) A (call (.builtin "object.__gt__") ([.ref x] ++ [b]) >>= fun v => pure (some v)) (fun a s' => wpAny (model prog w) A (match a with | some Value.notImplemented => pure none | none => pure none | some v => pure (some v)) Q E s') E s := by
    refine wpAny_bind (wpAny_call (codeAny_call_builtin F.slot_object_gt.plain F.entry_object_gt (check_slot (i := "object.__gt__") (owner := "object") (n := "__gt__") (by decide +kernel) (by decide +kernel) (I.type.andThen (looks_mroIn X hm)) (F.args_object_gt_2 _ _) ?_)))
    unfold Builtin.«object.__gt__»
    show wpAny _ _ (do let _ ← slotArgs "__gt__" 1 _; ret .notImplemented) _ _ _
    refine wpAny_bind (m := slotArgs "__gt__" 1 _) (wpAny_pure ?_)
    refine wpAny_pure ?_
    exact wpAny_pure (wpAny_pure h)
  split
  · exact wpAny_bind ((Looks.of_pure (F.slot_object_gt.bind _)).here (wpAny_pure (by exact fin)))
  · exact wpAny_tryCatch (wpAny_bind ((Looks.of_pure (F.slot_object_gt.bind _)).here (wpAny_pure (by exact fin))))
/-- a thing of an own class at the left of <, any at the right whose class's own __gt__ is object's where it is asked first -/
theorem lt_inst {Q : Value → Shared → Prop} {b tb : Value} (hu : A.units < cLine) (F : Fr h₀ L s.heap m) (X₀ : K.In h₀) (I : W.InstAt s.heap x ox C od) (hb : Looks (model prog w) s.heap (typeOf b) tb)
    (hn : tb = .ref C ∨ subIn K tb (.ref C) = some false ∨ ∃ y oy D dy, b = .ref y ∧ tb = .ref D ∧ W.InstAt s.heap y oy D dy ∧ findIn K (.ref D) "__gt__" = some (some (.builtin "object.__gt__")) ∧ mroIn K D (.type "object") = some true ∧ mroIn K D (.ref C) = some true)
    (hs : findIn K (.ref C) "__lt__" = some (some (.ref f))) (hf : isFn K (.ref f) = true)
    (h : wpAny (model prog w) A (call (.ref f) [.ref x, b]) (W.CmpBack Q) E s) : wpAny (model prog w) A (richCompare .Lt (.ref x) b) Q E s := by
  have X := X₀.keeps F.keep
  have one : wpAny (model prog w) A (tryCompare (.ref x) "__lt__" b) (fun r s' => ∃ v, r = some v ∧ Q v s') E s := by
    unfold tryCompare
    refine wpAny_bind (ifBound_K X I hs hf (wpAny_mono h (fun v s' hv => ?_) fun _ _ e => e))
    cases v <;> first | exact hv.elim | exact wpAny_pure ⟨_, rfl, hv⟩
  rcases hn with hn | hn
  · exact cmp_K hu F X₀ I hb (by rw [hn]; simp [notFirst]) hs hf h
  rcases hn with hn | ⟨y, oy, D, dy, rfl, rfl, J, hg, hm, hsub⟩
  · exact cmp_K hu F X₀ I hb (by simp [notFirst, hn]) hs hf h
  unfold richCompare
  simp only [oneThing_ref]
  refine wpAny_holding (wpAny_bind (wpAny_cRoomFor hu ?_))
  refine wpAny_bind (I.type.here (wpAny_bind (hb.here ?_)))
  split
  · refine wpAny_bind ((looks_mroIn X hsub).here ?_)
    simp only [if_true, cmpInfo]
    refine wpAny_bind (gt_declined X J hg hm ?_)
    refine wpAny_bind (wpAny_mono one (fun r s' z => ?_) fun _ _ e => e)
    obtain ⟨v, rfl, hq⟩ := z
    exact wpAny_pure hq
  · refine wpAny_bind (wpAny_pure ?_)
    simp only [Bool.false_eq_true, if_false]
    refine wpAny_bind (wpAny_mono one (fun r s' z => ?_) fun _ _ e => e)
    obtain ⟨v, rfl, hq⟩ := z
    exact wpAny_pure hq
end

/-! loops by an invariant over the frame's names and the ledger -/
section
variable {prog : Program} {w : World} {A : Around} {E : Value → Shared → Prop} {s : Shared} {env : Env} {h₀ : Heap} {x : Str} {body : List Stmt} {Q : Flow → Shared → Prop}
def EndJ (h₀ : Heap) (L : Addr) (J : (Str → Option Value) → List (Addr × Obj) → Prop) (own : List (Addr × Obj)) (I : Addr) (s₁ s₂ : Shared) : Prop :=
  ∃ h' tk m' news', s₂ = { s₁ with heap := h', toks := tk } ∧ Fr h₀ L h' m' ∧ News h₀ L h' (news' ++ own) ∧ (∀ p ∈ news', p.1 ≠ I) ∧ J m' news'
def PostJ (h₀ : Heap) (L : Addr) (J : (Str → Option Value) → List (Addr × Obj) → Prop) (own : List (Addr × Obj)) (I : Addr) (s₁ : Shared) (Q : Flow → Shared → Prop) (f : Flow) (s₂ : Shared) : Prop :=
  match f with
  | .ret v => Q (.ret v) s₂
  | .brk => Q .next s₂
  | _ => EndJ h₀ L J own I s₁ s₂
theorem news_comm {L : Addr} {h : Heap} {a b : List (Addr × Obj)} (N : News h₀ L h (a ++ b)) : News h₀ L h (b ++ a) := fun p hp => N p ((List.mem_append.mp hp).elim (fun h => List.mem_append.mpr (.inr h)) fun h => List.mem_append.mpr (.inl h))
theorem postJ_step {L I : Addr} {J : (Str → Option Value) → List (Addr × Obj) → Prop} {own : List (Addr × Obj)} {s₁ s₂ : Shared} {f : Flow} (h : PostJ h₀ L J own I s₁ Q f s₂) :
    LoopStepV h₀ L [I] own J s₁ (fun v s' => Q (.ret v) s') (fun s' => Q .next s') f s₂ := by
  have fin : EndJ h₀ L J own I s₁ s₂ → LoopStepU h₀ L [I] own J s₁ .next s₂ := by
    rintro ⟨h', tk, m', news', e, F', N', hn, hj⟩
    exact ⟨rfl, h', tk, m', news', e, F', news_comm N', fun p hp q => hn p hp (List.mem_singleton.mp q), hj⟩
  cases f with
  | ret v => exact .ret h
  | brk => exact .brk h
  | next => exact .next (fin h)
  | cont => exact .cont (fin h)
theorem iter_listJ {l : Addr} {vs : List Value} {m₀ : Str → Option Value} {news : List (Addr × Obj)} (J : Nat → (Str → Option Value) → List (Addr × Obj) → Prop)
    (hh : A.handled = none) (hl : s.heap.IsList l vs.toArray) (hlL : l ≠ env.locals) (F : Fr h₀ env.locals s.heap m₀) (N : News h₀ env.locals s.heap news) (hj : J 0 m₀ news)
    (turn : ∀ I i v m₁ news₁ h tk own, vs[i]? = some v → J i m₁ news₁ → (∀ p ∈ news₁, p.1 ≠ I) → (∀ p ∈ own, p.1 = I ∨ p.1 = l) → (∃ o, (I, o) ∈ own) → (∀ p ∈ news, p.1 < I) → l < I → Fr h₀ env.locals h (fun y => if y = x then some v else m₁ y) → News h₀ env.locals h (news₁ ++ own) →
      wpAny (model prog w) A (execs body env) (PostJ h₀ env.locals (J (i + 1)) own I { s with heap := h, toks := tk } Q) E { s with heap := h, toks := tk })
    (done : ∀ m₁ news₁ h tk, J vs.length m₁ news₁ → Fr h₀ env.locals h m₁ → News h₀ env.locals h news₁ → Q .next { s with heap := h, toks := tk }) :
    wpAny (model prog w) A (pyIter (.ref l)) (fun it s₂ => LoopAtV prog w A h₀ env x body Q E it s₂) E s := by
  obtain ⟨ol, hol, _⟩ := id hl
  have hlt : l < s.heap.objs.size := Heap.lt_size hol
  refine wpAny_pyIter_list hl ?_
  have W := Walks.list (prog := prog) (w := w) hh s.heap.objs.size l (Nat.ne_of_lt hlt) vs.toArray
  have hlen : vs.toArray.size = vs.length := by simp
  rw [hlen] at W
  refine ⟨_, _, _, vs.length, _, _, m₀, news, J, rfl, W, ?_, ?_, ?_, ⟨⟨_, Heap.get?_push_size _ rfl, rfl, rfl⟩, hl.at fun o e => Heap.get?_push_of_some _ e⟩, F.push _, (fun p hp => ⟨Heap.get?_push_of_some _ (N p hp).1, (N p hp).2⟩), hj, ?_, ?_⟩
  · intro hm
    rcases List.mem_cons.mp hm with e | hm
    · exact absurd F.ns.lt (e ▸ Nat.lt_irrefl _)
    · exact hlL (List.mem_singleton.mp hm).symm
  · intro b hb
    rw [List.mem_singleton.mp hb]
    exact next_is_new F
  · intro p hp hI
    exact absurd (Heap.lt_size (N p hp).1) ((List.mem_singleton.mp hI) ▸ Nat.lt_irrefl _)
  · rintro i v m₁ news₁ s₁ own ⟨hh', tk', rfl⟩ hin hP hJ hoff hown _ hall hst F₁ N₁
    have hIo : ∃ o, (s.heap.objs.size, o) ∈ own := by
      obtain ⟨⟨o, ho, _⟩, _⟩ := hst
      exact ⟨o, hall _ (.head _) (next_is_new F) o ho⟩
    refine wpAny_mono (turn s.heap.objs.size i v m₁ news₁ hh' tk' own (by simpa using hP) hJ (fun p hp q => hoff p hp (by rw [q]; exact .head _)) (fun p hp => ?_) hIo (fun p hp => Heap.lt_size (N p hp).1) hlt F₁ (news_comm N₁)) (fun f s₂ p => postJ_step p) fun _ _ e => e
    rcases List.mem_cons.mp (hown p hp) with h1 | h1
    · exact .inl h1
    · exact .inr (List.mem_singleton.mp h1)
  · rintro h' tk m' news' F' N' _ hJ
    exact done m' news' h' tk hJ F' N'
end

/-! a name put into a dict's entries -/
theorem isStr_two {k : Value} {a b : Str} (h : k.isStr a = true) (hne : b ≠ a) : k.isStr b = false := by
  cases k with
  | str x t =>
    have e : x = a := by simpa [Value.isStr] using h
    subst e
    simp only [Value.isStr]
    exact beq_false_of_ne (fun q => hne q.symm)
  | _ => cases h
theorem find_put_same (name : Str) (hsh : Int) (t : Tok) (v : Value) : ∀ es : List DictEntry, ((putL name hsh (.str name t) v es).find? (·.key.isStr name)).map (·.val) = some v
  | [] => by simp [putL, Value.isStr]
  | e :: r => by
    unfold putL
    split
    · rename_i h; simp [h]
    · rename_i h
      rw [List.find?_cons_of_neg (p := fun x : DictEntry => x.key.isStr name) h]
      exact find_put_same name hsh t v r
theorem find_put_other {name nm : Str} (hne : nm ≠ name) (hsh : Int) (t : Tok) (v : Value) : ∀ es : List DictEntry, (putL name hsh (.str name t) v es).find? (·.key.isStr nm) = es.find? (·.key.isStr nm)
  | [] => by
    unfold putL
    have : (name == nm) = false := beq_false_of_ne fun q => hne q.symm
    simp [Value.isStr, this]
  | e :: r => by
    unfold putL
    split
    · rename_i h
      have h2 := isStr_two h hne
      rw [List.find?_cons_of_neg (by simp [h2]), List.find?_cons_of_neg (by simp [h2])]
    · rename_i h
      rw [List.find?_cons, List.find?_cons, find_put_other hne hsh t v r]
theorem refKey_put (name : Str) (hsh : Int) (t : Tok) (v : Value) : ∀ es : List DictEntry, (putL name hsh (.str name t) v es).any (·.refKey) = es.any (·.refKey)
  | [] => by simp [putL]; rfl
  | e :: r => by
    unfold putL
    split
    · rfl
    · rw [List.any_cons, List.any_cons, refKey_put name hsh t v r]
theorem getL_put_same (name : Str) (hsh : Int) (t : Tok) (v : Value) (es : List DictEntry) : getL name (putL name hsh (.str name t) v es) = some (some v) := by
  have h := find_put_same name hsh t v es
  unfold getL
  cases q : (putL name hsh (.str name t) v es).find? (·.key.isStr name) with
  | none => rw [q] at h; cases h
  | some e => rw [q] at h; simp at h; simp [h]
theorem getL_put_other {name nm : Str} (hne : nm ≠ name) (hsh : Int) (t : Tok) (v : Value) (es : List DictEntry) : getL nm (putL name hsh (.str name t) v es) = getL nm es := by
  unfold getL
  rw [find_put_other hne, refKey_put]
theorem put_len (name : Str) (hsh : Int) (t : Tok) (v : Value) : ∀ es : List DictEntry, (putL name hsh (.str name t) v es).length = if (es.find? (·.key.isStr name)).isSome then es.length else es.length + 1
  | [] => by simp [putL]
  | e :: r => by
    unfold putL
    split
    · rename_i h; simp [h]
    · rename_i h
      rw [List.length_cons, put_len name hsh t v r, List.find?_cons_of_neg (p := fun x : DictEntry => x.key.isStr name) h]
      split <;> simp
/-- the ledger without one address -/
def off (d : Addr) (news : List (Addr × Obj)) : List (Addr × Obj) := news.filter fun p => p.1 != d
theorem fill1 {m : Str → Option Value} {k : Str} {v : Value} (h : m k = some v) (y : Str) : (if y = k then some v else m y) = m y := by
  split
  · rename_i e; rw [e, h]
  · rfl
section
variable {M : Model} {A : Around} {E : Value → Shared → Prop} {s : Shared} {h₀ : Heap} {L a b : Addr} {oa ob : Obj} {news : List (Addr × Obj)} {Q : Value → Shared → Prop}
end

section
variable {prog : Program} {w : World} {A : Around} {E : Value → Shared → Prop} {s : Shared} {h₀ : Heap} {L : Addr} {news : List (Addr × Obj)}
theorem item_led {value slice : PySem.Expr} {l : Addr} {vs : List Value} {n : Nat} {k : Int} {u : Tok} {v : Value} {Q : Value → Shared → Prop} (N : News h₀ L s.heap news)
    (hl : (l, W.listOf vs.toArray n) ∈ news) (h0 : 0 ≤ k) (hhi : k < 2 ^ 63) (hx : vs[k.toNat]? = some v) (h : Q v s)
    (hs : subscripted slice false (.ref l) (.int k u) = operate [.ref l, .int k u] (getItem (.ref l) (.int k u)) := by with_unfolding_all rfl) :
    wpAny (model prog w) A (subscriptTail value slice (.ref l) (.int k u)) Q E s :=
  tail_any (News.isList N hl).typeIs slot_list_getitem.lookup (wpAny_getItem_list (News.isList N hl) h0 hhi (by simpa using hx) h) hs
end

/-! lists of the ledger -/
section
variable {prog : Program} {w : World} {A : Around} {E : Value → Shared → Prop} {s : Shared} {h₀ : Heap} {L D : Addr} {m : Str → Option Value} {news news' : List (Addr × Obj)} {vs : List Value} {v : Value} {n : Nat}
theorem lineBig : 2 ^ 20 ≤ sizeLine := by decide
theorem truthy_led {Q : Bool → Shared → Prop} (N : News h₀ L s.heap news) (hl : (D, W.listOf vs.toArray n) ∈ news) (hz : vs.length ≤ 2 ^ 20) (h : Q (!vs.isEmpty) { s with toks := s.toks + 1 + 1 }) : wpAny (model prog w) A (truthy (.ref D)) Q E s :=
  wpAny_truthy_list (News.isList N hl) (by rw [List.size_toArray]; (first | lia | omega)) (by rw [List.isEmpty_toArray]; exact h)
theorem append_led {Q : Value → Shared → Prop} (F : Fr h₀ L s.heap m) (N : News h₀ L s.heap news) (hz : vs.length ≤ 2 ^ 20) (U : Upd D (W.listOf vs.toArray n) (W.listOf (vs ++ [v]).toArray (n + 1)) news news')
    (h : ∀ h', Fr h₀ L h' m → News h₀ L h' news' → Q .none { s with heap := h' }) : wpAny (model prog w) A (call (.builtin "list.append") [.ref D, v]) Q E s :=
  append_K (its := vs.toArray) F N (by rw [List.push_toArray]; exact U) h (by rw [List.size_toArray]; exact Nat.le_trans hz lineBig)
end
theorem seq_cut {M : Model} {A : Around} {E : Value → Shared → Prop} {s : Shared} {env : Env} {st : Stmt} {rest : List Stmt} {Q : Flow → Shared → Prop} (I : Shared → Prop) (h1 : wpAny M A (exec st env) (fun f s' => f = .next ∧ I s') E s) (h2 : ∀ s', I s' → wpAny M A (execs rest env) Q E s') :
    wpAny M A (execs (st :: rest) env) Q E s := wpAny_execs_cons (wpAny_mono h1 (fun f s' h => by obtain ⟨rfl, hi⟩ := h; exact h2 s' hi) fun _ _ e => e)
end Mine


namespace Mine
theorem fr_f3 {h₀ h : Heap} {L : Addr} {m : Str → Option Value} {k1 k2 k3 : Str} {v1 v2 v3 : Value} (F : Fr h₀ L h m) (e1 : m k1 = some v1) (e2 : m k2 = some v2) (e3 : m k3 = some v3) : Fr h₀ L h (fun y => if y = k1 then some v1 else if y = k2 then some v2 else if y = k3 then some v3 else m y) := by
  rw [show (fun y => if y = k1 then some v1 else if y = k2 then some v2 else if y = k3 then some v3 else m y) = m from funext fun y => by simp only [fill1 e1, fill1 e2, fill1 e3]]; exact F
theorem fr_f6 {h₀ h : Heap} {L : Addr} {m : Str → Option Value} {k1 k2 k3 k4 k5 k6 : Str} {v1 v2 v3 v4 v5 v6 : Value} (F : Fr h₀ L h m) (e1 : m k1 = some v1) (e2 : m k2 = some v2) (e3 : m k3 = some v3) (e4 : m k4 = some v4) (e5 : m k5 = some v5) (e6 : m k6 = some v6) : Fr h₀ L h (fun y => if y = k1 then some v1 else if y = k2 then some v2 else if y = k3 then some v3 else if y = k4 then some v4 else if y = k5 then some v5 else if y = k6 then some v6 else m y) := by
  rw [show (fun y => if y = k1 then some v1 else if y = k2 then some v2 else if y = k3 then some v3 else if y = k4 then some v4 else if y = k5 then some v5 else if y = k6 then some v6 else m y) = m from funext fun y => by simp only [fill1 e1, fill1 e2, fill1 e3, fill1 e4, fill1 e5, fill1 e6]]; exact F
theorem fr_f7 {h₀ h : Heap} {L : Addr} {m : Str → Option Value} {k1 k2 k3 k4 k5 k6 k7 : Str} {v1 v2 v3 v4 v5 v6 v7 : Value} (F : Fr h₀ L h m) (e1 : m k1 = some v1) (e2 : m k2 = some v2) (e3 : m k3 = some v3) (e4 : m k4 = some v4) (e5 : m k5 = some v5) (e6 : m k6 = some v6) (e7 : m k7 = some v7) : Fr h₀ L h (fun y => if y = k1 then some v1 else if y = k2 then some v2 else if y = k3 then some v3 else if y = k4 then some v4 else if y = k5 then some v5 else if y = k6 then some v6 else if y = k7 then some v7 else m y) := by
  rw [show (fun y => if y = k1 then some v1 else if y = k2 then some v2 else if y = k3 then some v3 else if y = k4 then some v4 else if y = k5 then some v5 else if y = k6 then some v6 else if y = k7 then some v7 else m y) = m from funext fun y => by simp only [fill1 e1, fill1 e2, fill1 e3, fill1 e4, fill1 e5, fill1 e6, fill1 e7]]; exact F
theorem fr_f11 {h₀ h : Heap} {L : Addr} {m : Str → Option Value} {k1 k2 k3 k4 k5 k6 k7 k8 k9 k10 k11 : Str} {v1 v2 v3 v4 v5 v6 v7 v8 v9 v10 v11 : Value} (F : Fr h₀ L h m) (e1 : m k1 = some v1) (e2 : m k2 = some v2) (e3 : m k3 = some v3) (e4 : m k4 = some v4) (e5 : m k5 = some v5) (e6 : m k6 = some v6) (e7 : m k7 = some v7) (e8 : m k8 = some v8) (e9 : m k9 = some v9) (e10 : m k10 = some v10) (e11 : m k11 = some v11) : Fr h₀ L h (fun y => if y = k1 then some v1 else if y = k2 then some v2 else if y = k3 then some v3 else if y = k4 then some v4 else if y = k5 then some v5 else if y = k6 then some v6 else if y = k7 then some v7 else if y = k8 then some v8 else if y = k9 then some v9 else if y = k10 then some v10 else if y = k11 then some v11 else m y) := by
  rw [show (fun y => if y = k1 then some v1 else if y = k2 then some v2 else if y = k3 then some v3 else if y = k4 then some v4 else if y = k5 then some v5 else if y = k6 then some v6 else if y = k7 then some v7 else if y = k8 then some v8 else if y = k9 then some v9 else if y = k10 then some v10 else if y = k11 then some v11 else m y) = m from funext fun y => by simp only [fill1 e1, fill1 e2, fill1 e3, fill1 e4, fill1 e5, fill1 e6, fill1 e7, fill1 e8, fill1 e9, fill1 e10, fill1 e11]]; exact F
theorem fr_g6 {h₀ h : Heap} {L : Addr} {m : Str → Option Value} {x k1 k2 k3 k4 k5 k6 : Str} {v v1 v2 v3 v4 v5 v6 : Value} (F : Fr h₀ L h (fun y => if y = x then some v else m y)) (e1 : m k1 = some v1) (e2 : m k2 = some v2) (e3 : m k3 = some v3) (e4 : m k4 = some v4) (e5 : m k5 = some v5) (e6 : m k6 = some v6) : Fr h₀ L h (fun y => if y = x then some v else if y = k1 then some v1 else if y = k2 then some v2 else if y = k3 then some v3 else if y = k4 then some v4 else if y = k5 then some v5 else if y = k6 then some v6 else m y) := by
  rw [show (fun y => if y = x then some v else if y = k1 then some v1 else if y = k2 then some v2 else if y = k3 then some v3 else if y = k4 then some v4 else if y = k5 then some v5 else if y = k6 then some v6 else m y) = (fun y => if y = x then some v else m y) from funext fun y => by simp only [fill1 e1, fill1 e2, fill1 e3, fill1 e4, fill1 e5, fill1 e6]]; exact F
theorem fr_g7 {h₀ h : Heap} {L : Addr} {m : Str → Option Value} {x k1 k2 k3 k4 k5 k6 k7 : Str} {v v1 v2 v3 v4 v5 v6 v7 : Value} (F : Fr h₀ L h (fun y => if y = x then some v else m y)) (e1 : m k1 = some v1) (e2 : m k2 = some v2) (e3 : m k3 = some v3) (e4 : m k4 = some v4) (e5 : m k5 = some v5) (e6 : m k6 = some v6) (e7 : m k7 = some v7) : Fr h₀ L h (fun y => if y = x then some v else if y = k1 then some v1 else if y = k2 then some v2 else if y = k3 then some v3 else if y = k4 then some v4 else if y = k5 then some v5 else if y = k6 then some v6 else if y = k7 then some v7 else m y) := by
  rw [show (fun y => if y = x then some v else if y = k1 then some v1 else if y = k2 then some v2 else if y = k3 then some v3 else if y = k4 then some v4 else if y = k5 then some v5 else if y = k6 then some v6 else if y = k7 then some v7 else m y) = (fun y => if y = x then some v else m y) from funext fun y => by simp only [fill1 e1, fill1 e2, fill1 e3, fill1 e4, fill1 e5, fill1 e6, fill1 e7]]; exact F
end Mine


namespace Mine
/-! loops whose target is any, by an invariant -/
section
variable {prog : Program} {w : World} {A : Around} {E : Value → Shared → Prop} {s : Shared} {env : Env} {h₀ : Heap} {target : PySem.Expr} {body : List Stmt} {Q : Flow → Shared → Prop}
def EndW (h₀ : Heap) (L : Addr) (J : (Str → Option Value) → List (Addr × Obj) → Prop) (own : List (Addr × Obj)) (wr : List Addr) (s₁ s₂ : Shared) : Prop :=
  ∃ h' tk m' news', s₂ = { s₁ with heap := h', toks := tk } ∧ Fr h₀ L h' m' ∧ News h₀ L h' (news' ++ own) ∧ (∀ p ∈ news', p.1 ∉ wr) ∧ J m' news'
def PostW (h₀ : Heap) (L : Addr) (J : (Str → Option Value) → List (Addr × Obj) → Prop) (own : List (Addr × Obj)) (wr : List Addr) (s₁ : Shared) (Q : Flow → Shared → Prop) (f : Flow) (s₂ : Shared) : Prop :=
  match f with
  | .ret v => Q (.ret v) s₂
  | .brk => Q .next s₂
  | _ => EndW h₀ L J own wr s₁ s₂
theorem postW_step {L : Addr} {wr : List Addr} {J : (Str → Option Value) → List (Addr × Obj) → Prop} {own : List (Addr × Obj)} {s₁ s₂ : Shared} {f : Flow} (h : PostW h₀ L J own wr s₁ Q f s₂) :
    LoopStepV h₀ L wr own J s₁ (fun v s' => Q (.ret v) s') (fun s' => Q .next s') f s₂ := by
  have fin : EndW h₀ L J own wr s₁ s₂ → LoopStepU h₀ L wr own J s₁ .next s₂ := by
    rintro ⟨h', tk, m', news', e, F', N', hn, hj⟩
    exact ⟨rfl, h', tk, m', news', e, F', news_comm N', hn, hj⟩
  cases f with
  | ret v => exact .ret h
  | brk => exact .brk h
  | next => exact .next (fin h)
  | cont => exact .cont (fin h)
theorem iter_listT {l : Addr} {vs : List Value} {m₀ : Str → Option Value} {news : List (Addr × Obj)} (J : Nat → (Str → Option Value) → List (Addr × Obj) → Prop)
    (hh : A.handled = none) (hl : s.heap.IsList l vs.toArray) (hlL : l ≠ env.locals) (F : Fr h₀ env.locals s.heap m₀) (N : News h₀ env.locals s.heap news) (hj : J 0 m₀ news)
    (turn : ∀ I i v m₁ news₁ h tk own, vs[i]? = some v → J i m₁ news₁ → (∀ p ∈ news₁, p.1 ∉ [I]) → (∀ p ∈ own, p.1 = I ∨ p.1 = l) → (∃ o, (I, o) ∈ own) → (∀ p ∈ news, p.1 < I) → l < I → Fr h₀ env.locals h m₁ → News h₀ env.locals h (news₁ ++ own) →
      wpAny (model prog w) A (assign target env v) (fun _ s₃ => wpAny (model prog w) A (execs body env) (PostW h₀ env.locals (J (i + 1)) own [I] { s with heap := h, toks := tk } Q) E s₃) E { s with heap := h, toks := tk })
    (done : ∀ m₁ news₁ h tk, J vs.length m₁ news₁ → Fr h₀ env.locals h m₁ → News h₀ env.locals h news₁ → Q .next { s with heap := h, toks := tk }) :
    wpAny (model prog w) A (pyIter (.ref l)) (fun it s₂ => TurnsAt prog w A h₀ env target body Q E it s₂) E s := by
  obtain ⟨ol, hol, _⟩ := id hl
  have hlt : l < s.heap.objs.size := Heap.lt_size hol
  refine wpAny_pyIter_list hl ?_
  have W := Walks.list (prog := prog) (w := w) hh s.heap.objs.size l (Nat.ne_of_lt hlt) vs.toArray
  have hlen : vs.toArray.size = vs.length := by simp
  rw [hlen] at W
  refine ⟨_, _, _, vs.length, _, _, _, m₀, news, J, rfl, KTurns.ofWalks W fun i v s Q E st q => letGo_listiter st.1 q, ?_, ?_, ?_, ⟨⟨_, Heap.get?_push_size _ rfl, rfl, rfl⟩, hl.at fun o e => Heap.get?_push_of_some _ e⟩, F.push _, (fun p hp => ⟨Heap.get?_push_of_some _ (N p hp).1, (N p hp).2⟩), hj, ?_, ?_⟩
  · intro hm
    rcases List.mem_cons.mp hm with e | hm
    · exact absurd F.ns.lt (e ▸ Nat.lt_irrefl _)
    · exact hlL (List.mem_singleton.mp hm).symm
  · intro b hb
    rw [List.mem_singleton.mp hb]
    exact next_is_new F
  · intro p hp hI
    exact absurd (Heap.lt_size (N p hp).1) ((List.mem_singleton.mp hI) ▸ Nat.lt_irrefl _)
  · rintro i v m₁ news₁ h₁ tk₁ own hin hP hJ hoff hown _ hall hst F₁ N₁
    have hIo : ∃ o, (s.heap.objs.size, o) ∈ own := by
      obtain ⟨⟨o, ho, _⟩, _⟩ := hst
      exact ⟨o, hall _ (.head _) (next_is_new F) o ho⟩
    refine wpAny_mono (turn s.heap.objs.size i v m₁ news₁ h₁ tk₁ own (by simpa using hP) hJ hoff (fun p hp => ?_) hIo (fun p hp => Heap.lt_size (N p hp).1) hlt F₁ (news_comm N₁)) (fun _ s₂ p => wpAny_mono p (fun _ _ q => postW_step q) fun _ _ e => e) fun _ _ e => e
    rcases List.mem_cons.mp (hown p hp) with h1 | h1
    · exact .inl h1
    · exact .inr (List.mem_singleton.mp h1)
  · rintro h' tk m' news' F' N' _ hJ
    exact done m' news' h' tk hJ F' N'
theorem iter_enumT {elts : List PySem.Expr} {k : Nat} {pos : Pos} {l : Addr} {vs : List Value} {m₀ : Str → Option Value} {news : List (Addr × Obj)} (J : Nat → (Str → Option Value) → List (Addr × Obj) → Prop)
    (hh : A.handled = none) (hl : s.heap.IsList l vs.toArray) (hlL : l ≠ env.locals) (F : Fr h₀ env.locals s.heap m₀) (N : News h₀ env.locals s.heap news) (hj : J 0 m₀ news)
    (turn : ∀ I i v m₁ news₁ h tk own T t, vs[i]? = some v → J i m₁ news₁ → (∀ p ∈ news₁, p.1 ∉ [I + 1, I]) → (∀ p ∈ own, p.1 = I + 1 ∨ p.1 = I ∨ p.1 = l) → (∃ o, (I, o) ∈ own) → (∃ o, (I + 1, o) ∈ own) → (∀ p ∈ news, p.1 < I) → l < I → Fr h₀ env.locals h m₁ → News h₀ env.locals h (news₁ ++ own) → IsTup h T #[.int (i : Int) t, v] →
      wpAny (model prog w) A (assign (.Tuple elts k pos) env (.ref T)) (fun _ s₃ => wpAny (model prog w) A (execs body env) (PostW h₀ env.locals (J (i + 1)) own [I + 1, I] { s with heap := h, toks := tk } Q) E s₃) E { s with heap := h, toks := tk })
    (done : ∀ m₁ news₁ h tk, J vs.length m₁ news₁ → Fr h₀ env.locals h m₁ → News h₀ env.locals h news₁ → Q .next { s with heap := h, toks := tk }) :
    wpAny (model prog w) A (call (.type "enumerate") [.ref l]) (fun xv s₁ => wpAny (model prog w) A (pyIter xv) (fun it s₂ => TurnsAt prog w A h₀ env (.Tuple elts k pos) body Q E it s₂) E s₁) E s := by
  obtain ⟨ol, hol, _⟩ := id hl
  have hlt : l < s.heap.objs.size := Heap.lt_size hol
  have hLs : env.locals < s.heap.objs.size := F.ns.lt
  refine call_enumerate_list hl fun h' hE hI hsz hk => ?_
  refine wpAny_pyIter_enum hE ?_
  have W := KTurns.ofWalksU (elts := elts) (k := k) (pos := pos) (WalksT.enumerate (prog := prog) (w := w) hh (s.heap.objs.size + 1) s.heap.objs.size l (Nat.succ_ne_self _) (ktu_ne 1 hlt) (Nat.ne_of_lt hlt) vs.toArray).toU
  have hlen : vs.toArray.size = vs.length := by simp
  rw [hlen] at W
  refine ⟨_, _, _, vs.length, _, _, _, m₀, news, J, rfl, W, ?_, ?_, ?_, ⟨⟨.none, hE⟩, hI, hl.at fun o e => hk l o e⟩, F.keeps hk, N.grown hk, hj, ?_, ?_⟩
  · intro hI'
    have hb' : env.locals = s.heap.objs.size + 1 ∨ env.locals = s.heap.objs.size ∨ env.locals = l := by simpa using hI'
    rcases hb' with e | e | e
    · exact ktu_ne 1 hLs e
    · exact Nat.ne_of_lt hLs e
    · exact hlL e.symm
  · intro b hb
    have hb' : b = s.heap.objs.size + 1 ∨ b = s.heap.objs.size := by simpa using hb
    rcases hb' with rfl | rfl
    · exact ktu_new F (Nat.le_add_right _ _)
    · exact ktu_new F (Nat.le_refl _)
  · intro p hp hI'
    have hb' : p.1 = s.heap.objs.size + 1 ∨ p.1 = s.heap.objs.size := by simpa using hI'
    have hlp := Heap.lt_size (N p hp).1
    rcases hb' with e | e
    · exact ktu_ne 1 hlp e
    · exact Nat.ne_of_lt hlp e
  · rintro i v m₁ news₁ h₁ tk₁ own hin ⟨T, vals, rfl, ⟨t, x, hx, rfl⟩, hT⟩ hJ hoff hown _ hall hst F₁ N₁
    obtain ⟨⟨old, he⟩, ⟨oi, hoi, _⟩, _⟩ := hst
    refine wpAny_mono (turn s.heap.objs.size i x m₁ news₁ h₁ tk₁ own T t (by simpa using hx) hJ hoff (fun p hp => ?_) ⟨oi, hall _ (.tail _ (.head _)) (ktu_new F (Nat.le_refl _)) _ hoi⟩ ⟨_, hall _ (.head _) (ktu_new F (Nat.le_add_right _ _)) _ he⟩ (fun p hp => Heap.lt_size (N p hp).1) hlt F₁ (news_comm N₁) hT) (fun _ s₂ p => wpAny_mono p (fun _ _ q => postW_step q) fun _ _ e => e) fun _ _ e => e
    have := hown p hp
    simpa using this
  · rintro h' tk m' news' F' N' _ hJ
    exact done m' news' h' tk hJ F' N'
end
end Mine


namespace Mine
/-! the list sort under 64 items is stable: by what it asks -/
def gp (p : Array Nat) (x : Nat) : Nat := p.getD x 0
theorem gp_eq (p : Array Nat) (x : Nat) : gp p x = (p[x]?).getD 0 := by simp [gp, Array.getD_eq_getD_getElem?]
theorem gp_rev {p : Array Nat} {i j : Nat} (hj : j ≤ p.size) (x : Nat) : gp (kas_rev p i j) x = if i ≤ x ∧ x < j then gp p (i + j - 1 - x) else gp p x := by
  rw [gp_eq]
  unfold kas_rev
  rw [getElem?_mirror_all hj]
  split <;> rw [gp_eq]
theorem gp_bubble {p : Array Nat} {k d : Nat} (hk : k < p.size) (hd : d ≤ k) (x : Nat) : gp (bubble p k d) x = if x = k - d then gp p k else if k - d < x ∧ x ≤ k then gp p (x - 1) else gp p x := by
  rw [gp_eq, getElem?_bubble hk d hd]
  repeat' split
  all_goals rw [gp_eq]
structure Pre (n m : Nat) (p : Array Nat) : Prop where
  size : p.size = n
  perm : p.toList.Perm (List.range n)
  low : ∀ x, x < m → gp p x < m
  high : ∀ x, m ≤ x → x < n → gp p x = x
def Ltk (a b : Nat → Int) (i j : Nat) : Prop := a i < a j ∨ a i = a j ∧ b i < b j
def Rk (a b : Nat → Int) (i j : Nat) : Prop := a i < a j ∨ a i = a j ∧ (b i < b j ∨ b i = b j ∧ i < j)
def Up (a b : Nat → Int) (p : Array Nat) (m : Nat) : Prop := ∀ x y, x < y → y < m → Rk a b (gp p x) (gp p y)
def Dn (a b : Nat → Int) (p : Array Nat) (m : Nat) : Prop := ∀ x y, x < y → y < m → Rk a b (gp p y) (gp p x)
theorem Pre.rev {n m i j : Nat} {p : Array Nat} (h : Pre n m p) (hj : j ≤ m) (hm : m ≤ n) : Pre n m (kas_rev p i j) := by
  have hz : j ≤ p.size := by rw [h.size]; (first | lia | omega)
  refine ⟨(mirror_size _ _ _ _).trans h.size, (mirror_perm _ _ _ _).toList.trans h.perm, fun x hx => ?_, fun x h1 h2 => ?_⟩
  · rw [gp_rev hz]
    split
    · exact h.low _ (by (first | lia | omega))
    · exact h.low _ hx
  · rw [gp_rev hz, if_neg (by (first | lia | omega))]
    exact h.high x h1 h2
theorem Pre.succ {n m : Nat} {p : Array Nat} (h : Pre n m p) (hm : m < n) : Pre n (m + 1) p :=
  ⟨h.size, h.perm, fun x hx => by
    by_cases e : x < m
    · have := h.low x e; (first | lia | omega)
    · have : x = m := by (first | lia | omega)
      subst this
      rw [h.high x (Nat.le_refl _) hm]; (first | lia | omega), fun x h1 h2 => h.high x (by (first | lia | omega)) h2⟩
/-- a comparison answers by the keys, and keeps what holds -/
def Asks (n : Nat) (a b : Nat → Int) (I : Shared → Prop) (cmp : Nat → Nat → (Bool → Shared → Prop) → Shared → Prop) : Prop :=
  ∀ i j, i < n → j < n → ∀ (C : Bool → Shared → Prop) s, I s → (Ltk a b i j → ∀ s', I s' → C true s') → (¬ Ltk a b i j → ∀ s', I s' → C false s') → cmp i j C s
section
variable {n : Nat} {a b : Nat → Int} {I : Shared → Prop} {cmp : Nat → Nat → (Bool → Shared → Prop) → Shared → Prop} (H : Asks n a b I cmp)
include H
theorem wp_asc {p : Array Nat} {G : Nat → Shared → Prop} (hG : ∀ m s, I s → 1 ≤ m → m ≤ n → Pre n m p → Up a b p m → (m < n → Ltk a b (gp p m) (gp p (m - 1))) → G m s) :
    ∀ f m s, m + f = n → 1 ≤ m → Pre n m p → Up a b p m → I s → (kas_asc p f m).kasWp cmp G s
  | 0, m, s, e, h1, hp, hu, hi => hG m s hi h1 (by (first | lia | omega)) hp hu (by (first | lia | omega))
  | f + 1, m, s, e, h1, hp, hu, hi => by
    have g1 : gp p m = m := hp.high m (Nat.le_refl _) (by (first | lia | omega))
    have g2 : gp p (m - 1) < m := hp.low _ (by (first | lia | omega))
    refine H (gp p m) (gp p (m - 1)) (by (first | lia | omega)) (by (first | lia | omega)) _ s hi (fun hl s' hi' => ?_) fun hl s' hi' => ?_
    · show (KasT.ret m).kasWp cmp G s'
      exact hG m s' hi' h1 (by (first | lia | omega)) hp hu fun _ => hl
    · show (kas_asc p f (m + 1)).kasWp cmp G s'
      refine wp_asc hG f (m + 1) s' (by (first | lia | omega)) (by (first | lia | omega)) (hp.succ (by (first | lia | omega))) ?_ hi'
      intro x y hxy hy
      by_cases ey : y < m
      · exact hu x y hxy ey
      · have ey' : y = m := by (first | lia | omega)
        subst ey'
        have g3 : gp p x < y := hp.low _ hxy
        unfold Ltk at hl
        rw [g1] at hl ⊢
        by_cases ex : x = y - 1
        · subst ex
          unfold Rk
          (first | lia | omega)
        · have := hu x (y - 1) (by (first | lia | omega)) (by (first | lia | omega))
          unfold Rk at this ⊢
          (first | lia | omega)
omit H in
theorem rev_one {p : Array Nat} {m : Nat} (hm : m < p.size) (x : Nat) : gp (kas_rev p m (m + 1)) x = gp p x := by
  rw [gp_rev (by (first | lia | omega))]
  split
  · congr 1; (first | lia | omega)
  · rfl
/-- a falling prefix whose last block of equals still rises -/
structure Desc (n : Nat) (a b : Nat → Int) (p : Array Nat) (m q : Nat) : Prop where
  pre : Pre n m p
  le : m ≤ n
  blk : q + 1 ≤ m
  dn : Dn a b (kas_rev p (m - (q + 1)) m) m
  eq : ∀ x, m - (q + 1) ≤ x → x < m → a (gp p x) = a (gp p (m - 1)) ∧ b (gp p x) = b (gp p (m - 1))
  strict : ∀ x, x < m - (q + 1) → Ltk a b (gp p (m - 1)) (gp p x)
omit H in
theorem Desc.flat {p : Array Nat} {m q : Nat} (h : Desc n a b p m q) : Dn a b (if q > 0 then kas_rev p (m - (q + 1)) m else p) m ∧ Pre n m (if q > 0 then kas_rev p (m - (q + 1)) m else p) := by
  have h1 := h.blk
  have h2 := h.le
  have h3 := h.pre.size
  split
  · exact ⟨h.dn, h.pre.rev (Nat.le_refl _) h.le⟩
  · have hq : q = 0 := by (first | lia | omega)
    subst hq
    refine ⟨fun x y hxy hy => ?_, h.pre⟩
    have := h.dn x y hxy hy
    obtain ⟨k, rfl⟩ : ∃ k, m = k + 1 := ⟨m - 1, by (first | lia | omega)⟩
    rw [show k + 1 - (0 + 1) = k by (first | lia | omega), rev_one (by (first | lia | omega)), rev_one (by (first | lia | omega))] at this
    exact this
omit H in
theorem Desc.down {p : Array Nat} {m q : Nat} (h : Desc n a b p m q) (hm : m < n) (hl : Ltk a b (gp p m) (gp p (m - 1))) : Desc n a b (if q > 0 then kas_rev p (m - (q + 1)) m else p) (m + 1) 0 := by
  obtain ⟨hd, hp⟩ := h.flat
  have hblk := h.blk
  have hsz := h.pre.size
  have hlast : ∃ x, m - (q + 1) ≤ x ∧ x < m ∧ gp (if q > 0 then kas_rev p (m - (q + 1)) m else p) (m - 1) = gp p x := by
    split
    · refine ⟨m - (q + 1), by (first | lia | omega), by (first | lia | omega), ?_⟩
      rw [gp_rev (by (first | lia | omega)), if_pos (by (first | lia | omega))]
      congr 1; (first | lia | omega)
    · exact ⟨m - 1, by (first | lia | omega), by (first | lia | omega), rfl⟩
  obtain ⟨x0, hx1, hx2, hx3⟩ := hlast
  have he := h.eq x0 hx1 hx2
  rw [← hx3] at he
  have hgm : gp (if q > 0 then kas_rev p (m - (q + 1)) m else p) m = gp p m := by
    split
    · rw [gp_rev (by (first | lia | omega)), if_neg (by (first | lia | omega))]
    · rfl
  generalize (if q > 0 then kas_rev p (m - (q + 1)) m else p) = p1 at hd hp hx3 he hgm
  have hs1 : p1.size = n := hp.size
  have hlt : Ltk a b (gp p1 m) (gp p1 (m - 1)) := by
    rw [hgm]; unfold Ltk at hl ⊢; (first | lia | omega)
  have hall : ∀ x, x < m → Ltk a b (gp p1 m) (gp p1 x) := fun x hx => by
    by_cases e : x = m - 1
    · rw [e]; exact hlt
    · have := hd x (m - 1) (by (first | lia | omega)) (by (first | lia | omega))
      unfold Rk at this; unfold Ltk at hlt ⊢; (first | lia | omega)
  refine ⟨hp.succ hm, by (first | lia | omega), by (first | lia | omega), fun x y hxy hy => ?_, fun x h1 h2 => ?_, fun x hx => ?_⟩
  · rw [show m + 1 - (0 + 1) = m by (first | lia | omega), rev_one (by (first | lia | omega)), rev_one (by (first | lia | omega))]
    by_cases e : y < m
    · exact hd x y hxy e
    · have : y = m := by (first | lia | omega)
      subst this
      have := hall x hxy
      unfold Ltk at this; unfold Rk; (first | lia | omega)
  · have : x = m := by (first | lia | omega)
    subst this
    exact ⟨rfl, rfl⟩
  · exact hall x (by (first | lia | omega))
omit H in
theorem Desc.same {p : Array Nat} {m q : Nat} (h : Desc n a b p m q) (hm : m < n) (hl : ¬ Ltk a b (gp p m) (gp p (m - 1))) (hl2 : ¬ Ltk a b (gp p (m - 1)) (gp p m)) : Desc n a b p (m + 1) (q + 1) := by
  have hblk := h.blk
  have hsz := h.pre.size
  have hg : gp p m = m := h.pre.high m (Nat.le_refl _) hm
  have heq : a (gp p m) = a (gp p (m - 1)) ∧ b (gp p m) = b (gp p (m - 1)) := by unfold Ltk at hl hl2; (first | lia | omega)
  refine ⟨h.pre.succ hm, by (first | lia | omega), by (first | lia | omega), fun x y hxy hy => ?_, fun x h1 h2 => ?_, fun x hx => ?_⟩
  · have hD := h.dn
    rw [gp_rev (by (first | lia | omega)), gp_rev (by (first | lia | omega))]
    have old : ∀ z, z < m → gp (kas_rev p (m - (q + 1)) m) z = if m - (q + 1) ≤ z then gp p (m - (q + 1) + m - 1 - z) else gp p z := fun z hz => by
      rw [gp_rev (by (first | lia | omega))]
      by_cases e : m - (q + 1) ≤ z
      · rw [if_pos ⟨e, hz⟩, if_pos e]
      · rw [if_neg (fun c => e c.1), if_neg e]
    by_cases ey : m + 1 - (q + 1 + 1) ≤ y
    · rw [if_pos ⟨ey, by (first | lia | omega)⟩]
      by_cases ex : m + 1 - (q + 1 + 1) ≤ x
      · rw [if_pos ⟨ex, by (first | lia | omega)⟩]
        by_cases e0 : x = m - (q + 1)
        · -- the new one first
          have e1 : m + 1 - (q + 1 + 1) + (m + 1) - 1 - x = m := by (first | lia | omega)
          rw [e1, hg]
          have b1 := h.eq (m + 1 - (q + 1 + 1) + (m + 1) - 1 - y) (by (first | lia | omega)) (by (first | lia | omega))
          have b2 := h.pre.low (m + 1 - (q + 1 + 1) + (m + 1) - 1 - y) (by (first | lia | omega))
          rw [hg] at heq
          unfold Rk; (first | lia | omega)
        · have := hD (x - 1) (y - 1) (by (first | lia | omega)) (by (first | lia | omega))
          rw [old _ (by (first | lia | omega)), old _ (by (first | lia | omega)), if_pos (by (first | lia | omega)), if_pos (by (first | lia | omega))] at this
          rw [show m + 1 - (q + 1 + 1) + (m + 1) - 1 - y = m - (q + 1) + m - 1 - (y - 1) by (first | lia | omega), show m + 1 - (q + 1 + 1) + (m + 1) - 1 - x = m - (q + 1) + m - 1 - (x - 1) by (first | lia | omega)]
          exact this
      · rw [if_neg (fun c => ex c.1)]
        have hs := h.strict x (by (first | lia | omega))
        by_cases e0 : y = m - (q + 1)
        · have e1 : m + 1 - (q + 1 + 1) + (m + 1) - 1 - y = m := by (first | lia | omega)
          rw [e1]
          unfold Ltk at hs; unfold Rk; (first | lia | omega)
        · have b1 := h.eq (m + 1 - (q + 1 + 1) + (m + 1) - 1 - y) (by (first | lia | omega)) (by (first | lia | omega))
          unfold Ltk at hs; unfold Rk; (first | lia | omega)
    · rw [if_neg (fun c => ey c.1), if_neg (by (first | lia | omega))]
      have := hD x y hxy (by (first | lia | omega))
      rw [old _ (by (first | lia | omega)), old _ (by (first | lia | omega)), if_neg (by (first | lia | omega)), if_neg (by (first | lia | omega))] at this
      exact this
  · by_cases e : x < m
    · have := h.eq x (by (first | lia | omega)) e
      show a (gp p x) = a (gp p m) ∧ b (gp p x) = b (gp p m)
      (first | lia | omega)
    · have : x = m := by (first | lia | omega)
      subst this
      exact ⟨rfl, rfl⟩
  · have hs := h.strict x (by (first | lia | omega))
    show Ltk a b (gp p m) (gp p x)
    unfold Ltk at hs ⊢; (first | lia | omega)
theorem wp_desc {G : Array Nat × Nat × Nat → Shared → Prop} (hG : ∀ p m q s, I s → Desc n a b p m q → G (p, m, q) s) :
    ∀ f p m q s, m + f = n → Desc n a b p m q → I s → (kas_desc f p m q).kasWp cmp G s
  | 0, p, m, q, s, e, hd, hi => hG p m q s hi hd
  | f + 1, p, m, q, s, e, hd, hi => by
    have hb := hd.blk
    have g1 : gp p m = m := hd.pre.high m (Nat.le_refl _) (by (first | lia | omega))
    have g2 : gp p (m - 1) < m := hd.pre.low _ (by (first | lia | omega))
    refine H (gp p m) (gp p (m - 1)) (by (first | lia | omega)) (by (first | lia | omega)) _ s hi (fun hl s' hi' => ?_) fun hl s' hi' => ?_
    · show (if q > 0 then kas_desc f (kas_rev p (m - (q + 1)) m) (m + 1) 0 else kas_desc f p (m + 1) 0).kasWp cmp G s'
      have hd' := hd.down (by (first | lia | omega)) hl
      by_cases hq : q > 0
      · rw [if_pos hq] at hd' ⊢
        exact wp_desc hG f _ (m + 1) 0 s' (by (first | lia | omega)) hd' hi'
      · rw [if_neg hq] at hd' ⊢
        exact wp_desc hG f _ (m + 1) 0 s' (by (first | lia | omega)) hd' hi'
    · show cmp (gp p (m - 1)) (gp p m) (fun d s'' => (if d = true then KasT.ret (p, m, q) else kas_desc f p (m + 1) (q + 1)).kasWp cmp G s'') s'
      refine H (gp p (m - 1)) (gp p m) (by (first | lia | omega)) (by (first | lia | omega)) _ s' hi' (fun hl2 s'' hi'' => ?_) fun hl2 s'' hi'' => ?_
      · show (KasT.ret (p, m, q)).kasWp cmp G s''
        exact hG p m q s'' hi'' hd
      · show (kas_desc f p (m + 1) (q + 1)).kasWp cmp G s''
        exact wp_desc hG f p (m + 1) (q + 1) s'' (by (first | lia | omega)) (hd.same (by (first | lia | omega)) hl hl2) hi''
theorem wp_tail3 {G : Nat × Array Nat → Shared → Prop} (hG : ∀ p m s, I s → 1 ≤ m → m ≤ n → Pre n m p → Up a b p m → G (m, p) s) {p : Array Nat} {m : Nat} {s : Shared} (h1 : 1 ≤ m) (hm : m ≤ n) (hp : Pre n m p) (hd : Dn a b p m) (hi : I s) :
    (kas_tail3 m n p).kasWp cmp G s := by
  unfold kas_tail3
  rw [KasT.kasWp_bind]
  have hsz := hp.size
  refine wp_asc H (p := kas_rev p 0 m) (fun k s' hi' k1 k2 hp' hu' _ => hG _ k s' hi' k1 k2 hp' hu') (n - m) m s (by (first | lia | omega)) h1 (hp.rev (Nat.le_refl _) hm) ?_ hi
  intro x y hxy hy
  rw [gp_rev (by (first | lia | omega)), gp_rev (by (first | lia | omega)), if_pos (by (first | lia | omega)), if_pos (by (first | lia | omega))]
  exact hd _ _ (by (first | lia | omega)) (by (first | lia | omega))
theorem wp_descPart {G : Nat × Array Nat → Shared → Prop} (hG : ∀ p m s, I s → 1 ≤ m → m ≤ n → Pre n m p → Up a b p m → G (m, p) s) {p : Array Nat} {m : Nat} {s : Shared} (h1 : 1 ≤ m) (hm : m < n) (hp : Pre n m p) (hd : Dn a b p m) (hl : Ltk a b (gp p m) (gp p (m - 1))) (hi : I s) :
    (kas_descPart m n p).kasWp cmp G s := by
  unfold kas_descPart
  rw [KasT.kasWp_bind]
  have hsz := hp.size
  have hall : ∀ x, x < m → Ltk a b (gp p m) (gp p x) := fun x hx => by
    by_cases e : x = m - 1
    · rw [e]; exact hl
    · have := hd x (m - 1) (by (first | lia | omega)) (by (first | lia | omega))
      unfold Rk at this; unfold Ltk at hl ⊢; (first | lia | omega)
  have h0 : Desc n a b p (m + 1) 0 := by
    refine ⟨hp.succ hm, by (first | lia | omega), by (first | lia | omega), fun x y hxy hy => ?_, fun x h1 h2 => ?_, fun x hx => hall x (by (first | lia | omega))⟩
    · rw [show m + 1 - (0 + 1) = m by (first | lia | omega), rev_one (by (first | lia | omega)), rev_one (by (first | lia | omega))]
      by_cases e : y < m
      · exact hd x y hxy e
      · have : y = m := by (first | lia | omega)
        subst this
        have := hall x hxy
        unfold Ltk at this; unfold Rk; (first | lia | omega)
    · have : x = m := by (first | lia | omega)
      subst this
      exact ⟨rfl, rfl⟩
  refine wp_desc H (fun p' k q s' hi' hd' => ?_) (n - (m + 1)) p (m + 1) 0 s (by (first | lia | omega)) h0 hi
  obtain ⟨d1, d2⟩ := hd'.flat
  have hb := hd'.blk
  show (if q > 0 then kas_tail3 k n (kas_rev p' (k - (q + 1)) k) else kas_tail3 k n p').kasWp cmp G s'
  by_cases hq : q > 0
  · rw [if_pos hq] at d1 d2 ⊢
    exact wp_tail3 H hG (by (first | lia | omega)) hd'.le d2 d1 hi'
  · rw [if_neg hq] at d1 d2 ⊢
    exact wp_tail3 H hG (by (first | lia | omega)) hd'.le d2 d1 hi'
theorem wp_count {G : Nat × Array Nat → Shared → Prop} (hG : ∀ p m s, I s → 1 ≤ m → m ≤ n → Pre n m p → Up a b p m → G (m, p) s) {p : Array Nat} {s : Shared} (hn : 1 ≤ n) (hp : Pre n 1 p) (hi : I s) : (kas_count n p).kasWp cmp G s := by
  unfold kas_count
  rw [KasT.kasWp_bind]
  have hsz := hp.size
  refine wp_asc H (fun m s' hi' h1 hm hp' hu hl => ?_) (n - 1) 1 s (by (first | lia | omega)) (Nat.le_refl _) hp (fun x y _ hy => by (first | lia | omega)) hi
  show (if (m == n) = true then KasT.ret (m, p) else if m > 1 then KasT.ask (gp p 0) (gp p (m - 1)) fun c => if c = true then KasT.ret (m, p) else kas_descPart m n (kas_rev p 0 m) else kas_descPart m n p).kasWp cmp G s'
  by_cases e : m = n
  · rw [if_pos (by simp [e])]
    exact hG p m s' hi' h1 hm hp' hu
  · rw [if_neg (by simp [e])]
    by_cases e2 : m > 1
    · rw [if_pos e2]
      have g0 := hp'.low 0 (by (first | lia | omega))
      have g1 := hp'.low (m - 1) (by (first | lia | omega))
      refine H (gp p 0) (gp p (m - 1)) (by (first | lia | omega)) (by (first | lia | omega)) _ s' hi' (fun _ s'' hi'' => ?_) fun hl2 s'' hi'' => ?_
      · show (KasT.ret (m, p)).kasWp cmp G s''
        exact hG p m s'' hi'' h1 hm hp' hu
      · show (kas_descPart m n (kas_rev p 0 m)).kasWp cmp G s''
        have hflat : ∀ x, x < m → a (gp p x) = a (gp p 0) ∧ b (gp p x) = b (gp p 0) := fun x hx => by
          by_cases x0 : x = 0
          · rw [x0]; exact ⟨rfl, rfl⟩
          · have r1 := hu 0 x (by (first | lia | omega)) hx
            by_cases x1 : x = m - 1
            · rw [← x1] at hl2
              unfold Rk at r1; unfold Ltk at hl2; (first | lia | omega)
            · have r2 := hu x (m - 1) (by (first | lia | omega)) (by (first | lia | omega))
              unfold Rk at r1 r2; unfold Ltk at hl2; (first | lia | omega)
        refine wp_descPart H hG h1 (by (first | lia | omega)) (hp'.rev (Nat.le_refl _) hm) (fun x y hxy hy => ?_) ?_ hi''
        · rw [gp_rev (by (first | lia | omega)), gp_rev (by (first | lia | omega)), if_pos (by (first | lia | omega)), if_pos (by (first | lia | omega))]
          exact hu _ _ (by (first | lia | omega)) (by (first | lia | omega))
        · rw [gp_rev (by (first | lia | omega)), gp_rev (by (first | lia | omega)), if_neg (by (first | lia | omega)), if_pos (by (first | lia | omega))]
          have := hl (by (first | lia | omega))
          have f1 := hflat (0 + m - 1 - (m - 1)) (by (first | lia | omega))
          have f2 := hflat (m - 1) (by (first | lia | omega))
          unfold Ltk at this ⊢; (first | lia | omega)
    · rw [if_neg e2]
      have : m = 1 := by (first | lia | omega)
      subst this
      exact wp_descPart H hG (Nat.le_refl _) (by (first | lia | omega)) hp' (fun x y _ hy => by (first | lia | omega)) (hl (by (first | lia | omega))) hi'
theorem wp_place {p : Array Nat} {k : Nat} {G : Nat → Shared → Prop} (hk : k < n) (hp : Pre n k p) (hu : Up a b p k) (hG : ∀ l s, I s → l ≤ k → (∀ x, x < l → ¬ Ltk a b (gp p k) (gp p x)) → (∀ x, l ≤ x → x < k → Ltk a b (gp p k) (gp p x)) → G l s) :
    ∀ f l r s, r - l ≤ f → l ≤ r → r ≤ k → (∀ x, x < l → ¬ Ltk a b (gp p k) (gp p x)) → (∀ x, r ≤ x → x < k → Ltk a b (gp p k) (gp p x)) → I s → (kas_place p k f l r).kasWp cmp G s
  | 0, l, r, s, e, h1, h2, h3, h4, hi => hG l s hi (by (first | lia | omega)) h3 fun x hx => h4 x (by (first | lia | omega))
  | f + 1, l, r, s, e, h1, h2, h3, h4, hi => by
    show (if l ≥ r then KasT.ret l else KasT.ask (gp p k) (gp p ((l + r) / 2)) fun c => if c = true then kas_place p k f l ((l + r) / 2) else kas_place p k f ((l + r) / 2 + 1) r).kasWp cmp G s
    by_cases q : l ≥ r
    · rw [if_pos q]
      exact hG l s hi (by (first | lia | omega)) h3 fun x hx => h4 x (by (first | lia | omega))
    · rw [if_neg q]
      have g1 : gp p k = k := hp.high k (Nat.le_refl _) hk
      have g2 : gp p ((l + r) / 2) < k := hp.low _ (by (first | lia | omega))
      refine H (gp p k) (gp p ((l + r) / 2)) (by (first | lia | omega)) (by (first | lia | omega)) _ s hi (fun hl s' hi' => ?_) fun hl s' hi' => ?_
      · show (kas_place p k f l ((l + r) / 2)).kasWp cmp G s'
        refine wp_place hk hp hu hG f l ((l + r) / 2) s' (by (first | lia | omega)) (by (first | lia | omega)) (by (first | lia | omega)) h3 (fun x hx1 hx2 => ?_) hi'
        by_cases e2 : x = (l + r) / 2
        · rw [e2]; exact hl
        · have := hu ((l + r) / 2) x (by (first | lia | omega)) hx2
          unfold Rk at this; unfold Ltk at hl ⊢; (first | lia | omega)
      · show (kas_place p k f ((l + r) / 2 + 1) r).kasWp cmp G s'
        refine wp_place hk hp hu hG f ((l + r) / 2 + 1) r s' (by (first | lia | omega)) (by (first | lia | omega)) h2 (fun x hx => ?_) h4 hi'
        by_cases e2 : x = (l + r) / 2
        · rw [e2]; exact hl
        · have := hu x ((l + r) / 2) (by (first | lia | omega)) (by (first | lia | omega))
          unfold Rk at this; unfold Ltk at hl ⊢; (first | lia | omega)
theorem wp_bin {G : Array Nat → Shared → Prop} (hG : ∀ p s, I s → Pre n n p → Up a b p n → G p s) : ∀ f p k s, k + f = n → Pre n k p → Up a b p k → I s → (kas_bin f p k).kasWp cmp G s
  | 0, p, k, s, e, hp, hu, hi => by
    have : k = n := by (first | lia | omega)
    subst this
    exact hG p s hi hp hu
  | f + 1, p, k, s, e, hp, hu, hi => by
    show ((kas_place p k k 0 k).bind fun l => kas_bin f (bubble p k (k - l)) (k + 1)).kasWp cmp G s
    rw [KasT.kasWp_bind]
    have hsz := hp.size
    have g1 : gp p k = k := hp.high k (Nat.le_refl _) (by (first | lia | omega))
    refine wp_place H (by (first | lia | omega)) hp hu (fun l s' hi' hl h3 h4 => ?_) k 0 k s (by (first | lia | omega)) (by (first | lia | omega)) (Nat.le_refl _) (fun x hx => by (first | lia | omega)) (fun x h1 h2 => by (first | lia | omega)) hi
    have gb : ∀ x, gp (bubble p k (k - l)) x = if x = l then k else if l < x ∧ x ≤ k then gp p (x - 1) else gp p x := fun x => by
      rw [gp_bubble (by (first | lia | omega)) (by (first | lia | omega)), show k - (k - l) = l by (first | lia | omega), g1]
    refine wp_bin hG f _ (k + 1) s' (by (first | lia | omega)) ⟨(bubble_size _ _ _).trans hp.size, (bubble_perm _ _ _).toList.trans hp.perm, fun x hx => ?_, fun x h1 h2 => ?_⟩ (fun x y hxy hy => ?_) hi'
    · rw [gb]
      repeat' split
      · (first | lia | omega)
      · have := hp.low (x - 1) (by (first | lia | omega)); (first | lia | omega)
      · have := hp.low x (by (first | lia | omega)); (first | lia | omega)
    · rw [gb, if_neg (by (first | lia | omega)), if_neg (by (first | lia | omega))]
      exact hp.high x (by (first | lia | omega)) h2
    · rw [gb, gb]
      by_cases ex : x = l
      · rw [if_pos ex, if_neg (by (first | lia | omega)), if_pos (by (first | lia | omega))]
        have := h4 (y - 1) (by (first | lia | omega)) (by (first | lia | omega))
        rw [g1] at this
        unfold Ltk at this; unfold Rk; (first | lia | omega)
      · rw [if_neg ex]
        by_cases ey : y = l
        · rw [if_pos ey, if_neg (by (first | lia | omega))]
          have := h3 x (by (first | lia | omega))
          have lo := hp.low x (by (first | lia | omega))
          rw [g1] at this
          unfold Ltk at this; unfold Rk; (first | lia | omega)
        · rw [if_neg ey]
          by_cases bx : l < x ∧ x ≤ k
          · rw [if_pos bx, if_pos (by (first | lia | omega))]
            exact hu _ _ (by (first | lia | omega)) (by (first | lia | omega))
          · rw [if_neg bx]
            by_cases by_ : l < y ∧ y ≤ k
            · rw [if_pos by_]
              by_cases e3 : x = y - 1
              · (first | lia | omega)
              · exact hu _ _ (by (first | lia | omega)) (by (first | lia | omega))
            · rw [if_neg by_]
              exact hu _ _ hxy (by (first | lia | omega))
/-- the sort's tree ends in the stable order -/
theorem wp_sort {G : Array Nat → Shared → Prop} {s : Shared} (hn : 1 ≤ n) (hG : ∀ p s, I s → Pre n n p → Up a b p n → G p s) (hi : I s) : (kas_sort n).kasWp cmp G s := by
  unfold kas_sort
  rw [KasT.kasWp_bind]
  have gr : ∀ x, x < n → gp (List.toArray (List.range n)) x = x := fun x hx => by
    rw [gp_eq]; simp [hx]
  refine wp_count H (fun p m s' hi' h1 hm hp hu => ?_) hn ⟨by simp, by simp, fun x hx => ?_, fun x _ h2 => gr x h2⟩ hi
  · show (if m < n then kas_bin (n - max m 1) p (max m 1) else KasT.ret p).kasWp cmp G s'
    have hmx : max m 1 = m := by (first | lia | omega)
    by_cases e : m < n
    · rw [if_pos e, hmx]
      exact wp_bin H hG (n - m) p m s' (by (first | lia | omega)) hp hu hi'
    · rw [if_neg e]
      have : m = n := by (first | lia | omega)
      subst this
      exact hG p s' hi' hp hu
  · rw [gr x (by (first | lia | omega))]; exact hx
end
end Mine


namespace Mine
section
variable {prog : Program} {w : World} {A : Around} {E : Value → Shared → Prop} {s : Shared} {h₀ : Heap} {L D : Addr} {m : Str → Option Value} {rest : List (Addr × Obj)}
/-- a list of none or one is sorted -/
theorem sort_short {vs : List Value} {n : Nat} {Q : Value → Shared → Prop} (F : Fr h₀ L s.heap m) (N : News h₀ L s.heap ((D, W.listOf vs.toArray n) :: rest)) (hoff : ∀ p ∈ rest, p.1 ≠ D) (h2 : vs.length < 2)
    (h : ∀ h' c, Fr h₀ L h' m → News h₀ L h' ((D, W.listOf vs.toArray c) :: rest) → Q .none { s with heap := h' }) : wpAny (model prog w) A (call (.builtin "list.sort") [.ref D]) Q E s := by
  have nz := N _ (.head _)
  have ho : s.heap.get? D = some (seqObj "list" vs.toArray n) := nz.1
  have N₀ : News h₀ L s.heap rest := fun p hp => N p (.tail _ hp)
  refine wpAny_call_entry slot_list_sort ⟨_, nz.1, rfl⟩ entry_list_sort ?_ (args_list_sort _)
  have s1 := Heap.SameBut.update s.heap D (Obj.mapSeq fun _ => (#[] : Array Value))
  obtain ⟨e1, ho1⟩ : ∃ e1, (s.heap.update D (Obj.mapSeq fun _ => (#[] : Array Value))).get? D = some (seqObj "list" #[] e1) := ⟨_, get?_update_seq ho fun _ => #[]⟩
  have F3 : Fr h₀ L (((s.heap.update D (Obj.mapSeq fun _ => (#[] : Array Value))).push (seqObj "tuple" vs.toArray 0)).push (seqObj "list" #[] 0)) m := ((kas_fr F s1 nz.2.1 nz.2.2).push _).push _
  have N2 : News h₀ L (((s.heap.update D (Obj.mapSeq fun _ => (#[] : Array Value))).push (seqObj "tuple" vs.toArray 0)).push (seqObj "list" #[] 0)) rest :=
    (kas_news N₀ s1 hoff).grown fun b x e => Heap.get?_push_of_some _ (Heap.get?_push_of_some _ e)
  have hD3 : (((s.heap.update D (Obj.mapSeq fun _ => (#[] : Array Value))).push (seqObj "tuple" vs.toArray 0)).push (seqObj "list" #[] 0)).get? D = some (seqObj "list" #[] e1) := Heap.get?_push_of_some _ (Heap.get?_push_of_some _ ho1)
  rw [list_sort_plain]
  refine wpAny_bind (listItems_at ho rfl ?_)
  refine wpAny_bind (listUpdate_at ho rfl ?_ (by rw [List.size_toArray, sizeLine_eq]; (first | lia | omega)) (Nat.zero_le _))
  refine wpAny_bind (seqEpoch_at ho1 rfl ?_)
  refine wpAny_bind (wpAny_newTuple ?_ (by show vs.length ≤ _; rw [sizeLine_eq]; (first | lia | omega)))
  refine wpAny_bind (wpAny_newList ?_ (Nat.zero_le _))
  refine wpAny_holding ?_
  show wpAny (model prog w) _ _ _ E { s with heap := ((s.heap.update D (Obj.mapSeq fun _ => (#[] : Array Value))).push (seqObj "tuple" vs.toArray 0)).push (seqObj "list" #[] 0) }
  dsimp only
  have hn2 : vs.toArray.size < 2 := by rw [List.size_toArray]; (first | lia | omega)
  rw [if_pos hn2, if_pos hn2]
  refine wpAny_bind (wpAny_pure ?_)
  refine wpAny_bind (wpAny_pure ?_)
  dsimp only
  have hz : (arrOf (SortSt.mk' general' (vs.toArray.zip vs.toArray) #[] 7 none)).map (·.2) = vs.toArray := by
    show (vs.toArray.zip vs.toArray).map (·.2) = vs.toArray
    apply Array.toList_inj.mp
    simp only [Array.toList_map, Array.toList_zip]
    exact List.map_snd_zip (by simp)
  rw [hz]
  generalize ((s.heap.update D (Obj.mapSeq fun _ => (#[] : Array Value))).push (seqObj "tuple" vs.toArray 0)).push (seqObj "list" #[] 0) = H at F3 N2 hD3 ⊢
  have s2 := Heap.SameBut.update H D (Obj.mapSeq fun _ => vs.toArray)
  obtain ⟨c2, hc2⟩ : ∃ c2, (H.update D (Obj.mapSeq fun _ => vs.toArray)).get? D = some (seqObj "list" vs.toArray c2) := ⟨_, get?_update_seq hD3 fun _ => vs.toArray⟩
  refine wpAny_bind (seqEpoch_at hD3 rfl ?_)
  refine wpAny_bind (listUpdate_at hD3 rfl ?_ (Nat.zero_le _) (by rw [List.size_toArray, sizeLine_eq]; (first | lia | omega)))
  show wpAny _ _ (if (e1 != e1) = true then _ else _) _ _ _
  rw [if_neg (by simp)]
  refine wpAny_pure ⟨_, rfl, h _ c2 (kas_fr F3 s2 nz.2.1 nz.2.2) fun p hp => ?_⟩
  rcases List.mem_cons.mp hp with rfl | hp
  · exact ⟨hc2, nz.2.1, nz.2.2⟩
  · have := kas_news N2 s2 hoff
    exact this p hp
/-- a pair of ints in the ledger: its place, its two ints -/
structure PR where
  t : Addr
  o : Int
  k : Int
def PairIn (nw : List (Addr × Obj)) (r : PR) : Prop := ∃ n t u, (r.t, { cls := .type "tuple", data := .seq #[.int r.o t, .int r.k u] n }) ∈ nw
def refsP (R : List PR) : List Value := R.map fun r => Value.ref r.t
def PLt (r r' : PR) : Prop := r.o < r'.o ∨ r.o = r'.o ∧ r.k < r'.k
theorem pairs_tups {h : Heap} {nw : List (Addr × Obj)} (N : News h₀ L h nw) : ∀ {R : List PR}, (∀ r ∈ R, PairIn nw r) → ∃ fs, KatTups h (refsP R) fs ∧ fs.length = R.length ∧ ∀ v ∈ fs, ∃ i t, v = .int i t
  | [], _ => ⟨[], trivial, rfl, fun _ h => nomatch h⟩
  | r :: R, hin => by
    obtain ⟨fs, h1, h2, h3⟩ := pairs_tups N (R := R) fun r hr => hin r (.tail _ hr)
    obtain ⟨n, t, u, hm⟩ := hin r (.head _)
    refine ⟨.int r.o t :: fs, .cons (N _ hm).1 rfl rfl rfl h1, by simp [h2], fun v hv => ?_⟩
    rcases List.mem_cons.mp hv with rfl | hv
    · exact ⟨_, _, rfl⟩
    · exact h3 v hv
theorem pair_lt {s : Shared} {nw : List (Addr × Obj)} (N : News h₀ L s.heap nw) {r r' : PR} (hr : PairIn nw r) (hr' : PairIn nw r') {C : Bool → Shared → Prop} (hy : PLt r r' → C true s) (hn : ¬ PLt r r' → C false s) :
    wpAny (model prog w) A (keyLt' (tuples' true) (.ref r.t) (.ref r'.t)) C E s := by
  obtain ⟨n, t, u, h1⟩ := hr
  obtain ⟨n', t', u', h2⟩ := hr'
  refine kat_lt (N _ h1).1 rfl (N _ h2).1 rfl ?_
  refine kat_cons (wpAny_eqBool_int ?_)
  refine kat_go (fun e => kat_yes (kat_cons (wpAny_eqBool_int (kat_go (fun e2 => kat_yes (kat_nil ?_)) fun e2 => kat_no (kat_one _ _ (lt_int ?_)))))) fun e => kat_no (oneLt_int ?_)
  · simp at e e2
    exact hn (by unfold PLt; (first | lia | omega))
  · simp at e e2
    show C (decide (r.k < r'.k)) s
    by_cases q : r.k < r'.k
    · rw [decide_eq_true q]; exact hy (by unfold PLt; (first | lia | omega))
    · rw [decide_eq_false q]; exact hn (by unfold PLt; (first | lia | omega))
  · simp at e
    by_cases q : r.o < r'.o
    · rw [decide_eq_true q]; exact hy (by unfold PLt; (first | lia | omega))
    · rw [decide_eq_false q]; exact hn (by unfold PLt; (first | lia | omega))
/-- p's list of places, through a list -/
theorem picked {α β : Type} (f : α → β) (R : List α) (d : β) (d' : α) (hd : d = d) (p : List Nat) (hp : ∀ i ∈ p, i < R.length) : p.map (fun i => (R.map f).getD i d) = (p.map fun i => R.getD i d').map f := by
  rw [List.map_map]
  refine List.map_congr_left fun i hi => ?_
  have := hp i hi
  simp [List.getD, this]
theorem picked_perm {α : Type} (R : List α) (d : α) {p : List Nat} (hp : p.Perm (List.range R.length)) : (p.map fun i => R.getD i d).Perm R := by
  refine (hp.map _).trans (List.Perm.of_eq ?_)
  apply List.ext_getElem?
  intro i
  by_cases h : i < R.length
  · simp [h, List.getD]
  · simp [h]
/-- list.sort on pairs of ints -/
theorem sort_pairs {R : List PR} {n : Nat} {Q : Value → Shared → Prop} (F : Fr h₀ L s.heap m) (N : News h₀ L s.heap ((D, W.listOf (refsP R).toArray n) :: rest)) (hoff : ∀ p ∈ rest, p.1 ≠ D) (hin : ∀ r ∈ R, PairIn rest r) (h64 : R.length < 64)
    (hdist : R.Pairwise fun r r' => r.k ≠ r'.k)
    (h : ∀ h' c R', R'.Perm R → R'.Pairwise PLt → Fr h₀ L h' m → News h₀ L h' ((D, W.listOf (refsP R').toArray c) :: rest) → Q .none { s with heap := h' }) :
    wpAny (model prog w) A (call (.builtin "list.sort") [.ref D]) Q E s := by
  have hl : (refsP R).length = R.length := by simp [refsP]
  by_cases h2 : 2 ≤ R.length
  · refine kat_lsort (vs := refsP R) F N (.head hoff) (by simp) (by (first | lia | omega)) (by (first | lia | omega)) fun e1 h' F' N' => ?_
    obtain ⟨fs, t1, t2, t3⟩ := pairs_tups N' (R := R) fun r hr => let ⟨a, b, c, q⟩ := hin r hr; ⟨a, b, c, .tail _ q⟩
    refine kat_kind t1 (by (first | lia | omega)) (T := .type "int") (fun v hv => by obtain ⟨i, t, rfl⟩ := t3 v hv; exact Looks.of_pure rfl) (by decide) ?_
    show (kas_sort (refsP R).length).kasWp (kas_ask prog w A.in1 (tuples' true) (refsP R)) _ _
    let dr : PR := ⟨0, 0, 0⟩
    rw [hl]
    refine wp_sort (n := R.length) (a := fun i => (R.getD i dr).o) (b := fun i => (R.getD i dr).k) (I := fun s' => s' = { s with heap := h' }) ?_ (by (first | lia | omega)) (fun p s' hi hp hu => ?_) rfl
    · intro i j hi hj C s' e hy hn
      subst e
      have g : ∀ x, x < R.length → (refsP R).getD x Value.none = .ref (R.getD x dr).t := fun x hx => by simp [refsP, List.getD, hx]
      show wpAny _ _ (keyLt' (tuples' true) ((refsP R).getD i Value.none) ((refsP R).getD j Value.none)) C _ _
      rw [g i hi, g j hj]
      have mem : ∀ x, x < R.length → PairIn ((D, seqObj "list" #[] e1) :: rest) (R.getD x dr) := fun x hx => by
        have : R.getD x dr ∈ R := by simp [List.getD, hx]
        obtain ⟨a, b, c, q⟩ := hin _ this
        exact ⟨a, b, c, .tail _ q⟩
      exact pair_lt N' (mem i hi) (mem j hj) (fun q => hy q _ rfl) fun q => hn q _ rfl
    · subst hi
      have hpm : ∀ i ∈ p.toList, i < R.length := fun i hi => by simpa using hp.perm.mem_iff.mp hi
      refine KasFin.intro F' N' (.head hoff) fun h'' c F'' N'' => ?_
      have e : (p.toList.map fun i => (refsP R).getD i Value.none) = refsP (p.toList.map fun i => R.getD i dr) := picked _ R _ dr rfl _ hpm
      rw [e] at N''
      refine h h'' c _ (picked_perm R dr hp.perm) ?_ F'' N''
      rw [List.pairwise_map, List.pairwise_iff_getElem]
      intro i j hi hj hij
      have hz : p.size = R.length := hp.size
      have := hu i j hij (by simpa [hz] using hj)
      have ei : gp p i = p.toList[i] := by rw [gp_eq]; simp at hi; simp [hi]
      have ej : gp p j = p.toList[j] := by rw [gp_eq]; simp at hj; simp [hj]
      rw [ei, ej] at this
      have hne : p.toList[i] ≠ p.toList[j] := by
        have nd : p.toList.Nodup := hp.perm.nodup_iff.mpr List.nodup_range
        exact List.pairwise_iff_getElem.mp nd i j (by simpa using hi) (by simpa using hj) hij
      have hi' := hpm _ (List.getElem_mem hi)
      have hj' := hpm _ (List.getElem_mem hj)
      generalize p.toList[i] = x at *
      generalize p.toList[j] = y at *
      have hkk : (R.getD x dr).k ≠ (R.getD y dr).k := by
        have gx : R.getD x dr = R[x] := by simp [List.getD, hi']
        have gy : R.getD y dr = R[y] := by simp [List.getD, hj']
        rw [gx, gy]
        have pw := List.pairwise_iff_getElem.mp hdist
        rcases Nat.lt_or_gt_of_ne hne with q | q
        · exact pw x y hi' hj' q
        · exact (pw y x hj' hi' q).symm
      unfold Rk at this
      unfold PLt
      dsimp only at this
      (first | lia | omega)
  · refine sort_short F N hoff (by (first | lia | omega)) fun h' c F' N' => h h' c R (.refl _) ?_ F' N'
    match R, h2 with
    | [], _ => exact .nil
    | [r], _ => exact List.pairwise_singleton _ _
    | _ :: _ :: _, h2 => exact absurd (by simp) h2
end
end Mine


namespace Mine
/-! a generator expression over enumerate of a list, its element pure -/
section
variable {prog : Program} {w : World} {A : Around} {E : Value → Shared → Prop} {s : Shared} {h₁ h₀ : Heap} {c P L l : Addr} {ps : Array Value} {m : Str → Option Value} {env : Env} {elt : PySem.Expr} {scope : Scope} {cl : List (Str × Addr)} {xa xb : Str} {pos : Pos} {Q : Value → Shared → Prop} {vs : List Value}
theorem bare_nil {g : Array GenState} (h : g = #[]) : AllBare g := by subst h; exact AllBare.empty
end
end Mine


namespace Mine
/-! a generator expression where the code's table is laid aside (the law makes lambdas too) -/
theorem regrown_self {h₀ : Heap} {P : Addr} {ps : Array Value} (hP : P < h₀.objs.size) : (regrown h₀ P ps).get? P = some (tabObj ps) := by
  obtain ⟨objs, l⟩ := h₀
  show Heap.get? ⟨objs.modify P _, l⟩ P = _
  unfold Heap.get?
  have hs : P < (objs.modify P fun _ => tabObj ps).size := by simpa using hP
  show (match (objs.modify P fun _ => tabObj ps)[P]? with | some ⟨_, _, .freed, _⟩ => none | o => o) = _
  rw [Array.getElem?_eq_getElem hs, Array.getElem_modify_self]
theorem regrown_ne {h₀ : Heap} {P b : Addr} {ps : Array Value} (hb : b ≠ P) : (regrown h₀ P ps).get? b = h₀.get? b := Heap.get?_update_other _ _ (Ne.symm hb)
theorem regrown_size {h₀ : Heap} {P : Addr} {ps : Array Value} : (regrown h₀ P ps).objs.size = h₀.objs.size := (Heap.SameBut.update h₀ P _).1
section
variable {prog : Program} {w : World} {A : Around} {E : Value → Shared → Prop} {s : Shared} {h₀ h : Heap} {c P L : Addr} {ps ps' : Array Value} {m mg mb : Str → Option Value} {news : List (Addr × Obj)} {p : Program} {loose : List Str} {mean : ExcName → Option Value}
theorem ghost_up (F : Fr h₀ L h m) (N : News h₀ L h news) (hm : (P, tabObj ps) ∈ news) (hP : P < h₀.objs.size) : Fr (regrown h₀ P ps) L h m := by
  refine ⟨F.ns, fun b o e => ?_, by rw [regrown_size]; exact F.above⟩
  by_cases hb : b = P
  · subst hb
    rw [regrown_self hP] at e
    exact (Option.some.inj e) ▸ (N _ hm).1
  · rw [regrown_ne hb] at e
    exact F.keep b o e
theorem ghost_down (hn : h₀.get? P = none) (F : Fr (regrown (regrown h₀ P ps) P ps') L h m) : Fr h₀ L h m := by
  refine ⟨F.ns, fun b o e => ?_, by have := F.above; rw [regrown_size, regrown_size] at this; exact this⟩
  have hb : b ≠ P := fun q => by rw [q, hn] at e; cases e
  exact F.keep b o (by rw [regrown_ne hb, regrown_ne hb]; exact e)
theorem ghost_tab (hP : P < h₀.objs.size) (F : Fr (regrown (regrown h₀ P ps) P ps') L h m) : h.get? P = some (tabObj ps') :=
  F.keep _ _ (regrown_self (by rw [regrown_size]; exact hP))
theorem ghost_based (C : CodeHd h₀ c P) (T : Top p loose mean mg mb h₀) (hn : h₀.get? P = none) (hP : P < h₀.objs.size) (ht : TriplesOk ps.toList) : Based (regrown h₀ P ps) (regrown h₀ P ps) c P ps := by
  have hk : ∀ b o, h₀.get? b = some o → (regrown h₀ P ps).get? b = some o := fun b o e => by
    rw [regrown_ne (fun q => by rw [q, hn] at e; cases e)]; exact e
  have C' := C.keeps hk
  refine .start (C'.code (regrown_self hP) ht) (C'.tab (regrown_self hP)) fun q => ?_
  obtain ⟨mc, ⟨o, es, ep, e, _⟩, _⟩ := T.nolimit
  rw [q] at hn
  have e' : h₀.get? cStatics = some o := e
  rw [hn] at e'
  cases e'
end
/-- the end of a law that makes defs or lambdas and runs generators -/
def GoodV (cw : ClaimW) (cl : Str → Option Addr) (mean : ExcName → Option Value) (args : List WData) (s₁ : Shared) (tabs : List (Addr × Addr)) (r : Result) (s' : Shared) : Prop :=
  (GoodW cw cl mean args s₁ r { s' with gens := #[] } ∧ GrownAll tabs s'.heap) ∧ AllBare s'.gens
theorem kn_post2 {M : Model} {A : Around} {cd : Code} {s s₁ : Shared} {cw : ClaimW} {cl : Str → Option Addr} {mean : ExcName → Option Value} {args : List WData} {tabs : List (Addr × Addr)} (hT : TabsAt tabs s₁.heap) (hr : ∀ a x, cw.raises a x = false)
    (h : codeAny M A cd (GoodV cw cl mean args { s₁ with heap := ghostOf s₁.heap tabs } tabs) s) : codeAny M A cd (GoodWG cw cl mean args s₁) s :=
  codeAny_mono h fun r s' ⟨⟨⟨hc, hk, hos, _⟩, hgr⟩, hb⟩ => by
    have keep : ∀ b o, b ∉ tabs.map (·.2) → s₁.heap.get? b = some o → s'.heap.get? b = some o := fun b o hb e => hk b o (ghost_ne e hb)
    have grown : ∀ b o, b ∈ tabs.map (·.2) → s₁.heap.get? b = some o → isCodeTable s₁.heap b ∧ o = tabObj #[] ∧ ∃ ps, s'.heap.get? b = some (tabObj ps) := fun b o hb e => by
      obtain ⟨q, hq, rfl⟩ := List.mem_map.mp hb
      have e2 := (hT q hq).2
      rw [e] at e2
      exact ⟨((hT q hq).1.tab (hT q hq).2).isCodeTable, Option.some.inj e2, hgr.get q hq⟩
    refine ⟨?_, ⟨fun b o e => ?_, fun b o e => ?_⟩, hos, hb⟩
    · rcases hc with ⟨v, d, as, r1, r2, r3, r4, r5⟩ | ⟨e, ob, x, _, _, _, r4, _⟩
      · refine .inl ⟨v, d, as, r1, r2, r3, r4, fun q => ⟨(r5 q).1, fun a ha => ?_⟩⟩
        cases q1 : s₁.heap.get? a with
        | none => rfl
        | some o =>
          by_cases hb : a ∈ tabs.map (·.2)
          · obtain ⟨_, _, ps, hP⟩ := grown a o hb q1
            exact absurd ha (readsW_apart hP rfl r3)
          · have e3 := (r5 q).2 a ha
            rw [show (ghostOf s₁.heap tabs).get? a = some o from ghost_ne q1 hb] at e3
            cases e3
      · rw [hr] at r4; cases r4
    · by_cases hb : b ∈ tabs.map (·.2)
      · obtain ⟨ht, rfl, ps, hP⟩ := grown b o hb e
        exact .inr (.inl ⟨ht, rfl, #[], ps, rfl, by rw [Array.empty_append]; exact hP⟩)
      · exact .inl (keep b o hb e)
    · by_cases hb : b ∈ tabs.map (·.2)
      · obtain ⟨_, _, ps, hP⟩ := grown b o hb e
        exact ⟨_, hP⟩
      · exact ⟨o, keep b o hb e⟩
end Mine


namespace Mine
/-! a generator expression over a list whose element may make things and write one object Pt; the heap keeps J -/
def KeptJ (C a : Addr) (Pt : Addr → Prop) (I : Addr) (h h' : Heap) : Prop := ∀ b o, (b < C ∨ b = a) → ¬ Pt b → b ≠ I → h.get? b = some o → h'.get? b = some o
def SinceJ (C a : Addr) (Pt : Addr → Prop) (I : Addr) (J : Heap → Prop) (s₀ s : Shared) : Prop := ∃ h' tk, s = { s₀ with heap := h', toks := tk } ∧ KeptJ C a Pt I s₀.heap h' ∧ J h'
def protoJ (C a : Addr) (Pt : Addr → Prop) (I : Addr) (J : Heap → Prop) : Protocol := fun _ s₀ v s kap =>
  v = .bool true ∧ SinceJ C a Pt I J s₀ s ∧ ∀ s'' : Shared, (∀ b o, s.heap.get? b = some o → s''.heap.get? b = some o) → kap (.send .none) s''
def endJ (C a : Addr) (Pt : Addr → Prop) (I : Addr) (J : Heap → Prop) : GenEnd := fun n s₀ r s₁ => r = .ok .next ∧ (n = 0 ∧ SinceJ C a Pt I J s₀ s₁)
/-- what an element does -/
def EltJ (prog : Program) (w : World) (AE : Around) (cenv : Env) (x : Str) (elt : PySem.Expr) (vs : List Value) (C a : Addr) (Pt : Addr → Prop) (I : Addr) (J : Heap → Prop) (href : Heap) : Prop :=
  ∀ E' (i : Nat) v (s₂ : Shared) m₂, vs[i]? = some v → s₂.heap.Ns C m₂ → m₂ x = some v → KeptJ C a Pt I href s₂.heap → J s₂.heap →
    wpAny (model prog w) AE (eval elt cenv) (fun y s₃ => y = .bool true ∧ ∃ h tk, s₃ = { s₂ with heap := h, toks := tk } ∧ (∀ b o, (b < C ∨ b = a) → ¬ Pt b → s₂.heap.get? b = some o → h.get? b = some o) ∧ h.Ns C m₂ ∧ J h) E' s₂
section
variable {prog : Program} {w : World} {A : Around} {C a I l : Addr} {Pt : Addr → Prop} {J : Heap → Prop} {vs : List Value}
abbrev loopC (elt iter : PySem.Expr) (x : Str) (px : Pos) (scope : Scope) (pos : Pos) (I : Addr) (cenv : Env) : Code := .compLoop (.GeneratorExp elt [⟨.Name x px, iter, [], 0⟩] scope pos) 0 (.ref I) .none cenv
/-- the addresses lie apart -/
structure ApartJ (C a : Addr) (Pt : Addr → Prop) (I l : Addr) : Prop where
  il : I ≠ l
  ac : C < a
  lc : l < C
  ic : I < C
  lp : ¬ Pt l
  ip : ¬ Pt I
  pc : ∀ b, Pt b → b < C
structure FrameJ (cenv : Env) (x : Str) (C : Addr) : Prop where
  x : cenv.kindOf x = some .local
  p : (cenv.scope.kind == .class || (cenv.scope.kind == .module && cenv.locals != cenv.globals)) = false
  co : cenv.scope.isCoroutine = false
  c : cenv.locals = C
/-- such a generator, j elements taken -/
def GenJ (prog : Program) (w : World) (A : Around) (C a : Addr) (Pt : Addr → Prop) (I : Addr) (J : Heap → Prop) (n g j : Nat) (s : Shared) : Prop :=
  s.heap.IsGen a g ∧ s.heap.NoLimit ∧ J s.heap ∧ ∃ gs, s.gens[g]? = some gs ∧ ∀ s'' : Shared, (∀ b o, s.heap.get? b = some o → s''.heap.get? b = some o) →
    gs.Goes (model prog w) A.in1 (endJ C a Pt I J) (protoJ C a Pt I J) (n - j) (.send .none) s''
def MovedJ (C a : Addr) (Pt : Addr → Prop) (I : Addr) (J : Heap → Prop) (s s' : Shared) : Prop := KeptJ C a Pt I s.heap s'.heap ∧ J s'.heap ∧ (AllBare s.gens → AllBare s'.gens) ∧ s'.os = s.os
theorem bare_set {s s₁ : Shared} {g : Nat} {gs gs' : GenState} (hgs : s.gens[g]? = some gs) (hb : gs'.bare = true) (e : s₁.gens = (s.setGen g .running).gens) : AllBare s.gens → AllBare (s₁.setGen g gs').gens := fun b => by
  have h1 : (s₁.setGen g gs').gens = ((s.setGen g .running).setGen g gs').gens := by
    unfold Shared.setGen at e ⊢
    simp only at e ⊢
    rw [e]
  rw [h1]
  exact GenOnlyQ.bare (GenOnlyQ.of ((GenOnly.setGen s g .running).trans (GenOnly.setGen _ g gs')) (setGen_self (gs := .running) (setGen_self hgs)) hb) b
end
end Mine


namespace Mine
section
variable {prog : Program} {w : World} {A : Around} {E : Value → Shared → Prop} {s : Shared} {K : Frag} {x C L f : Addr} {h₀ : Heap} {m : Str → Option Value} {ox : Obj} {od : Option Obj}
/-- a written class's name is short -/
def nameIn (K : Frag) (C : Addr) : Bool := (clsIn K C).any fun cd => decide (cd.name.cps.foldl (fun k c => k + (Str.utf8Of c).length) 0 ≤ 50) && decide (cd.name.toString.length ≤ 100)
end
end Mine


namespace Mine
/-- es' is es but for name -/
def Others (name : Str) (es es' : List DictEntry) : Prop := ∀ nm, nm ≠ name → getL nm es' = getL nm es
theorem others_none {name nm : Str} {es es' : List DictEntry} {o : Option (Option Value)} (h : Others name es es') (g : getL nm es = o) (hne : nm ≠ name) : getL nm es' = o := (h nm hne).trans g
section
variable {prog : Program} {w : World} {A : Around} {E : Value → Shared → Prop} {s : Shared} {K : Frag} {x C dx L : Addr} {h₀ : Heap} {m : Str → Option Value} {news : List (Addr × Obj)} {news' : List DictEntry → Nat → List (Addr × Obj)} {es : List DictEntry} {n : Nat} {name : Str} {v : Value}
/-- x.name = v, where x's dict is known only by what is found in it -/
theorem set_sym {Q : Unit → Shared → Prop} (F : Fr h₀ L s.heap m) (X₀ : K.In h₀) (N : News h₀ L s.heap news) (h1 : (x, instObj C dx) ∈ news) (h2 : (dx, dictOf es n) ∈ news)
    (hs : findIn K (.ref C) "__setattr__" = some (some (.builtin "object.__setattr__"))) (hp : plainOver K C = true) (ht : takerIn K C name = some none) (hh : hasDictIn K C = true) (hl : (getL name es).isSome = true) (hz : es.length ≤ 900)
    (U : ∀ es' n', Upd dx (dictOf es n) (dictOf es' n') news (news' es' n'))
    (h : ∀ h' tk' es' n', getL name es' = some (some v) → Others name es es' → es'.length ≤ es.length + 1 → Fr h₀ L h' m → News h₀ L h' (news' es' n') → Q () { s with heap := h', toks := tk' }) :
    wpAny (model prog w) A (setAttr (.ref x) name v) Q E s := by
  have hlen := put_len name (PyData.keyHash w.params name) (s.toks + 1) v es
  have hle : (putL name (PyData.keyHash w.params name) (.str name (s.toks + 1)) v es).length ≤ es.length + 1 := by rw [hlen]; split <;> (first | lia | omega)
  refine set_dict F X₀ N (InstAt.of_news N h1 h2) rfl hs hp ht hh hl rfl (U _ _) (by (first | lia | omega)) fun h' F' N' => h h' _ _ _ (getL_put_same _ _ _ _ _) (fun nm hne => getL_put_other hne _ _ _ _) hle F' N'
end
def SlotIs (nm : Str) (es : List DictEntry) (b : Bool) (P : Value → Prop) : Prop := (b = true ∧ getL nm es = some none) ∨ (b = false ∧ ∃ v, getL nm es = some (some v) ∧ P v)
end Mine


namespace Mine
theorem fill : PySem.Challenge.rw_dn0254_12.row.prog = PySem.Challenge.rw_dn0254_12.row.prog ∧ Mine.hd.heap_39 = Mine.hd.heap_39 := by
  w_top off
  k_fill
  exact ⟨rfl, rfl⟩
abbrev ktrAny (dp un : Nat) (gd : Option (List Code)) (env : Env) (outer : List Env) : Around := { handled := none, depth := dp, frames := some (env :: outer), guards := gd, units := un }
/-- the lambda that _law_page makes -/
def lamAt (body : List Stmt) (cf : Nat) (pn : Value) (kl : Nat) (ct : Value) : Obj := match body[(3 : Nat)]? with
  | some (.Assign _ (.Lambda params e scope _) _) => kla_obj "<lambda>" "_law_page.<locals>.<lambda>" params e scope [("head", cf)] pn kl ct
  | _ => default
abbrev tabP (kl : Nat) : Array Value := #[rawInt 49, rawInt 16, .ref kl]
def CodeOf (o : Obj) (q : Str) : Prop := ∃ v t, o.data = .fields v ∧ v[1]? = some (.str q t)
theorem lookup_same {K : Frag} {f : Addr} {oc oc' : Value} {od od' : Option Addr} {name qual name' qual' : Str} {params params' : Arguments} {body body' : List Stmt} {scope scope' : Scope} {dV kV doc pm cdv ct dV' kV' doc' pm' cdv' ct' : Value} {an an' : Option Addr} {osl osl' : Array (Option Value)} {P : Prop}
    (h : K.lookup f = some ⟨oc, od, .func (fnOf name qual params body scope dV kV doc pm an cdv ct), osl⟩) (h' : K.lookup f = some ⟨oc', od', .func (fnOf name' qual' params' body' scope' dV' kV' doc' pm' an' cdv' ct'), osl'⟩)
    (k : body = body' → scope = scope' → P) : P := by
  have e := Option.some.inj (h.symm.trans h')
  have e2 := congrArg Obj.data e
  simp only [Data.func.injEq, FuncData.mk.injEq, FuncBody.stmts.injEq] at e2
  exact k e2.2.2.2.1 e2.2.2.2.2.1
/-- f's text in K -/
def Def12 (w : World) (f : Nat) (name : Str) (body : List Stmt) (scope : Scope) : Prop := ∃ oc od params dV kV doc pm cdv ct an osl, (Mine.hd.heap_39 w.params).lookup f = some ⟨oc, od, .func (fnOf name name params body scope dV kV doc pm an cdv ct), osl⟩
section
variable {w : World} {E : Value → Shared → Prop} {s : Shared} {L : Addr} {h₀ : Heap} {m : Str → Option Value}
local macro_rules | `(tactic| keq_rows) => `(tactic| first | (k_unfold; (try dsimp only)) | walk1 | (dsimp only; walk1))
local macro_rules | `(tactic| kwd_less) => `(tactic| repeat' keq_rows)
theorem pageA {Q : Value → Shared → Prop} {p : Program} {loose : List Str} {mean : ExcName → Option Value} {mg mb : Str → Option Value} {dp un : Nat} {gd : Option (List Code)} {env : Env} {outer : List Env} {A₀ : Around} {base : Heap} {c : Int} {tc tw : Tok} {wd : Str} {hda : Nat} {tl : List (Addr × Obj)} {body : List Stmt} {scope : Scope}
    (hdef : Def12 w 116 "_law_page" body scope) (B : Below A₀ base outer h₀) (F : Fr h₀ L s.heap m) (X : (Mine.hd.heap_39 w.params).In h₀) (N : News h₀ L s.heap ((111, tabObj #[]) :: tl)) (ho : OwnOff tl [111]) (T : Top p loose mean mg mb h₀) (hC : CodeHd h₀ 115 111) (hf : env.frame = some L) (hke : env.scope.kind = .function) (hd : dp + 10 < recursionLimit) (hu : un + 100 < cLine)
    (ret : ∀ h' tk' (fl pg dp cf : Nat) es n ocf ct (kl : Nat) okl tc', Fr h₀ L h' m → News h₀ L h' ((fl, lamAt body cf ((mg "__name__").getD .none) kl ct) :: (kl, okl) :: (pg, instObj 52 dp) :: (dp, dictOf es n) :: (cf, ocf) :: (111, tabObj (tabP kl)) :: tl) → CodeOf okl "_law_page.<locals>.<lambda>" → ocf.data = .cell (some (.ref hda)) → getL "code" es = some (some (.int c tc')) → getL "msg" es = some (some (.str wd tw)) → getL "info" es = some (some (.ref fl)) → es.length ≤ 3 → (cf < dp ∧ dp < pg ∧ pg < kl ∧ kl < fl ∧ 111 < cf) → AllLt cf tl → Q (.ref pg) { s with heap := h', toks := tk' }) :
    wpAny (model PySem.Challenge.rw_dn0254_12.row.prog w) (ktrAny dp un gd env outer) (call (.ref 116) [.int c tc, .str wd tw, .ref hda]) Q E s := by
  obtain ⟨oc, od, params, dV, kV, doc, pm, cdv, ct, an, osl, hbody⟩ := hdef
  k_dflt (refine' lookup_same hbody ?k6 ?_; (case k6 => k_is))
  intro hbe hse
  subst hse
  subst hbe
  refine wpAny_call ?_
  k_dflt (refine' code_defC ?k1 ?k2 ?k3 ?k4 ?k5 ?kA ?kF ?kK ?k6 ?k7 ?k8 ?k9 ?kB ?kD ?_ ?c2 ?c3 ?c4; (case kA => exact rfl); (case kF => assumption); (case kK => assumption); (case k1 => k_asm); (case k2 => k_asm); (case k3 => k_asm); (case k4 => k_asm); (case k5 => k_asm); (case k6 => k_is); (case k7 => k_is); (case k8 => (show dp < recursionLimit; (first | lia | omega))); (case k9 => exact BindsTo.of_eq rfl); (case kB => rfl); (case kD => decide +kernel); (case c2 => exact rfl); (case c3 => exact rfl); (case c4 => exact rfl); k_whole)
  intro g' L' h' tk' cells' FG' F' N' Y' B' X' T' l1
  k_lt l1
  k_cells Y'
  (try simp only [List.cons_append, List.nil_append] at N')
  (try dsimp only)
  (try k_lift B')
  (try k_fold)
  have hC' := hC.keeps FG'.keep
  have AL : AllLt L' tl := l1.2
  have a1 : AllLt (L' + 1) tl := tbn_up (Nat.lt_succ_self L') AL
  have a2 : AllLt (L' + 1 + 1) tl := tbn_up (Nat.lt_succ_self _) a1
  have a3 : AllLt (L' + 1 + 1 + 1) tl := tbn_up (Nat.lt_succ_self _) a2
  kwd_less
  rename News h₀ _ _ _ => N9
  rename Fr h₀ _ _ m => F9
  exact ret _ _ _ _ _ _ _ _ _ _ _ _ _ F9 N9 ⟨_, _, by assumption, by assumption⟩ (by assumption) rfl rfl rfl (Nat.le_refl _) (by (first | lia | omega)) a1
theorem pageB {Q : Value → Shared → Prop} {p : Program} {loose : List Str} {mean : ExcName → Option Value} {mg mb : Str → Option Value} {dp un : Nat} {gd : Option (List Code)} {env : Env} {outer : List Env} {A₀ : Around} {base : Heap} {c : Int} {tc tw : Tok} {wd : Str} {hda : Nat} {tl : List (Addr × Obj)} {body : List Stmt} {scope : Scope}
    (hdef : Def12 w 116 "_law_page" body scope) (B : Below A₀ base outer h₀) (F : Fr h₀ L s.heap m) (X : (Mine.hd.heap_39 w.params).In h₀) {kl : Nat} (N : News h₀ L s.heap ((111, tabObj (tabP kl)) :: tl)) (T : Top p loose mean mg mb h₀) (hC : CodeHd h₀ 115 111) (hf : env.frame = some L) (hke : env.scope.kind = .function) (hd : dp + 10 < recursionLimit) (hu : un + 100 < cLine)
    (ret : ∀ h' tk' (fl pg dp cf : Nat) es n ocf ct tc', Fr h₀ L h' m → News h₀ L h' ((fl, lamAt body cf ((mg "__name__").getD .none) kl ct) :: (pg, instObj 52 dp) :: (dp, dictOf es n) :: (cf, ocf) :: (111, tabObj (tabP kl)) :: tl) → ocf.data = .cell (some (.ref hda)) → getL "code" es = some (some (.int c tc')) → getL "msg" es = some (some (.str wd tw)) → getL "info" es = some (some (.ref fl)) → es.length ≤ 3 → (cf < dp ∧ dp < pg ∧ pg < fl ∧ 111 < cf) → AllLt cf tl → Q (.ref pg) { s with heap := h', toks := tk' }) :
    wpAny (model PySem.Challenge.rw_dn0254_12.row.prog w) (ktrAny dp un gd env outer) (call (.ref 116) [.int c tc, .str wd tw, .ref hda]) Q E s := by
  obtain ⟨oc, od, params, dV, kV, doc, pm, cdv, ct, an, osl, hbody⟩ := hdef
  k_dflt (refine' lookup_same hbody ?k6 ?_; (case k6 => k_is))
  intro hbe hse
  subst hse
  subst hbe
  refine wpAny_call ?_
  k_dflt (refine' code_defC ?k1 ?k2 ?k3 ?k4 ?k5 ?kA ?kF ?kK ?k6 ?k7 ?k8 ?k9 ?kB ?kD ?_ ?c2 ?c3 ?c4; (case kA => exact rfl); (case kF => assumption); (case kK => assumption); (case k1 => k_asm); (case k2 => k_asm); (case k3 => k_asm); (case k4 => k_asm); (case k5 => k_asm); (case k6 => k_is); (case k7 => k_is); (case k8 => (show dp < recursionLimit; (first | lia | omega))); (case k9 => exact BindsTo.of_eq rfl); (case kB => rfl); (case kD => decide +kernel); (case c2 => exact rfl); (case c3 => exact rfl); (case c4 => exact rfl); k_whole)
  intro g' L' h' tk' cells' FG' F' N' Y' B' X' T' l1
  k_lt l1
  k_cells Y'
  (try simp only [List.cons_append, List.nil_append] at N')
  (try dsimp only)
  (try k_lift B')
  (try k_fold)
  have hC' := hC.keeps FG'.keep
  have AL : AllLt L' tl := l1.2
  have a1 : AllLt (L' + 1) tl := tbn_up (Nat.lt_succ_self L') AL
  have a2 : AllLt (L' + 1 + 1) tl := tbn_up (Nat.lt_succ_self _) a1
  have a3 : AllLt (L' + 1 + 1 + 1) tl := tbn_up (Nat.lt_succ_self _) a2
  kwd_less
  rename News h₀ _ _ _ => N9
  rename Fr h₀ _ _ m => F9
  exact ret _ _ _ _ _ _ _ _ _ _ _ F9 N9 (by assumption) rfl rfl rfl (Nat.le_refl _) (by (first | lia | omega)) a1
end
end Mine


namespace Mine
theorem fill2 : PySem.Challenge.rw_dn0254_12.row.prog = PySem.Challenge.rw_dn0254_12.row.prog ∧ Mine.hd.heap_39 = Mine.hd.heap_39 := by
  w_top off
  k_fill
  exact ⟨rfl, rfl⟩
/-! the things that _law_signer and _law_cookies make -/
def askAt (body : List Stmt) (c1 : Nat) (dc pn : Value) (k : Nat) (ct : Value) : Obj := match body[(1 : Nat)]? with
  | some (.FunctionDef name params b _ _ _ scope _ _ _) => fnMade name "_law_signer.<locals>._law_ask" params b scope [("number", c1)] dc pn k ct
  | _ => default
def ansAt (body : List Stmt) (c1 c2 : Nat) (dc pn : Value) (k : Nat) (ct : Value) : Obj := match body[(2 : Nat)]? with
  | some (.FunctionDef name params b _ _ _ scope _ _ _) => fnMade name "_law_signer.<locals>._law_answer" params b scope [("number", c1), ("added", c2)] dc pn k ct
  | _ => default
def addAt (body : List Stmt) (c1 : Nat) (dc pn : Value) (k : Nat) (ct : Value) : Obj := match body[(2 : Nat)]? with
  | some (.FunctionDef name params b _ _ _ scope _ _ _) => fnMade name "_law_cookies.<locals>._law_add" params b scope [("number", c1)] dc pn k ct
  | _ => default
def extAt (body : List Stmt) (dc pn : Value) (k : Nat) (ct : Value) : Obj := match body[(3 : Nat)]? with
  | some (.FunctionDef name params b _ _ _ scope _ _ _) => fnMade name "_law_cookies.<locals>._law_extract" params b scope [] dc pn k ct
  | _ => default
def reqAt (body : List Stmt) (c2 : Nat) (pn : Value) (k : Nat) (ct : Value) : Obj := match body[(7 : Nat)]? with
  | some (.Assign _ (.Lambda params e scope _) _) => kla_obj "<lambda>" "_law_cookies.<locals>.<lambda>" params e scope [("stage", c2)] pn k ct
  | _ => default
def rspAt (body : List Stmt) (c2 : Nat) (pn : Value) (k : Nat) (ct : Value) : Obj := match body[(8 : Nat)]? with
  | some (.Assign _ (.Lambda params e scope _) _) => kla_obj "<lambda>" "_law_cookies.<locals>.<lambda>" params e scope [("stage", c2)] pn k ct
  | _ => default
abbrev tabG (k1 k2 : Nat) : Array Value := #[rawInt 54, rawInt 4, .ref k1, rawInt 58, rawInt 4, .ref k2]
abbrev tabC (k1 k2 k3 k4 : Nat) : Array Value := #[rawInt 67, rawInt 4, .ref k1, rawInt 70, rawInt 4, .ref k2, rawInt 76, rawInt 25, .ref k3, rawInt 77, rawInt 26, .ref k4]
def TabG (tabo : Array Value) (tl : List (Addr × Obj)) : Prop := tabo = #[] ∨ ∃ (k1 k2 : Nat) (ok1 ok2 : Obj), tabo = tabG k1 k2 ∧ (k1, ok1) ∈ tl ∧ (k2, ok2) ∈ tl ∧ CodeOf ok1 "_law_signer.<locals>._law_ask" ∧ CodeOf ok2 "_law_signer.<locals>._law_answer"
def TabC (tabo : Array Value) (tl : List (Addr × Obj)) : Prop := tabo = #[] ∨ ∃ (k1 k2 k3 k4 : Nat) (ok1 ok2 ok3 ok4 : Obj), tabo = tabC k1 k2 k3 k4 ∧ (k1, ok1) ∈ tl ∧ (k2, ok2) ∈ tl ∧ (k3, ok3) ∈ tl ∧ (k4, ok4) ∈ tl ∧
  CodeOf ok1 "_law_cookies.<locals>._law_add" ∧ CodeOf ok2 "_law_cookies.<locals>._law_extract" ∧ CodeOf ok3 "_law_cookies.<locals>.<lambda>" ∧ CodeOf ok4 "_law_cookies.<locals>.<lambda>"
def SignT (b : List Stmt) (pn : Value) (i a : Int) (tl : List (Addr × Obj)) (es : List DictEntry) : Prop := ∃ (f1 f2 c1 c2 k1 k2 : Nat) (ok1 ok2 oc1 oc2 : Obj) (dc1 dc2 ct1 ct2 : Value) (ti ta : Tok),
  (f1, askAt b c1 dc1 pn k1 ct1) ∈ tl ∧ (f2, ansAt b c1 c2 dc2 pn k2 ct2) ∈ tl ∧ (c1, oc1) ∈ tl ∧ (c2, oc2) ∈ tl ∧ (k1, ok1) ∈ tl ∧ (k2, ok2) ∈ tl ∧
  CodeOf ok1 "_law_signer.<locals>._law_ask" ∧ CodeOf ok2 "_law_signer.<locals>._law_answer" ∧ oc1.data = .cell (some (.int i ti)) ∧ oc2.data = .cell (some (.int a ta)) ∧ getL "http_request" es = some (some (.ref f1)) ∧ getL "http_response" es = some (some (.ref f2))
def CookT (b : List Stmt) (pn : Value) (i : Int) (x : Nat) (tl : List (Addr × Obj)) (es : List DictEntry) : Prop := ∃ (jar jd jn f1 f2 f3 f4 c1 c2 k1 k2 k3 k4 : Nat) (jes : List DictEntry) (ok1 ok2 ok3 ok4 oc1 oc2 : Obj) (dc1 dc2 ct1 ct2 ct3 ct4 : Value) (ti : Tok),
  (jar, instObj 52 jd) ∈ tl ∧ (jd, dictOf jes jn) ∈ tl ∧ (f1, addAt b c1 dc1 pn k1 ct1) ∈ tl ∧ (f2, extAt b dc2 pn k2 ct2) ∈ tl ∧ (f3, reqAt b c2 pn k3 ct3) ∈ tl ∧ (f4, rspAt b c2 pn k4 ct4) ∈ tl ∧ (c1, oc1) ∈ tl ∧ (c2, oc2) ∈ tl ∧
  (k1, ok1) ∈ tl ∧ (k2, ok2) ∈ tl ∧ (k3, ok3) ∈ tl ∧ (k4, ok4) ∈ tl ∧
  CodeOf ok1 "_law_cookies.<locals>._law_add" ∧ CodeOf ok2 "_law_cookies.<locals>._law_extract" ∧ CodeOf ok3 "_law_cookies.<locals>.<lambda>" ∧ CodeOf ok4 "_law_cookies.<locals>.<lambda>" ∧
  oc1.data = .cell (some (.int i ti)) ∧ oc2.data = .cell (some (.ref x)) ∧ getL "add_cookie_header" jes = some (some (.ref f1)) ∧ getL "extract_cookies" jes = some (some (.ref f2)) ∧ getL "cookiejar" es = some (some (.ref jar)) ∧ getL "http_request" es = some (some (.ref f3)) ∧ getL "http_response" es = some (some (.ref f4))
theorem news_sA {h₀ h : Heap} {L : Addr} {a1 a2 a3 a4 x d a5 a6 t : Addr × Obj} {tl : List (Addr × Obj)} (N : News h₀ L h (a1 :: a2 :: a3 :: a4 :: x :: d :: a5 :: a6 :: t :: tl)) : News h₀ L h (t :: x :: d :: ([a1, a2, a3, a4, a5, a6] ++ tl)) := fun p hp => N p (by
  simp only [List.mem_cons, List.mem_append, List.cons_append, List.nil_append] at hp ⊢
  rcases hp with h | h | h | h | h | h | h | h | h | h <;> (first | ((repeat (first | with_reducible exact h | with_reducible exact Or.inl h | with_reducible exact Or.inl (Or.inl h) | with_reducible exact Or.inl (Or.inr h) | refine Or.inr ?_)); done) | simp [h]))
theorem news_sB {h₀ h : Heap} {L : Addr} {a1 a2 x d a5 a6 t : Addr × Obj} {tl : List (Addr × Obj)} (N : News h₀ L h (a1 :: a2 :: x :: d :: a5 :: a6 :: t :: tl)) : News h₀ L h (t :: x :: d :: ([a1, a2, a5, a6] ++ tl)) := fun p hp => N p (by
  simp only [List.mem_cons, List.mem_append, List.cons_append, List.nil_append] at hp ⊢
  rcases hp with h | h | h | h | h | h | h | h <;> (first | ((repeat (first | with_reducible exact h | with_reducible exact Or.inl h | with_reducible exact Or.inl (Or.inl h) | with_reducible exact Or.inl (Or.inr h) | refine Or.inr ?_)); done) | simp [h]))
theorem news_cA {h₀ h : Heap} {L : Addr} {a1 a2 a3 a4 a5 a6 a7 a8 j jd x d c2 c1 t : Addr × Obj} {tl : List (Addr × Obj)} (N : News h₀ L h (a1 :: a2 :: a3 :: a4 :: a5 :: a6 :: a7 :: a8 :: j :: jd :: x :: d :: c2 :: c1 :: t :: tl)) : News h₀ L h (t :: x :: d :: ([a1, a2, a3, a4, a5, a6, a7, a8, j, jd, c2, c1] ++ tl)) := fun p hp => N p (by
  simp only [List.mem_cons, List.mem_append, List.cons_append, List.nil_append] at hp ⊢
  rcases hp with h | h | h | h | h | h | h | h | h | h | h | h | h | h | h | h <;> (first | ((repeat (first | with_reducible exact h | with_reducible exact Or.inl h | with_reducible exact Or.inl (Or.inl h) | with_reducible exact Or.inl (Or.inr h) | refine Or.inr ?_)); done) | simp [h]))
theorem news_cB {h₀ h : Heap} {L : Addr} {a1 a2 a3 a4 j jd x d c2 c1 t : Addr × Obj} {tl : List (Addr × Obj)} (N : News h₀ L h (a1 :: a2 :: a3 :: a4 :: j :: jd :: x :: d :: c2 :: c1 :: t :: tl)) : News h₀ L h (t :: x :: d :: ([a1, a2, a3, a4, j, jd, c2, c1] ++ tl)) := fun p hp => N p (by
  simp only [List.mem_cons, List.mem_append, List.cons_append, List.nil_append] at hp ⊢
  rcases hp with h | h | h | h | h | h | h | h | h | h | h | h <;> (first | ((repeat (first | with_reducible exact h | with_reducible exact Or.inl h | with_reducible exact Or.inl (Or.inl h) | with_reducible exact Or.inl (Or.inr h) | refine Or.inr ?_)); done) | simp [h]))
theorem all_nil {α : Type} {P : α → Prop} : ∀ p ∈ ([] : List α), P p := fun _ h => nomatch h
theorem all_cons {α : Type} {P : α → Prop} {a : α} {as : List α} (h : P a) (k : ∀ p ∈ as, P p) : ∀ p ∈ a :: as, P p := fun p hp => by
  rcases List.mem_cons.mp hp with rfl | hp
  · exact h
  · exact k p hp
section
variable {w : World} {E : Value → Shared → Prop} {s : Shared} {L : Addr} {h₀ : Heap} {m : Str → Option Value}
local macro_rules | `(tactic| keq_rows) => `(tactic| first | (k_unfold; (try dsimp only)) | walk1 | (dsimp only; walk1))
local macro_rules | `(tactic| kwd_less) => `(tactic| repeat' keq_rows)
theorem signA {Q : Value → Shared → Prop} {p : Program} {loose : List Str} {mean : ExcName → Option Value} {mg mb : Str → Option Value} {dp un : Nat} {gd : Option (List Code)} {env : Env} {outer : List Env} {A₀ : Around} {base : Heap} {i a : Int} {ti ta : Tok} {tl r : List (Addr × Obj)} {body : List Stmt} {scope : Scope}
    (hdef : Def12 w 123 "_law_signer" body scope) (B : Below A₀ base outer h₀) (F : Fr h₀ L s.heap m) (X : (Mine.hd.heap_39 w.params).In h₀) (N : News h₀ L s.heap ((118, tabObj #[]) :: tl)) (ho : OwnOff tl [118]) (T : Top p loose mean mg mb h₀) (hC : CodeHd h₀ 122 118) (hf : env.frame = some L) (hke : env.scope.kind = .function) (hd : dp + 10 < recursionLimit) (hu : un + 100 < cLine)
    (ret : ∀ h' tk' (x d n cf : Nat) es ad tabo, Fr h₀ L h' m → News h₀ L h' ((118, tabObj tabo) :: (x, instObj 52 d) :: (d, dictOf es n) :: (ad ++ tl)) → TabG tabo (ad ++ r) → SignT body ((mg "__name__").getD .none) i a (ad ++ r) es → getL "handler_order" es = some none → es.length ≤ 3 → AllLt cf tl → (∀ p ∈ ad, @LE.le Nat _ cf p.1 ∧ @Ne Nat p.1 d ∧ @Ne Nat p.1 x) → (118 < cf ∧ cf ≤ d ∧ d < x) → Q (.ref x) { s with heap := h', toks := tk' }) :
    wpAny (model PySem.Challenge.rw_dn0254_12.row.prog w) (ktrAny dp un gd env outer) (call (.ref 123) [.int i ti, .int a ta]) Q E s := by
  obtain ⟨oc, od, params, dV, kV, doc, pm, cdv, ct, an, osl, hbody⟩ := hdef
  k_dflt (refine' lookup_same hbody ?k6 ?_; (case k6 => k_is))
  intro hbe hse
  subst hse
  subst hbe
  refine wpAny_call ?_
  k_dflt (refine' code_defC ?k1 ?k2 ?k3 ?k4 ?k5 ?kA ?kF ?kK ?k6 ?k7 ?k8 ?k9 ?kB ?kD ?_ ?c2 ?c3 ?c4; (case kA => exact rfl); (case kF => assumption); (case kK => assumption); (case k1 => k_asm); (case k2 => k_asm); (case k3 => k_asm); (case k4 => k_asm); (case k5 => k_asm); (case k6 => k_is); (case k7 => k_is); (case k8 => (show dp < recursionLimit; (first | lia | omega))); (case k9 => exact BindsTo.of_eq rfl); (case kB => rfl); (case kD => decide +kernel); (case c2 => exact rfl); (case c3 => exact rfl); (case c4 => exact rfl); k_whole)
  intro g' L' h' tk' cells' FG' F' N' Y' B' X' T' l1
  k_lt l1
  k_cells Y'
  (try simp only [List.cons_append, List.nil_append] at N')
  (try dsimp only)
  (try k_lift B')
  (try k_fold)
  have hC' := hC.keeps FG'.keep
  have AL : AllLt L' tl := l1.2
  have a1 : AllLt (L' + 1) tl := tbn_up (Nat.lt_succ_self L') AL
  have a2 : AllLt (L' + 1 + 1) tl := tbn_up (Nat.lt_succ_self _) a1
  have a3 : AllLt (L' + 1 + 1 + 1) tl := tbn_up (Nat.lt_succ_self _) a2
  kwd_less
  rename News h₀ _ _ _ => N9
  rename Fr h₀ _ _ m => F9
  exact ret _ _ _ _ _ L' _ _ _ F9 (news_sA N9) (.inr ⟨_, _, _, _, rfl, .tail _ (.tail _ (.tail _ (.head _))), .tail _ (.head _), ⟨_, _, by assumption, by assumption⟩, ⟨_, _, by assumption, by assumption⟩⟩) ⟨_, _, _, _, _, _, _, _, _, _, _, _, _, _, _, _, .tail _ (.tail _ (.head _)), .head _, .tail _ (.tail _ (.tail _ (.tail _ (.tail _ (.head _))))), .tail _ (.tail _ (.tail _ (.tail _ (.head _)))), .tail _ (.tail _ (.tail _ (.head _))), .tail _ (.head _), ⟨_, _, by assumption, by assumption⟩, ⟨_, _, by assumption, by assumption⟩, by assumption, by assumption, rfl, rfl⟩ rfl (Nat.le_of_ble_eq_true rfl) AL (all_cons (by dsimp only; (first | lia | omega)) (all_cons (by dsimp only; (first | lia | omega)) (all_cons (by dsimp only; (first | lia | omega)) (all_cons (by dsimp only; (first | lia | omega)) (all_cons (by dsimp only; (first | lia | omega)) (all_cons (by dsimp only; (first | lia | omega)) (all_nil))))))) (by (first | lia | omega))
theorem signB {Q : Value → Shared → Prop} {p : Program} {loose : List Str} {mean : ExcName → Option Value} {mg mb : Str → Option Value} {dp un : Nat} {gd : Option (List Code)} {env : Env} {outer : List Env} {A₀ : Around} {base : Heap} {i a : Int} {ti ta : Tok} {tl r : List (Addr × Obj)} {body : List Stmt} {scope : Scope} {k1 k2 : Nat} {ok1 ok2 : Obj}
    (hdef : Def12 w 123 "_law_signer" body scope) (B : Below A₀ base outer h₀) (F : Fr h₀ L s.heap m) (X : (Mine.hd.heap_39 w.params).In h₀) (N : News h₀ L s.heap ((118, tabObj (tabG k1 k2)) :: tl)) (ho : OwnOff tl [118]) (T : Top p loose mean mg mb h₀) (hC : CodeHd h₀ 122 118) (hf : env.frame = some L) (hke : env.scope.kind = .function) (hd : dp + 10 < recursionLimit) (hu : un + 100 < cLine) (h1 : (k1, ok1) ∈ r) (h2 : (k2, ok2) ∈ r) (d1 : CodeOf ok1 "_law_signer.<locals>._law_ask") (d2 : CodeOf ok2 "_law_signer.<locals>._law_answer")
    (ret : ∀ h' tk' (x d n cf : Nat) es ad tabo, Fr h₀ L h' m → News h₀ L h' ((118, tabObj tabo) :: (x, instObj 52 d) :: (d, dictOf es n) :: (ad ++ tl)) → TabG tabo (ad ++ r) → SignT body ((mg "__name__").getD .none) i a (ad ++ r) es → getL "handler_order" es = some none → es.length ≤ 3 → AllLt cf tl → (∀ p ∈ ad, @LE.le Nat _ cf p.1 ∧ @Ne Nat p.1 d ∧ @Ne Nat p.1 x) → (118 < cf ∧ cf ≤ d ∧ d < x) → Q (.ref x) { s with heap := h', toks := tk' }) :
    wpAny (model PySem.Challenge.rw_dn0254_12.row.prog w) (ktrAny dp un gd env outer) (call (.ref 123) [.int i ti, .int a ta]) Q E s := by
  obtain ⟨oc, od, params, dV, kV, doc, pm, cdv, ct, an, osl, hbody⟩ := hdef
  k_dflt (refine' lookup_same hbody ?k6 ?_; (case k6 => k_is))
  intro hbe hse
  subst hse
  subst hbe
  refine wpAny_call ?_
  k_dflt (refine' code_defC ?k1 ?k2 ?k3 ?k4 ?k5 ?kA ?kF ?kK ?k6 ?k7 ?k8 ?k9 ?kB ?kD ?_ ?c2 ?c3 ?c4; (case kA => exact rfl); (case kF => assumption); (case kK => assumption); (case k1 => k_asm); (case k2 => k_asm); (case k3 => k_asm); (case k4 => k_asm); (case k5 => k_asm); (case k6 => k_is); (case k7 => k_is); (case k8 => (show dp < recursionLimit; (first | lia | omega))); (case k9 => exact BindsTo.of_eq rfl); (case kB => rfl); (case kD => decide +kernel); (case c2 => exact rfl); (case c3 => exact rfl); (case c4 => exact rfl); k_whole)
  intro g' L' h' tk' cells' FG' F' N' Y' B' X' T' l1
  k_lt l1
  k_cells Y'
  (try simp only [List.cons_append, List.nil_append] at N')
  (try dsimp only)
  (try k_lift B')
  (try k_fold)
  have hC' := hC.keeps FG'.keep
  have AL : AllLt L' tl := l1.2
  have a1 : AllLt (L' + 1) tl := tbn_up (Nat.lt_succ_self L') AL
  have a2 : AllLt (L' + 1 + 1) tl := tbn_up (Nat.lt_succ_self _) a1
  have a3 : AllLt (L' + 1 + 1 + 1) tl := tbn_up (Nat.lt_succ_self _) a2
  kwd_less
  rename News h₀ _ _ _ => N9
  rename Fr h₀ _ _ m => F9
  exact ret _ _ _ _ _ L' _ _ _ F9 (news_sB N9) (.inr ⟨_, _, _, _, rfl, List.mem_append_right _ h1, List.mem_append_right _ h2, d1, d2⟩) ⟨_, _, _, _, _, _, _, _, _, _, _, _, _, _, _, _, .tail _ (.head _), .head _, .tail _ (.tail _ (.tail _ (.head _))), .tail _ (.tail _ (.head _)), List.mem_append_right _ h1, List.mem_append_right _ h2, d1, d2, by assumption, by assumption, rfl, rfl⟩ rfl (Nat.le_of_ble_eq_true rfl) AL (all_cons (by dsimp only; (first | lia | omega)) (all_cons (by dsimp only; (first | lia | omega)) (all_cons (by dsimp only; (first | lia | omega)) (all_cons (by dsimp only; (first | lia | omega)) (all_nil))))) (by (first | lia | omega))
theorem cookA {Q : Value → Shared → Prop} {p : Program} {loose : List Str} {mean : ExcName → Option Value} {mg mb : Str → Option Value} {dp un : Nat} {gd : Option (List Code)} {env : Env} {outer : List Env} {A₀ : Around} {base : Heap} {i : Int} {ti : Tok} {tl r : List (Addr × Obj)} {body : List Stmt} {scope : Scope}
    (hdef : Def12 w 130 "_law_cookies" body scope) (B : Below A₀ base outer h₀) (F : Fr h₀ L s.heap m) (X : (Mine.hd.heap_39 w.params).In h₀) (N : News h₀ L s.heap ((125, tabObj #[]) :: tl)) (ho : OwnOff tl [125]) (T : Top p loose mean mg mb h₀) (hC : CodeHd h₀ 129 125) (hf : env.frame = some L) (hke : env.scope.kind = .function) (hd : dp + 10 < recursionLimit) (hu : un + 100 < cLine)
    (ret : ∀ h' tk' (x d n cf : Nat) es ad tabo, Fr h₀ L h' m → News h₀ L h' ((125, tabObj tabo) :: (x, instObj 52 d) :: (d, dictOf es n) :: (ad ++ tl)) → TabC tabo (ad ++ r) → CookT body ((mg "__name__").getD .none) i x (ad ++ r) es → getL "handler_order" es = some none → es.length ≤ 3 → AllLt cf tl → (∀ p ∈ ad, @LE.le Nat _ cf p.1 ∧ @Ne Nat p.1 d ∧ @Ne Nat p.1 x) → (125 < cf ∧ cf ≤ d ∧ d < x) → Q (.ref x) { s with heap := h', toks := tk' }) :
    wpAny (model PySem.Challenge.rw_dn0254_12.row.prog w) (ktrAny dp un gd env outer) (call (.ref 130) [.int i ti]) Q E s := by
  obtain ⟨oc, od, params, dV, kV, doc, pm, cdv, ct, an, osl, hbody⟩ := hdef
  k_dflt (refine' lookup_same hbody ?k6 ?_; (case k6 => k_is))
  intro hbe hse
  subst hse
  subst hbe
  refine wpAny_call ?_
  k_dflt (refine' code_defC ?k1 ?k2 ?k3 ?k4 ?k5 ?kA ?kF ?kK ?k6 ?k7 ?k8 ?k9 ?kB ?kD ?_ ?c2 ?c3 ?c4; (case kA => exact rfl); (case kF => assumption); (case kK => assumption); (case k1 => k_asm); (case k2 => k_asm); (case k3 => k_asm); (case k4 => k_asm); (case k5 => k_asm); (case k6 => k_is); (case k7 => k_is); (case k8 => (show dp < recursionLimit; (first | lia | omega))); (case k9 => exact BindsTo.of_eq rfl); (case kB => rfl); (case kD => decide +kernel); (case c2 => exact rfl); (case c3 => exact rfl); (case c4 => exact rfl); k_whole)
  intro g' L' h' tk' cells' FG' F' N' Y' B' X' T' l1
  k_lt l1
  k_cells Y'
  (try simp only [List.cons_append, List.nil_append] at N')
  (try dsimp only)
  (try k_lift B')
  (try k_fold)
  have hC' := hC.keeps FG'.keep
  have AL : AllLt L' tl := l1.2
  have a1 : AllLt (L' + 1) tl := tbn_up (Nat.lt_succ_self L') AL
  have a2 : AllLt (L' + 1 + 1) tl := tbn_up (Nat.lt_succ_self _) a1
  have a3 : AllLt (L' + 1 + 1 + 1) tl := tbn_up (Nat.lt_succ_self _) a2
  kwd_less
  rename News h₀ _ _ _ => N9
  rename Fr h₀ _ _ m => F9
  exact ret _ _ _ _ _ L' _ _ _ F9 (news_cA N9) (.inr ⟨_, _, _, _, _, _, _, _, rfl, .tail _ (.tail _ (.tail _ (.tail _ (.tail _ (.tail _ (.tail _ (.head _))))))), .tail _ (.tail _ (.tail _ (.tail _ (.tail _ (.head _))))), .tail _ (.tail _ (.tail _ (.head _))), .tail _ (.head _), ⟨_, _, by assumption, by assumption⟩, ⟨_, _, by assumption, by assumption⟩, ⟨_, _, by assumption, by assumption⟩, ⟨_, _, by assumption, by assumption⟩⟩) ⟨_, _, _, _, _, _, _, _, _, _, _, _, _, _, _, _, _, _, _, _, _, _, _, _, _, _, _, .tail _ (.tail _ (.tail _ (.tail _ (.tail _ (.tail _ (.tail _ (.tail _ (.head _)))))))), .tail _ (.tail _ (.tail _ (.tail _ (.tail _ (.tail _ (.tail _ (.tail _ (.tail _ (.head _))))))))), .tail _ (.tail _ (.tail _ (.tail _ (.tail _ (.tail _ (.head _)))))), .tail _ (.tail _ (.tail _ (.tail _ (.head _)))), .tail _ (.tail _ (.head _)), .head _, .tail _ (.tail _ (.tail _ (.tail _ (.tail _ (.tail _ (.tail _ (.tail _ (.tail _ (.tail _ (.tail _ (.head _))))))))))), .tail _ (.tail _ (.tail _ (.tail _ (.tail _ (.tail _ (.tail _ (.tail _ (.tail _ (.tail _ (.head _)))))))))), .tail _ (.tail _ (.tail _ (.tail _ (.tail _ (.tail _ (.tail _ (.head _))))))), .tail _ (.tail _ (.tail _ (.tail _ (.tail _ (.head _))))), .tail _ (.tail _ (.tail _ (.head _))), .tail _ (.head _), ⟨_, _, by assumption, by assumption⟩, ⟨_, _, by assumption, by assumption⟩, ⟨_, _, by assumption, by assumption⟩, ⟨_, _, by assumption, by assumption⟩, by assumption, by assumption, rfl, rfl, rfl, rfl, rfl⟩ rfl (Nat.le_of_ble_eq_true rfl) AL (all_cons (by dsimp only; (first | lia | omega)) (all_cons (by dsimp only; (first | lia | omega)) (all_cons (by dsimp only; (first | lia | omega)) (all_cons (by dsimp only; (first | lia | omega)) (all_cons (by dsimp only; (first | lia | omega)) (all_cons (by dsimp only; (first | lia | omega)) (all_cons (by dsimp only; (first | lia | omega)) (all_cons (by dsimp only; (first | lia | omega)) (all_cons (by dsimp only; (first | lia | omega)) (all_cons (by dsimp only; (first | lia | omega)) (all_cons (by dsimp only; (first | lia | omega)) (all_cons (by dsimp only; (first | lia | omega)) (all_nil))))))))))))) (by (first | lia | omega))
theorem cookB {Q : Value → Shared → Prop} {p : Program} {loose : List Str} {mean : ExcName → Option Value} {mg mb : Str → Option Value} {dp un : Nat} {gd : Option (List Code)} {env : Env} {outer : List Env} {A₀ : Around} {base : Heap} {i : Int} {ti : Tok} {tl r : List (Addr × Obj)} {body : List Stmt} {scope : Scope} {k1 k2 k3 k4 : Nat} {ok1 ok2 ok3 ok4 : Obj}
    (hdef : Def12 w 130 "_law_cookies" body scope) (B : Below A₀ base outer h₀) (F : Fr h₀ L s.heap m) (X : (Mine.hd.heap_39 w.params).In h₀) (N : News h₀ L s.heap ((125, tabObj (tabC k1 k2 k3 k4)) :: tl)) (ho : OwnOff tl [125]) (T : Top p loose mean mg mb h₀) (hC : CodeHd h₀ 129 125) (hf : env.frame = some L) (hke : env.scope.kind = .function) (hd : dp + 10 < recursionLimit) (hu : un + 100 < cLine) (h1 : (k1, ok1) ∈ r) (h2 : (k2, ok2) ∈ r) (h3 : (k3, ok3) ∈ r) (h4 : (k4, ok4) ∈ r) (d1 : CodeOf ok1 "_law_cookies.<locals>._law_add") (d2 : CodeOf ok2 "_law_cookies.<locals>._law_extract") (d3 : CodeOf ok3 "_law_cookies.<locals>.<lambda>") (d4 : CodeOf ok4 "_law_cookies.<locals>.<lambda>")
    (ret : ∀ h' tk' (x d n cf : Nat) es ad tabo, Fr h₀ L h' m → News h₀ L h' ((125, tabObj tabo) :: (x, instObj 52 d) :: (d, dictOf es n) :: (ad ++ tl)) → TabC tabo (ad ++ r) → CookT body ((mg "__name__").getD .none) i x (ad ++ r) es → getL "handler_order" es = some none → es.length ≤ 3 → AllLt cf tl → (∀ p ∈ ad, @LE.le Nat _ cf p.1 ∧ @Ne Nat p.1 d ∧ @Ne Nat p.1 x) → (125 < cf ∧ cf ≤ d ∧ d < x) → Q (.ref x) { s with heap := h', toks := tk' }) :
    wpAny (model PySem.Challenge.rw_dn0254_12.row.prog w) (ktrAny dp un gd env outer) (call (.ref 130) [.int i ti]) Q E s := by
  obtain ⟨oc, od, params, dV, kV, doc, pm, cdv, ct, an, osl, hbody⟩ := hdef
  k_dflt (refine' lookup_same hbody ?k6 ?_; (case k6 => k_is))
  intro hbe hse
  subst hse
  subst hbe
  refine wpAny_call ?_
  k_dflt (refine' code_defC ?k1 ?k2 ?k3 ?k4 ?k5 ?kA ?kF ?kK ?k6 ?k7 ?k8 ?k9 ?kB ?kD ?_ ?c2 ?c3 ?c4; (case kA => exact rfl); (case kF => assumption); (case kK => assumption); (case k1 => k_asm); (case k2 => k_asm); (case k3 => k_asm); (case k4 => k_asm); (case k5 => k_asm); (case k6 => k_is); (case k7 => k_is); (case k8 => (show dp < recursionLimit; (first | lia | omega))); (case k9 => exact BindsTo.of_eq rfl); (case kB => rfl); (case kD => decide +kernel); (case c2 => exact rfl); (case c3 => exact rfl); (case c4 => exact rfl); k_whole)
  intro g' L' h' tk' cells' FG' F' N' Y' B' X' T' l1
  k_lt l1
  k_cells Y'
  (try simp only [List.cons_append, List.nil_append] at N')
  (try dsimp only)
  (try k_lift B')
  (try k_fold)
  have hC' := hC.keeps FG'.keep
  have AL : AllLt L' tl := l1.2
  have a1 : AllLt (L' + 1) tl := tbn_up (Nat.lt_succ_self L') AL
  have a2 : AllLt (L' + 1 + 1) tl := tbn_up (Nat.lt_succ_self _) a1
  have a3 : AllLt (L' + 1 + 1 + 1) tl := tbn_up (Nat.lt_succ_self _) a2
  kwd_less
  rename News h₀ _ _ _ => N9
  rename Fr h₀ _ _ m => F9
  exact ret _ _ _ _ _ L' _ _ _ F9 (news_cB N9) (.inr ⟨_, _, _, _, _, _, _, _, rfl, List.mem_append_right _ h1, List.mem_append_right _ h2, List.mem_append_right _ h3, List.mem_append_right _ h4, d1, d2, d3, d4⟩) ⟨_, _, _, _, _, _, _, _, _, _, _, _, _, _, _, _, _, _, _, _, _, _, _, _, _, _, _, .tail _ (.tail _ (.tail _ (.tail _ (.head _)))), .tail _ (.tail _ (.tail _ (.tail _ (.tail _ (.head _))))), .tail _ (.tail _ (.tail _ (.head _))), .tail _ (.tail _ (.head _)), .tail _ (.head _), .head _, .tail _ (.tail _ (.tail _ (.tail _ (.tail _ (.tail _ (.tail _ (.head _))))))), .tail _ (.tail _ (.tail _ (.tail _ (.tail _ (.tail _ (.head _)))))), List.mem_append_right _ h1, List.mem_append_right _ h2, List.mem_append_right _ h3, List.mem_append_right _ h4, d1, d2, d3, d4, by assumption, by assumption, rfl, rfl, rfl, rfl, rfl⟩ rfl (Nat.le_of_ble_eq_true rfl) AL (all_cons (by dsimp only; (first | lia | omega)) (all_cons (by dsimp only; (first | lia | omega)) (all_cons (by dsimp only; (first | lia | omega)) (all_cons (by dsimp only; (first | lia | omega)) (all_cons (by dsimp only; (first | lia | omega)) (all_cons (by dsimp only; (first | lia | omega)) (all_cons (by dsimp only; (first | lia | omega)) (all_cons (by dsimp only; (first | lia | omega)) (all_nil))))))))) (by (first | lia | omega))
theorem sign12 {Q : Value → Shared → Prop} {p : Program} {loose : List Str} {mean : ExcName → Option Value} {mg mb : Str → Option Value} {dp un : Nat} {gd : Option (List Code)} {env : Env} {outer : List Env} {A₀ : Around} {base : Heap} {i a : Int} {ti ta : Tok} {tabo0 : Array Value} {tl r : List (Addr × Obj)} {body : List Stmt} {scope : Scope}
    (hdef : Def12 w 123 "_law_signer" body scope) (B : Below A₀ base outer h₀) (F : Fr h₀ L s.heap m) (X : (Mine.hd.heap_39 w.params).In h₀) (N : News h₀ L s.heap ((118, tabObj tabo0) :: tl)) (ho : OwnOff tl [118]) (T : Top p loose mean mg mb h₀) (hC : CodeHd h₀ 122 118) (hf : env.frame = some L) (hke : env.scope.kind = .function) (hd : dp + 10 < recursionLimit) (hu : un + 100 < cLine) (tab : TabG tabo0 r)
    (ret : ∀ h' tk' (x d n cf : Nat) es ad tabo, Fr h₀ L h' m → News h₀ L h' ((118, tabObj tabo) :: (x, instObj 52 d) :: (d, dictOf es n) :: (ad ++ tl)) → TabG tabo (ad ++ r) → SignT body ((mg "__name__").getD .none) i a (ad ++ r) es → getL "handler_order" es = some none → es.length ≤ 3 → AllLt cf tl → (∀ p ∈ ad, @LE.le Nat _ cf p.1 ∧ @Ne Nat p.1 d ∧ @Ne Nat p.1 x) → (118 < cf ∧ cf ≤ d ∧ d < x) → Q (.ref x) { s with heap := h', toks := tk' }) :
    wpAny (model PySem.Challenge.rw_dn0254_12.row.prog w) (ktrAny dp un gd env outer) (call (.ref 123) [.int i ti, .int a ta]) Q E s := by
  rcases tab with rfl | ⟨k1, k2, ok1, ok2, rfl, h1, h2, d1, d2⟩
  · exact signA hdef B F X N ho T hC hf hke hd hu ret
  · exact signB hdef B F X N ho T hC hf hke hd hu h1 h2 d1 d2 ret
theorem cook12 {Q : Value → Shared → Prop} {p : Program} {loose : List Str} {mean : ExcName → Option Value} {mg mb : Str → Option Value} {dp un : Nat} {gd : Option (List Code)} {env : Env} {outer : List Env} {A₀ : Around} {base : Heap} {i : Int} {ti : Tok} {tabo0 : Array Value} {tl r : List (Addr × Obj)} {body : List Stmt} {scope : Scope}
    (hdef : Def12 w 130 "_law_cookies" body scope) (B : Below A₀ base outer h₀) (F : Fr h₀ L s.heap m) (X : (Mine.hd.heap_39 w.params).In h₀) (N : News h₀ L s.heap ((125, tabObj tabo0) :: tl)) (ho : OwnOff tl [125]) (T : Top p loose mean mg mb h₀) (hC : CodeHd h₀ 129 125) (hf : env.frame = some L) (hke : env.scope.kind = .function) (hd : dp + 10 < recursionLimit) (hu : un + 100 < cLine) (tab : TabC tabo0 r)
    (ret : ∀ h' tk' (x d n cf : Nat) es ad tabo, Fr h₀ L h' m → News h₀ L h' ((125, tabObj tabo) :: (x, instObj 52 d) :: (d, dictOf es n) :: (ad ++ tl)) → TabC tabo (ad ++ r) → CookT body ((mg "__name__").getD .none) i x (ad ++ r) es → getL "handler_order" es = some none → es.length ≤ 3 → AllLt cf tl → (∀ p ∈ ad, @LE.le Nat _ cf p.1 ∧ @Ne Nat p.1 d ∧ @Ne Nat p.1 x) → (125 < cf ∧ cf ≤ d ∧ d < x) → Q (.ref x) { s with heap := h', toks := tk' }) :
    wpAny (model PySem.Challenge.rw_dn0254_12.row.prog w) (ktrAny dp un gd env outer) (call (.ref 130) [.int i ti]) Q E s := by
  rcases tab with rfl | ⟨k1, k2, k3, k4, ok1, ok2, ok3, ok4, rfl, h1, h2, h3, h4, d1, d2, d3, d4⟩
  · exact cookA hdef B F X N ho T hC hf hke hd hu ret
  · exact cookB hdef B F X N ho T hC hf hke hd hu h1 h2 h3 h4 d1 d2 d3 d4 ret
end
end Mine


namespace Mine
/-! sorted, list.sort: of things by a comparison of their own, up or down; by a key that gives pairs of ints; any length under 64 -/
section
variable {prog : Program} {w : World} {A : Around} {E : Value → Shared → Prop} {s : Shared} {h₀ : Heap} {L D : Addr} {m : Str → Option Value} {rest : List (Addr × Obj)} {vs : List Value}
/-- sorted is: collect, a new list, its sort -/
theorem sorted_open {v : Value} {kw : List (Str × Value)} {Q : Value → Shared → Prop} (ha : argsOk "sorted" ⟨[v], kw⟩)
    (h : wpAny (model prog w) A.in1 (collect v) (fun (us : List Value) s1 => us.length ≤ 64 ∧ wpAny (model prog w) A.in1 (call (.builtin "list.sort") [.ref s1.heap.objs.size] kw) (fun _ s2 => Q (.ref s1.heap.objs.size) s2) E { s1 with heap := s1.heap.push (seqObj "list" us.toArray 0) }) E s) :
    wpAny (model prog w) A (call (.builtin "sorted") [v] kw) Q E s := by
  refine call_function_entry_kw kind_sorted plain_sorted entry_sorted ha ?_
  unfold Builtin.«sorted»
  refine wpAny_bind (m := checkCount "sorted" 1 1 _) (wpAny_pure ?_)
  refine wpAny_bind (wpAny_mono h (fun us s1 hs => ?_) fun _ _ e => e)
  obtain ⟨hz, hc⟩ := hs
  refine wpAny_bind (wpAny_newList ?_ (by rw [sizeLine_eq]; (first | lia | omega)))
  refine wpAny_bind (wpAny_holding (wpAny_mono hc (fun _ s2 hq => ?_) fun _ _ e => e))
  exact wpAny_pure ⟨_, rfl, hq⟩
def revTree (a : Addr) (b : Bool) : Sem PySem.Fin := do
  let items ← Builtin.List.listItems (.ref a)
  Builtin.List.listUpdate (.ref a) fun _ => #[]
  let before ← seqEpoch a
  let held ← newTuple items.toList
  let keyStore ← newList []
  holding [held, keyStore] do
    if b then rule "list.sort.reverse"
    let kind ← if items.size < 2 then pure general' else keyKind' items
    let ((), s) ← (if items.size < 2 then pure () else sortRuns').run (SortSt.mk' kind (if b then (items.zip items).reverse else items.zip items) #[] 7 none)
    let sorted := (arrOf s).map (·.2)
    let touched := (← seqEpoch a) != before
    Builtin.List.listUpdate (.ref a) fun _ => if b then sorted.reverse else sorted
    if let some e := failedOf s then rule "list.sort.comparison-raised"; throw e
    if touched then rule "list.sort.modified"; raiseError "ValueError" "list modified during sort"
    ret .none
theorem revTree_nil (a : Addr) : Builtin.«list.sort» ⟨[.ref a], []⟩ = revTree a false := by
  rw [list_sort_plain]; rfl
/-- the order that sorted gives: up, or down; equals as they stood -/
def SortedBy (b : Bool) (os : Nat → Int) (i j : Nat) : Prop := (if b then os j < os i else os i < os j) ∨ os i = os j ∧ i < j
/-- how the comparison answers -/
def AsksV (prog : Program) (w : World) (A : Around) (h₀ : Heap) (L : Addr) (m : Str → Option Value) (rest : List (Addr × Obj)) (s : Shared) (vs : List Value) (os : Nat → Int) : Prop :=
  ∀ κ, (κ = oneType' ∨ κ = general') → ∀ nw h tk i j (C : Bool → Shared → Prop), (∀ p ∈ rest, p ∈ nw) → i < vs.length → j < vs.length → Fr h₀ L h m → News h₀ L h nw →
    (∀ h' tk', Fr h₀ L h' m → News h₀ L h' nw → C (decide (os i < os j)) { s with heap := h', toks := tk' }) →
    wpAny (model prog w) A (keyLt' κ (vs.getD i Value.none) (vs.getD j Value.none)) C (fun _ _ => False) { s with heap := h, toks := tk }
theorem getD_rev {b : Bool} {i : Nat} (h : i < vs.length) : (katRev b vs).getD i Value.none = vs.getD (if b then vs.length - 1 - i else i) Value.none := by
  unfold katRev
  cases b with
  | false => rfl
  | true =>
    simp only [if_true]
    rw [List.getD_eq_getElem?_getD, List.getD_eq_getElem?_getD, List.getElem?_reverse h]
theorem lsort_tree {b : Bool} {n : Nat} {P : PySem.Fin → Shared → Prop} {os : Nat → Int} (F : Fr h₀ L s.heap m) (N : News h₀ L s.heap rest) (ho : s.heap.get? D = some (seqObj "list" vs.toArray n)) (haL : D ≠ L) (ha0 : h₀.get? D = none) (hna : ∀ p ∈ rest, p.1 ≠ D)
    (h64 : vs.length < 64)
    (kind : 2 ≤ vs.length → ∀ h (Q : SortKind → Shared → Prop), Fr h₀ L h m → News h₀ L h rest → (∀ κ, (κ = oneType' ∨ κ = general') → Q κ { s with heap := h }) → wpAny (model prog w) A (keyKind' vs.toArray) Q (fun _ _ => False) { s with heap := h })
    (ask : AsksV prog w A h₀ L m rest s vs os)
    (done : ∀ h' tk c (p : List Nat), p.Perm (List.range vs.length) → p.Pairwise (SortedBy b os) → Fr h₀ L h' m → News h₀ L h' ((D, W.listOf (p.map fun i => vs.getD i Value.none).toArray c) :: rest) → P (.done (.ret .none)) { s with heap := h', toks := tk }) :
    wpAny (model prog w) A (revTree D b) P E s := by
  have ha : D < s.heap.objs.size := Heap.lt_size ho
  have s1 := Heap.SameBut.update s.heap D (Obj.mapSeq fun _ => (#[] : Array Value))
  obtain ⟨e1, ho1⟩ : ∃ e1, (s.heap.update D (Obj.mapSeq fun _ => (#[] : Array Value))).get? D = some (seqObj "list" #[] e1) := ⟨_, get?_update_seq ho fun _ => #[]⟩
  have F3 : Fr h₀ L (((s.heap.update D (Obj.mapSeq fun _ => (#[] : Array Value))).push (seqObj "tuple" vs.toArray 0)).push (seqObj "list" #[] 0)) m := ((kas_fr F s1 haL ha0).push _).push _
  have N2 : News h₀ L (((s.heap.update D (Obj.mapSeq fun _ => (#[] : Array Value))).push (seqObj "tuple" vs.toArray 0)).push (seqObj "list" #[] 0)) rest :=
    (kas_news N s1 hna).grown fun b x e => Heap.get?_push_of_some _ (Heap.get?_push_of_some _ e)
  have N3 : News h₀ L (((s.heap.update D (Obj.mapSeq fun _ => (#[] : Array Value))).push (seqObj "tuple" vs.toArray 0)).push (seqObj "list" #[] 0)) ((D, seqObj "list" #[] e1) :: rest) := fun p hp => by
    rcases List.mem_cons.mp hp with rfl | hp
    · exact ⟨Heap.get?_push_of_some _ (Heap.get?_push_of_some _ ho1), haL, ha0⟩
    · exact N2 p hp
  unfold revTree
  refine wpAny_bind (listItems_at ho rfl ?_)
  refine wpAny_bind (listUpdate_at ho rfl ?_ (by rw [List.size_toArray, sizeLine_eq]; (first | lia | omega)) (Nat.zero_le _))
  refine wpAny_bind (seqEpoch_at ho1 rfl ?_)
  refine wpAny_bind (wpAny_newTuple ?_ (by show vs.length ≤ _; rw [sizeLine_eq]; (first | lia | omega)))
  refine wpAny_bind (wpAny_newList ?_ (Nat.zero_le _))
  refine wpAny_holding ?_
  show wpAny (model prog w) A _ P E { s with heap := ((s.heap.update D (Obj.mapSeq fun _ => (#[] : Array Value))).push (seqObj "tuple" vs.toArray 0)).push (seqObj "list" #[] 0) }
  generalize ((s.heap.update D (Obj.mapSeq fun _ => (#[] : Array Value))).push (seqObj "tuple" vs.toArray 0)).push (seqObj "list" #[] 0) = H at F3 N2 N3 ⊢
  have step : ∀ t : Sem PySem.Fin, wpAny (model prog w) A t P E { s with heap := H } → wpAny (model prog w) A (if b = true then (do let _ ← rule "list.sort.reverse"; t) else t) P E { s with heap := H } := by
    intro t ht
    split
    · exact wpAny_bind (wpAny_rule ht)
    · exact ht
  have fin : ∀ (st' : SortSt) (p : List Nat) h' tk, (arrOf st').map (·.2) = List.toArray (p.map fun i => (katRev b vs).getD i Value.none) → failedOf st' = none → p.Perm (List.range vs.length) → p.Pairwise (fun i j => SortedBy false (fun i => os (if b then vs.length - 1 - i else i)) i j) →
      Fr h₀ L h' m → News h₀ L h' ((D, seqObj "list" #[] e1) :: rest) →
      wpAny (model prog w) A (do
        let touched := (← seqEpoch D) != e1
        Builtin.List.listUpdate (.ref D) fun _ => if b then ((arrOf st').map (·.2)).reverse else (arrOf st').map (·.2)
        if let some e := failedOf st' then rule "list.sort.comparison-raised"; throw e
        if touched then rule "list.sort.modified"; raiseError "ValueError" "list modified during sort"
        ret .none) P E { s with heap := h', toks := tk } := by
    intro st' p h' tk hout hf hp hs F' N'
    have na := N' _ (.head _)
    have hmem : ∀ i ∈ p, i < vs.length := fun i hi => by simpa using hp.mem_iff.mp hi
    have hlen : p.length = vs.length := by simpa using hp.length_eq
    rw [hout, kat_outs]
    have e2 : katRev b (p.map fun i => (katRev b vs).getD i Value.none) = (if b then p.reverse.map (fun i => vs.length - 1 - i) else p).map fun i => vs.getD i Value.none := by
      have e3 : (p.map fun i => (katRev b vs).getD i Value.none) = p.map fun i => vs.getD (if b then vs.length - 1 - i else i) Value.none := List.map_congr_left fun i hi => getD_rev (hmem i hi)
      rw [e3]
      unfold katRev
      cases b with
      | false => rfl
      | true => simp only [if_true, List.map_map, ← List.map_reverse]; rfl
    rw [e2]
    have hz : ((if b then p.reverse.map (fun i => vs.length - 1 - i) else p).map fun i => vs.getD i Value.none).length = vs.length := by cases b <;> simp [hlen]
    have s2 := Heap.SameBut.update h' D (Obj.mapSeq fun _ => List.toArray ((if b then p.reverse.map (fun i => vs.length - 1 - i) else p).map fun i => vs.getD i Value.none))
    obtain ⟨c2, hc2⟩ : ∃ c2, (h'.update D (Obj.mapSeq fun _ => List.toArray ((if b then p.reverse.map (fun i => vs.length - 1 - i) else p).map fun i => vs.getD i Value.none))).get? D = some (seqObj "list" (List.toArray ((if b then p.reverse.map (fun i => vs.length - 1 - i) else p).map fun i => vs.getD i Value.none)) c2) := ⟨_, get?_update_seq na.1 fun _ => _⟩
    refine wpAny_bind (seqEpoch_at na.1 rfl ?_)
    refine wpAny_bind (listUpdate_at na.1 rfl ?_ (Nat.zero_le _) (by rw [List.size_toArray, hz, sizeLine_eq]; (first | lia | omega)))
    rw [hf]
    simp only [bne_self_eq_false, Bool.false_eq_true, if_false]
    refine wpAny_pure (done _ tk c2 (if b then p.reverse.map (fun i => vs.length - 1 - i) else p) ?_ ?_ (kas_fr F' s2 na.2.1 na.2.2) fun q hq => ?_)
    · cases b with
      | false => exact hp
      | true =>
        simp only [if_true]
        refine ((List.reverse_perm p).map _).trans ((hp.map _).trans ?_)
        refine (List.Perm.of_eq ?_ : List.Perm _ (List.range vs.length).reverse).trans (List.reverse_perm _)
        apply List.ext_getElem?
        intro i
        by_cases hi : i < vs.length
        · rw [List.getElem?_map, List.getElem?_range hi, List.getElem?_reverse (by simpa using hi), List.length_range, List.getElem?_range (by (first | lia | omega))]; rfl
        · rw [List.getElem?_eq_none (by simpa using hi), List.getElem?_eq_none (by simpa using hi)]
    · cases b with
      | false => simpa using hs
      | true =>
        simp only [if_true]
        rw [List.pairwise_map, List.pairwise_reverse]
        refine hs.imp_of_mem fun {i j} hi hj q => ?_
        have hi' := hmem i hi
        have hj' := hmem j hj
        unfold SortedBy at q ⊢
        simp only [if_true, Bool.false_eq_true, if_false] at q ⊢
        (first | lia | omega)
    · rcases List.mem_cons.mp hq with rfl | hq
      · exact ⟨hc2, na.2.1, na.2.2⟩
      · exact kas_news (fun p hp => N' p (.tail _ hp)) s2 hna q hq
  dsimp only
  refine step _ ?_
  by_cases h2 : vs.toArray.size < 2
  · rw [if_pos h2, if_pos h2]
    rw [List.size_toArray] at h2
    refine wpAny_bind (wpAny_pure ?_)
    rw [StateT.run_pure]
    refine wpAny_bind (wpAny_pure ?_)
    dsimp only
    refine fin (SortSt.mk' general' (if b = true then (vs.toArray.zip vs.toArray).reverse else vs.toArray.zip vs.toArray) #[] 7 none) (List.range vs.length) H s.toks ?_ rfl (.refl _) ?_ F3 N3
    · show (if b = true then (vs.toArray.zip vs.toArray).reverse else vs.toArray.zip vs.toArray).map (·.2) = _
      rw [kat_pairs b rfl]
      apply Array.toList_inj.mp
      simp only [Array.toList_map, ksk_zip]
      rw [List.map_snd_zip (by simp)]
      apply List.ext_getElem?
      intro i
      have hl := kat_len b vs
      by_cases hi : i < vs.length
      · simp [List.getElem?_range hi, hl, hi]
      · rw [List.getElem?_eq_none (by rw [hl]; (first | lia | omega)), List.getElem?_eq_none (by simpa using hi)]
    · match hv : vs, h2 with
      | [], _ => exact .nil
      | [_], _ => exact List.pairwise_singleton _ _
      | _ :: _ :: _, h2 => exact absurd h2 (by simp)
  · rw [if_neg h2, if_neg h2]
    rw [List.size_toArray] at h2
    refine wpAny_bind (wpAny_mono (kind (by (first | lia | omega)) H (fun κ s' => s' = { s with heap := H } ∧ (κ = oneType' ∨ κ = general')) F3 N2 fun κ hκ => ⟨rfl, hκ⟩) (fun κ s' hk => ?_) fun _ _ x => x.elim)
    obtain ⟨rfl, hκ⟩ := hk
    rw [kat_pairs b rfl]
    have tree : (kas_sort (katRev b vs).length).kasWp (kas_ask prog w A κ (katRev b vs)) (fun p s' => ∃ h' tk, s' = { s with heap := h', toks := tk } ∧ p.toList.Perm (List.range vs.length) ∧ p.toList.Pairwise (SortedBy false (fun i => os (if b then vs.length - 1 - i else i))) ∧ Fr h₀ L h' m ∧ News h₀ L h' ((D, seqObj "list" #[] e1) :: rest)) { s with heap := H } := by
      rw [kat_len]
      refine wp_sort (n := vs.length) (a := fun i => os (if b then vs.length - 1 - i else i)) (b := fun _ => 0) (I := fun s' => ∃ h' tk, s' = { s with heap := h', toks := tk } ∧ Fr h₀ L h' m ∧ News h₀ L h' ((D, seqObj "list" #[] e1) :: rest)) ?_ (by (first | lia | omega)) (fun p s' hi hp hu => ?_) ⟨H, s.toks, rfl, F3, N3⟩
      · rintro i j hi hj C s' ⟨h', tk', rfl, F', N'⟩ hy hn
        show wpAny _ _ (keyLt' κ ((katRev b vs).getD i Value.none) ((katRev b vs).getD j Value.none)) C _ _
        rw [getD_rev hi, getD_rev hj]
        refine ask κ hκ _ h' tk' _ _ C (fun p hp => .tail _ hp) (by split <;> (first | lia | omega)) (by split <;> (first | lia | omega)) F' N' fun h'' tk'' F'' N'' => ?_
        by_cases q : os (if b then vs.length - 1 - i else i) < os (if b then vs.length - 1 - j else j)
        · rw [decide_eq_true q]; exact hy (by unfold Ltk; exact .inl q) _ ⟨_, _, rfl, F'', N''⟩
        · rw [decide_eq_false q]; exact hn (by unfold Ltk; simp only; (first | lia | omega)) _ ⟨_, _, rfl, F'', N''⟩
      · obtain ⟨h', tk', rfl, F', N'⟩ := hi
        refine ⟨h', tk', rfl, hp.perm, ?_, F', N'⟩
        rw [List.pairwise_iff_getElem]
        intro i j hi hj hij
        have hz : p.size = vs.length := hp.size
        have := hu i j hij (by simpa [hz] using hj)
        have ei : gp p i = p.toList[i] := by rw [gp_eq]; simp at hi; simp [hi]
        have ej : gp p j = p.toList[j] := by rw [gp_eq]; simp at hj; simp [hj]
        rw [ei, ej] at this
        unfold Rk at this
        unfold SortedBy
        simp only [Bool.false_eq_true, if_false]
        dsimp only at this
        (first | lia | omega)
    have hl : (katRev b vs).length = vs.length := kat_len b vs
    refine wpAny_bind (wpAny_mono (kat_run (Q := fun st' s' => ∃ h' tk, ∃ p : Array Nat, s' = { s with heap := h', toks := tk } ∧ arrOf st' = p.map (kas_item ((List.toArray (katRev b vs)).zip (List.toArray (katRev b vs)))) ∧ failedOf st' = none ∧
        p.toList.Perm (List.range vs.length) ∧ p.toList.Pairwise (SortedBy false (fun i => os (if b then vs.length - 1 - i else i))) ∧ Fr h₀ L h' m ∧ News h₀ L h' ((D, seqObj "list" #[] e1) :: rest))
      rfl (by (first | lia | omega)) (by (first | lia | omega)) (fun p' st' s' _ a2 a3 a4 => by obtain ⟨h', tk, rfl, b1, b2, b3, b4⟩ := a4; exact ⟨h', tk, p', rfl, a2, a3, b1, b2, b3, b4⟩) tree) ?_ fun _ _ e => e)
    rintro ⟨⟨⟩, st'⟩ s' ⟨h', tk, p, rfl, har, hf, c1, c2, c3, c4⟩
    exact fin st' p.toList h' tk (kat_snds rfl har) hf c1 c2 c3 c4
/-- list.sort of things by their own comparison -/
theorem lsort_by {b : Bool} {n : Nat} {kw : List (Str × Value)} {Q : Value → Shared → Prop} {os : Nat → Int} (ha : argsOk "list.sort" ⟨[.ref D], kw⟩) (ht : Builtin.«list.sort» ⟨[.ref D], kw⟩ = revTree D b)
    (F : Fr h₀ L s.heap m) (N : News h₀ L s.heap ((D, W.listOf vs.toArray n) :: rest)) (hna : ∀ p ∈ rest, p.1 ≠ D) (h64 : vs.length < 64)
    (kind : 2 ≤ vs.length → ∀ h (Q : SortKind → Shared → Prop), Fr h₀ L h m → News h₀ L h rest → (∀ κ, (κ = oneType' ∨ κ = general') → Q κ { s with heap := h }) → wpAny (model prog w) A.in1 (keyKind' vs.toArray) Q (fun _ _ => False) { s with heap := h })
    (ask : AsksV prog w A.in1 h₀ L m rest s vs os)
    (done : ∀ h' tk c (p : List Nat), p.Perm (List.range vs.length) → p.Pairwise (SortedBy b os) → Fr h₀ L h' m → News h₀ L h' ((D, W.listOf (p.map fun i => vs.getD i Value.none).toArray c) :: rest) → Q .none { s with heap := h', toks := tk }) :
    wpAny (model prog w) A (call (.builtin "list.sort") [.ref D] kw) Q E s := by
  have nz := N _ (.head _)
  refine wpAny_call_entry_kw slot_list_sort ⟨_, nz.1, rfl⟩ entry_list_sort ?_ ha
  show wpAny (model prog w) A.in1 (Builtin.«list.sort» ⟨[.ref D], kw⟩) _ _ _
  rw [ht]
  exact lsort_tree F (fun p hp => N p (.tail _ hp)) nz.1 nz.2.1 nz.2.2 hna h64 kind ask fun h' tk c p a1 a2 a3 a4 => ⟨_, rfl, done h' tk c p a1 a2 a3 a4⟩
end
end Mine


namespace Mine
section
variable {prog : Program} {w : World} {A : Around} {E : Value → Shared → Prop} {s : Shared} {h₀ : Heap} {L : Addr} {m : Str → Option Value} {rest : List (Addr × Obj)}
theorem news_push_list {h : Heap} {us : List Value} (F : Fr h₀ L h m) (N : News h₀ L h rest) : News h₀ L (h.push (seqObj "list" us.toArray 0)) ((h.objs.size, W.listOf us.toArray 0) :: rest) := fun p hp => by
  rcases List.mem_cons.mp hp with rfl | hp
  · exact ⟨Heap.get?_push_size _ rfl, Nat.ne_of_gt F.ns.lt, Heap.get?_none_of_le (Nat.le_trans F.above (Nat.le_of_lt F.ns.lt))⟩
  · exact ⟨Heap.get?_push_of_some _ (N p hp).1, (N p hp).2⟩
/-- what the key's call must give -/
def KeyPost (h₀ : Heap) (L : Addr) (m : Str → Option Value) (nw : List (Addr × Obj)) (s : Shared) (a b : Int) (k : Value) (s' : Shared) : Prop :=
  ∃ h' tk' T n t u, k = .ref T ∧ s' = { s with heap := h', toks := tk' } ∧ Fr h₀ L h' m ∧ News h₀ L h' ((T, { cls := .type "tuple", data := .seq #[.int a t, .int b u] n }) :: nw) ∧ ∀ p ∈ nw, p.1 ≠ T
/-- sorted of a list of things by their own comparison -/
theorem sorted_list_by {b : Bool} {l : Addr} {vs : List Value} {os : Nat → Int} {kw : List (Str × Value)} {Q : Value → Shared → Prop} (ha : argsOk "sorted" ⟨[.ref l], kw⟩) (ha2 : ∀ x, argsOk "list.sort" ⟨[.ref x], kw⟩) (ht : ∀ x, Builtin.«list.sort» ⟨[.ref x], kw⟩ = revTree x b)
    (F : Fr h₀ L s.heap m) (N : News h₀ L s.heap rest) (hl : s.heap.IsList l vs.toArray) (hn : vs.length < 64)
    (kind : 2 ≤ vs.length → ∀ h (Q : SortKind → Shared → Prop), Fr h₀ L h m → News h₀ L h rest → (∀ κ, (κ = oneType' ∨ κ = general') → Q κ { s with heap := h }) → wpAny (model prog w) A.in1.in1 (keyKind' vs.toArray) Q (fun _ _ => False) { s with heap := h })
    (ask : AsksV prog w A.in1.in1 h₀ L m rest s vs os)
    (done : ∀ h' tk D c (p : List Nat), p.Perm (List.range vs.length) → p.Pairwise (SortedBy b os) → Fr h₀ L h' m → News h₀ L h' ((D, W.listOf (p.map fun i => vs.getD i Value.none).toArray c) :: rest) → (∀ q ∈ rest, q.1 < D) → Q (.ref D) { s with heap := h', toks := tk }) :
    wpAny (model prog w) A (PySem.call (.builtin "sorted") [.ref l] kw) Q E s := by
  refine sorted_open ha (collect_list (A := A.in1) hl ⟨by (first | lia | omega), ?_⟩ (by rw [sizeLine_eq]; (first | lia | omega)))
  have hsz : ((s.heap.push (seqObj "list" #[] 0)).update s.heap.objs.size (Obj.mapSeq (· ++ vs.toArray))).objs.size = s.heap.objs.size + 1 := by
    rw [Heap.size_update, size_push']
  have keep : ∀ b o, s.heap.get? b = some o → ((s.heap.push (seqObj "list" #[] 0)).update s.heap.objs.size (Obj.mapSeq (· ++ vs.toArray))).get? b = some o := fun b o q => by
    have hlt : b < s.heap.objs.size := Heap.lt_size q
    rw [Heap.get?_update_ne _ _ _ _ (Nat.ne_of_lt hlt), Heap.get?_push_ne _ _ _ (Nat.ne_of_lt hlt)]
    exact q
  have F' := F.keeps keep
  have N' := N.grown keep
  generalize (s.heap.push (seqObj "list" #[] 0)).update s.heap.objs.size (Obj.mapSeq (· ++ vs.toArray)) = H at F' N' hsz keep ⊢
  have hlt : ∀ q ∈ rest, q.1 < H.objs.size := fun q hq => Heap.lt_size (N' q hq).1
  exact lsort_by (n := 0) (b := b) (os := os) (s := { s with heap := H.push (seqObj "list" vs.toArray 0) }) (ha2 _) (ht _) (F'.push _) (news_push_list F' N') (fun p hp => Nat.ne_of_lt (hlt p hp)) hn kind ask fun h2 tk2 c p hp hs F2 N2 => done h2 tk2 H.objs.size c p hp hs F2 N2 hlt
end
end Mine


namespace Mine
theorem fill3 : PySem.Challenge.rw_dn0254_12.row.prog = PySem.Challenge.rw_dn0254_12.row.prog ∧ Mine.hd.heap_39 = Mine.hd.heap_39 := by
  w_top off
  k_fill
  exact ⟨rfl, rfl⟩
def OrdV (C : Addr) (es : List DictEntry) (v : Value) : Prop :=
  (C = 52 ∧ getL "handler_order" es = some none ∧ v = .int 500 208) ∨ (C = 73 ∧ getL "handler_order" es = some none ∧ v = .int 1000 254) ∨ ((C = 52 ∨ C = 73) ∧ getL "handler_order" es = some (some v))
def HdV (news : List (Addr × Obj)) (x : Addr) (v : Value) : Prop := ∃ C dx es n, (x, instObj C dx) ∈ news ∧ (dx, dictOf es n) ∈ news ∧ OrdV C es v
section
variable {w : World} {A : Around} {E : Value → Shared → Prop} {s : Shared} {x y L : Addr} {h₀ : Heap} {m : Str → Option Value} {news : List (Addr × Obj)} {v : Value}
theorem find_order (w : World) {C : Addr} {es : List DictEntry} {n : Nat} (hO : OrdV C es v) : findObj (Mine.hd.heap_39 w.params) C (some (dictOf es n)) "handler_order" = some (.value v) := by
  rcases hO with ⟨rfl, h, rfl⟩ | ⟨rfl, h, rfl⟩ | ⟨rfl | rfl, h⟩
  · exact findObj_cls (by k_is) (by k_is) (by k_is) rfl (by decide +kernel) h
  · exact findObj_cls (by k_is) (by k_is) (by k_is) rfl (by decide +kernel) h
  · exact findObj_own (attr := some (.int 500 208)) (by k_is) (by k_is) (by k_is) h
  · exact findObj_own (attr := some (.int 1000 254)) (by k_is) (by k_is) (by k_is) h
theorem hd_cls {C : Addr} {es : List DictEntry} (hO : OrdV C es v) : C = 52 ∨ C = 73 := by
  rcases hO with ⟨rfl, _⟩ | ⟨rfl, _⟩ | ⟨h, _⟩
  · exact .inl rfl
  · exact .inr rfl
  · exact h
theorem hd_ga (w : World) {C : Addr} (h : C = 52 ∨ C = 73) : findIn (Mine.hd.heap_39 w.params) (.ref C) "__getattribute__" = some (some (.builtin "object.__getattribute__")) ∧ mroIn (Mine.hd.heap_39 w.params) C (.type "module") = some false := by
  rcases h with rfl | rfl
  · exact ⟨by k_is, by k_is⟩
  · exact ⟨by k_is, by k_is⟩
theorem get_order {expr : Bool} {Q : Value → Shared → Prop} (F : Fr h₀ L s.heap m) (X : (Mine.hd.heap_39 w.params).In h₀) (N : News h₀ L s.heap news) (H : HdV news x v) (hv : handedIn v = true)
    (h : Q v { s with toks := s.toks + 1 }) : wpAny (model PySem.Challenge.rw_dn0254_12.row.prog w) A (getAttr (.ref x) "handler_order" expr) Q E s := by
  obtain ⟨C, dx, es, n, h1, h2, hO⟩ := H
  exact get_value (X.keeps F.keep) (InstAt.of_news N h1 h2) (hd_ga w (hd_cls hO)).1 (find_order w (n := n) hO) hv h
theorem has_order {Q : Value → Shared → Prop} {tk : Tok} (F : Fr h₀ L s.heap m) (X : (Mine.hd.heap_39 w.params).In h₀) (N : News h₀ L s.heap news) (H : HdV news x v) (hv : handedIn v = true)
    (h : Q (.bool true) s) : wpAny (model PySem.Challenge.rw_dn0254_12.row.prog w) A (call (.builtin "hasattr") [.ref x, .str "handler_order" tk]) Q E s := by
  obtain ⟨C, dx, es, n, h1, h2, hO⟩ := H
  exact hasattr_yes F X (InstAt.of_news N h1 h2) (hd_ga w (hd_cls hO)).1 (hd_ga w (hd_cls hO)).2 (find_order w (n := n) hO) hv h
local macro_rules | `(tactic| walk_at "getAttr ref") => `(tactic| (k_here; (with_reducible show wpAny _ _ (getAttr (Value.ref _) (PySem.Str.ofString "handler_order") _) _ _ _); k_dflt (refine' get_order ?k1 ?k2 ?k3 ?k4 ?k5 ?_; (case k1 => k_asm); (case k2 => k_asm); (case k3 => k_asm); (case k4 => assumption); (case k5 => rfl); k_whole)))
local macro_rules | `(tactic| walk_at "call builtin:hasattr") => `(tactic| (k_here; k_dflt (refine' has_order ?k1 ?k2 ?k3 ?k4 ?k5 ?_; (case k1 => k_asm); (case k2 => k_asm); (case k3 => k_asm); (case k4 => assumption); (case k5 => rfl); k_whole)))
theorem lt_call {Q : Value → Shared → Prop} {p : Program} {loose : List Str} {mean : ExcName → Option Value} {mg mb : Str → Option Value} {dp un : Nat} {gd : Option (List Code)} {cn : Str} {cs : Scope} {a : Addr} {ccd : Value} {cl : List (Str × Addr)} {outer : List Env} {A₀ : Around} {base : Heap} {o o' : Int} {t t' : Tok}
    (B : Below A₀ base outer h₀) (F : Fr h₀ L s.heap m) (X : (Mine.hd.heap_39 w.params).In h₀) (N : News h₀ L s.heap news) (T : Top p loose mean mg mb h₀) (hk : cs.kind = .function) (hx : HdV news x (.int o t)) (hy : HdV news y (.int o' t')) (hd : dp + 1 < recursionLimit) (hu : un + 8 < cLine)
    (ret : ∀ h' tk', Fr h₀ L h' m → News h₀ L h' news → Q (.bool (decide (o < o'))) { s with heap := h', toks := tk' }) :
    wpAny (model PySem.Challenge.rw_dn0254_12.row.prog w) (ktrTop dp un gd cn cs L a ccd cl outer) (call (.ref 49) [.ref x, .ref y]) Q E s := by
  refine wpAny_call ?_
  k_dflt ktr_enter
  k_steps
  exact ret _ _ (by k_asm) (by k_asm)
theorem lt_cmp {Q : Value → Shared → Prop} {p : Program} {loose : List Str} {mean : ExcName → Option Value} {mg mb : Str → Option Value} {dp un : Nat} {gd : Option (List Code)} {cn : Str} {cs : Scope} {a : Addr} {ccd : Value} {cl : List (Str × Addr)} {outer : List Env} {A₀ : Around} {base : Heap} {o o' : Int} {t t' : Tok}
    (B : Below A₀ base outer h₀) (F : Fr h₀ L s.heap m) (X : (Mine.hd.heap_39 w.params).In h₀) (N : News h₀ L s.heap news) (T : Top p loose mean mg mb h₀) (hk : cs.kind = .function) (hx : HdV news x (.int o t)) (hy : HdV news y (.int o' t')) (hd : dp + 1 < recursionLimit) (hu : un + 8 < cLine)
    (ret : ∀ h' tk', Fr h₀ L h' m → News h₀ L h' news → Q (.bool (decide (o < o'))) { s with heap := h', toks := tk' }) :
    wpAny (model PySem.Challenge.rw_dn0254_12.row.prog w) (ktrTop dp un gd cn cs L a ccd cl outer) (compareOp .Lt (.ref x) (.ref y)) Q E s := by
  have c := lt_call (E := E) (Q := W.CmpBack Q) (gd := gd) (cn := cn) (a := a) (ccd := ccd) (cl := cl) B F X N T hk hx hy hd hu ret
  obtain ⟨C, dx, es, n, h1, h2, hO⟩ := hx
  obtain ⟨D, dy, es', n', g1, g2, gO⟩ := hy
  have I := InstAt.of_news N h1 h2
  have J := InstAt.of_news N g1 g2
  refine cmp_ofLt ?_
  have hu' : (ktrTop dp un gd cn cs L a ccd cl outer).units < cLine := by show un < cLine; (first | lia | omega)
  rcases hd_cls hO with rfl | rfl <;> rcases hd_cls gO with rfl | rfl
  · exact lt_inst hu' F X I J.type (.inl rfl) (by k_is) (by k_is) c
  · exact lt_inst hu' F X I J.type (.inr (.inr ⟨_, _, _, _, rfl, rfl, J, by k_is, by k_is, by k_is⟩)) (by k_is) (by k_is) c
  · exact lt_inst hu' F X I J.type (.inr (.inl (by k_is))) (by k_is) (by k_is) c
  · exact lt_inst hu' F X I J.type (.inl rfl) (by k_is) (by k_is) c
end
section
variable {Mo : Model} {A : Around} {E : Value → Shared → Prop} {s : Shared}
theorem mapM_by {α β : Type} {f : α → Sem β} (g : α → β) : ∀ (l : List α) {Q : List β → Shared → Prop}, (∀ v ∈ l, ∀ (Q' : β → Shared → Prop), Q' (g v) s → wpAny Mo A (f v) Q' E s) → Q (l.map g) s → wpAny Mo A (l.mapM f) Q E s
  | [], _, _, h => by rw [List.mapM_nil]; exact wpAny_pure h
  | x :: l, Q, hf, h => by
    rw [List.mapM_cons]
    exact wpAny_bind (hf x (.head _) _ (wpAny_bind (mapM_by g l (Q := fun bs s' => wpAny Mo A (pure (g x :: bs)) Q E s') (fun v hv => hf v (.tail _ hv)) (wpAny_pure h))))
theorem kind_refs {vs : List Value} {Q : SortKind → Shared → Prop} (h2 : 2 ≤ vs.length) (hT : ∀ v ∈ vs, ∃ a, Looks Mo s.heap (typeOf v) (.ref a)) (hQ : ∀ κ, (κ = oneType' ∨ κ = general') → Q κ s) : wpAny Mo A (keyKind' vs.toArray) Q E s := by
  obtain ⟨v₁, rest, rfl⟩ : ∃ v₁ rest, vs = v₁ :: rest := by
    match vs, h2 with
    | [], h2 => simp at h2
    | v₁ :: rest, _ => exact ⟨v₁, rest, rfl⟩
  rw [keyKind'_eq, List.mapM_toArray, map_eq_pure_bind]
  refine wpAny_bind (wpAny_bind (mapM_by (fun _ => none) _ (fun v hv Q' hq => ?_) (wpAny_pure ?_)))
  · rw [kas_first_eq]
    obtain ⟨a, ha⟩ := hT v hv
    refine wpAny_bind (ha.here ?_)
    rw [if_pos (by simp)]
    exact wpAny_pure hq
  · rw [if_neg (by simp), if_neg (by simp)]
    rw [oneTypeOnly'_eq, List.mapM_toArray, map_eq_pure_bind]
    classical
    let g : Value → Value := fun v => if h : ∃ a, Looks Mo s.heap (typeOf v) (.ref a) then .ref (Classical.choose h) else .none
    refine wpAny_bind (wpAny_bind (wpAny_bind (mapM_by g _ (fun v hv Q' hq => ?_) (wpAny_pure ?_))))
    · have hv' := hT v hv
      have e : g v = .ref (Classical.choose hv') := by show (if h : _ then _ else _) = _; rw [dif_pos hv']
      rw [e] at hq
      exact (Classical.choose_spec hv').here hq
    · have fin : ∀ o : Option Value, wpAny Mo A (pure (if o.isSome then oneType' else general') : Sem SortKind) Q E s := fun o => wpAny_pure (hQ _ (by cases o <;> simp))
      split
      · exact wpAny_pure (fin _)
      · exact wpAny_pure (fin _)
end
section
variable {w : World} {E : Value → Shared → Prop} {s : Shared} {L : Addr} {h₀ : Heap} {m : Str → Option Value} {rest : List (Addr × Obj)}
theorem lt_key {κ : SortKind} {x y : Addr} {news : List (Addr × Obj)} {Q : Bool → Shared → Prop} {p : Program} {loose : List Str} {mean : ExcName → Option Value} {mg mb : Str → Option Value} {dp un : Nat} {gd : Option (List Code)} {cn : Str} {cs : Scope} {a : Addr} {ccd : Value} {cl : List (Str × Addr)} {outer : List Env} {A₀ : Around} {base : Heap} {o o' : Int} {t t' : Tok}
    (hκ : κ = oneType' ∨ κ = general') (B : Below A₀ base outer h₀) (F : Fr h₀ L s.heap m) (X : (Mine.hd.heap_39 w.params).In h₀) (N : News h₀ L s.heap news) (T : Top p loose mean mg mb h₀) (hk : cs.kind = .function) (hx : HdV news x (.int o t)) (hy : HdV news y (.int o' t')) (hd : dp + 1 < recursionLimit) (hu : un + 8 < cLine)
    (ret : ∀ h' tk', Fr h₀ L h' m → News h₀ L h' news → Q (decide (o < o')) { s with heap := h', toks := tk' }) :
    wpAny (model PySem.Challenge.rw_dn0254_12.row.prog w) (ktrTop dp un gd cn cs L a ccd cl outer) (keyLt' κ (.ref x) (.ref y)) Q E s := by
  rcases hκ with rfl | rfl
  · have c := lt_call (E := E) (Q := W.BoolBack Q) (gd := gd) (cn := cn) (a := a) (ccd := ccd) (cl := cl) B F X N T hk hx hy hd hu ret
    obtain ⟨C, dx, es, n, h1, h2, hO⟩ := hx
    have I := InstAt.of_news N h1 h2
    have hu' : (ktrTop dp un gd cn cs L a ccd cl outer).units < cLine := by show un < cLine; (first | lia | omega)
    rcases hd_cls hO with rfl | rfl
    · exact kas_lt_inst hu' F X I (by k_is) (by k_is) c
    · exact kas_lt_inst hu' F X I (by k_is) (by k_is) c
  · exact kat_one _ _ (lt_cmp (E := E) (Q := W.BoolBack Q) (gd := gd) (cn := cn) (a := a) (ccd := ccd) (cl := cl) B F X N T hk hx hy hd hu ret)
theorem ask12 {rest : List (Addr × Obj)} {xs : Nat → Nat} {os : Nat → Int} {len : Nat} {p : Program} {loose : List Str} {mean : ExcName → Option Value} {mg mb : Str → Option Value} {dp un : Nat} {gd : Option (List Code)} {cn : Str} {cs : Scope} {a : Addr} {ccd : Value} {cl : List (Str × Addr)} {outer : List Env} {A₀ : Around} {base : Heap}
    (B : Below A₀ base outer h₀) (X : (Mine.hd.heap_39 w.params).In h₀) (T : Top p loose mean mg mb h₀) (hk : cs.kind = .function) (hd : dp + 1 < recursionLimit) (hu : un + 8 < cLine) (hm : ∀ i, i < len → ∃ t, HdV rest (xs i) (.int (os i) t)) :
    AsksV PySem.Challenge.rw_dn0254_12.row.prog w (ktrTop dp un gd cn cs L a ccd cl outer) h₀ L m rest s ((List.range len).map fun k => Value.ref (xs k)) os := by
  intro κ hκ nw h tk i j C hsub hi hj F N ret
  have hl : ((List.range len).map fun k => Value.ref (xs k)).length = len := by rw [List.length_map, List.length_range]
  rw [hl] at hi hj
  have hg : ∀ k, k < len → ((List.range len).map fun k => Value.ref (xs k)).getD k Value.none = .ref (xs k) := fun k hk => by
    rw [List.getD_eq_getElem?_getD, List.getElem?_map, List.getElem?_range hk]; rfl
  rw [hg i hi, hg j hj]
  obtain ⟨t, ht⟩ := hm i hi
  obtain ⟨u, hu'⟩ := hm j hj
  have mono : ∀ {x v}, HdV rest x v → HdV nw x v := fun {x v} ⟨C, dx, es, n, h1, h2, h3⟩ => ⟨C, dx, es, n, hsub _ h1, hsub _ h2, h3⟩
  exact lt_key (s := { s with heap := h, toks := tk }) hκ B F X N T hk (mono ht) (mono hu') hd hu fun h' tk' F' N' => ret h' tk' F' N'
theorem kind12 {rest : List (Addr × Obj)} {xs : Nat → Nat} {os : Nat → Int} {len : Nat} {A : Around} (hm : ∀ i, i < len → ∃ t, HdV rest (xs i) (.int (os i) t)) : 2 ≤ ((List.range len).map fun k => Value.ref (xs k)).length → ∀ h (Q : SortKind → Shared → Prop), Fr h₀ L h m → News h₀ L h rest → (∀ κ, (κ = oneType' ∨ κ = general') → Q κ { s with heap := h }) → wpAny (model PySem.Challenge.rw_dn0254_12.row.prog w) A (keyKind' ((List.range len).map fun k => Value.ref (xs k)).toArray) Q (fun _ _ => False) { s with heap := h } := by
  intro h2 h Q _ N hQ
  refine kind_refs h2 (fun v hv => ?_) hQ
  obtain ⟨k, hk, rfl⟩ := List.mem_map.mp hv
  obtain ⟨t, C, dx, es, n, h1, h3, _⟩ := hm k (List.mem_range.mp hk)
  exact ⟨_, (InstAt.of_news N h1 h3).type⟩
end
end Mine


namespace Mine
theorem fill4 : PySem.Challenge.rw_dn0254_12.row.prog = PySem.Challenge.rw_dn0254_12.row.prog ∧ Mine.hd.heap_39 = Mine.hd.heap_39 := by
  w_top off
  k_fill
  exact ⟨rfl, rfl⟩
def sel4 (k a b c d : Int) : Int := if k = 0 then a else if k = 1 then b else if k = 2 then c else d
def addd (m : Int) : Int := sel4 ((m.fdiv 8).fmod 4) 100 (-100) 7 50
def ordr (n : Int) : Int := if (n.fdiv 4).fmod 2 = 0 then (if n.fmod 4 = 1 then 1000 else 500) else sel4 (((n.fdiv 4).fdiv 2).fmod 4) 499 500 (n.fdiv 4) 1000
theorem item_tup4g {prog : Program} {w : World} {A : Around} {E : Value → Shared → Prop} {s : Shared} {h₀ : Heap} {L l : Addr} {news : List (Addr × Obj)} {value slice : PySem.Expr} {k a1 a2 a3 a4 : Int} {t1 t2 t3 t4 u : Tok} {n : Nat} {Q : Value → Shared → Prop} (N : News h₀ L s.heap news)
    (hl : (l, { cls := .type "tuple", data := .seq #[.int a1 t1, .int a2 t2, .int a3 t3, .int a4 t4] n }) ∈ news) (h0 : 0 ≤ k) (h1 : k < 4) (h : ∀ t, Q (.int (sel4 k a1 a2 a3 a4) t) s)
    (hs : subscripted slice false (.ref l) (.int k u) = operate [.ref l, .int k u] (getItem (.ref l) (.int k u)) := by with_unfolding_all rfl) :
    wpAny (model prog w) A (subscriptTail value slice (.ref l) (.int k u)) Q E s := by
  have hT : IsTup s.heap l ([.int a1 t1, .int a2 t2, .int a3 t3, .int a4 t4] : List Value).toArray := ⟨_, (N _ hl).1, rfl, _, rfl⟩
  have e : k = 0 ∨ k = 1 ∨ k = 2 ∨ k = 3 := by (first | lia | omega)
  rcases e with rfl | rfl | rfl | rfl
  · exact item_tupleT (j := 0) hT (by decide) (by decide) rfl rfl (h _) hs
  · exact item_tupleT (j := 1) hT (by decide) (by decide) rfl rfl (h _) hs
  · exact item_tupleT (j := 2) hT (by decide) (by decide) rfl rfl (h _) hs
  · exact item_tupleT (j := 3) hT (by decide) (by decide) rfl rfl (h _) hs
section
variable {w : World} {E : Value → Shared → Prop} {s : Shared} {L : Addr} {h₀ : Heap} {m : Str → Option Value}
local macro_rules | `(tactic| keq_rows) => `(tactic| first | (k_unfold; (try dsimp only)) | walk1 | (dsimp only; walk1))
local macro_rules | `(tactic| kwd_less) => `(tactic| repeat' keq_rows)
local macro_rules | `(tactic| walk_at "subscriptTail") => `(tactic| (k_here; k_dflt (refine' item_tup4g ?N ?m ?lo ?hi ?q; (case N => k_asm); (case m => exact List.mem_cons_self); (case lo => exact Int.fmod_nonneg_of_pos _ (by decide)); (case hi => exact Int.fmod_lt_of_pos _ (by decide))); intro t'))
theorem added12 {Q : Value → Shared → Prop} {p : Program} {loose : List Str} {mean : ExcName → Option Value} {mg mb : Str → Option Value} {dp un : Nat} {gd : Option (List Code)} {env : Env} {outer : List Env} {A₀ : Around} {base : Heap} {z : Int} {tz : Tok} {news : List (Addr × Obj)}
    (B : Below A₀ base outer h₀) (F : Fr h₀ L s.heap m) (X : (Mine.hd.heap_39 w.params).In h₀) (N : News h₀ L s.heap news) (T : Top p loose mean mg mb h₀) (hf : env.frame = some L) (hke : env.scope.kind = .function) (hd : dp + 10 < recursionLimit) (hu : un + 100 < cLine)
    (ret : ∀ h' tk' t', Fr h₀ L h' m → News h₀ L h' news → Q (.int (addd z) t') { s with heap := h', toks := tk' }) :
    wpAny (model PySem.Challenge.rw_dn0254_12.row.prog w) (ktrAny dp un gd env outer) (call (.ref 137) [.int z tz]) Q E s := by
  refine wpAny_call ?_
  k_dflt (refine' code_def ?k1 ?k2 ?k3 ?k4 ?k5 ?kA ?kF ?kK ?k6 ?k7 ?k8 ?k9 ?kB ?_ ?c2 ?c3 ?c4 ?c5; (case kA => exact rfl); (case kF => assumption); (case kK => assumption); (case k1 => k_asm); (case k2 => k_asm); (case k3 => k_asm); (case k4 => k_asm); (case k5 => k_asm); (case k6 => k_is); (case k7 => k_is); (case k8 => (show dp < recursionLimit; (first | lia | omega))); (case k9 => exact BindsTo.of_eq rfl); (case c5 => decide); (case kB => exact locs rfl); (case c2 => exact rfl); (case c3 => exact rfl); (case c4 => exact rfl); k_whole; intro g' L' h' FG' F' N' B' X' T'; (try dsimp only); (try k_fold))
  kwd_less
  rename Fr h₀ _ _ m => F9
  rename News h₀ _ _ _ => N9
  exact ret _ _ _ F9 (fun p hp => N9 p (.tail _ hp))
theorem order12 {Q : Value → Shared → Prop} {p : Program} {loose : List Str} {mean : ExcName → Option Value} {mg mb : Str → Option Value} {dp un : Nat} {gd : Option (List Code)} {env : Env} {outer : List Env} {A₀ : Around} {base : Heap} {z : Int} {tz : Tok} {news : List (Addr × Obj)}
    (B : Below A₀ base outer h₀) (F : Fr h₀ L s.heap m) (X : (Mine.hd.heap_39 w.params).In h₀) (N : News h₀ L s.heap news) (T : Top p loose mean mg mb h₀) (hf : env.frame = some L) (hke : env.scope.kind = .function) (hd : dp + 10 < recursionLimit) (hu : un + 100 < cLine)
    (ret : ∀ h' tk' t', Fr h₀ L h' m → News h₀ L h' news → Q (.int (ordr z) t') { s with heap := h', toks := tk' }) :
    wpAny (model PySem.Challenge.rw_dn0254_12.row.prog w) (ktrAny dp un gd env outer) (call (.ref 144) [.int z tz]) Q E s := by
  refine wpAny_call ?_
  k_dflt (refine' code_def ?k1 ?k2 ?k3 ?k4 ?k5 ?kA ?kF ?kK ?k6 ?k7 ?k8 ?k9 ?kB ?_ ?c2 ?c3 ?c4 ?c5; (case kA => exact rfl); (case kF => assumption); (case kK => assumption); (case k1 => k_asm); (case k2 => k_asm); (case k3 => k_asm); (case k4 => k_asm); (case k5 => k_asm); (case k6 => k_is); (case k7 => k_is); (case k8 => (show dp < recursionLimit; (first | lia | omega))); (case k9 => exact BindsTo.of_eq rfl); (case c5 => decide); (case kB => exact locs rfl); (case c2 => exact rfl); (case c3 => exact rfl); (case c4 => exact rfl); k_whole; intro g' L' h' FG' F' N' B' X' T'; (try dsimp only); (try k_fold))
  kwd_less
  · rename Fr h₀ _ _ m => F9
    rename News h₀ _ _ _ => N9
    have e : ordr z = sel4 (((z.fdiv 4).fdiv 2).fmod 4) 499 500 (z.fdiv 4) 1000 := by unfold ordr; rw [if_neg (by assumption)]
    rw [e] at ret
    exact ret _ _ _ F9 (fun p hp => N9 p (.tail _ hp))
  · rename Fr h₀ _ _ m => F9
    rename News h₀ _ _ _ => N9
    have e : ordr z = 1000 := by unfold ordr; rw [if_pos (by assumption), if_pos (by assumption)]
    rw [e] at ret
    exact ret _ _ _ F9 N9
  · rename Fr h₀ _ _ m => F9
    rename News h₀ _ _ _ => N9
    have e : ordr z = 500 := by unfold ordr; rw [if_pos (by assumption), if_neg (by assumption)]
    rw [e] at ret
    exact ret _ _ _ F9 N9
end
end Mine


namespace Mine
/-- a new exception, as it flies first -/
structure NewE (h h' : Heap) (e : Addr) (cls : String) : Prop where
  keeps : ∀ b o, h.get? b = some o → h'.get? b = some o
  new : h.get? e = none
  there : ∃ ob vs a0, h'.get? e = some ob ∧ ob.cls = .type cls ∧ ob.data = .fields vs ∧ vs[1]? = some .none ∧ vs[0]? = some a0
section
variable {prog : Program} {w : World} {A : Around} {E : Value → Shared → Prop} {s : Shared} {K : Frag} {x C L f : Addr} {h₀ : Heap} {m : Str → Option Value} {ox : Obj} {od : Option Obj}
theorem name_cut {Q : String → Shared → Prop} (X : K.In s.heap) (I : W.InstAt s.heap x ox C od) (hn : nameIn K C = true) (h : ∀ n : String, n.length ≤ 100 → Q n s) : wpAny (model prog w) A (typeNameOfCut 100 (.ref x)) Q E s := by
  obtain ⟨cd, hc, hb⟩ := any_some hn
  simp only [Bool.and_eq_true, decide_eq_true_eq] at hb
  unfold PySem.typeNameOfCut PySem.shownTypeOf
  refine wpAny_bind (wpAny_bind (I.type.here ?_))
  simp only [show (Value.ref C == Value.type "builtin_function_or_method") = false from rfl, Bool.false_eq_true, if_false]
  refine wpAny_pure ?_
  unfold PySem.typeNameCut
  refine wpAny_bind ((looks_clsIn X hc).here ?_)
  dsimp only
  rw [if_pos (by (first | lia | omega))]
  exact wpAny_pure (h _ hb.2)
theorem missMsg {n : String} {name : Str} (hp : n.length ≤ 100) (hn : name.length ≤ 100) : ((Str.ofString s!"'{n}' object has no attribute '") ++ name ++ Str.ofString "'").length ≤ sizeLine := by
  rw [strLen_append, strLen_append, PySem.ofString_length, PySem.ofString_length, sizeLine_eq]
  simp only [String.length_append, toString]
  have e1 : "'".length ≤ 100 := by decide
  have e2 : "' object has no attribute '".length ≤ 100 := by decide
  (first | lia | omega)
theorem findObj_miss {od : Obj} {name : Str} (hh : hasDictIn K C = true) (ha : findIn K (.ref C) name = some none) (hc : copiedNames.contains name = false) (hl : lookIn name od = some none) :
    findObj K C (some od) name = some .missing := by
  obtain ⟨cd, hc', hd⟩ := any_some hh
  unfold findObj
  have ho : W.ownOf cd (some od) name = some none := by unfold W.ownOf; rw [if_pos hd]; exact hl
  rw [hc', Option.bind_some, ha, Option.bind_some]
  simp only [Option.bind_some, ho, hc, Bool.false_and, Bool.false_eq_true, if_false]
end
section
variable {M : Model} {A : Around} {E : Value → Shared → Prop} {s' : Shared} {base g g₂ h : Heap} {outer : List Env} {L a e t : Addr} {m : Str → Option Value} {name : Str} {scope : Scope} {cd : Value} {Q : Unit → Shared → Prop} {news : List (Addr × Obj)}
end
section
variable {prog : Program} {w : World} {A₀ : Around} {E : Value → Shared → Prop} {s s' : Shared} {h₀ h : Heap} {outer : List Env} {L a e : Addr} {m : Str → Option Value} {name : Str} {scope : Scope} {cd : Value}
  {b₀ : Stmt} {suite : List Stmt} {pos np : Pos} {rest hs : List ExceptHandler} {Q : Flow → Shared → Prop} {news : List (Addr × Obj)}
  {p : Program} {loose : List Str} {mean : ExcName → Option Value} {mg mb : Str → Option Value} {x : Str} {X T' : String}
/-- an exception that has come to a try statement's handlers -/
def Held (h₀ : Heap) (L : Addr) (m : Str → Option Value) (news : List (Addr × Obj)) (l : List Env) (e : Addr) (X : String) (h : Heap) : Prop :=
  Fr h₀ L h m ∧ ∃ B a0, h₀.StaysIn B ∧ B.get? L = none ∧ (∀ q ∈ news, B.get? q.1 = some q.2 ∧ h₀.get? q.1 = none) ∧ Heap.FlyingW B l e (.type X) a0 h
end
end Mine


namespace Mine
theorem small_size {n : Nat} (h : n ≤ 2 ^ 20) : n ≤ sizeLine := Nat.le_trans h lineBig
theorem get_sym {K : Frag} {prog : Program} {w : World} {A : Around} {E : Value → Shared → Prop} {s : Shared} {x C dx L : Addr} {h₀ : Heap} {m : Str → Option Value} {news : List (Addr × Obj)} {es : List DictEntry} {n : Nat} {name : Str} {v : Value} {expr : Bool} {Q : Value → Shared → Prop} {attr : Option Value}
    (F : Fr h₀ L s.heap m) (X₀ : K.In h₀) (N : News h₀ L s.heap news) (h1 : (x, instObj C dx) ∈ news) (h2 : (dx, dictOf es n) ∈ news) (hl : getL name es = some (some v)) (hg : plainGet K C name = true) (hh : hasDictIn K C = true)
    (ha : findIn K (.ref C) name = some attr) (hn : noGet K attr = true) (hv : handedIn v = true) (h : Q v { s with toks := s.toks + 1 }) :
    wpAny (model prog w) A (getAttr (.ref x) name expr) Q E s := get_own F X₀ (InstAt.of_news N h1 h2) hg hh ha hn hl hv h
theorem add_led {prog : Program} {w : World} {A : Around} {E : Value → Shared → Prop} {s : Shared} {h₀ : Heap} {L a b : Addr} {m : Str → Option Value} {news : List (Addr × Obj)} {vs us : List Value} {n n' : Nat} {Q : Value → Shared → Prop}
    (F : Fr h₀ L s.heap m) (N : News h₀ L s.heap news) (ha : (a, W.listOf vs.toArray n) ∈ news) (hb : (b, W.listOf us.toArray n') ∈ news) (hz : vs.length + us.length ≤ 2 ^ 20)
    (h : ∀ D h', Fr h₀ L h' m → News h₀ L h' ((D, W.listOf (vs ++ us).toArray 0) :: news) → (∀ p ∈ news, p.1 < D) → Q (.ref D) { s with heap := h' }) : wpAny (model prog w) A (binaryOp .Add (.ref a) (.ref b)) Q E s :=
  kmk_add_lit F N (News.isList N ha) (News.isList N hb) (by simp) h (by simpa using small_size hz)
inductive All2 {α β : Type} (R : α → β → Prop) : List α → List β → Prop
  | nil : All2 R [] []
  | cons {a b as bs} : R a b → All2 R as bs → All2 R (a :: as) (b :: bs)
theorem All2.mono {α β : Type} {R S : α → β → Prop} (h : ∀ a b, R a b → S a b) {as : List α} {bs : List β} (x : All2 R as bs) : All2 S as bs := by
  induction x with
  | nil => exact .nil
  | cons a _ ih => exact .cons (h _ _ a) ih
theorem All2.snoc {α β : Type} {R : α → β → Prop} {a : α} {b : β} (r : R a b) {as : List α} {bs : List β} (x : All2 R as bs) : All2 R (as ++ [a]) (bs ++ [b]) := by
  induction x with
  | nil => exact .cons r .nil
  | cons q _ ih => exact .cons q ih
theorem All2.len {α β : Type} {R : α → β → Prop} {as : List α} {bs : List β} (x : All2 R as bs) : as.length = bs.length := by
  induction x with
  | nil => rfl
  | cons _ _ ih => simp [ih]
end Mine


namespace Mine
theorem fill5 : PySem.Challenge.rw_dn0254_12.row.prog = PySem.Challenge.rw_dn0254_12.row.prog ∧ Mine.hd.heap_39 = Mine.hd.heap_39 := by
  w_top off
  k_fill
  exact ⟨rfl, rfl⟩
/-- the request: a thing with a list of signs -/
def Req (tl : List (Addr × Obj)) (rq sg : Nat) : Prop := ∃ (dq nq : Nat) (eq : List DictEntry), (rq, instObj 52 dq) ∈ tl ∧ (dq, dictOf eq nq) ∈ tl ∧ getL "signs" eq = some (some (.ref sg))
section
variable {w : World} {E : Value → Shared → Prop} {s : Shared} {L : Addr} {h₀ : Heap} {m : Str → Option Value}
local macro_rules | `(tactic| keq_rows) => `(tactic| first | (k_unfold; (try dsimp only)) | walk1 | (dsimp only; walk1))
local macro_rules | `(tactic| k_mem) => `(tactic| (first | with_reducible assumption | with_reducible exact List.mem_cons_self | (with_reducible refine List.mem_cons_of_mem _ ?_; k_mem)))
local macro_rules | `(tactic| ktr_room) => `(tactic| ((simp only [depth_mark, depth_in1, depth_deeper]); (try dsimp only [ktrAny]); omega))
local macro_rules | `(tactic| k_room) => `(tactic| ktr_room)
local macro_rules | `(tactic| ktr_rel) => `(tactic| ((simp only [units_deeper, units_in1]); (try dsimp only [ktrAny]); omega))
local macro_rules | `(tactic| walk_at "getAttr ref") => `(tactic| (k_here; k_dflt (refine' get_sym ?k1 ?k2 ?k3 ?k4 ?k5 ?k6 ?k7 ?k8 ?k9 ?ka ?kb ?_; (case k1 => k_asm); (case k2 => k_asm); (case k3 => k_asm); (case k4 => k_mem); (case k5 => k_mem); (case k6 => assumption); (case k7 => k_is); (case k8 => k_is); (case k9 => k_is); (case ka => k_is); (case kb => first | rfl | assumption); k_whole)))
local macro_rules | `(tactic| walk_at "call builtin:list.append") => `(tactic| (k_here; (with_reducible show wpAny _ _ (call (Value.builtin _) [Value.ref _, _]) _ _ _); k_dflt (refine' append_led ?F ?N ?z ?U ?_; (case F => k_asm); (case N => k_asm); (case U => k_upd); (case z => assumption)); intro h' F' N'))
local macro_rules | `(tactic| walk_at "getMethod ref") => `(tactic| (k_here; (first | (with_reducible show wpAny _ _ (getMethod (Value.ref _) (PySem.Str.ofString "add_cookie_header") _) _ _ _) | (with_reducible show wpAny _ _ (getMethod (Value.ref _) (PySem.Str.ofString "extract_cookies") _) _ _ _) | (with_reducible show wpAny _ _ (getMethod (Value.ref _) (PySem.Str.ofString "info") _) _ _ _) | (with_reducible show wpAny _ _ (getMethod (Value.ref _) (PySem.Str.ofString "error") _) _ _ _)); k_dflt (refine' method_usual (r := none) ?k1 (InstAt.of_news (by k_asm) (by k_mem) (by k_mem)) ?k4 ?k5 ?k6 ?k7 ?_; (case k1 => (refine' Frag.In.keeps ?x1 (Fr.keep ?x2); (case x2 => k_asm); (case x1 => k_asm))); (case k4 => k_is); (case k5 => k_is); (case k6 => k_is); (case k7 => rfl); k_whole)))
local macro_rules | `(tactic| kwd_less) => `(tactic| repeat' keq_rows)
theorem ask0 {Q : Value → Shared → Prop} {p : Program} {loose : List Str} {mean : ExcName → Option Value} {mg mb : Str → Option Value} {dp un : Nat} {gd : Option (List Code)} {env : Env} {outer : List Env} {A₀ : Around} {base : Heap} {tl : List (Addr × Obj)} {b : List Stmt} {scope : Scope} {i : Int} {ti : Tok} {f c k rq sg n : Nat} {ok oc : Obj} {dc ct : Value} {signs : List Value}
    (hdef : Def12 w 123 "_law_signer" b scope) (B : Below A₀ base outer h₀) (F : Fr h₀ L s.heap m) (X : (Mine.hd.heap_39 w.params).In h₀) (T : Top p loose mean mg mb h₀) (hf : env.frame = some L) (hke : env.scope.kind = .function) (hC : CodeHd h₀ 115 111) (hd : dp + 20 < recursionLimit) (hu : un + 200 < cLine) (N : News h₀ L s.heap ((sg, W.listOf signs.toArray n) :: tl)) (ho : OwnOff tl [sg]) (hfm : (f, askAt b c dc ((mg "__name__").getD .none) k ct) ∈ tl) (hcm : (c, oc) ∈ tl) (hkm : (k, ok) ∈ tl) (hcd : CodeOf ok "_law_signer.<locals>._law_ask") (hoc : oc.data = .cell (some (.int i ti))) (hr : Req tl rq sg) (hz : signs.length ≤ 2 ^ 20)
    (ret : ∀ h' tk' n' t', Fr h₀ L h' m → News h₀ L h' ((sg, W.listOf (signs ++ [Value.int i t']).toArray n') :: tl) → Q (.ref rq) { s with heap := h', toks := tk' }) :
    wpAny (model PySem.Challenge.rw_dn0254_12.row.prog w) (ktrAny dp un gd env outer) (call (.ref f) [.ref rq]) Q E s := by
  obtain ⟨oc', od, params, dV, kV, doc, pm, cdv, ct', an, osl, hbody⟩ := hdef
  k_dflt (refine' lookup_same hbody ?k6 ?_; (case k6 => k_is))
  intro hbe hse
  rw [hbe] at hfm
  dsimp only [askAt, List.getElem?_cons_zero, List.getElem?_cons_succ] at hfm
  clear hbody hbe hse
  obtain ⟨vk, tk, d1, d2⟩ := hcd
  obtain ⟨dq, nq, eq, r1, r2, r3⟩ := hr
  refine wpAny_call ?_
  k_dflt (refine' code_nest ?k1 ?k2 ?k3 ?k4 ?k5 ?kA ?kF ?kK ?k6 ?k7 ?k8 ?k9 ?kB ?_ ?c2 ?c3 ?c4 ?c5; (case kA => exact rfl); (case kF => assumption); (case kK => assumption); (case k1 => k_asm); (case k2 => k_asm); (case k3 => k_asm); (case k4 => k_asm); (case k5 => k_asm); (case k6 => exact .tail _ hfm); (case k7 => exact codeRec_news N (.tail _ hkm) d1 d2); (case k8 => k_room); (case k9 => exact BindsTo.of_eq rfl); (case c5 => decide); (case kB => exact locs rfl); (case c2 => exact rfl); (case c3 => exact rfl); (case c4 => exact rfl); k_whole; intro g' L' h' FG' F' N' B' X' T'; (try dsimp only); (try k_lift B'); (try k_fold))
  have hC' := hC.keeps FG'.keep
  kwd_less
  rename Fr h₀ _ _ m => F9
  rename News h₀ _ _ _ => N9
  exact ret _ _ _ _ F9 N9
theorem ask2 {Q : Value → Shared → Prop} {p : Program} {loose : List Str} {mean : ExcName → Option Value} {mg mb : Str → Option Value} {dp un : Nat} {gd : Option (List Code)} {env : Env} {outer : List Env} {A₀ : Around} {base : Heap} {tl : List (Addr × Obj)} {b : List Stmt} {scope : Scope} {i : Int} {x d nx f rq sg n : Nat} {es : List DictEntry} {signs : List Value}
    (hdef : Def12 w 130 "_law_cookies" b scope) (B : Below A₀ base outer h₀) (F : Fr h₀ L s.heap m) (X : (Mine.hd.heap_39 w.params).In h₀) (T : Top p loose mean mg mb h₀) (hf : env.frame = some L) (hke : env.scope.kind = .function) (hC : CodeHd h₀ 115 111) (hd : dp + 20 < recursionLimit) (hu : un + 200 < cLine) (N : News h₀ L s.heap ((sg, W.listOf signs.toArray n) :: tl)) (ho : OwnOff tl [sg]) (hx : (x, instObj 52 d) ∈ tl) (hdx : (d, dictOf es nx) ∈ tl) (hck : CookT b ((mg "__name__").getD .none) i x tl es) (hr : Req tl rq sg) (hz : signs.length ≤ 2 ^ 20) (hfe : getL "http_request" es = some (some (.ref f)))
    (ret : ∀ h' tk' n' t', Fr h₀ L h' m → News h₀ L h' ((sg, W.listOf (signs ++ [Value.int (-1 - i) t']).toArray n') :: tl) → Q (.ref rq) { s with heap := h', toks := tk' }) :
    wpAny (model PySem.Challenge.rw_dn0254_12.row.prog w) (ktrAny dp un gd env outer) (call (.ref f) [.ref rq]) Q E s := by
  obtain ⟨oc', od, params, dV, kV, doc, pm, cdv, ct', an, osl, hbody⟩ := hdef
  k_dflt (refine' lookup_same hbody ?k6 ?_; (case k6 => k_is))
  intro hbe hse
  obtain ⟨jar, jd, jn, f1, f2, f3, f4, c1, c2, k1, k2, k3, k4, jes, ok1, ok2, ok3, ok4, oc1, oc2, dc1, dc2, ct1, ct2, ct3, ct4, ti, x1, x2, x3, x4, x5, x6, x7, x8, y1, y2, y3, y4, z1, z2, z3, z4, u1, u2, u3, u4, u5, u6, u7⟩ := hck
  rw [hbe] at x3 x5
  dsimp only [addAt, reqAt, List.getElem?_cons_zero, List.getElem?_cons_succ] at x3 x5
  clear hbody hbe hse x4 x6 y2 y4 z2 z4
  obtain rfl : f = f3 := by rw [u6] at hfe; injection hfe with e; injection e with e; injection e with e; exact e.symm
  have hfm := x5
  have hkm := y3
  obtain ⟨vk, tk, d1, d2⟩ := z3
  obtain ⟨vk1, tk1, d11, d12⟩ := z1
  obtain ⟨dq, nq, eq, r1, r2, r3⟩ := hr
  refine wpAny_call ?_
  k_dflt (refine' kla_code ?k1 ?k2 ?k3 ?k4 ?k5 ?kA ?kF ?kK ?k6 ?k7 ?k8 ?k9 ?kB ?_ ?c2 ?c3 ?c4 ?c5; (case kA => exact rfl); (case kF => assumption); (case kK => assumption); (case k1 => k_asm); (case k2 => k_asm); (case k3 => k_asm); (case k4 => k_asm); (case k5 => k_asm); (case k6 => exact .tail _ hfm); (case k7 => exact codeRec_news N (.tail _ hkm) d1 d2); (case k8 => k_room); (case k9 => exact rfl); (case c5 => decide); (case kB => exact locs rfl); (case c2 => exact rfl); (case c3 => exact rfl); (case c4 => exact rfl); k_whole; intro g' L' h' FG' F' N' B' X' T'; (try dsimp only); (try k_lift B'); (try k_fold))
  have hC' := hC.keeps FG'.keep
  kwd_less
  rename Fr h₀ _ _ m => F9
  rename News h₀ _ _ _ => N9
  exact ret _ _ _ _ F9 N9
end
end Mine


namespace Mine
theorem fill6 : PySem.Challenge.rw_dn0254_12.row.prog = PySem.Challenge.rw_dn0254_12.row.prog ∧ Mine.hd.heap_39 = Mine.hd.heap_39 := by
  w_top off
  k_fill
  exact ⟨rfl, rfl⟩
def TabP (tabo : Array Value) (tl : List (Addr × Obj)) : Prop := tabo = #[] ∨ ∃ (kl : Nat) (okl : Obj), tabo = tabP kl ∧ (kl, okl) ∈ tl ∧ CodeOf okl "_law_page.<locals>.<lambda>"
/-- a page: all but its dict lies in tl -/
def Pg12 (b : List Stmt) (pn : Value) (tl : List (Addr × Obj)) (pg dp : Nat) (ep : List DictEntry) (c : Int) (wd : Str) (hs : List Int) : Prop := ∃ (fl cf hda nh kl : Nat) (ocf okl : Obj) (ct : Value) (tc tw : Tok) (hv : List Value),
  (pg, instObj 52 dp) ∈ tl ∧ (fl, lamAt b cf pn kl ct) ∈ tl ∧ (cf, ocf) ∈ tl ∧ (kl, okl) ∈ tl ∧ (hda, W.listOf hv.toArray nh) ∈ tl ∧ CodeOf okl "_law_page.<locals>.<lambda>" ∧ ocf.data = .cell (some (.ref hda)) ∧
  getL "code" ep = some (some (.int c tc)) ∧ getL "msg" ep = some (some (.str wd tw)) ∧ getL "info" ep = some (some (.ref fl)) ∧ IntsAre hv hs ∧ ep.length ≤ 3
theorem TabP.mono {tabo : Array Value} {tl tl' : List (Addr × Obj)} (x : TabP tabo tl) (h : ∀ p ∈ tl, p ∈ tl') : TabP tabo tl' := x.imp id fun ⟨kl, okl, a, b, c⟩ => ⟨kl, okl, a, h _ b, c⟩
theorem Pg12.mono {b : List Stmt} {pn : Value} {tl tl' : List (Addr × Obj)} {pg dp : Nat} {ep : List DictEntry} {c : Int} {wd : Str} {hs : List Int} (x : Pg12 b pn tl pg dp ep c wd hs) (h : ∀ p ∈ tl, p ∈ tl') : Pg12 b pn tl' pg dp ep c wd hs := by
  obtain ⟨fl, cf, hda, nh, kl, ocf, okl, ct, tc, tw, hv, a1, a2, a3, a4, a5, r⟩ := x
  exact ⟨fl, cf, hda, nh, kl, ocf, okl, ct, tc, tw, hv, h _ a1, h _ a2, h _ a3, h _ a4, h _ a5, r⟩
theorem news_pA {h₀ h : Heap} {L : Addr} {fl kl pg dp cf t : Addr × Obj} {tl : List (Addr × Obj)} (N : News h₀ L h (fl :: kl :: pg :: dp :: cf :: t :: tl)) : News h₀ L h (t :: dp :: ([fl, kl, pg, cf] ++ tl)) := fun p hp => N p (by
  simp only [List.mem_cons, List.mem_append, List.cons_append, List.nil_append] at hp ⊢
  rcases hp with h | h | h | h | h | h | h <;> (first | ((repeat (first | with_reducible exact h | with_reducible exact Or.inl h | with_reducible exact Or.inl (Or.inl h) | with_reducible exact Or.inl (Or.inr h) | refine Or.inr ?_)); done) | simp [h]))
theorem news_pB {h₀ h : Heap} {L : Addr} {fl pg dp cf t : Addr × Obj} {tl : List (Addr × Obj)} (N : News h₀ L h (fl :: pg :: dp :: cf :: t :: tl)) : News h₀ L h (t :: dp :: ([fl, pg, cf] ++ tl)) := fun p hp => N p (by
  simp only [List.mem_cons, List.mem_append, List.cons_append, List.nil_append] at hp ⊢
  rcases hp with h | h | h | h | h | h <;> (first | ((repeat (first | with_reducible exact h | with_reducible exact Or.inl h | with_reducible exact Or.inl (Or.inl h) | with_reducible exact Or.inl (Or.inr h) | refine Or.inr ?_)); done) | simp [h]))
section
variable {w : World} {E : Value → Shared → Prop} {s : Shared} {L : Addr} {h₀ : Heap} {m : Str → Option Value}
theorem page12 {Q : Value → Shared → Prop} {p : Program} {loose : List Str} {mean : ExcName → Option Value} {mg mb : Str → Option Value} {dp un : Nat} {gd : Option (List Code)} {env : Env} {outer : List Env} {A₀ : Around} {base : Heap} {c : Int} {tc tw : Tok} {wd : Str} {hda nh : Nat} {hv : List Value} {hs : List Int} {tl r : List (Addr × Obj)} {body : List Stmt} {scope : Scope} {tabo0 : Array Value}
    (hdef : Def12 w 116 "_law_page" body scope) (B : Below A₀ base outer h₀) (F : Fr h₀ L s.heap m) (X : (Mine.hd.heap_39 w.params).In h₀) (T : Top p loose mean mg mb h₀) (hf : env.frame = some L) (hke : env.scope.kind = .function) (hC : CodeHd h₀ 115 111) (hd : dp + 20 < recursionLimit) (hu : un + 200 < cLine) (N : News h₀ L s.heap ((111, tabObj tabo0) :: tl)) (ho : OwnOff tl [111]) (tab : TabP tabo0 r) (hh : (hda, W.listOf hv.toArray nh) ∈ r) (hi : IntsAre hv hs)
    (ret : ∀ h' tk' (pg dpp np cf : Nat) ep ad tabo, Fr h₀ L h' m → News h₀ L h' ((111, tabObj tabo) :: (dpp, dictOf ep np) :: (ad ++ tl)) → TabP tabo (ad ++ r) → Pg12 body ((mg "__name__").getD .none) (ad ++ r) pg dpp ep c wd hs → AllLt cf tl → (∀ p ∈ ad, @LE.le Nat _ cf p.1 ∧ @Ne Nat p.1 dpp) → (111 < cf ∧ cf ≤ dpp) → Q (.ref pg) { s with heap := h', toks := tk' }) :
    wpAny (model PySem.Challenge.rw_dn0254_12.row.prog w) (ktrAny dp un gd env outer) (call (.ref 116) [.int c tc, .str wd tw, .ref hda]) Q E s := by
  rcases tab with rfl | ⟨kl, okl, rfl, k1, k2⟩
  · refine pageA hdef B F X N ho T hC hf hke (by (first | lia | omega)) (by (first | lia | omega)) ?_
    intro h' tk' fl pg dpp cf es n ocf ct kl okl tc' F' N' e1 e2 e3 e4 e5 e6 e7 e8
    exact ret _ _ _ _ _ cf _ _ _ F' (news_pA N') (.inr ⟨_, _, rfl, .tail _ (.head _), e1⟩) ⟨_, _, _, _, _, _, _, _, _, _, _, .tail _ (.tail _ (.head _)), .head _, .tail _ (.tail _ (.tail _ (.head _))), .tail _ (.head _), List.mem_append_right _ hh, e1, e2, e3, e4, e5, hi, e6⟩ e8
      (all_cons (by dsimp only; (first | lia | omega)) (all_cons (by dsimp only; (first | lia | omega)) (all_cons (by dsimp only; (first | lia | omega)) (all_cons (by dsimp only; (first | lia | omega)) all_nil)))) (by (first | lia | omega))
  · refine pageB hdef B F X N T hC hf hke (by (first | lia | omega)) (by (first | lia | omega)) ?_
    intro h' tk' fl pg dpp cf es n ocf ct tc' F' N' e2 e3 e4 e5 e6 e7 e8
    exact ret _ _ _ _ _ cf _ _ _ F' (news_pB N') (.inr ⟨_, _, rfl, List.mem_append_right _ k1, k2⟩) ⟨_, _, _, _, _, _, _, _, _, _, _, .tail _ (.head _), .head _, .tail _ (.tail _ (.head _)), List.mem_append_right _ k1, List.mem_append_right _ hh, k2, e2, e3, e4, e5, hi, e6⟩ e8
      (all_cons (by dsimp only; (first | lia | omega)) (all_cons (by dsimp only; (first | lia | omega)) (all_cons (by dsimp only; (first | lia | omega)) all_nil))) (by (first | lia | omega))
end
end Mine


namespace Mine
theorem fill7 : PySem.Challenge.rw_dn0254_12.row.prog = PySem.Challenge.rw_dn0254_12.row.prog ∧ Mine.hd.heap_39 = Mine.hd.heap_39 := by
  w_top off
  k_fill
  exact ⟨rfl, rfl⟩
theorem len_s : ("s" : Str).length = 1 := by decide
theorem len_c : ("c" : Str).length = 1 := by decide
theorem len_e : ("e" : Str).length = 1 := by decide
theorem rot3 {h₀ h : Heap} {L : Addr} {a b x : Addr × Obj} {tl : List (Addr × Obj)} (N : News h₀ L h (a :: b :: x :: tl)) : News h₀ L h (x :: a :: b :: tl) := fun p hp => N p (by
  simp only [List.mem_cons] at hp ⊢
  rcases hp with h | h | h | h <;> (first | ((repeat (first | with_reducible exact h | with_reducible exact Or.inl h | with_reducible exact Or.inl (Or.inl h) | with_reducible exact Or.inl (Or.inr h) | refine Or.inr ?_)); done) | simp [h]))
theorem sub_ad2 {ad r : List (Addr × Obj)} {x : Addr × Obj} (y : Addr × Obj) : ∀ p ∈ ad ++ x :: r, p ∈ (ad ++ [x, y]) ++ r := fun p hp => by
  simp only [List.mem_cons, List.mem_append, List.mem_nil_iff, or_false] at hp ⊢
  rcases hp with h | h | h <;> (first | ((repeat (first | with_reducible exact h | with_reducible exact Or.inl h | with_reducible exact Or.inl (Or.inl h) | with_reducible exact Or.inl (Or.inr h) | refine Or.inr ?_)); done) | simp [h])
section
variable {w : World} {E : Value → Shared → Prop} {s : Shared} {L : Addr} {h₀ : Heap} {m : Str → Option Value}
local macro_rules | `(tactic| keq_rows) => `(tactic| first | (k_unfold; (try dsimp only)) | walk1 | (dsimp only; walk1))
local macro_rules | `(tactic| k_mem) => `(tactic| (first | with_reducible assumption | with_reducible exact List.mem_cons_self | (with_reducible refine List.mem_cons_of_mem _ ?_; k_mem)))
local macro_rules | `(tactic| ktr_room) => `(tactic| ((simp only [depth_mark, depth_in1, depth_deeper]); (try dsimp only [ktrAny]); omega))
local macro_rules | `(tactic| k_room) => `(tactic| ktr_room)
local macro_rules | `(tactic| ktr_rel) => `(tactic| ((simp only [units_deeper, units_in1]); (try dsimp only [ktrAny]); omega))
local macro_rules | `(tactic| walk_at "getAttr ref") => `(tactic| (k_here; k_dflt (refine' get_sym ?k1 ?k2 ?k3 ?k4 ?k5 ?k6 ?k7 ?k8 ?k9 ?ka ?kb ?_; (case k1 => k_asm); (case k2 => k_asm); (case k3 => k_asm); (case k4 => k_mem); (case k5 => k_mem); (case k6 => assumption); (case k7 => k_is); (case k8 => k_is); (case k9 => k_is); (case ka => k_is); (case kb => first | rfl | assumption); k_whole)))
local macro_rules | `(tactic| walk_at "call builtin:list.append") => `(tactic| (k_here; (with_reducible show wpAny _ _ (call (Value.builtin _) [Value.ref _, _]) _ _ _); k_dflt (refine' append_led ?F ?N ?z ?U ?_; (case F => k_asm); (case N => k_asm); (case U => k_upd); (case z => assumption)); intro h' F' N'))
local macro_rules | `(tactic| walk_at "getMethod ref") => `(tactic| (k_here; (first | (with_reducible show wpAny _ _ (getMethod (Value.ref _) (PySem.Str.ofString "add_cookie_header") _) _ _ _) | (with_reducible show wpAny _ _ (getMethod (Value.ref _) (PySem.Str.ofString "extract_cookies") _) _ _ _) | (with_reducible show wpAny _ _ (getMethod (Value.ref _) (PySem.Str.ofString "info") _) _ _ _) | (with_reducible show wpAny _ _ (getMethod (Value.ref _) (PySem.Str.ofString "error") _) _ _ _)); k_dflt (refine' method_usual (r := none) ?k1 (InstAt.of_news (by k_asm) (by k_mem) (by k_mem)) ?k4 ?k5 ?k6 ?k7 ?_; (case k1 => (refine' Frag.In.keeps ?x1 (Fr.keep ?x2); (case x2 => k_asm); (case x1 => k_asm))); (case k4 => k_is); (case k5 => k_is); (case k6 => k_is); (case k7 => rfl); k_whole)))
local macro_rules | `(tactic| walk_at "binaryOp Add str str") => `(tactic| (k_here; (with_reducible show wpAny _ _ (binaryOp Operator.Add (Value.str _ _) (Value.str _ _)) _ _ _); refine' add_str ?h ?hsz; (case hsz => (refine small_size ?_; (try simp only [len_s, len_c, len_e]); omega)); intro t' tk'))
local macro_rules | `(tactic| walk_at "binaryOp Add ref ref") => `(tactic| (k_here; (with_reducible show wpAny _ _ (binaryOp _ (Value.ref _) (Value.ref _)) _ _ _); k_dflt (refine' add_led ?F ?N ?a ?b ?z ?_; (case F => k_asm); (case N => k_asm); (case a => k_mem); (case b => k_mem); (case z => ((try simp only [List.length_cons, List.length_nil]); omega))); intro D' h' F' N' l1; (try k_lt l1)))
local macro_rules | `(tactic| kwd_less) => `(tactic| repeat' ((fail_if_success (with_reducible show wpAny _ _ (call (Value.ref 116) _) _ _ _)); keq_rows))
theorem ans0 {Q : Value → Shared → Prop} {p : Program} {loose : List Str} {mean : ExcName → Option Value} {mg mb : Str → Option Value} {dp un : Nat} {gd : Option (List Code)} {env : Env} {outer : List Env} {A₀ : Around} {base : Heap} {tl r : List (Addr × Obj)} {b7 b : List Stmt} {scope7 scope : Scope} {i a c : Int} {ti ta : Tok} {f c1 c2 k rq pg dpp np : Nat} {ok oc1 oc2 : Obj} {dc ct : Value} {tabo0 : Array Value} {ep : List DictEntry} {wd : Str} {hs : List Int}
    (d7 : Def12 w 116 "_law_page" b7 scope7) (hdef : Def12 w 123 "_law_signer" b scope) (B : Below A₀ base outer h₀) (F : Fr h₀ L s.heap m) (X : (Mine.hd.heap_39 w.params).In h₀) (T : Top p loose mean mg mb h₀) (hf : env.frame = some L) (hke : env.scope.kind = .function) (hC : CodeHd h₀ 115 111) (hd : dp + 40 < recursionLimit) (hu : un + 400 < cLine) (N : News h₀ L s.heap ((111, tabObj tabo0) :: tl)) (ho : OwnOff tl [111]) (hsub : ∀ p ∈ r, p ∈ tl) (tab : TabP tabo0 r) (hfm : (f, ansAt b c1 c2 dc ((mg "__name__").getD .none) k ct) ∈ r) (h1 : (c1, oc1) ∈ r) (h2 : (c2, oc2) ∈ r) (hkm : (k, ok) ∈ r) (hcd : CodeOf ok "_law_signer.<locals>._law_answer") (e1 : oc1.data = .cell (some (.int i ti))) (e2 : oc2.data = .cell (some (.int a ta))) (hdp : (dpp, dictOf ep np) ∈ tl) (hp : Pg12 b7 ((mg "__name__").getD .none) r pg dpp ep c wd hs) (hw : wd.length ≤ 1000) (hl : hs.length ≤ 1000)
    (ret : ∀ h' tk' (pg' dpp' np' cf : Nat) ep' ad tabo, Fr h₀ L h' m → News h₀ L h' ((111, tabObj tabo) :: (dpp', dictOf ep' np') :: (ad ++ tl)) → TabP tabo (ad ++ r) → Pg12 b7 ((mg "__name__").getD .none) (ad ++ r) pg' dpp' ep' (c + a) (wd ++ "s") (hs ++ [i]) → AllLt cf tl → (∀ p ∈ ad, @LE.le Nat _ cf p.1 ∧ @Ne Nat p.1 dpp') → (111 < cf ∧ cf ≤ dpp') → Q (.ref pg') { s with heap := h', toks := tk' }) :
    wpAny (model PySem.Challenge.rw_dn0254_12.row.prog w) (ktrAny dp un gd env outer) (call (.ref f) [.ref rq, .ref pg]) Q E s := by
  replace hfm := hsub _ hfm
  replace h1 := hsub _ h1
  replace h2 := hsub _ h2
  replace hkm := hsub _ hkm
  obtain ⟨oc', od, params, dV, kV, doc, pm, cdv, ct', an, osl, hbody⟩ := hdef
  k_dflt (refine' lookup_same hbody ?k6 ?_; (case k6 => k_is))
  intro hbe hse
  rw [hbe] at hfm
  dsimp only [ansAt, List.getElem?_cons_zero, List.getElem?_cons_succ] at hfm
  clear hbody hbe hse
  have hp' := hp
  obtain ⟨fl, cf, hda, nh, kl, ocf, okl, ctl, tc, tw, hv, p1, p2, p3, p4, p5, p6, q1, q2, q3, q4, q5, q6⟩ := hp
  replace p1 := hsub _ p1
  replace p2 := hsub _ p2
  replace p3 := hsub _ p3
  replace p4 := hsub _ p4
  replace p5 := hsub _ p5
  have d7' := d7
  obtain ⟨oc7, od7, params7, dV7, kV7, doc7, pm7, cdv7, ct7, an7, osl7, hbody7⟩ := d7'
  k_dflt (refine' lookup_same hbody7 ?k6 ?_; (case k6 => k_is))
  intro hbe hse
  rw [hbe] at p2
  dsimp only [lamAt, List.getElem?_cons_zero, List.getElem?_cons_succ] at p2
  clear hbody7 hbe hse
  obtain ⟨vk, tk, d1, d2⟩ := hcd
  obtain ⟨vk6, tk6, d61, d62⟩ := id p6
  have hvl : hv.length ≤ 1000 := by rw [q5.length]; exact hl
  refine wpAny_call ?_
  k_dflt (refine' code_nest ?k1 ?k2 ?k3 ?k4 ?k5 ?kA ?kF ?kK ?k6 ?k7 ?k8 ?k9 ?kB ?_ ?c2 ?c3 ?c4 ?c5; (case kA => exact rfl); (case kF => assumption); (case kK => assumption); (case k1 => k_asm); (case k2 => k_asm); (case k3 => k_asm); (case k4 => k_asm); (case k5 => k_asm); (case k6 => exact .tail _ hfm); (case k7 => exact codeRec_news N (.tail _ hkm) d1 d2); (case k8 => k_room); (case k9 => exact BindsTo.of_eq rfl); (case c5 => decide); (case kB => exact locs rfl); (case c2 => exact rfl); (case c3 => exact rfl); (case c4 => exact rfl); k_whole; intro g' L' h' FG' F' N' B' X' T'; (try dsimp only); (try k_lift B'); (try k_fold))
  have hC' := hC.keeps FG'.keep
  kwd_less
  rename Fr _ _ _ _ => F9
  rename News _ _ _ _ => N9
  rename _ < _ ∧ _ < _ ∧ AllLt _ tl => l2
  rename _ < _ ∧ AllLt _ tl => l1
  show wpAny _ (ktrAny (dp + 1) (un + 3) gd _ (env :: outer)) _ _ _ _
  refine page12 (nh := 0) (hv := hv ++ [Value.int i ti]) (hs := hs ++ [i]) (r := _ :: r) d7 B' F9 X' T' rfl rfl hC' (by (first | lia | omega)) (by (first | lia | omega)) (rot3 N9) ?ho (tab.mono fun p hp => .tail _ hp) (.head _) (q5.append (.cons _ _ .nil)) ?_
  case ho =>
    intro p hp b hb
    rw [List.mem_singleton.mp hb]
    rcases List.mem_cons.mp hp with rfl | hp
    · exact Nat.ne_of_gt l2.2.1
    · rcases List.mem_cons.mp hp with rfl | hp
      · exact Nat.ne_of_gt l1.1
      · exact ho p hp _ (.head _)
  intro h5 tk5 pg5 dp5 np5 cf5 ep5 ad5 tab5 F5 N5 T5 P5 al5 ad5' le5
  have e : ∀ (x y : Addr × Obj) (q : List (Addr × Obj)), ad5 ++ x :: y :: q = (ad5 ++ [x, y]) ++ q := fun x y q => by simp
  rw [e] at N5

  clear N9 F9
  kwd_less
  rename News h₀ _ _ _ => N8
  rename Fr h₀ _ _ m => F8
  refine ret _ _ _ _ _ _ _ _ _ F8 N8 (T5.mono (sub_ad2 _)) (P5.mono (sub_ad2 _)) l1.2 (fun p hp => ?_) ⟨l1.1, ?_⟩
  · rcases List.mem_append.mp hp with hp | hp
    · have a1 := ad5' p hp
      have a2 := al5.2.1
      dsimp only at a2
      exact ⟨Nat.le_of_lt (Nat.lt_of_lt_of_le a2 a1.1), a1.2⟩
    · have a2 := al5.1
      have a3 := al5.2.1
      dsimp only at a2 a3
      simp only [List.mem_cons, List.mem_nil_iff, or_false] at hp
      rcases hp with rfl | rfl
      · exact ⟨Nat.le_of_lt l2.1, neN (by dsimp only; (first | lia | omega))⟩
      · exact ⟨Nat.le_refl _, neN (by dsimp only; (first | lia | omega))⟩
  · have a2 := al5.2.1
    dsimp only at a2
    (first | lia | omega)
end
end Mine


namespace Mine
local macro_rules | `(tactic| walk_at "no key of the walk") => `(tactic| fail)
theorem fill8 : PySem.Challenge.rw_dn0254_12.row.prog = PySem.Challenge.rw_dn0254_12.row.prog ∧ Mine.hd.heap_39 = Mine.hd.heap_39 := by
  w_top off
  k_fill
  exact ⟨rfl, rfl⟩
/-- the def that the law makes -/
def errL (body : List Stmt) (hc : Nat) (dc pn : Value) (ke : Nat) (ct : Value) : Obj := match body[(3 : Nat)]? with
  | some (.FunctionDef name params b _ _ _ scope _ _ _) => fnMade name "law.<locals>._law_error" params b scope [("handed", hc)] dc pn ke ct
  | _ => default
def EntH (rq : Nat) (tl : List (Addr × Obj)) (x : Value) (e : Int × Str × List Int) : Prop := ∃ (t hda nh : Nat) (th tc tw : Tok) (hv : List Value),
  x = .ref t ∧ (t, { cls := .type "tuple", data := .seq #[.str "http" th, .ref rq, .int e.1 tc, .str e.2.1 tw, .ref hda] }) ∈ tl ∧ (hda, W.listOf hv.toArray nh) ∈ tl ∧ IntsAre hv e.2.2
theorem EntH.mono {rq : Nat} {tl tl' : List (Addr × Obj)} {x : Value} {e : Int × Str × List Int} (h : ∀ p ∈ tl, p ∈ tl') (r : EntH rq tl x e) : EntH rq tl' x e := by
  obtain ⟨t, hda, nh, th, tc, tw, hv, rfl, a1, a2, b⟩ := r
  exact ⟨t, hda, nh, th, tc, tw, hv, rfl, h _ a1, h _ a2, b⟩
theorem rot_e {h₀ h : Heap} {L : Addr} {a b c t d : Addr × Obj} {tl : List (Addr × Obj)} (N : News h₀ L h (a :: b :: c :: t :: d :: tl)) : News h₀ L h (t :: d :: a :: b :: c :: tl) := fun p hp => N p (by
  simp only [List.mem_cons, List.cons_append, List.nil_append] at hp ⊢
  rcases hp with h | h | h | h | h | h <;> (first | ((repeat (first | with_reducible exact h | with_reducible exact Or.inl h | with_reducible exact Or.inl (Or.inl h) | with_reducible exact Or.inl (Or.inr h) | refine Or.inr ?_)); done) | simp [h]))
theorem rot_f {h₀ h : Heap} {L : Addr} {a b c t d q : Addr × Obj} {ad tl : List (Addr × Obj)} (N : News h₀ L h (t :: q :: (ad ++ (d :: a :: b :: c :: tl)))) : News h₀ L h (t :: d :: q :: ((ad ++ [a, b, c]) ++ tl)) := fun p hp => N p (by
  simp only [List.mem_cons, List.mem_append, List.cons_append, List.nil_append, List.mem_nil_iff, or_false] at hp ⊢
  rcases hp with h | h | h | (h | h | h | h) | h <;> (first | ((repeat (first | with_reducible exact h | with_reducible exact Or.inl h | with_reducible exact Or.inl (Or.inl h) | with_reducible exact Or.inl (Or.inr h) | refine Or.inr ?_)); done) | simp [h]))
section
variable {w : World} {E : Value → Shared → Prop} {s : Shared} {L : Addr} {h₀ : Heap} {m : Str → Option Value}
local macro_rules | `(tactic| keq_rows) => `(tactic| first | (k_unfold; (try dsimp only)) | walk1 | (dsimp only; walk1))
local macro_rules | `(tactic| k_mem) => `(tactic| (first | with_reducible assumption | with_reducible exact List.mem_cons_self | (with_reducible refine List.mem_cons_of_mem _ ?_; k_mem)))
local macro_rules | `(tactic| ktr_room) => `(tactic| ((simp only [depth_mark, depth_in1, depth_deeper]); (try dsimp only [ktrAny]); omega))
local macro_rules | `(tactic| k_room) => `(tactic| ktr_room)
local macro_rules | `(tactic| ktr_rel) => `(tactic| ((simp only [units_deeper, units_in1]); (try dsimp only [ktrAny]); omega))
local macro_rules | `(tactic| walk_at "getAttr ref") => `(tactic| (k_here; k_dflt (refine' get_sym ?k1 ?k2 ?k3 ?k4 ?k5 ?k6 ?k7 ?k8 ?k9 ?ka ?kb ?_; (case k1 => k_asm); (case k2 => k_asm); (case k3 => k_asm); (case k4 => k_mem); (case k5 => k_mem); (case k6 => assumption); (case k7 => k_is); (case k8 => k_is); (case k9 => k_is); (case ka => k_is); (case kb => first | rfl | assumption); k_whole)))
local macro_rules | `(tactic| walk_at "call builtin:list.append") => `(tactic| (k_here; (with_reducible show wpAny _ _ (call (Value.builtin _) [Value.ref _, _]) _ _ _); k_dflt (refine' append_led ?F ?N ?z ?U ?_; (case F => k_asm); (case N => k_asm); (case U => k_upd); (case z => assumption)); intro h' F' N'))
local macro_rules | `(tactic| walk_at "getMethod ref") => `(tactic| (k_here; (first | (with_reducible show wpAny _ _ (getMethod (Value.ref _) (PySem.Str.ofString "add_cookie_header") _) _ _ _) | (with_reducible show wpAny _ _ (getMethod (Value.ref _) (PySem.Str.ofString "extract_cookies") _) _ _ _) | (with_reducible show wpAny _ _ (getMethod (Value.ref _) (PySem.Str.ofString "info") _) _ _ _) | (with_reducible show wpAny _ _ (getMethod (Value.ref _) (PySem.Str.ofString "error") _) _ _ _)); k_dflt (refine' method_usual (r := none) ?k1 (InstAt.of_news (by k_asm) (by k_mem) (by k_mem)) ?k4 ?k5 ?k6 ?k7 ?_; (case k1 => (refine' Frag.In.keeps ?x1 (Fr.keep ?x2); (case x2 => k_asm); (case x1 => k_asm))); (case k4 => k_is); (case k5 => k_is); (case k6 => k_is); (case k7 => rfl); k_whole)))
local macro_rules | `(tactic| walk_at "binaryOp Add str str") => `(tactic| (k_here; (with_reducible show wpAny _ _ (binaryOp Operator.Add (Value.str _ _) (Value.str _ _)) _ _ _); refine' add_str ?h ?hsz; (case hsz => (refine small_size ?_; (try simp only [len_s, len_c, len_e]); omega)); intro t' tk'))
local macro_rules | `(tactic| walk_at "binaryOp Add ref ref") => `(tactic| (k_here; (with_reducible show wpAny _ _ (binaryOp _ (Value.ref _) (Value.ref _)) _ _ _); k_dflt (refine' add_led ?F ?N ?a ?b ?z ?_; (case F => k_asm); (case N => k_asm); (case a => k_mem); (case b => k_mem); (case z => ((try simp only [List.length_cons, List.length_nil]); omega))); intro D' h' F' N' l1; (try k_lt l1)))
local macro_rules | `(tactic| kwd_less) => `(tactic| repeat' ((fail_if_success (with_reducible show wpAny _ _ (call (Value.ref 116) _) _ _ _)); keq_rows))
theorem err12 {Q : Value → Shared → Prop} {p : Program} {loose : List Str} {mean : ExcName → Option Value} {mg mb : Str → Option Value} {dp un : Nat} {gd : Option (List Code)} {env : Env} {outer : List Env} {A₀ : Around} {base : Heap} {tl r : List (Addr × Obj)} {b7 b : List Stmt} {scope7 scope : Scope} {c : Int} {th tc tw : Tok} {f hc k rq pg hda nhd nh hd' : Nat} {ok ohc : Obj} {dc ct : Value} {tabo0 : Array Value} {wd : Str} {hs : List Int} {hv handed : List Value}
    (d7 : Def12 w 116 "_law_page" b7 scope7) (hdef : Def12 w 151 "law" b scope) (B : Below A₀ base outer h₀) (F : Fr h₀ L s.heap m) (X : (Mine.hd.heap_39 w.params).In h₀) (T : Top p loose mean mg mb h₀) (hf : env.frame = some L) (hke : env.scope.kind = .function) (hC : CodeHd h₀ 115 111) (hd : dp + 40 < recursionLimit) (hu : un + 400 < cLine) (N : News h₀ L s.heap ((111, tabObj tabo0) :: (hd', W.listOf handed.toArray nh) :: tl)) (ho : OwnOff tl [111, hd']) (hne : 111 < hd') (hsub : ∀ p ∈ r, p ∈ tl) (tab : TabP tabo0 r) (hfm : (f, errL b hc dc ((mg "__name__").getD .none) k ct) ∈ r) (h1 : (hc, ohc) ∈ r) (hkm : (k, ok) ∈ r) (hcd : CodeOf ok "law.<locals>._law_error") (e1 : ohc.data = .cell (some (.ref hd'))) (hhm0 : (hda, W.listOf hv.toArray nhd) ∈ r) (hhi : IntsAre hv hs) (hw : wd.length ≤ 1000) (hl : hs.length ≤ 1000) (hz : handed.length ≤ 2 ^ 20)
    (ret : ∀ h' tk' (pg' dpp' np' cf t nh' : Nat) ep' ad tabo, Fr h₀ L h' m → News h₀ L h' ((111, tabObj tabo) :: (hd', W.listOf (handed ++ [Value.ref t]).toArray nh') :: (dpp', dictOf ep' np') :: (ad ++ tl)) → TabP tabo (ad ++ r) → Pg12 b7 ((mg "__name__").getD .none) (ad ++ r) pg' dpp' ep' (c + 60) (wd ++ "e") (hs ++ [c]) → EntH rq (ad ++ r) (.ref t) (c, wd, hs) → AllLt cf tl → (∀ p ∈ ad, @LE.le Nat _ cf p.1 ∧ @Ne Nat p.1 dpp') → (111 < cf ∧ cf ≤ dpp' ∧ hd' < cf) → Q (.ref pg') { s with heap := h', toks := tk' }) :
    wpAny (model PySem.Challenge.rw_dn0254_12.row.prog w) (ktrAny dp un gd env outer) (call (.ref f) [.str "http" th, .ref rq, .ref pg, .int c tc, .str wd tw, .ref hda]) Q E s := by
  replace hfm := hsub _ hfm
  replace h1 := hsub _ h1
  replace hkm := hsub _ hkm
  have hhm := hsub _ hhm0
  obtain ⟨oc', od, params, dV, kV, doc, pm, cdv, ct', an, osl, hbody⟩ := hdef
  k_dflt (refine' lookup_same hbody ?k6 ?_; (case k6 => k_is))
  intro hbe hse
  rw [hbe] at hfm
  dsimp only [errL, List.getElem?_cons_zero, List.getElem?_cons_succ] at hfm
  clear hbody hbe hse
  obtain ⟨vk, tk, d1, d2⟩ := hcd
  have hvl : hv.length ≤ 1000 := by rw [hhi.length]; exact hl
  refine wpAny_call ?_
  k_dflt (refine' code_nest ?k1 ?k2 ?k3 ?k4 ?k5 ?kA ?kF ?kK ?k6 ?k7 ?k8 ?k9 ?kB ?_ ?c2 ?c3 ?c4 ?c5; (case kA => exact rfl); (case kF => assumption); (case kK => assumption); (case k1 => k_asm); (case k2 => k_asm); (case k3 => k_asm); (case k4 => k_asm); (case k5 => k_asm); (case k6 => exact .tail _ (.tail _ hfm)); (case k7 => exact codeRec_news N (.tail _ (.tail _ hkm)) d1 d2); (case k8 => k_room); (case k9 => exact BindsTo.of_eq rfl); (case c5 => decide); (case kB => exact locs rfl); (case c2 => exact rfl); (case c3 => exact rfl); (case c4 => exact rfl); k_whole; intro g' L' h' FG' F' N' B' X' T'; (try dsimp only); (try k_lift B'); (try k_fold))
  have hC' := hC.keeps FG'.keep
  kwd_less
  rename Fr _ _ _ _ => F9
  rename News _ _ _ _ => N9
  rename _ < _ ∧ _ < _ ∧ _ < _ ∧ _ < _ ∧ AllLt _ tl => l3
  rename _ < _ ∧ _ < _ ∧ _ < _ ∧ AllLt _ tl => l2
  rename _ < _ ∧ _ < _ ∧ AllLt _ tl => l1
  show wpAny _ (ktrAny (dp + 1) (un + 3) gd _ (env :: outer)) _ _ _ _
  refine page12 (nh := 0) (hv := hv ++ [Value.int c tc]) (hs := hs ++ [c]) (r := _ :: r) d7 B' F9 X' T' rfl rfl hC' (by (first | lia | omega)) (by (first | lia | omega)) (rot_e N9) ?ho (tab.mono fun p hp => .tail _ hp) (.head _) (hhi.append (.cons _ _ .nil)) ?_
  case ho =>
    intro p hp b hb
    rw [List.mem_singleton.mp hb]
    rcases List.mem_cons.mp hp with rfl | hp
    · exact Nat.ne_of_gt hne
    rcases List.mem_cons.mp hp with rfl | hp
    · exact Nat.ne_of_gt l3.2.2.1
    rcases List.mem_cons.mp hp with rfl | hp
    · exact Nat.ne_of_gt l2.2.1
    rcases List.mem_cons.mp hp with rfl | hp
    · exact Nat.ne_of_gt l1.1
    · exact ho p hp _ (.head _)
  intro h5 tk5 pg5 dp5 np5 cf5 ep5 ad5 tab5 F5 N5 T5 P5 al5 ad5' le5
  have sub : ∀ (x y z : Addr × Obj), ∀ p ∈ ad5 ++ x :: r, p ∈ (ad5 ++ [x, y, z]) ++ r := fun x y z p hp => by
    simp only [List.mem_cons, List.mem_append, List.mem_nil_iff, or_false] at hp ⊢
    rcases hp with h | h | h <;> (first | ((repeat (first | with_reducible exact h | with_reducible exact Or.inl h | with_reducible exact Or.inl (Or.inl h) | with_reducible exact Or.inl (Or.inr h) | refine Or.inr ?_)); done) | simp [h])
  replace N5 := rot_f N5
  clear N9 F9
  kwd_less
  rename News h₀ _ _ _ => N8
  rename Fr h₀ _ _ m => F8
  have b1 := al5.2.1
  have b2 := al5.2.2.1
  have b3 := al5.2.2.2.1
  dsimp only at b1 b2 b3
  refine ret _ _ _ _ _ _ _ _ _ _ _ F8 N8 (T5.mono (sub _ _ _)) (P5.mono (sub _ _ _)) ⟨_, _, _, _, _, _, _, rfl, List.mem_append_left _ (List.mem_append_right _ (.tail _ (.tail _ (.head _)))), List.mem_append_right _ hhm0, hhi⟩ l1.2.2 (fun p hp => ?_) ⟨l1.1, ?_, l1.2.1⟩
  · rcases List.mem_append.mp hp with hp | hp
    · have a1 := ad5' p hp
      exact ⟨Nat.le_of_lt (Nat.lt_of_lt_of_le b3 a1.1), a1.2⟩
    · simp only [List.mem_cons, List.mem_nil_iff, or_false] at hp
      rcases hp with rfl | rfl | rfl
      · exact ⟨Nat.le_of_lt l3.2.1, neN (by dsimp only; (first | lia | omega))⟩
      · exact ⟨Nat.le_of_lt l2.1, neN (by dsimp only; (first | lia | omega))⟩
      · exact ⟨Nat.le_refl _, neN (by dsimp only; (first | lia | omega))⟩
  · (first | lia | omega)
end
end Mine


namespace Mine
local macro_rules | `(tactic| walk_at "no key of the walk") => `(tactic| fail)
local macro_rules | `(tactic| walk_at "no key of the walk") => `(tactic| fail)
theorem fill9 : PySem.Challenge.rw_dn0254_12.row.prog = PySem.Challenge.rw_dn0254_12.row.prog ∧ Mine.hd.heap_39 = Mine.hd.heap_39 := by
  w_top off
  k_fill
  exact ⟨rfl, rfl⟩
def Opn (b : List Stmt) (pn : Value) (tl : List (Addr × Obj)) (op hd' : Nat) : Prop := ∃ (dop nop f hc k : Nat) (eop : List DictEntry) (ok ohc : Obj) (dc ct : Value),
  (op, instObj 52 dop) ∈ tl ∧ (dop, dictOf eop nop) ∈ tl ∧ (f, errL b hc dc pn k ct) ∈ tl ∧ (hc, ohc) ∈ tl ∧ (k, ok) ∈ tl ∧ CodeOf ok "law.<locals>._law_error" ∧ ohc.data = .cell (some (.ref hd')) ∧ getL "error" eop = some (some (.ref f))
theorem Opn.mono {b : List Stmt} {pn : Value} {tl tl' : List (Addr × Obj)} {op hd' : Nat} (x : Opn b pn tl op hd') (h : ∀ p ∈ tl, p ∈ tl') : Opn b pn tl' op hd' := by
  obtain ⟨dop, nop, f, hc, k, eop, ok, ohc, dc, ct, a1, a2, a3, a4, a5, r⟩ := x
  exact ⟨dop, nop, f, hc, k, eop, ok, ohc, dc, ct, h _ a1, h _ a2, h _ a3, h _ a4, h _ a5, r⟩
theorem passes_is {c : Int} : (c.fdiv 100 = 2) ↔ (200 ≤ c ∧ c < 300) := by
  rw [Int.fdiv_eq_ediv_of_nonneg c (by decide)]
  (first | lia | omega)
section
variable {w : World} {E : Value → Shared → Prop} {s : Shared} {L : Addr} {h₀ : Heap} {m : Str → Option Value}
local macro_rules | `(tactic| keq_rows) => `(tactic| first | (k_unfold; (try dsimp only)) | walk1 | (dsimp only; walk1))
local macro_rules | `(tactic| k_mem) => `(tactic| (first | with_reducible assumption | with_reducible exact List.mem_cons_self | (with_reducible refine List.mem_cons_of_mem _ ?_; k_mem)))
local macro_rules | `(tactic| ktr_room) => `(tactic| ((simp only [depth_mark, depth_in1, depth_deeper]); (try dsimp only [ktrAny]); omega))
local macro_rules | `(tactic| k_room) => `(tactic| ktr_room)
local macro_rules | `(tactic| ktr_rel) => `(tactic| ((simp only [units_deeper, units_in1]); (try dsimp only [ktrAny]); omega))
local macro_rules | `(tactic| walk_at "getAttr ref") => `(tactic| (k_here; k_dflt (refine' get_sym ?k1 ?k2 ?k3 ?k4 ?k5 ?k6 ?k7 ?k8 ?k9 ?ka ?kb ?_; (case k1 => k_asm); (case k2 => k_asm); (case k3 => k_asm); (case k4 => k_mem); (case k5 => k_mem); (case k6 => assumption); (case k7 => k_is); (case k8 => k_is); (case k9 => k_is); (case ka => k_is); (case kb => first | rfl | assumption); k_whole)))
local macro_rules | `(tactic| walk_at "call builtin:list.append") => `(tactic| (k_here; (with_reducible show wpAny _ _ (call (Value.builtin _) [Value.ref _, _]) _ _ _); k_dflt (refine' append_led ?F ?N ?z ?U ?_; (case F => k_asm); (case N => k_asm); (case U => k_upd); (case z => assumption)); intro h' F' N'))
local macro_rules | `(tactic| walk_at "getMethod ref") => `(tactic| (k_here; (first | (with_reducible show wpAny _ _ (getMethod (Value.ref _) (PySem.Str.ofString "add_cookie_header") _) _ _ _) | (with_reducible show wpAny _ _ (getMethod (Value.ref _) (PySem.Str.ofString "extract_cookies") _) _ _ _) | (with_reducible show wpAny _ _ (getMethod (Value.ref _) (PySem.Str.ofString "info") _) _ _ _) | (with_reducible show wpAny _ _ (getMethod (Value.ref _) (PySem.Str.ofString "error") _) _ _ _)); k_dflt (refine' method_usual (r := none) ?k1 (InstAt.of_news (by k_asm) (by k_mem) (by k_mem)) ?k4 ?k5 ?k6 ?k7 ?_; (case k1 => (refine' Frag.In.keeps ?x1 (Fr.keep ?x2); (case x2 => k_asm); (case x1 => k_asm))); (case k4 => k_is); (case k5 => k_is); (case k6 => k_is); (case k7 => rfl); k_whole)))
local macro_rules | `(tactic| walk_at "binaryOp Add str str") => `(tactic| (k_here; (with_reducible show wpAny _ _ (binaryOp Operator.Add (Value.str _ _) (Value.str _ _)) _ _ _); refine' add_str ?h ?hsz; (case hsz => (refine small_size ?_; (try simp only [len_s, len_c, len_e]); omega)); intro t' tk'))
local macro_rules | `(tactic| walk_at "binaryOp Add ref ref") => `(tactic| (k_here; (with_reducible show wpAny _ _ (binaryOp _ (Value.ref _) (Value.ref _)) _ _ _); k_dflt (refine' add_led ?F ?N ?a ?b ?z ?_; (case F => k_asm); (case N => k_asm); (case a => k_mem); (case b => k_mem); (case z => ((try simp only [List.length_cons, List.length_nil]); omega))); intro D' h' F' N' l1; (try k_lt l1)))
local macro_rules | `(tactic| kwd_less) => `(tactic| repeat' ((fail_if_success (with_reducible show wpAny _ _ (call (Value.ref _) [Value.str _ _, Value.ref _, Value.ref _, Value.int _ _, Value.str _ _, Value.ref _]) _ _ _)); keq_rows))
theorem resp12 {Q : Value → Shared → Prop} {p : Program} {loose : List Str} {mean : ExcName → Option Value} {mg mb : Str → Option Value} {dp un : Nat} {gd : Option (List Code)} {env : Env} {outer : List Env} {A₀ : Around} {base : Heap} {tl r : List (Addr × Obj)} {b7 b : List Stmt} {scope7 scope : Scope} {c : Int} {x d nx op rq pg dpp np nh hd' : Nat} {es ep : List DictEntry} {tabo0 : Array Value} {wd : Str} {hs : List Int} {handed : List Value}
    (d7 : Def12 w 116 "_law_page" b7 scope7) (hdef : Def12 w 151 "law" b scope) (B : Below A₀ base outer h₀) (F : Fr h₀ L s.heap m) (X : (Mine.hd.heap_39 w.params).In h₀) (T : Top p loose mean mg mb h₀) (hf : env.frame = some L) (hke : env.scope.kind = .function) (hC : CodeHd h₀ 115 111) (hd : dp + 60 < recursionLimit) (hu : un + 600 < cLine) (N : News h₀ L s.heap ((111, tabObj tabo0) :: (hd', W.listOf handed.toArray nh) :: tl)) (ho : OwnOff tl [111, hd']) (hne : 111 < hd') (hsub : ∀ p ∈ r, p ∈ tl) (tab : TabP tabo0 r) (hx : (x, instObj 73 d) ∈ tl) (hdx : (d, dictOf es nx) ∈ tl) (hpar : getL "parent" es = some (some (.ref op))) (hop : Opn b ((mg "__name__").getD .none) r op hd') (hdp : (dpp, dictOf ep np) ∈ tl) (hp : Pg12 b7 ((mg "__name__").getD .none) r pg dpp ep c wd hs) (hw : wd.length ≤ 1000) (hl : hs.length ≤ 1000) (hz : handed.length ≤ 2 ^ 20)
    (retA : c.fdiv 100 = 2 → ∀ h' tk', Fr h₀ L h' m → News h₀ L h' ((111, tabObj tabo0) :: (hd', W.listOf handed.toArray nh) :: tl) → Q (.ref pg) { s with heap := h', toks := tk' })
    (retB : c.fdiv 100 ≠ 2 → ∀ h' tk' (pg' dpp' np' cf t nh' : Nat) ep' ad tabo, Fr h₀ L h' m → News h₀ L h' ((111, tabObj tabo) :: (hd', W.listOf (handed ++ [Value.ref t]).toArray nh') :: (dpp', dictOf ep' np') :: (ad ++ tl)) → TabP tabo (ad ++ r) → Pg12 b7 ((mg "__name__").getD .none) (ad ++ r) pg' dpp' ep' (c + 60) (wd ++ "e") (hs ++ [c]) → EntH rq (ad ++ r) (.ref t) (c, wd, hs) → AllLt cf tl → (∀ p ∈ ad, @LE.le Nat _ cf p.1 ∧ @Ne Nat p.1 dpp') → (111 < cf ∧ cf ≤ dpp' ∧ hd' < cf) → Q (.ref pg') { s with heap := h', toks := tk' }) :
    wpAny (model PySem.Challenge.rw_dn0254_12.row.prog w) (ktrAny dp un gd env outer) (call (.ref 70) [.ref x, .ref rq, .ref pg]) Q E s := by
  obtain ⟨fl, cf, hda, nhd, kl, ocf, okl, ctl, tc, tw, hv, p1, p2, p3, p4, p5, p6, q1, q2, q3, q4, q5, q6⟩ := hp
  have hh0 := p5
  replace p1 := hsub _ p1
  replace p2 := hsub _ p2
  replace p3 := hsub _ p3
  replace p4 := hsub _ p4
  replace p5 := hsub _ p5
  have d7' := d7
  obtain ⟨oc7, od7, params7, dV7, kV7, doc7, pm7, cdv7, ct7, an7, osl7, hbody7⟩ := d7'
  k_dflt (refine' lookup_same hbody7 ?k6 ?_; (case k6 => k_is))
  intro hbe hse
  rw [hbe] at p2
  dsimp only [lamAt, List.getElem?_cons_zero, List.getElem?_cons_succ] at p2
  clear hbody7 hbe hse
  obtain ⟨dop, nop, f, hc, k, eop, ok, ohc, dc, ct, o1, o2, o3, o4, o5, o6, o7, o8⟩ := hop
  obtain ⟨vk6, tk6, d61, d62⟩ := id p6
  obtain ⟨P3, hP3⟩ : ∃ P : Prop, P = ((f, errL b hc dc ((mg "__name__").getD .none) k ct) ∈ r ∧ (hc, ohc) ∈ r ∧ (k, ok) ∈ r ∧ (hda, W.listOf hv.toArray nhd) ∈ r) := ⟨_, rfl⟩
  have o3b : P3 := hP3 ▸ ⟨o3, o4, o5, hh0⟩
  clear hh0
  replace o1 := hsub _ o1
  replace o2 := hsub _ o2
  replace o3 := hsub _ o3
  replace o4 := hsub _ o4
  replace o5 := hsub _ o5
  have hdef' := hdef
  obtain ⟨ocL, odL, paramsL, dVL, kVL, docL, pmL, cdvL, ctL, anL, oslL, hbodyL⟩ := hdef'
  k_dflt (refine' lookup_same hbodyL ?k6 ?_; (case k6 => k_is))
  intro hbe hse
  rw [hbe] at o3
  dsimp only [errL, List.getElem?_cons_zero, List.getElem?_cons_succ] at o3
  clear hbodyL hbe hse
  refine wpAny_call ?_
  k_dflt (refine' code_def ?k1 ?k2 ?k3 ?k4 ?k5 ?kA ?kF ?kK ?k6 ?k7 ?k8 ?k9 ?kB ?_ ?c2 ?c3 ?c4 ?c5; (case kA => exact rfl); (case kF => assumption); (case kK => assumption); (case k1 => k_asm); (case k2 => k_asm); (case k3 => k_asm); (case k4 => k_asm); (case k5 => k_asm); (case k6 => k_is); (case k7 => k_is); (case k8 => k_room); (case k9 => exact BindsTo.of_eq rfl); (case c5 => decide); (case kB => exact locs rfl); (case c2 => exact rfl); (case c3 => exact rfl); (case c4 => exact rfl); k_whole; intro g' L' h' FG' F' N' B' X' T'; (try dsimp only); (try k_fold))
  have hC' := hC.keeps FG'.keep
  kwd_less
  · rename Fr h₀ _ _ _ => F9
    rename News h₀ _ _ _ => N9
    exact retA (passes_is.mpr ⟨by assumption, by assumption⟩) _ _ F9 (fun p hp => N9 p (.tail _ hp))
  all_goals (
    rename Fr _ _ _ _ => F9
    rename News _ _ _ _ => N9
    have hno : c.fdiv 100 ≠ 2 := fun q => by have := passes_is.mp q; (first | lia | omega)
    show wpAny _ (ktrAny (dp + 1) (un + 3) gd _ (env :: outer)) _ _ _ _
    obtain ⟨w3, w4, w5, w6⟩ : _ ∧ _ ∧ _ ∧ _ := hP3 ▸ o3b
    refine err12 d7 hdef B' F9 X' T' rfl rfl hC' (by (first | lia | omega)) (by (first | lia | omega)) (fun p hp => N9 p (.tail _ hp)) ho hne hsub tab w3 w4 w5 o6 o7 w6 q5 hw hl hz ?_
    clear w3 w4 w5 w6
    intro h5 tk5 pg5 dp5 np5 cf5 t5 nh5 ep5 ad5 tab5 F5 N5 T5 P5 E5 al5 ad5' le5
    clear N9 F9
    kwd_less
    rename News h₀ _ _ _ => N8
    rename Fr h₀ _ _ _ => F8
    exact retB hno _ _ _ _ _ _ _ _ _ _ _ F8 N8 T5 P5 E5 al5 ad5' le5)
end
end Mine


namespace Mine
local macro_rules | `(tactic| walk_at "no key of the walk") => `(tactic| fail)
local macro_rules | `(tactic| walk_at "no key of the walk") => `(tactic| fail)
theorem fillA : PySem.Challenge.rw_dn0254_12.row.prog = PySem.Challenge.rw_dn0254_12.row.prog ∧ Mine.hd.heap_39 = Mine.hd.heap_39 := by
  w_top off
  k_fill
  exact ⟨rfl, rfl⟩
section
variable {prog : Program} {w : World} {A : Around} {E : Value → Shared → Prop} {s : Shared} {K : Frag} {x C dx L : Addr} {h₀ : Heap} {m : Str → Option Value} {news : List (Addr × Obj)} {news' : List DictEntry → Nat → List (Addr × Obj)} {es : List DictEntry} {n : Nat} {name : Str} {v v0 : Value}
/-- as set_sym, of a name that is there: the dict grows no longer -/
theorem set_symP {Q : Unit → Shared → Prop} (F : Fr h₀ L s.heap m) (X₀ : K.In h₀) (N : News h₀ L s.heap news) (h1 : (x, instObj C dx) ∈ news) (h2 : (dx, dictOf es n) ∈ news)
    (hs : findIn K (.ref C) "__setattr__" = some (some (.builtin "object.__setattr__"))) (hp : plainOver K C = true) (ht : takerIn K C name = some none) (hh : hasDictIn K C = true) (hl : getL name es = some (some v0)) (hz : es.length ≤ 900)
    (U : ∀ es' n', Upd dx (dictOf es n) (dictOf es' n') news (news' es' n'))
    (h : ∀ h' tk' es' n', getL name es' = some (some v) → Others name es es' → es'.length ≤ es.length → Fr h₀ L h' m → News h₀ L h' (news' es' n') → Q () { s with heap := h', toks := tk' }) :
    wpAny (model prog w) A (setAttr (.ref x) name v) Q E s := by
  have hlen := put_len name (PyData.keyHash w.params name) (s.toks + 1) v es
  have hf : (es.find? (·.key.isStr name)).isSome = true := by
    unfold getL at hl
    cases q : es.find? (·.key.isStr name) with
    | none => rw [q] at hl; simp at hl
    | some e => rfl
  have hle : (putL name (PyData.keyHash w.params name) (.str name (s.toks + 1)) v es).length ≤ es.length := by rw [hlen, if_pos hf]; exact Nat.le_refl _
  refine set_dict F X₀ N (InstAt.of_news N h1 h2) rfl hs hp ht hh (by rw [hl]; rfl) rfl (U _ _) (by (first | lia | omega)) fun h' F' N' => h h' _ _ _ (getL_put_same _ _ _ _ _) (fun nm hne => getL_put_other hne _ _ _ _) hle F' N'
end
section
variable {w : World} {E : Value → Shared → Prop} {s : Shared} {L : Addr} {h₀ : Heap} {m : Str → Option Value}
local macro_rules | `(tactic| keq_rows) => `(tactic| first | (k_unfold; (try dsimp only)) | walk1 | (dsimp only; walk1))
local macro_rules | `(tactic| k_mem) => `(tactic| (first | with_reducible assumption | with_reducible exact List.mem_cons_self | (with_reducible refine List.mem_cons_of_mem _ ?_; k_mem)))
local macro_rules | `(tactic| ktr_room) => `(tactic| ((simp only [depth_mark, depth_in1, depth_deeper]); (try dsimp only [ktrAny]); omega))
local macro_rules | `(tactic| k_room) => `(tactic| ktr_room)
local macro_rules | `(tactic| ktr_rel) => `(tactic| ((simp only [units_deeper, units_in1]); (try dsimp only [ktrAny]); omega))
local macro_rules | `(tactic| walk_at "getAttr ref") => `(tactic| (k_here; k_dflt (refine' get_sym ?k1 ?k2 ?k3 ?k4 ?k5 ?k6 ?k7 ?k8 ?k9 ?ka ?kb ?_; (case k1 => k_asm); (case k2 => k_asm); (case k3 => k_asm); (case k4 => k_mem); (case k5 => k_mem); (case k6 => assumption); (case k7 => k_is); (case k8 => k_is); (case k9 => k_is); (case ka => k_is); (case kb => first | rfl | assumption); k_whole)))
local macro_rules | `(tactic| walk_at "call builtin:list.append") => `(tactic| (k_here; (with_reducible show wpAny _ _ (call (Value.builtin _) [Value.ref _, _]) _ _ _); k_dflt (refine' append_led ?F ?N ?z ?U ?_; (case F => k_asm); (case N => k_asm); (case U => k_upd); (case z => assumption)); intro h' F' N'))
local macro_rules | `(tactic| walk_at "getMethod ref") => `(tactic| (k_here; (first | (with_reducible show wpAny _ _ (getMethod (Value.ref _) (PySem.Str.ofString "add_cookie_header") _) _ _ _) | (with_reducible show wpAny _ _ (getMethod (Value.ref _) (PySem.Str.ofString "extract_cookies") _) _ _ _) | (with_reducible show wpAny _ _ (getMethod (Value.ref _) (PySem.Str.ofString "info") _) _ _ _) | (with_reducible show wpAny _ _ (getMethod (Value.ref _) (PySem.Str.ofString "error") _) _ _ _)); k_dflt (refine' method_usual (r := none) ?k1 (InstAt.of_news (by k_asm) (by k_mem) (by k_mem)) ?k4 ?k5 ?k6 ?k7 ?_; (case k1 => (refine' Frag.In.keeps ?x1 (Fr.keep ?x2); (case x2 => k_asm); (case x1 => k_asm))); (case k4 => k_is); (case k5 => k_is); (case k6 => k_is); (case k7 => rfl); k_whole)))
local macro_rules | `(tactic| walk_at "binaryOp Add str str") => `(tactic| (k_here; (with_reducible show wpAny _ _ (binaryOp Operator.Add (Value.str _ _) (Value.str _ _)) _ _ _); refine' add_str ?h ?hsz; (case hsz => (refine small_size ?_; (try simp only [len_s, len_c, len_e]); omega)); intro t' tk'))
local macro_rules | `(tactic| walk_at "binaryOp Add ref ref") => `(tactic| (k_here; (with_reducible show wpAny _ _ (binaryOp _ (Value.ref _) (Value.ref _)) _ _ _); k_dflt (refine' add_led ?F ?N ?a ?b ?z ?_; (case F => k_asm); (case N => k_asm); (case a => k_mem); (case b => k_mem); (case z => ((try simp only [List.length_cons, List.length_nil]); omega))); intro D' h' F' N' l1; (try k_lt l1)))
local macro_rules | `(tactic| walk_at "setAttr ref") => `(tactic| (k_here; k_dflt (refine' set_symP ?k1 ?k2 ?k3 ?k4 ?k5 ?k6 ?k7 ?k8 ?k9 ?ka ?kb ?kc ?_; (case k1 => k_asm); (case k2 => k_asm); (case k3 => k_asm); (case k4 => k_mem); (case k5 => k_mem); (case k6 => k_is); (case k7 => k_is); (case k8 => k_is); (case k9 => k_is); (case ka => assumption); (case kb => omega); (case kc => (intro es' n'; k_upd))); intro h' tk' es' n' hg' ho' hle' F' N'))
local macro_rules | `(tactic| kwd_less) => `(tactic| repeat' ((fail_if_success (with_reducible show wpAny _ _ (setAttr _ _ _) _ _ _)); keq_rows))
local macro_rules | `(tactic| keq_hits) => `(tactic| repeat' keq_rows)
theorem ans2 {Q : Value → Shared → Prop} {p : Program} {loose : List Str} {mean : ExcName → Option Value} {mg mb : Str → Option Value} {dp un : Nat} {gd : Option (List Code)} {env : Env} {outer : List Env} {A₀ : Around} {base : Heap} {tl r : List (Addr × Obj)} {b7 b : List Stmt} {scope : Scope} {i c : Int} {x d nx f rq sg n pg dpp np : Nat} {es ep : List DictEntry} {signs : List Value} {wd : Str} {hs : List Int}
    (hdef : Def12 w 130 "_law_cookies" b scope) (B : Below A₀ base outer h₀) (F : Fr h₀ L s.heap m) (X : (Mine.hd.heap_39 w.params).In h₀) (T : Top p loose mean mg mb h₀) (hf : env.frame = some L) (hke : env.scope.kind = .function) (hC : CodeHd h₀ 115 111) (hd : dp + 60 < recursionLimit) (hu : un + 600 < cLine) (N : News h₀ L s.heap ((sg, W.listOf signs.toArray n) :: (dpp, dictOf ep np) :: tl)) (ho : OwnOff tl [sg, dpp]) (hne : @Ne Nat sg dpp) (hsub : ∀ p ∈ r, p ∈ tl) (hx : (x, instObj 52 d) ∈ tl) (hdx : (d, dictOf es nx) ∈ tl) (hck : CookT b ((mg "__name__").getD .none) i x tl es) (hr : Req tl rq sg) (hz : signs.length ≤ 2 ^ 20) (hfe : getL "http_response" es = some (some (.ref f))) (hp : Pg12 b7 ((mg "__name__").getD .none) r pg dpp ep c wd hs) (hw : wd.length ≤ 1000)
    (ret : ∀ h' tk' n' np' ep' t', Fr h₀ L h' m → News h₀ L h' ((sg, W.listOf (signs ++ [Value.int c t']).toArray n') :: (dpp, dictOf ep' np') :: tl) → Pg12 b7 ((mg "__name__").getD .none) r pg dpp ep' c (wd ++ "c") hs → Q (.ref pg) { s with heap := h', toks := tk' }) :
    wpAny (model PySem.Challenge.rw_dn0254_12.row.prog w) (ktrAny dp un gd env outer) (call (.ref f) [.ref rq, .ref pg]) Q E s := by
  obtain ⟨oc', od, params, dV, kV, doc, pm, cdv, ct', an, osl, hbody⟩ := hdef
  k_dflt (refine' lookup_same hbody ?k6 ?_; (case k6 => k_is))
  intro hbe hse
  obtain ⟨jar, jd, jn, f1, f2, f3, f4, c1, c2, k1, k2, k3, k4, jes, ok1, ok2, ok3, ok4, oc1, oc2, dc1, dc2, ct1, ct2, ct3, ct4, ti, x1, x2, x3, x4, x5, x6, x7, x8, y1, y2, y3, y4, z1, z2, z3, z4, u1, u2, u3, u4, u5, u6, u7⟩ := hck
  rw [hbe] at x4 x6
  dsimp only [extAt, rspAt, List.getElem?_cons_zero, List.getElem?_cons_succ] at x4 x6
  clear hbody hbe hse x3 x5 y1 y3 z1 z3
  obtain rfl : f = f4 := by rw [u7] at hfe; injection hfe with e; injection e with e; injection e with e; exact e.symm
  have hfm := x6
  have hkm := y4
  obtain ⟨vk, tk, d1, d2⟩ := z4
  obtain ⟨vk1, tk1, d11, d12⟩ := z2
  obtain ⟨dq, nq, eq, r1, r2, r3⟩ := hr
  obtain ⟨fl, cf, hda, nhd, kl, ocf, okl, ctl, tc, tw, hv, p1, p2, p3, p4, p5, p6, q1, q2, q3, q4, q5, q6⟩ := hp
  have p1' := hsub _ p1
  have p2' := hsub _ p2
  have p3' := hsub _ p3
  have p4' := hsub _ p4
  refine wpAny_call ?_
  k_dflt (refine' kla_code ?k1 ?k2 ?k3 ?k4 ?k5 ?kA ?kF ?kK ?k6 ?k7 ?k8 ?k9 ?kB ?_ ?c2 ?c3 ?c4 ?c5; (case kA => exact rfl); (case kF => assumption); (case kK => assumption); (case k1 => k_asm); (case k2 => k_asm); (case k3 => k_asm); (case k4 => k_asm); (case k5 => k_asm); (case k6 => exact .tail _ (.tail _ hfm)); (case k7 => exact codeRec_news N (.tail _ (.tail _ hkm)) d1 d2); (case k8 => k_room); (case k9 => exact rfl); (case c5 => decide); (case kB => exact locs rfl); (case c2 => exact rfl); (case c3 => exact rfl); (case c4 => exact rfl); k_whole; intro g' L' h' FG' F' N' B' X' T'; (try dsimp only); (try k_lift B'); (try k_fold))
  have hC' := hC.keeps FG'.keep
  kwd_less
  keq_rows
  rename Others _ _ _ => hoth
  have q2' := others_none hoth q2 (by decide)
  have q4' := others_none hoth q4 (by decide)
  keq_hits
  rename Fr h₀ _ _ m => F9
  rename News h₀ _ _ _ => N9
  exact ret _ _ _ _ _ _ F9 N9 ⟨fl, cf, hda, nhd, kl, ocf, okl, ctl, tc, _, hv, p1, p2, p3, p4, p5, p6, q1, q2', by assumption, q4', q5, by (first | lia | omega)⟩
end
end Mine


namespace Mine
/-! a generator expression with a target of two names whose element makes a tuple of two ints; collected, the tuples stand -/
def TupV (C : Addr) (o : Nat → Int) (i : Nat) (v : Value) (h : Heap) : Prop := ∃ (t : Addr) (ta tb : Tok), v = .ref t ∧ C < t ∧ h.get? t = some { cls := .type "tuple", data := .seq #[.int (o i) ta, .int (i : Int) tb] }
theorem TupV.keep {C : Addr} {o : Nat → Int} {i : Nat} {v : Value} {h h' : Heap} (x : TupV C o i v h) (k : ∀ b ob, C < b → ob.cls = .type "tuple" → h.get? b = some ob → h'.get? b = some ob) : TupV C o i v h' := by
  obtain ⟨t, ta, tb, e, lt, g⟩ := x
  exact ⟨t, ta, tb, e, lt, k _ _ lt rfl g⟩
def protoK (C : Addr) (wr : List Addr) (N : Nat) (o : Nat → Int) : Protocol := fun n s₀ v s kap =>
  TupV C o (N - (n + 1)) v s.heap ∧ GenSince C wr s₀ s ∧ ∀ s'' : Shared, (∀ b ob, @LE.le Nat _ b (C + 1) → s.heap.get? b = some ob → s''.heap.get? b = some ob) → kap (.send .none) s''
def endK (C : Addr) (wr : List Addr) : GenEnd := fun n s₀ r s₁ => r = .ok .next ∧ (n = 0 ∧ GenSince C wr s₀ s₁)
/-- what an element does -/
def EltK (prog : Program) (w : World) (AE : Around) (cenv : Env) (xa xb : Str) (elt : PySem.Expr) (C : Addr) (wr : List Addr) (Pt : Nat → Array Value → Prop) (o : Nat → Int) (href : Heap) : Prop :=
  ∀ E' (i : Nat) va vb (s₂ : Shared) m₂, Pt i #[va, vb] → s₂.heap.Ns C m₂ → m₂ xa = some va → m₂ xb = some vb → (∀ b ob, @LE.le Nat _ b (C + 1) → b ≠ C → b ∉ wr → href.get? b = some ob → s₂.heap.get? b = some ob) →
    wpAny (model prog w) AE (eval elt cenv) (fun y s₃ => TupV C o i y s₃.heap ∧ ∃ h tk, s₃ = { s₂ with heap := h, toks := tk } ∧ (∀ b ob, b ≠ C → s₂.heap.get? b = some ob → h.get? b = some ob) ∧ h.Ns C m₂) E' s₂
abbrev loopT (elt iter : PySem.Expr) (xa xb : Str) (pa pb pt : Pos) (kt : Nat) (scope : Scope) (pos : Pos) (I : Addr) (cenv : Env) : Code := .compLoop (.GeneratorExp elt [⟨.Tuple [.Name xa pa, .Name xb pb] kt pt, iter, [], 0⟩] scope pos) 0 (.ref I) .none cenv
section
variable {prog : Program} {w : World} {A : Around} {C I : Addr} {fp wr : List Addr} {N : Nat} {Pt : Nat → Array Value → Prop} {St₀ : Nat → Heap → Prop} {Mid : Nat → Addr → Heap → Prop} {o : Nat → Int}
theorem seg_K {elt iter : PySem.Expr} {xa xb : Str} {pa pb pt : Pos} {kt : Nat} {scope : Scope} {pos : Pos} {cenv : Env} (hh : A.handled = none)
    (W₀ : ∀ A' : Around, A'.handled = none → WalksU prog w A' I fp wr N Pt St₀ Mid) (hsz : ∀ i vals, Pt i vals → ∃ va vb, vals = #[va, vb]) (hab : xa ≠ xb) (href : Heap)
    (hxa : cenv.kindOf xa = some .local) (hxb : cenv.kindOf xb = some .local) (hp : (cenv.scope.kind == .class || (cenv.scope.kind == .module && cenv.locals != cenv.globals)) = false)
    (hco : cenv.scope.isCoroutine = false) (hC : cenv.locals = C) (hfp : ∀ b ∈ fp, @LT.lt Nat _ b C)
    (hq : EltK prog w (A.over (loopT elt iter xa xb pa pb pt kt scope pos I cenv) []) cenv xa xb elt C wr Pt o href) :
    ∀ (k i : Nat) (s₀ s : Shared) (m : Str → Option Value), N - i = k → i ≤ N → St₀ i s.heap → s.heap.Ns C m → GenSince C wr s₀ s →
      (∀ b ob, @LE.le Nat _ b (C + 1) → b ≠ C → b ∉ wr → href.get? b = some ob → s.heap.get? b = some ob) →
      Seg (model prog w) A (endK C wr) (protoK C wr N o) (N - i) s₀ (loopT elt iter xa xb pa pb pt kt scope pos I cenv) ((model prog w).den (loopT elt iter xa xb pa pb pt kt scope pos I cenv)) [] s := by
  have hh' : (A.over (loopT elt iter xa xb pa pb pt kt scope pos I cenv) []).handled = none := hh
  subst hC
  have hCf : cenv.locals ∉ fp := fun h => Nat.lt_irrefl _ (hfp _ h)
  have hCw : cenv.locals ∉ wr := fun h => hCf ((W₀ A hh).sub _ h)
  intro k
  induction k with
  | zero =>
    intro i s₀ s m hk hi hst hn hsince hkp
    have hin : i = N := by (first | lia | omega)
    subst hin
    show Seg _ A _ _ _ s₀ _ ((compTurn (.GeneratorExp elt [⟨.Tuple [.Name xa pa, .Name xb pb] kt pt, iter, [], 0⟩] scope pos) 0 (.ref I) .none cenv).onRaise (leaving cenv)) [] s
    rw [compTurn_gen, Sem.onRaise_eq_wrap]
    refine seg_bind_wrap (wpAny_standAt ?_)
    refine seg_bind_wrap ((W₀ _ hh').done s _ _ hst fun h' tk hk' => ?_)
    exact seg_end (.ok .next) ⟨rfl, by (first | lia | omega), hsince.step fun b ob _ hw e => hk' b ob hw e⟩
  | succ k ih =>
    intro i s₀ s m hk hi hst hn hsince hkp
    have hlt : i < N := by (first | lia | omega)
    show Seg _ A _ _ _ s₀ _ ((compTurn (.GeneratorExp elt [⟨.Tuple [.Name xa pa, .Name xb pb] kt pt, iter, [], 0⟩] scope pos) 0 (.ref I) .none cenv).onRaise (leaving cenv)) [] s
    rw [compTurn_gen, Sem.onRaise_eq_wrap]
    refine seg_bind_wrap (wpAny_standAt ?_)
    refine seg_bind_wrap ((W₀ _ hh').item i s _ _ hlt hst fun T vals h₁ tk₁ hPv hT₁ hmid hk₁ => ?_)
    obtain ⟨va, vb, rfl⟩ := hsz i vals hPv
    refine seg_bind_wrap ((W₀ _ hh').go _ _ _ i T _ _ _ hmid fun h₁' hst₁ hk₁' => ?_)
    have hT₁' : h₁'.IsTuple T #[va, vb] := let ⟨ob, e, r⟩ := hT₁; ⟨ob, hk₁' _ ob ((W₀ _ hh').apart i T _ hmid) e, r⟩
    refine seg_bind_wrap (wpAny_assign_Tuple hh' hT₁' rfl rfl fun h₁'' hx₁ => ?_)
    replace hx₁ : Heap.ExtBut h₁'.objs.size h₁' h₁'' := hx₁
    have old₁ : ∀ b ob, h₁'.get? b = some ob → h₁''.get? b = some ob := fun b ob e => hx₁ b ob (Nat.ne_of_lt (Heap.lt_size e)) e
    show wpAny _ _ (do holding [vb] (assign (.Name xa pa) cenv va); do holding [] (assign (.Name xb pb) cenv vb); pure ()) _ _ _
    refine wpAny_bind (wpAny_holding (wpAny_assign_Name (wpAny_storeName_local hxa (hn.at' fun ob e => old₁ _ ob (hk₁' _ ob hCw (hk₁ _ ob hCw e))) (fun h₂a hn₂a hs₂a => ?_) hp)))
    replace hs₂a : Heap.SameBut cenv.locals h₁'' h₂a := hs₂a
    refine wpAny_bind (wpAny_holding (wpAny_assign_Name (wpAny_storeName_local hxb hn₂a (fun h₂ hn₂ hs₂ => wpAny_pure ?_) hp)))
    replace hs₂ : Heap.SameBut cenv.locals h₂a h₂ := hs₂
    have up₂ : ∀ b ob, b ≠ cenv.locals → b ∉ wr → s.heap.get? b = some ob → h₂.get? b = some ob := fun b ob hbC hbw e => hs₂.extBut b ob hbC (hs₂a.extBut b ob hbC (old₁ b ob (hk₁' b ob hbw (hk₁ b ob hbw e))))
    have hst₂ : St₀ (i + 1) h₂ := (W₀ A hh).frame _ _ _ hst₁ fun b hb ob e => hs₂.extBut b ob (fun h => hCf (h ▸ hb)) (hs₂a.extBut b ob (fun h => hCf (h ▸ hb)) (old₁ b ob e))
    have hkp₂ : ∀ b ob, @LE.le Nat _ b (cenv.locals + 1) → b ≠ cenv.locals → b ∉ wr → href.get? b = some ob → h₂.get? b = some ob := fun b ob hb hbC hbw e => up₂ b ob hbC hbw (hkp b ob hb hbC hbw e)
    refine seg_bind_wrap (wpAny_pure ?_)
    have hlen : N - i = (N - (i + 1)) + 1 := by (first | lia | omega)
    rw [hlen]
    simp only [if_true]
    have hy : ∀ v, yieldOut cenv v = yieldValue v := fun v => by simp only [yieldOut, hco, Bool.false_eq_true, if_false]
    simp only [hy]
    rw [Sem.bind_eq_wrap', Sem.bind_eq_wrap', Sem.wrap_wrap, Sem.wrap_wrap]
    refine seg_wrap (wpAny_mono (hq _ i va vb _ _ hPv hn₂ (by simp [hab]) (by simp) hkp₂) (fun y s₄ h₄ => ?_) fun _ _ e => e)
    obtain ⟨hFy, h₄, tk₄, rfl, hk₄, hn₄⟩ := h₄
    have hidx : N - (N - (i + 1) + 1) = i := by (first | lia | omega)
    refine seg_at (seg_yield rfl rfl rfl ⟨by rw [hidx]; exact hFy, hsince.step fun b ob hbC hbw e => hk₄ b ob hbC (up₂ b ob hbC hbw e), fun s'' hal => ?_⟩)
    refine seg_again rfl (ih (i + 1) s'' s'' _ (by (first | lia | omega)) hlt ((W₀ A hh).frame _ _ _ hst₂ fun b hb ob e => hal b ob (Nat.le_of_lt (Nat.lt_succ_of_lt (hfp b hb))) (hk₄ b ob (fun h => hCf (h ▸ hb)) e))
      (hn₄.at' fun ob e => hal _ ob (Nat.le_succ _) e) (GenSince.refl _ _ _) fun b ob hb hbC hbw e => hal b ob hb (hk₄ b ob hbC (hkp₂ b ob hb hbC hbw e)))
theorem seg_K0 {elt iter : PySem.Expr} {xa xb : Str} {pa pb pt : Pos} {kt : Nat} {scope : Scope} {pos : Pos} {cenv : Env} (hh : A.handled = none)
    (W₀ : ∀ A' : Around, A'.handled = none → WalksU prog w A' I fp wr N Pt St₀ Mid) (hsz : ∀ i vals, Pt i vals → ∃ va vb, vals = #[va, vb]) (hab : xa ≠ xb) (href : Heap)
    (hxa : cenv.kindOf xa = some .local) (hxb : cenv.kindOf xb = some .local) (hp : (cenv.scope.kind == .class || (cenv.scope.kind == .module && cenv.locals != cenv.globals)) = false)
    (hco : cenv.scope.isCoroutine = false) (hC : cenv.locals = C) (hfp : ∀ b ∈ fp, @LT.lt Nat _ b C)
    (hq : EltK prog w (A.over (loopT elt iter xa xb pa pb pt kt scope pos I cenv) []) cenv xa xb elt C wr Pt o href)
    (s₀ s : Shared) (m : Str → Option Value) (hst : St₀ 0 s.heap) (hn : s.heap.Ns C m) (hs : GenSince C wr s₀ s) (hkp : ∀ b ob, @LE.le Nat _ b (C + 1) → b ≠ C → b ∉ wr → href.get? b = some ob → s.heap.get? b = some ob) :
    Seg (model prog w) A (endK C wr) (protoK C wr N o) N s₀ (.compStart (.GeneratorExp elt [⟨.Tuple [.Name xa pa, .Name xb pb] kt pt, iter, [], 0⟩] scope pos) 0 (.ref I) .none cenv)
      ((model prog w).den (.compStart (.GeneratorExp elt [⟨.Tuple [.Name xa pa, .Name xb pb] kt pt, iter, [], 0⟩] scope pos) 0 (.ref I) .none cenv)) [] s := by
  have hh' : (A.over (.compStart (.GeneratorExp elt [⟨.Tuple [.Name xa pa, .Name xb pb] kt pt, iter, [], 0⟩] scope pos) 0 (.ref I) .none cenv) []).handled = none := hh
  have loop := seg_K (iter := iter) (pa := pa) (pb := pb) (pt := pt) (kt := kt) (scope := scope) (pos := pos) hh W₀ hsz hab href hxa hxb hp hco hC hfp hq N 0 s₀ s m (Nat.sub_zero _) (Nat.zero_le _) hst hn hs hkp
  show Seg _ A _ _ _ s₀ _ ((compStart (.GeneratorExp elt [⟨.Tuple [.Name xa pa, .Name xb pb] kt pt, iter, [], 0⟩] scope pos) 0 (.ref I) .none cenv).onRaise (leaving cenv)) [] s
  unfold compStart
  rw [Sem.onRaise_eq_wrap]
  show Seg _ A _ _ _ s₀ _ ((ask >>= _).wrap _ _ _ _) [] s
  refine seg_bind_wrap (wpAny_askSetting ?_)
  split
  · exact seg_again rfl loop
  · first
      | exact seg_bind_wrap (wpAny_rule (seg_bind_wrap (wpAny_standAt (seg_bind_wrap ((W₀ _ hh').self 0 s _ _ hst (seg_again rfl loop))))))
      | (refine seg_bind_wrap (wpAny_rule ?_); show Seg _ A _ _ _ s₀ _ ((standAt iter.pos >>= _).wrap _ _ _ _) [] s; exact seg_bind_wrap (wpAny_standAt (seg_bind_wrap ((W₀ _ hh').self 0 s _ _ hst (seg_again rfl loop)))))
/-- such a generator, j elements taken -/
def GenK (prog : Program) (w : World) (A : Around) (C : Addr) (wr : List Addr) (N : Nat) (o : Nat → Int) (g j : Nat) (s : Shared) : Prop :=
  s.heap.IsGen (C + 1) g ∧ s.heap.NoLimit ∧ ∃ gs, s.gens[g]? = some gs ∧ ∀ s'' : Shared, (∀ b ob, @LE.le Nat _ b (C + 1) → s.heap.get? b = some ob → s''.heap.get? b = some ob) →
    gs.Goes (model prog w) A.in1 (endK C wr) (protoK C wr N o) (N - j) (.send .none) s''
def MovedK (C : Addr) (wr : List Addr) (s s' : Shared) : Prop := (∀ b ob, b ≠ C → b ∉ wr → s.heap.get? b = some ob → s'.heap.get? b = some ob) ∧ (AllBare s.gens → AllBare s'.gens) ∧ s'.os = s.os
theorem next_K {g j : Nat} {s : Shared} {Q : Option Value → Shared → Prop} {E : Value → Shared → Prop} (hh : A.handled = none) (hroom : A.depth < recursionLimit) (hwr : ∀ b ∈ wr, @LT.lt Nat _ b C) (hcs : @LT.lt Nat _ cStatics C) (hcw : cStatics ∉ wr) (hj : j < N) (st : GenK prog w A C wr N o g j s)
    (hQ : ∀ v s', TupV C o j v s'.heap → GenK prog w A C wr N o g (j + 1) s' → MovedK C wr s s' → Q (some v) s') : wpAny (model prog w) A (pyNext (.ref (C + 1))) Q E s := by
  obtain ⟨hg, hl, gs, hgs, hgo⟩ := st
  obtain ⟨m, hm⟩ : ∃ m, N - j = m + 1 := ⟨N - j - 1, by (first | lia | omega)⟩
  rw [hm] at hgo
  refine wpAny_pyNext_genexpQ (P := fun n s₀ s₁ => n = 0 ∧ GenSince C wr s₀ s₁) hh hl hroom hg hgs (hgo _ fun _ _ _ e => e) (fun v s₁ gs' hb hv => ?_) (fun s₁ hp h' hk => ?_)
  · obtain ⟨hT, ⟨h₁, tk₁, rfl, hk₁⟩, hkap⟩ := hv
    have haC : C + 1 ≠ C := Nat.succ_ne_self C
    have haw : C + 1 ∉ wr := fun z => absurd (hwr _ z) (Nat.not_lt.mpr (Nat.le_succ C))
    have hidx : N - (m + 1) = j := by (first | lia | omega)
    rw [Nat.add_sub_cancel, hidx] at hT
    refine hQ _ _ hT ⟨let ⟨ob, nm, qn, ho, r⟩ := hg; ⟨ob, nm, qn, hk₁ _ ob haC haw ho, r⟩, (let ⟨mc, hns, hnn⟩ := hl; ⟨mc, hns.at' fun ob e => hk₁ cStatics ob (Nat.ne_of_lt hcs) hcw e, hnn⟩), gs', setGen_self (gs := .running) (setGen_self hgs), fun s'' hal => ?_⟩ ⟨hk₁, bare_set hgs hb rfl, rfl⟩
    have e : N - (j + 1) = m := by (first | lia | omega)
    rw [e]
    exact hkap s'' hal
  · exact absurd hp.1 (Nat.succ_ne_zero m)
theorem done_K {g : Nat} {s : Shared} {Q : Option Value → Shared → Prop} {E : Value → Shared → Prop} (hh : A.handled = none) (hroom : A.depth < recursionLimit) (st : GenK prog w A C wr N o g N s)
    (hQ : ∀ s', MovedK C wr s s' → Q none s') : wpAny (model prog w) A (pyNext (.ref (C + 1))) Q E s := by
  obtain ⟨hg, hl, gs, hgs, hgo⟩ := st
  rw [Nat.sub_self] at hgo
  refine wpAny_pyNext_genexpQ (P := fun n s₀ s₁ => n = 0 ∧ GenSince C wr s₀ s₁) hh hl hroom hg hgs (hgo _ fun _ _ _ e => e) (fun v s₁ gs' hb hv => ?_) (fun s₁ hp h' hk => ?_)
  · obtain ⟨_, _, hkap⟩ := hv
    exact False.elim (hkap s₁ fun _ _ _ e => e)
  · obtain ⟨_, h₁, tk₁, rfl, hk₁⟩ := hp
    exact hQ _ ⟨fun b ob h1 h2 e => hk b ob (hk₁ b ob h1 h2 e), bare_set (gs' := .finished) hgs rfl rfl, rfl⟩
end
end Mine


namespace Mine
section
variable {prog : Program} {w : World} {A : Around} {C : Addr} {wr : List Addr} {N : Nat} {o : Nat → Int}
def ListAt (h : Heap) (S : Addr) (acc : Array Value) (c : Nat) : Prop := h.get? S = some { cls := .type "list", dict := none, data := .seq acc c, slots := #[] }
theorem extend_K {g : Nat} {R : Result → Shared → Prop} (hh : A.handled = none) (hroom : A.in1.depth < recursionLimit) (hwr : ∀ b ∈ wr, @LT.lt Nat _ b C) (hcs : @LT.lt Nat _ cStatics C) (hcw : cStatics ∉ wr) (hn : N ≤ sizeLine) (S : Addr) (hS : @LT.lt Nat _ (C + 1) S) (res : Value) :
    ∀ (k i : Nat) (s : Shared) (acc : Array Value) (c : Nat), N - i = k → i ≤ N → GenK prog w A.in1 C wr N o g i s → ListAt s.heap S acc c → acc.size = i → (∀ (j : Nat) v, acc[j]? = some v → TupV C o j v s.heap) →
    (∀ s' acc' c', (∀ b ob, b ≠ C → b ∉ wr → b ≠ S → s.heap.get? b = some ob → s'.heap.get? b = some ob) → (AllBare s.gens → AllBare s'.gens) → s'.os = s.os → ListAt s'.heap S acc' c' → acc'.size = N → (∀ (j : Nat) v, acc'[j]? = some v → TupV C o j v s'.heap) → R (.ok (.ret res)) s') →
    codeAny (model prog w) A (.builtin "list.extend.loop" ⟨[.ref S, .ref (C + 1), res], []⟩) R s := by
  have hSC : S ≠ C := Nat.ne_of_gt (Nat.lt_trans (Nat.lt_succ_self C) hS)
  have hSw : S ∉ wr := fun z => absurd (hwr _ z) (Nat.not_lt.mpr (Nat.le_of_lt (Nat.lt_trans (Nat.lt_succ_self C) hS)))
  have hwC : ∀ b, @LT.lt Nat _ C b → b ∉ wr := fun b hb z => absurd (hwr _ z) (Nat.not_lt.mpr (Nat.le_of_lt hb))
  intro k
  induction k with
  | zero =>
    intro i s acc c hk hi hst hL hsz hacc hR
    have hin : i = N := by (first | lia | omega)
    subst hin
    refine codeAny_builtin F.entry_extend_loop ?_
    rw [Around.under_plainId F.plain_extend_loop _]
    show wpAny _ A.in1 (pyNext (.ref (C + 1)) >>= _) _ _ s
    refine wpAny_bind (done_K (A := A.in1) hh hroom hst fun s' hm => ?_)
    exact wpAny_pure (hR s' acc c (fun b ob h1 h2 _ e => hm.1 b ob h1 h2 e) hm.2.1 hm.2.2 (hm.1 S _ hSC hSw hL) hsz fun j v hv => (hacc j v hv).keep fun b ob hb _ e => hm.1 b ob (Nat.ne_of_gt hb) (hwC b hb) e)
  | succ k ih =>
    intro i s acc c hk hi hst hL hsz hacc hR
    have hlt : i < N := by (first | lia | omega)
    refine codeAny_builtin F.entry_extend_loop ?_
    rw [Around.under_plainId F.plain_extend_loop _]
    show wpAny _ A.in1 (pyNext (.ref (C + 1)) >>= _) _ _ s
    refine wpAny_bind (next_K (A := A.in1) hh hroom hwr hcs hcw hlt hst fun v s' hT hst' hm => ?_)
    have hL' : ListAt s'.heap S acc c := hm.1 S _ hSC hSw hL
    show wpAny _ A.in1 (updateSeq S (·.push v) >>= _) _ _ _
    refine wpAny_bind ?_
    have up : ∀ b ob, b ≠ S → s'.heap.get? b = some ob → (s'.heap.update S (Obj.mapSeq (·.push v))).get? b = some ob := fun b ob hb e => (Heap.get?_update_other _ _ (Ne.symm hb)).trans e
    have upT : ∀ {j x}, TupV C o j x s'.heap → TupV C o j x (s'.heap.update S (Obj.mapSeq (·.push v))) := fun x => x.keep fun b ob _ hc e => up b ob (fun q => by
      rw [q, show s'.heap.get? S = _ from hL'] at e
      cases e
      exact absurd (show Value.type "list" = Value.type "tuple" from hc) (by decide)) e
    refine wpAny_updateSeq hL' rfl (wpAny_pure ⟨plainId_quiet F.plain_extend_loop _, ih (i + 1) _ (acc.push v) _ (by (first | lia | omega)) hlt ?_ (Heap.get?_update_self _ hL' rfl) (by rw [Array.size_push, hsz]) ?_ fun s'' acc' c' k2 b2 o2 hL2 hz2 ha2 => ?_⟩)
      (by rw [hsz]; (first | lia | omega)) (by show (acc.push v).size ≤ sizeLine + 1; rw [Array.size_push, hsz]; (first | lia | omega))
    · obtain ⟨g1, g2, gs, g3, g4⟩ := hst'
      have ups : ∀ b ob, @LE.le Nat _ b (C + 1) → s'.heap.get? b = some ob → (s'.heap.update S (Obj.mapSeq (·.push v))).get? b = some ob := fun b ob hb e => up b ob (Nat.ne_of_lt (Nat.lt_of_le_of_lt hb hS)) e
      refine ⟨let ⟨ob, nm, qn, ho, r⟩ := g1; ⟨ob, nm, qn, ups _ _ (Nat.le_refl _) ho, r⟩, (let ⟨mc, hns, hnn⟩ := g2; ⟨mc, hns.at' fun ob e => ups cStatics ob (Nat.le_of_lt (Nat.lt_succ_of_lt hcs)) e, hnn⟩), gs, g3, fun s'' hal => g4 s'' fun b ob hb e => hal b ob hb (ups b ob hb e)⟩
    · intro j x hx
      rw [Array.getElem?_push] at hx
      split at hx
      · rename_i e
        cases hx
        rw [e, hsz]
        exact upT hT
      · exact upT ((hacc j x hx).keep fun b ob hb _ e => hm.1 b ob (Nat.ne_of_gt hb) (hwC b hb) e)
    · exact hR s'' acc' c' (fun b ob h1 h2 h3 e => k2 b ob h1 h2 h3 (up b ob h3 (hm.1 b ob h1 h2 e))) (fun hb => b2 (hm.2.1 hb)) (o2.trans hm.2.2) hL2 hz2 ha2
theorem collect_K {g : Nat} {s : Shared} {Q : List Value → Shared → Prop} {E : Value → Shared → Prop} (hh : A.handled = none) (hroom : A.in1.depth < recursionLimit) (hwr : ∀ b ∈ wr, @LT.lt Nat _ b C) (hcs : @LT.lt Nat _ cStatics C) (hcw : cStatics ∉ wr) (hn : N ≤ sizeLine)
    (st : GenK prog w A.in1 C wr N o g 0 s)
    (hQ : ∀ s' us, (∀ b ob, b ≠ C → b ∉ wr → @LT.lt Nat _ b s.heap.objs.size → s.heap.get? b = some ob → s'.heap.get? b = some ob) → (AllBare s.gens → AllBare s'.gens) → s'.os = s.os → us.length = N → (∀ (j : Nat) v, us[j]? = some v → TupV C o j v s'.heap) → Q us s') : wpAny (model prog w) A (collect (.ref (C + 1))) Q E s := by
  have hlt : @LT.lt Nat _ (C + 1) s.heap.objs.size := by obtain ⟨ob, _, _, ho, _⟩ := st.1; exact Heap.lt_size ho
  have hSI : s.heap.objs.size ≠ C + 1 := Nat.ne_of_gt hlt
  unfold collect
  refine wpAny_bind (wpAny_runValue (codeAny_builtin F.entry_proto_collect ?_))
  rw [Around.under_plainId F.plain_proto_collect _]
  show wpAny _ A.in1 (newList [] >>= fun l => again (.builtin "list.__iadd__" ⟨[l, .ref (C + 1)], []⟩)) _ _ s
  refine wpAny_bind (wpAny_newObj_type ?_)
  refine wpAny_pure ⟨plainId_quiet F.plain_list_iadd _, codeAny_builtin F.entry_list_iadd ?_⟩
  rw [Around.under_plainId F.plain_list_iadd _]
  have hT : ∀ h', (∀ b ob, @LE.le Nat _ b (C + 1) → s.heap.get? b = some ob → h'.get? b = some ob) → ∀ tk, ({ s with heap := h', toks := tk } : Shared).TypeIs (.ref (C + 1)) "generator" := fun h' k tk => let ⟨ob, _, _, ho, hc, _⟩ := st.1; ⟨ob, k _ _ (Nat.le_refl _) ho, hc⟩
  have kp : ∀ b ob, s.heap.get? b = some ob → (s.heap.push { cls := .type "list", data := .seq ([] : List Value).toArray }).get? b = some ob := fun b ob e => Heap.get?_push_of_some _ e
  show wpAny _ A.in1 (Builtin.List.listExtendWith (.ref s.heap.objs.size) (.ref (C + 1)) (.ref s.heap.objs.size)) _ _ _
  unfold Builtin.List.listExtendWith
  refine wpAny_bind (wpAny_typeOf (hT _ (fun b ob _ e => kp b ob e) _) ?_)
  have h1 : Builtin.List.listSameRef (.ref s.heap.objs.size) (.ref (C + 1)) = false := by simp [Builtin.List.listSameRef, hSI]
  have h2 : (Value.type "generator" == Value.type "list") = false := by decide
  have h3 : (Value.type "generator" == Value.type "tuple") = false := by decide
  simp only [h1, h2, h3, Bool.or_false, Bool.false_eq_true, if_false]
  refine wpAny_bind (wpAny_pyIter_gen (let ⟨ob, nm, qn, ho, r⟩ := st.1; ⟨ob, nm, qn, kp _ _ ho, r⟩) ?_)
  refine wpAny_bind (wpAny_holding ?_)
  unfold Builtin.List.listLengthHint
  refine wpAny_bind (wpAny_specialOf (hT _ (fun b ob _ e => kp b ob e) _) F.gen_no_len ?_)
  show wpAny _ A.in1 (specialOf (Value.ref (C + 1)) (Str.ofString "__length_hint__") >>= _) _ _ _
  refine wpAny_bind (wpAny_specialOf (hT _ (fun b ob _ e => kp b ob e) _) F.gen_no_hint ?_)
  refine wpAny_pure ?_
  show wpAny _ A.in1 (rule "list.extend.makes-room" >>= fun _ => Builtin.List.listTouch (.ref s.heap.objs.size) >>= fun _ =>
    again (.builtin "list.extend.loop" ⟨[.ref s.heap.objs.size, .ref (C + 1), .ref s.heap.objs.size], []⟩)) _ _ _
  refine wpAny_bind (wpAny_rule ?_)
  have hS₁ : (s.heap.push { cls := .type "list", data := .seq ([] : List Value).toArray }).get? s.heap.objs.size = some { cls := .type "list", data := .seq ([] : List Value).toArray } := Heap.get?_push_size _ rfl
  refine wpAny_bind ?_
  show wpAny _ A.in1 (updateSeq s.heap.objs.size (·.push .none) >>= fun _ => updateSeq s.heap.objs.size (·.pop)) _ _ _
  refine wpAny_bind (wpAny_updateSeq hS₁ rfl ?_)
  have hS₂ := Heap.get?_update_self (Obj.mapSeq (·.push Value.none)) hS₁ rfl
  refine wpAny_updateSeq hS₂ rfl ?_
  have hS₃ := Heap.get?_update_self (Obj.mapSeq (·.pop)) hS₂ rfl
  have oth : ∀ b ob, b ≠ s.heap.objs.size → s.heap.get? b = some ob →
      (((s.heap.push { cls := .type "list", data := .seq ([] : List Value).toArray }).update s.heap.objs.size (Obj.mapSeq (·.push Value.none))).update s.heap.objs.size (Obj.mapSeq (·.pop))).get? b = some ob :=
    fun b ob hb e => (Heap.get?_update_other _ _ (Ne.symm hb)).trans ((Heap.get?_update_other _ _ (Ne.symm hb)).trans (kp b ob e))
  have othle : ∀ b ob, @LE.le Nat _ b (C + 1) → s.heap.get? b = some ob → _ := fun b ob hb e => oth b ob (Nat.ne_of_lt (Nat.lt_of_le_of_lt hb hlt)) e
  obtain ⟨c3, hL3⟩ : ∃ c, ListAt ((((s.heap.push { cls := .type "list", data := .seq ([] : List Value).toArray }).update s.heap.objs.size (Obj.mapSeq (·.push Value.none))).update s.heap.objs.size (Obj.mapSeq (·.pop)))) s.heap.objs.size #[] c := ⟨_, hS₃⟩
  refine wpAny_pure ⟨plainId_quiet F.plain_extend_loop _, extend_K (A := A) (g := g) (o := o) hh hroom hwr hcs hcw hn _ hlt _ N 0 _ #[] c3 rfl (Nat.zero_le _) ?_ hL3 rfl (fun j v hv => by simp at hv) fun s' acc' c' k2 b2 o2 hL2 hz2 ha2 => ?_⟩
  · obtain ⟨g1, g2, gs, g3, g4⟩ := st
    exact ⟨let ⟨ob, nm, qn, ho, r⟩ := g1; ⟨ob, nm, qn, othle _ _ (Nat.le_refl _) ho, r⟩, (let ⟨mc, hns, hnn⟩ := g2; ⟨mc, hns.at' fun ob e => othle cStatics ob (Nat.le_of_lt (Nat.lt_succ_of_lt hcs)) e, hnn⟩), gs, g3, fun s'' hal => g4 s'' fun b ob hb e => hal b ob hb (othle b ob hb e)⟩
  · show wpAny _ A (load s.heap.objs.size >>= _) _ _ s'
    refine wpAny_bind (wpAny_load hL2 ?_)
    refine wpAny_pure (hQ s' acc'.toList (fun b ob h1 h2 hb e => k2 b ob h1 h2 (Nat.ne_of_lt hb) (oth b ob (Nat.ne_of_lt hb) e)) b2 o2 (by simpa using hz2) fun j v hv => ha2 j v (by rw [← hv, Array.getElem?_toList]))
theorem gen_K {A₂ : Around} {h₁ h₀ : Heap} {c P L : Addr} {ps : Array Value} {m mg : Str → Option Value} {bm : Addr} {ob : Obj} {s : Shared} {E : Value → Shared → Prop} {env : Env} {elt iter : PySem.Expr} {xa xb : Str} {pa pb pt : Pos} {kt : Nat} {scope : Scope} {cl : List (Str × Addr)} {pos : Pos} {Q : Value → Shared → Prop}
    (B : Based h₁ h₀ c P ps) (M : BMod h₀ env.globals mg bm ob) (hcode : env.code = .ref c) (hnf : codeAmong pos ps.toList = none)
    (hh : A₂.handled = none) (hco : scope.isCoroutine = false) (hclos : closureFor scope env = pure cl) (hcell : ∀ y ∈ scope.names, y.2 ≠ .cell) (h0 : scope.names.lookup (".0" : Str) = some NameKind.local)
    (hxa : scope.names.lookup xa = some .local) (hxb : scope.names.lookup xb = some .local) (hab : xa ≠ xb) (hkind : scope.kind = .function) (hroom : A.depth < recursionLimit)
    (h : wpAny (model prog w) A (eval iter env) (fun xv s₁ => wpAny (model prog w) A (pyIter xv) (fun it s₂ => ∃ I fp wr N Pt St₀ Mid, it = .ref I ∧ (∀ A' : Around, A'.handled = none → WalksU prog w A' I fp wr N Pt St₀ Mid) ∧ (∀ i vals, Pt i vals → ∃ va vb, vals = #[va, vb]) ∧ St₀ 0 s₂.heap ∧ (∀ b ∈ fp, b < s₂.heap.objs.size) ∧ P ∉ fp ∧ cStatics ∉ wr ∧ Fr h₀ L s₂.heap m ∧ s₂.heap.NoLimit ∧
      ∀ (c' C : Addr) (h₄ h₅ : Heap) (tk : Nat) (gs : GenState), gs.bare = true → h₄.objs.size = C → s₂.heap.objs.size ≤ C → h₅.objs.size = C + 1 + 1 → (∃ go, h₅.get? (C + 1) = some go) → (∀ b o, b ≠ P → s₂.heap.get? b = some o → h₄.get? b = some o) → (∀ b o, h₄.get? b = some o → h₅.get? b = some o) →
        Based h₁ (regrown h₀ P (ps ++ #[rawInt pos.line, rawInt pos.col, .ref c'])) c P (ps ++ #[rawInt pos.line, rawInt pos.col, .ref c']) → Fr (regrown h₀ P (ps ++ #[rawInt pos.line, rawInt pos.col, .ref c'])) L h₄ m →
        ∃ o, EltK prog w (A₂.in1.over (loopT elt iter xa xb pa pb pt kt scope pos I (genEnv scope cl C (.ref c') builtinsNs env)) []) (genEnv scope cl C (.ref c') builtinsNs env) xa xb elt C wr Pt o h₅ ∧
          (GenK prog w A₂ C wr N o s₂.gens.size 0 { s₂ with gens := s₂.gens.push gs, toks := tk, heap := h₅ } → Q (.ref (C + 1)) { s₂ with gens := s₂.gens.push gs, toks := tk, heap := h₅ })) E s₁) E s)
    (hs : ∀ x, genFold iter env x = pure x) :
    wpAny (model prog w) A (eval (.GeneratorExp elt [⟨.Tuple [.Name xa pa, .Name xb pb] kt pt, iter, [], 0⟩] scope pos) env) Q E s := by
  refine wpAny_GeneratorExp_make hco hclos hcell h0 hkind hroom (wpAny_mono h (fun xv s₁ h₁' => wpAny_mono h₁' (fun it s₂ h₂' => ?_) fun _ _ e => e) fun _ _ e => e) hs
  obtain ⟨I, fp, wr, N, Pt, St₀, Mid, rfl, W₀, hsz, hst, hfp, hPf, hcw, F₂, hlim₂, hq⟩ := h₂'
  refine ⟨hlim₂, ?_⟩
  refine wpAny_genexprCodeX (s := s₂) hcode (B.codeAt F₂) (B.tabAt F₂) hnf fun c' h₃ tk₃ hx₃ hge hlt₃ hcode₃ _ htab₃ _ => ?_
  have hsz₃ : s₂.heap.objs.size ≤ h₃.objs.size := Nat.le_trans hge (Nat.le_of_lt hlt₃)
  obtain ⟨B₃, F₃⟩ := B.grow F₂ hx₃ hcode₃ htab₃
  have M₃ : BMod h₃ env.globals mg bm ob := (M.keeps F₂.keep).extBut (B.tabAt F₂) hx₃
  have hcP : cStatics ≠ P := fun e => by
    obtain ⟨_, hns, _⟩ := hlim₂
    obtain ⟨o, es, ep, ho, hd, _⟩ := hns
    rw [e, (B.tabAt F₂).2] at ho; cases ho; cases hd
  have hl₃ : h₃.NoLimit := hlim₂.extBut hx₃ hcP
  refine wpAny_builtinsFor M₃.ns M₃.name M₃.ne M₃.obj M₃.cls M₃.dict M₃.data ?_
  intro h' hn' hs'
  have hsz' : h'.objs.size = h₃.objs.size + 1 := by rw [hs'.1, Heap.size_push]
  have keep' : ∀ b o, h₃.get? b = some o → h'.get? b = some o := fun b o e => hs'.extBut b o (Nat.ne_of_lt (Heap.lt_size e)) (Heap.get?_push_of_some _ e)
  have keep₅ : ∀ b o, h₃.get? b = some o → (h'.push { cls := .type "generator", data := .fields #[.int s₂.gens.size 0, .str "<genexpr>" (tk₃ + 1), .str (env.qual ++ "<genexpr>") (tk₃ + 1 + 1)] }).get? b = some o := fun b o e => Heap.get?_push_of_some _ (keep' b o e)
  obtain ⟨o, hE, hQ⟩ := hq c' h₃.objs.size h₃ (h'.push { cls := .type "generator", data := .fields #[.int s₂.gens.size 0, .str "<genexpr>" (tk₃ + 1), .str (env.qual ++ "<genexpr>") (tk₃ + 1 + 1)] }) (tk₃ + 1 + 1 + 1) (.fresh (.compStart (.GeneratorExp elt [⟨.Tuple [.Name xa pa, .Name xb pb] kt pt, iter, [], 0⟩] scope pos) 0 (.ref I) .none (genEnv scope cl h₃.objs.size (.ref c') builtinsNs env))) rfl rfl hsz₃ (by rw [Heap.size_push, hsz']) ⟨_, by rw [← hsz']; exact Heap.get?_push_size _ rfl⟩ (fun b o hb e => hx₃ b o hb e) keep₅ B₃ F₃
  rw [hsz']
  refine hQ ⟨⟨_, _, _, by rw [← hsz']; exact Heap.get?_push_size _ rfl, rfl, rfl, rfl⟩, hl₃.keeps keep₅, _, Array.getElem?_push_size .., fun s'' hal => ⟨rfl, ?_⟩⟩
  have hns : (h'.push { cls := .type "generator", data := .fields #[.int s₂.gens.size 0, .str "<genexpr>" (tk₃ + 1), .str (env.qual ++ "<genexpr>") (tk₃ + 1 + 1)] }).Ns h₃.objs.size (fun y => if y = ".0" then some (.ref I) else none) := hn'.push _
  have hfp₃ : ∀ b ∈ fp, @LT.lt Nat _ b h₃.objs.size := fun b hb => Nat.lt_of_lt_of_le (hfp b hb) hsz₃
  refine seg_K0 (A := A₂.in1) hh W₀ hsz hab _ (by simp [Env.kindOf, genEnv, hxa]) (by simp [Env.kindOf, genEnv, hxb]) (by simp [genEnv, hkind]) hco rfl hfp₃ hE s'' s'' _ ((W₀ A₂ hh).frame _ _ _ hst fun b hb o e => hal b o (Nat.le_of_lt (Nat.lt_succ_of_lt (hfp₃ b hb))) (keep₅ b o (hx₃ b o (fun q => hPf (q ▸ hb)) e))) (hns.at' fun o e => hal _ o (Nat.le_succ _) e) (GenSince.refl _ _ _) fun b o hb _ _ e => hal b o hb e
end
end Mine


namespace Mine
/-- the heap's first C places -/
def cutH (h : Heap) (C : Nat) : Heap := { h with objs := h.objs.extract 0 C }
theorem cutH_lt {h : Heap} {C : Nat} {b : Addr} (hb : @LT.lt Nat _ b C) : (cutH h C).get? b = h.get? b := by
  unfold Heap.get? cutH
  have : (h.objs.extract 0 C)[b]? = h.objs[b]? := by
    rw [Array.getElem?_extract]
    by_cases q : b < min C h.objs.size
    · simp [q]
    · have : h.objs[b]? = none := Array.getElem?_eq_none (by have hb' : @LT.lt Nat _ b C := hb; have q' : ¬ @LT.lt Nat _ b (min C h.objs.size) := q; show @LE.le Nat _ h.objs.size b; (first | lia | omega))
      simp [this, q]
  simp only [this]
theorem cutH_ge {h : Heap} {C : Nat} {b : Addr} (hb : @LE.le Nat _ C b) : (cutH h C).get? b = none := by
  unfold Heap.get? cutH
  have : (h.objs.extract 0 C)[b]? = none := Array.getElem?_eq_none (by simp; (first | lia | omega))
  simp only [this]
theorem of_cutH {h : Heap} {C : Nat} {b : Addr} {o : Obj} (e : (cutH h C).get? b = some o) : h.get? b = some o := by
  by_cases q : @LT.lt Nat _ b C
  · rwa [cutH_lt q] at e
  · rw [cutH_ge (Nat.le_of_not_lt q)] at e; cases e
theorem cutH_size {h : Heap} {C : Nat} : (cutH h C).objs.size ≤ C := by
  show (h.objs.extract 0 C).size ≤ C
  simp
  (first | lia | omega)
section
variable {prog : Program} {w : World} {A : Around} {E : Value → Shared → Prop} {s : Shared} {h₀ : Heap} {L : Addr} {m mg mb : Str → Option Value} {K : Frag} {p : Program} {loose : List Str} {mean : ExcName → Option Value} {x : Str} {pos : Pos} {env : Env} {v : Value}
theorem name_env (F : Fr h₀ L s.heap m) (X : K.In h₀) (T : TopRead p loose mg mb h₀) (e : nsIn K mainGlobals x = some (some v)) {Q : Value → Shared → Prop} (h : Q v s) (hg : env.globals = mainGlobals)
    (hk : env.scope.kind = .function) (hx : env.kindOf x = some .globalImplicit) (hd : (x == ("__debug__" : Str)) = false) :
    wpAny (model prog w) A (eval (.Name x pos) env) Q E s :=
  Name_function_global hk hx (loadGlobal_global (hg ▸ (T.g.keeps F.keep)) (mg_of X T.g e) h) hd
/-- a call of a def of K, by name, with one local, in any function's env -/
theorem call1_env {f : Str} {a : Addr} {pf px pos : Pos} (F : Fr h₀ L s.heap m) (X : K.In h₀) (T : TopRead p loose mg mb h₀) (e : nsIn K mainGlobals f = some (some (.ref a))) (hk' : keepIn K (.ref a) = true) {Q : Value → Shared → Prop} (hg : env.globals = mainGlobals)
    (hk : env.scope.kind = .function) (hf : env.kindOf f = some .globalImplicit) (hdf : (f == ("__debug__" : Str)) = false) (hl : env.locals = L) (hx : env.kindOf x = some .local) (hdx : (x == ("__debug__" : Str)) = false) (hv : m x = some v)
    (h : wpAny (model prog w) A (call (.ref a) [v]) Q E s) : wpAny (model prog w) A (eval (.Call (.Name f pf) [.Name x px] [] pos) env) Q E s := by
  refine Call_ ?_
  refine name_env F X T e ?_ hg hk hf hdf
  refine callWith_K X hk' ?_
  refine spliced_more ?_
  subst hl
  refine wpAny_Name (wpAny_loadName_local hk hx F.ns hv ?_) hdx
  refine spliced_none ⟨X.keeps F.keep, h⟩
end
end Mine


namespace Mine
theorem fillB : PySem.Challenge.rw_dn0254_12.row.prog = PySem.Challenge.rw_dn0254_12.row.prog ∧ Mine.hd.heap_39 = Mine.hd.heap_39 := by
  w_top off
  k_fill
  exact ⟨rfl, rfl⟩
def highs (h : Heap) (C : Nat) : List (Addr × Obj) := (List.range h.objs.size).filterMap fun b => if C < b then (h.get? b).map fun o => (b, o) else none
theorem highs_mem {h : Heap} {C b : Nat} {o : Obj} (hb : C < b) (e : h.get? b = some o) : (b, o) ∈ highs h C := by
  refine List.mem_filterMap.mpr ⟨b, List.mem_range.mpr (Heap.lt_size e), ?_⟩
  rw [if_pos hb, e]; rfl
theorem highs_of {h : Heap} {C : Nat} {p : Addr × Obj} (hp : p ∈ highs h C) : @LT.lt Nat _ C p.1 ∧ h.get? p.1 = some p.2 := by
  obtain ⟨b, _, e⟩ := List.mem_filterMap.mp hp
  split at e
  · rename_i lt
    cases q : h.get? b with
    | none => rw [q] at e; cases e
    | some o => rw [q] at e; cases e; exact ⟨lt, q⟩
  · cases e
section
variable {w : World} {p : Program} {loose : List Str} {mean : ExcName → Option Value} {mg mb : Str → Option Value}
theorem elem12 {A₀ : Around} {cenv lenv : Env} {L C : Nat} {base h₄ h₅ : Heap} {vs : List Value} {ns : List Int} {wr : List Addr} {dp un : Nat} {gd : Option (List Code)} {p1 p2 p3 p4 p5 : Pos} {kt : Nat} {oL : Obj} {es : Array DictEntry} {ep : Nat} {Pt : Nat → Array Value → Prop}
    (B : Below A₀ base [lenv] h₄) (XB : (Mine.hd.heap_39 w.params).In base) (TB : Top p loose mean mg mb base) (hwb : ∀ b ∈ wr, base.get? b = none)
    (hlf : lenv.frame = some L) (hL : h₄.get? L = some oL) (hLd : oL.data = .dict es ep) (hcf : cenv.frame = some C) (hcl : cenv.locals = C) (hck : cenv.scope.kind = .function) (hcg : cenv.globals = mainGlobals)
    (hx : cenv.kindOf "n" = some .local) (hx1 : cenv.kindOf "number" = some .local) (hx2 : cenv.kindOf "_law_order" = some .globalImplicit) (hCs : h₄.objs.size = C) (h45 : ∀ b o, h₄.get? b = some o → h₅.get? b = some o)
    (hP : ∀ i va vb, Pt i #[va, vb] → ∃ t, va = .int (i : Int) t ∧ vs[i]? = some vb)
    (hI : IntsAre vs ns) (hd : dp + 30 < recursionLimit) (hu : un + 300 < cLine) (hLC : L < C) (hLw : L ∉ wr) :
    EltK PySem.Challenge.rw_dn0254_12.row.prog w (ktrAny dp un gd cenv [lenv]) cenv "number" "n" (.Tuple [.Call (.Name "_law_order" p1) [.Name "n" p2] [] p3, .Name "number" p4] kt p5) C wr Pt (fun i => ordr (ns.getD i 0)) h₅ := by
  intro E i va vb s m hPt hn hma hmb hkp
  obtain ⟨ti, rfl, hvb⟩ := hP _ _ _ hPt
  obtain ⟨n, t, rfl, hnn⟩ := IntsAre.at hI i vb hvb
  have hg : ∀ b o, @LT.lt Nat _ b C → s.heap.get? b = some o → (cutH s.heap C).get? b = some o := fun b o lt e => (cutH_lt lt).trans e
  have hge : ∀ b, @LE.le Nat _ C b → (cutH s.heap C).get? b = none := fun b le => cutH_ge le
  have F : Fr (cutH s.heap C) C s.heap m := ⟨hn, fun b o e => of_cutH e, cutH_size⟩
  have h4s : ∀ b o, h₄.get? b = some o → b ∉ wr → s.heap.get? b = some o := fun b o e n2 => by
    have lt : @LT.lt Nat _ b C := by have := Heap.lt_size e; rw [hCs] at this; exact this
    exact hkp b o (Nat.le_of_lt (Nat.lt_succ_of_lt lt)) (Nat.ne_of_lt lt) n2 (h45 _ _ e)
  generalize hG : cutH s.heap C = G at hg hge F
  have hGs : G.get? L = some oL := hg _ _ hLC (h4s _ _ hL hLw)
  have st : base.StaysIn G := fun b o e => by
    have e4 := B.stays b o e
    have nw : b ∉ wr := fun q => by rw [hwb b q] at e; cases e
    exact hg _ _ (by have := Heap.lt_size e4; rw [hCs] at this; exact this) (h4s _ _ e4 nw)
  have B' : Below A₀ base [lenv] G := ⟨B.stack, st, by
    obtain ⟨hk, ⟨L', o, hf, hn', ho, hdt⟩, hr⟩ := B.frames
    obtain rfl : L = L' := Option.some.inj (hlf.symm.trans hf)
    refine ⟨hk, ⟨L, _, hf, hn', hGs, ?_⟩, trivial⟩
    intro vs q
    rw [hLd] at q; cases q⟩
  have XG : (Mine.hd.heap_39 w.params).In G := XB.keeps st
  have TG : Top p loose mean mg mb G := TB.keeps st
  have TR := topRead_of TG
  have N : News G C s.heap (highs s.heap C) := fun q hq => by
    obtain ⟨lt, e⟩ := highs_of hq
    exact ⟨e, Nat.ne_of_gt lt, hge _ (Nat.le_of_lt lt)⟩
  have hord : ordr n = (fun i => ordr (ns.getD i 0)) i := by
    show ordr n = ordr (ns.getD i 0)
    rw [List.getD_eq_getElem?_getD, hnn]; rfl
  show wpAny _ _ (do standAt p5; newTuple (← spliced (backTo p5 (starEach [.Call (.Name "_law_order" p1) [.Name "n" p2] [] p3, .Name "number" p4] cenv)))) _ _ _
  refine wpAny_bind (wpAny_standAt (wpAny_bind (spliced_more ?_)))
  k_dflt (refine' call1_env F XG TR ?e ?k hcg hck hx2 (by decide) hcl hx (by decide) hmb ?_; (case e => k_is); (case k => k_is))
  refine order12 B' F XG N TG hcf hck (by (first | lia | omega)) (by (first | lia | omega)) ?_
  intro h' tk' t' F' N'
  refine spliced_more ?_
  subst hcl
  refine wpAny_Name (wpAny_loadName_local hck hx1 F'.ns hma ?_) (by decide)
  refine spliced_none ?_
  refine wpAny_newTuple ?_
  have keep : ∀ b ob, b ≠ cenv.locals → s.heap.get? b = some ob → h'.get? b = some ob := fun b ob hb e => by
    rcases Nat.lt_or_gt_of_ne hb with lt | gt
    · exact F'.keep _ _ (hg b ob lt e)
    · exact (N' _ (highs_mem gt e)).1
  refine ⟨⟨h'.objs.size, t', ti, rfl, F'.ns.lt, ?_⟩, _, _, rfl, fun b ob hb e => Heap.get?_push_of_some _ (keep b ob hb e), F'.ns.push _⟩
  rw [← hord]
  exact Heap.get?_push_size _ rfl
end
end Mine


namespace Mine
/-! what the law computes, with no program in sight -/
structure S12 where
  c : Int
  wd : Str
  hs : List Int
  sg : List Int
  er : List (Int × Str × List Int)
def step12 (n : Int) (i : Nat) (s : S12) : S12 :=
  if n.fmod 4 = 0 then { s with c := s.c + addd (n.fdiv 4), wd := s.wd ++ "s", hs := s.hs ++ [(i : Int)] }
  else if n.fmod 4 = 1 then (if s.c.fdiv 100 = 2 then s else { s with c := s.c + 60, wd := s.wd ++ "e", hs := s.hs ++ [s.c], er := s.er ++ [(s.c, s.wd, s.hs)] })
  else if n.fmod 4 = 2 then { s with wd := s.wd ++ "c", sg := s.sg ++ [s.c] }
  else s
def asks12 (n : Int) (i : Nat) : List Int := if n.fmod 4 = 0 then [(i : Int)] else if n.fmod 4 = 2 then [-1 - (i : Int)] else []
def run12 (ns : List Int) (p : List Nat) (s : S12) : S12 := p.foldl (fun s i => step12 (ns.getD i 0) i s) s
def sig12 (ns : List Int) (p : List Nat) : List Int := p.flatMap fun i => asks12 (ns.getD i 0) i
theorem run12_snoc {ns : List Int} {p : List Nat} {i : Nat} {s : S12} : run12 ns (p ++ [i]) s = step12 (ns.getD i 0) i (run12 ns p s) := by simp [run12, List.foldl_append]
theorem sig12_snoc {ns : List Int} {p : List Nat} {i : Nat} : sig12 ns (p ++ [i]) = sig12 ns p ++ asks12 (ns.getD i 0) i := by simp [sig12]
theorem asks_len {n : Int} {i : Nat} : (asks12 n i).length ≤ 1 := by unfold asks12; split <;> (try split) <;> simp
theorem sig12_len {ns : List Int} : ∀ (p : List Nat), (sig12 ns p).length ≤ p.length
  | [] => Nat.le_refl _
  | i :: p => by
    have h1 := sig12_len (ns := ns) p
    have h2 := asks_len (n := ns.getD i 0) (i := i)
    have e : sig12 ns (i :: p) = asks12 (ns.getD i 0) i ++ sig12 ns p := by simp [sig12]
    rw [e, List.length_append, List.length_cons]
    (first | lia | omega)
theorem step_len {n : Int} {i : Nat} {s : S12} : (step12 n i s).wd.length ≤ s.wd.length + 1 ∧ (step12 n i s).hs.length ≤ s.hs.length + 1 ∧ (step12 n i s).sg.length ≤ s.sg.length + 1 ∧ (step12 n i s).er.length ≤ s.er.length + 1 := by
  unfold step12
  split
  · simp [Str.length_append, len_s]
  · split
    · split
      · simp
      · simp [Str.length_append, len_e]
    · split
      · simp [Str.length_append, len_c]
      · simp
theorem run_len {ns : List Int} : ∀ (p : List Nat) (s : S12), (run12 ns p s).wd.length ≤ s.wd.length + p.length ∧ (run12 ns p s).hs.length ≤ s.hs.length + p.length ∧ (run12 ns p s).sg.length ≤ s.sg.length + p.length ∧ (run12 ns p s).er.length ≤ s.er.length + p.length
  | [], s => ⟨Nat.le_refl _, Nat.le_refl _, Nat.le_refl _, Nat.le_refl _⟩
  | i :: p, s => by
    have h1 := run_len (ns := ns) p (step12 (ns.getD i 0) i s)
    have h2 := step_len (n := ns.getD i 0) (i := i) (s := s)
    have e : run12 ns (i :: p) s = run12 ns p (step12 (ns.getD i 0) i s) := rfl
    rw [e, List.length_cons]
    (first | lia | omega)
/-! the things that stand -/
structure Fx12 where
  bS : List Stmt
  bC : List Stmt
  b7 : List Stmt
  bL : List Stmt
  pn : Value
  op : Nat
def Kd (fx : Fx12) (n : Int) (i : Nat) (tl : List (Addr × Obj)) (x C : Nat) (es : List DictEntry) : Prop :=
  (n.fmod 4 = 0 ∧ C = 52 ∧ SignT fx.bS fx.pn (i : Int) (addd (n.fdiv 4)) tl es) ∨
  (n.fmod 4 = 1 ∧ C = 73 ∧ getL "parent" es = some (some (.ref fx.op)) ∧ getL "http_request" es = some none ∧ getL "http_response" es = some none) ∨
  (n.fmod 4 = 2 ∧ C = 52 ∧ CookT fx.bC fx.pn (i : Int) x tl es) ∨
  (n.fmod 4 = 3 ∧ C = 52 ∧ getL "http_request" es = some none ∧ getL "http_response" es = some none)
theorem SignT.mono {b : List Stmt} {pn : Value} {i a : Int} {tl tl' : List (Addr × Obj)} {es : List DictEntry} (x : SignT b pn i a tl es) (h : ∀ p ∈ tl, p ∈ tl') : SignT b pn i a tl' es := by
  obtain ⟨f1, f2, c1, c2, k1, k2, ok1, ok2, oc1, oc2, dc1, dc2, ct1, ct2, ti, ta, a1, a2, a3, a4, a5, a6, r⟩ := x
  exact ⟨f1, f2, c1, c2, k1, k2, ok1, ok2, oc1, oc2, dc1, dc2, ct1, ct2, ti, ta, h _ a1, h _ a2, h _ a3, h _ a4, h _ a5, h _ a6, r⟩
theorem SignT.oth {b : List Stmt} {pn : Value} {i a : Int} {tl : List (Addr × Obj)} {es es' : List DictEntry} (x : SignT b pn i a tl es) (o : Others "handler_order" es es') : SignT b pn i a tl es' := by
  obtain ⟨f1, f2, c1, c2, k1, k2, ok1, ok2, oc1, oc2, dc1, dc2, ct1, ct2, ti, ta, a1, a2, a3, a4, a5, a6, b1, b2, b3, b4, g1, g2⟩ := x
  exact ⟨f1, f2, c1, c2, k1, k2, ok1, ok2, oc1, oc2, dc1, dc2, ct1, ct2, ti, ta, a1, a2, a3, a4, a5, a6, b1, b2, b3, b4, others_none o g1 (by decide), others_none o g2 (by decide)⟩
theorem CookT.mono {b : List Stmt} {pn : Value} {i : Int} {x : Nat} {tl tl' : List (Addr × Obj)} {es : List DictEntry} (q : CookT b pn i x tl es) (h : ∀ p ∈ tl, p ∈ tl') : CookT b pn i x tl' es := by
  obtain ⟨jar, jd, jn, f1, f2, f3, f4, c1, c2, k1, k2, k3, k4, jes, ok1, ok2, ok3, ok4, oc1, oc2, dc1, dc2, ct1, ct2, ct3, ct4, ti, x1, x2, x3, x4, x5, x6, x7, x8, y1, y2, y3, y4, r⟩ := q
  exact ⟨jar, jd, jn, f1, f2, f3, f4, c1, c2, k1, k2, k3, k4, jes, ok1, ok2, ok3, ok4, oc1, oc2, dc1, dc2, ct1, ct2, ct3, ct4, ti, h _ x1, h _ x2, h _ x3, h _ x4, h _ x5, h _ x6, h _ x7, h _ x8, h _ y1, h _ y2, h _ y3, h _ y4, r⟩
theorem CookT.oth {b : List Stmt} {pn : Value} {i : Int} {x : Nat} {tl : List (Addr × Obj)} {es es' : List DictEntry} (q : CookT b pn i x tl es) (o : Others "handler_order" es es') : CookT b pn i x tl es' := by
  obtain ⟨jar, jd, jn, f1, f2, f3, f4, c1, c2, k1, k2, k3, k4, jes, ok1, ok2, ok3, ok4, oc1, oc2, dc1, dc2, ct1, ct2, ct3, ct4, ti, x1, x2, x3, x4, x5, x6, x7, x8, y1, y2, y3, y4, z1, z2, z3, z4, u1, u2, u3, u4, u5, u6, u7⟩ := q
  exact ⟨jar, jd, jn, f1, f2, f3, f4, c1, c2, k1, k2, k3, k4, jes, ok1, ok2, ok3, ok4, oc1, oc2, dc1, dc2, ct1, ct2, ct3, ct4, ti, x1, x2, x3, x4, x5, x6, x7, x8, y1, y2, y3, y4, z1, z2, z3, z4, u1, u2, u3, u4, others_none o u5 (by decide), others_none o u6 (by decide), others_none o u7 (by decide)⟩
theorem Kd.mono {fx : Fx12} {n : Int} {i : Nat} {tl tl' : List (Addr × Obj)} {x C : Nat} {es : List DictEntry} (q : Kd fx n i tl x C es) (h : ∀ p ∈ tl, p ∈ tl') : Kd fx n i tl' x C es := by
  rcases q with ⟨a, b, c⟩ | q | ⟨a, b, c⟩ | q
  · exact .inl ⟨a, b, c.mono h⟩
  · exact .inr (.inl q)
  · exact .inr (.inr (.inl ⟨a, b, c.mono h⟩))
  · exact .inr (.inr (.inr q))
theorem Kd.oth {fx : Fx12} {n : Int} {i : Nat} {tl : List (Addr × Obj)} {x C : Nat} {es es' : List DictEntry} (q : Kd fx n i tl x C es) (o : Others "handler_order" es es') : Kd fx n i tl x C es' := by
  rcases q with ⟨a, b, c⟩ | ⟨a, b, c, d, e⟩ | ⟨a, b, c⟩ | ⟨a, b, c, d⟩
  · exact .inl ⟨a, b, c.oth o⟩
  · exact .inr (.inl ⟨a, b, others_none o c (by decide), others_none o d (by decide), others_none o e (by decide)⟩)
  · exact .inr (.inr (.inl ⟨a, b, c.oth o⟩))
  · exact .inr (.inr (.inr ⟨a, b, others_none o c (by decide), others_none o d (by decide)⟩))
theorem Kd.cls {fx : Fx12} {n : Int} {i : Nat} {tl : List (Addr × Obj)} {x C : Nat} {es : List DictEntry} (q : Kd fx n i tl x C es) : C = 52 ∧ n.fmod 4 ≠ 1 ∨ C = 73 ∧ n.fmod 4 = 1 := by
  rcases q with ⟨a, b, _⟩ | ⟨a, b, _⟩ | ⟨a, b, _⟩ | ⟨a, b, _⟩ <;> (first | lia | omega)
def Stg (fx : Fx12) (tl : List (Addr × Obj)) (n : Int) (i x : Nat) : Prop := ∃ (d nx C : Nat) (es : List DictEntry) (t : Tok), (x, instObj C d) ∈ tl ∧ (d, dictOf es nx) ∈ tl ∧ Kd fx n i tl x C es ∧ OrdV C es (.int (ordr n) t)
theorem Stg.mono {fx : Fx12} {tl tl' : List (Addr × Obj)} {n : Int} {i x : Nat} (q : Stg fx tl n i x) (h : ∀ p ∈ tl, p ∈ tl') : Stg fx tl' n i x := by
  obtain ⟨d, nx, C, es, t, a, b, c, e⟩ := q
  exact ⟨d, nx, C, es, t, h _ a, h _ b, c.mono h, e⟩
theorem Stg.hd {fx : Fx12} {tl : List (Addr × Obj)} {n : Int} {i x : Nat} (q : Stg fx tl n i x) : ∃ t, HdV tl x (.int (ordr n) t) := by
  obtain ⟨d, nx, C, es, t, a, b, _, e⟩ := q
  exact ⟨t, C, d, es, nx, a, b, e⟩
/-- the order of a stage that keeps its class's -/
theorem ord_cls {fx : Fx12} {n : Int} {i : Nat} {tl : List (Addr × Obj)} {x C : Nat} {es : List DictEntry} (q : Kd fx n i tl x C es) (hm : (n.fdiv 4).fmod 2 = 0) (h : getL "handler_order" es = some none) : ∃ t, OrdV C es (.int (ordr n) t) := by
  rcases q.cls with ⟨rfl, e⟩ | ⟨rfl, e⟩
  · exact ⟨208, .inl ⟨rfl, h, by unfold ordr; rw [if_pos hm, if_neg e]⟩⟩
  · exact ⟨254, .inr (.inl ⟨rfl, h, by unfold ordr; rw [if_pos hm, if_pos e]⟩)⟩
theorem ord_own {fx : Fx12} {n : Int} {i : Nat} {tl : List (Addr × Obj)} {x C : Nat} {es : List DictEntry} {t : Tok} (q : Kd fx n i tl x C es) (h : getL "handler_order" es = some (some (.int (ordr n) t))) : ∃ t, OrdV C es (.int (ordr n) t) := ⟨t, .inr (.inr ⟨q.cls.imp And.left And.left, h⟩)⟩
end Mine


namespace Mine
theorem with_def {w : World} {f : Nat} {name : Str} {oc : Value} {od : Option Addr} {params : Arguments} {body : List Stmt} {scope : Scope} {dV kV doc pm cdv ct : Value} {an : Option Addr} {osl : Array (Option Value)} {P : Prop}
    (h : (Mine.hd.heap_39 w.params).lookup f = some ⟨oc, od, .func (fnOf name name params body scope dV kV doc pm an cdv ct), osl⟩) (k : ∀ b sc, Def12 w f name b sc → P) : P := k _ _ ⟨_, _, _, _, _, _, _, _, _, _, _, h⟩
/-- the things beside the static part while the stages are made -/
structure Hds where
  st : Nat
  hd : Nat
def ledM (q : Hds) (made : List Value) (nn : Nat) (t1 t2 t6 : Array Value) (tl : List (Addr × Obj)) : List (Addr × Obj) :=
  (q.st, W.listOf made.toArray nn) :: (118, tabObj t1) :: (125, tabObj t2) :: (q.hd, W.listOf #[] 0) :: (111, tabObj #[]) :: (146, tabObj t6) :: tl
def LoopM (fx : Fx12) (q : Hds) (ns : List Int) (scr : Nat) (t6 : Array Value) (tl0 : List (Addr × Obj)) (i : Nat) (m : Str → Option Value) (nw : List (Addr × Obj)) : Prop :=
  m "script" = some (.ref scr) ∧ m "opener" = some (.ref fx.op) ∧ m "stages" = some (.ref q.st) ∧
  ∃ (xs : Nat → Nat) (t1 t2 : Array Value) (nn : Nat) (tl : List (Addr × Obj)), nw = ledM q ((List.range i).map fun k => Value.ref (xs k)) nn t1 t2 t6 tl ∧ (∀ p ∈ tl0, p ∈ tl) ∧ OwnOff tl [q.st, 118, 125, q.hd, 111, 146] ∧ TabG t1 tl ∧ TabC t2 tl ∧ (∀ k, k < i → Stg fx tl (ns.getD k 0) k (xs k))
/-- a stage is made, not yet put in -/
structure MidM (fx : Fx12) (q : Hds) (n : Int) (i : Nat) (tl own : List (Addr × Obj)) (x d C cf : Nat) (es : List DictEntry) (ad : List (Addr × Obj)) (t1 t2 : Array Value) : Prop where
  kd : Kd fx n i (ad ++ tl) x C es
  ho : getL "handler_order" es = some none
  le : es.length ≤ 8
  tG : TabG t1 (ad ++ tl)
  tC : TabC t2 (ad ++ tl)
  al : AllLt cf (tl ++ own)
  hi : ∀ p ∈ ad, @LE.le Nat _ cf p.1 ∧ @Ne Nat p.1 d ∧ @Ne Nat p.1 x
  lo : q.st < cf ∧ 118 < cf ∧ 125 < cf ∧ q.hd < cf ∧ 111 < cf ∧ 146 < cf ∧ cf ≤ d ∧ d < x
def ledN (q : Hds) (made : List Value) (nn : Nat) (t1 t2 t6 : Array Value) (x d C nx : Nat) (es : List DictEntry) (ad tl own : List (Addr × Obj)) : List (Addr × Obj) :=
  (d, dictOf es nx) :: (x, instObj C d) :: ledM q made nn t1 t2 t6 ((ad ++ tl) ++ own)
theorem TabG.mono {t : Array Value} {tl tl' : List (Addr × Obj)} (x : TabG t tl) (h : ∀ p ∈ tl, p ∈ tl') : TabG t tl' := x.imp id fun ⟨k1, k2, o1, o2, e, a, b, r⟩ => ⟨k1, k2, o1, o2, e, h _ a, h _ b, r⟩
theorem TabC.mono {t : Array Value} {tl tl' : List (Addr × Obj)} (x : TabC t tl) (h : ∀ p ∈ tl, p ∈ tl') : TabC t tl' := x.imp id fun ⟨k1, k2, k3, k4, o1, o2, o3, o4, e, a, b, c, d, r⟩ => ⟨k1, k2, k3, k4, o1, o2, o3, o4, e, h _ a, h _ b, h _ c, h _ d, r⟩
/-- the turn's end: the stage is put in -/
theorem LoopM.step {fx : Fx12} {q : Hds} {ns : List Int} {scr : Nat} {t6 : Array Value} {tl0 tl own ad : List (Addr × Obj)} {i nn nx x d C cf : Nat} {m : Str → Option Value} {xs : Nat → Nat} {n : Int} {es0 es : List DictEntry} {t1 t2 : Array Value}
    (e1 : m "script" = some (.ref scr)) (e2 : m "opener" = some (.ref fx.op)) (e3 : m "stages" = some (.ref q.st)) (sub : ∀ p ∈ tl0, p ∈ tl) (off : OwnOff tl [q.st, 118, 125, q.hd, 111, 146]) (hst : ∀ k, k < i → Stg fx tl (ns.getD k 0) k (xs k))
    (M : MidM fx q n i tl own x d C cf es0 ad t1 t2) (hn : ns.getD i 0 = n) (hk : Kd fx n i (ad ++ tl) x C es) (ho : ∃ t, OrdV C es (.int (ordr n) t)) :
    LoopM fx q ns scr t6 tl0 (i + 1) m (ledM q (((List.range i).map fun k => Value.ref (xs k)) ++ [.ref x]) nn t1 t2 t6 ((d, dictOf es nx) :: (x, instObj C d) :: (ad ++ tl))) := by
  have up : ∀ p ∈ ad ++ tl, p ∈ (d, dictOf es nx) :: (x, instObj C d) :: (ad ++ tl) := fun p hp => .tail _ (.tail _ hp)
  obtain ⟨l1, l2, l3, l4, l5, l6, l7, l8⟩ := M.lo
  refine ⟨e1, e2, e3, fun k => if k = i then x else xs k, t1, t2, nn, _, ?_, fun p hp => up _ (List.mem_append_right _ (sub p hp)), ?_, M.tG.mono up, M.tC.mono up, ?_⟩
  · congr 1
    rw [List.range_succ, List.map_append]
    congr 1
    · refine List.map_congr_left fun k hk => ?_
      have : k ≠ i := Nat.ne_of_lt (List.mem_range.mp hk)
      simp [this]
    · simp
  · intro p hp b hb
    have hb' : b = q.st ∨ b = 118 ∨ b = 125 ∨ b = q.hd ∨ b = 111 ∨ b = 146 := by simpa using hb
    have hlt : @LT.lt Nat _ b cf := by rcases hb' with rfl | rfl | rfl | rfl | rfl | rfl <;> assumption
    rcases List.mem_cons.mp hp with rfl | hp
    · exact Nat.ne_of_gt (Nat.lt_of_lt_of_le hlt l7)
    rcases List.mem_cons.mp hp with rfl | hp
    · exact Nat.ne_of_gt (Nat.lt_trans (Nat.lt_of_lt_of_le hlt l7) l8)
    rcases List.mem_append.mp hp with hp | hp
    · exact Nat.ne_of_gt (Nat.lt_of_lt_of_le hlt (M.hi p hp).1)
    · exact off p hp b hb
  · intro k hk2
    by_cases h : k = i
    · subst h
      simp only [if_true]
      rw [hn]
      obtain ⟨t, ho⟩ := ho
      exact ⟨d, nx, C, es, t, .tail _ (.head _), .head _, hk.mono up, ho⟩
    · simp only [h, if_false]
      exact (hst k (by (first | lia | omega))).mono fun p hp => up _ (List.mem_append_right _ hp)
abbrev nsOf {vs : List Value} {ns : List Int} (_ : IntsAre vs ns) : List Int := ns
abbrev pnOf {p : Program} {loose : List Str} {mean : ExcName → Option Value} {mg mb : Str → Option Value} {h₀ : Heap} (_ : Top p loose mean mg mb h₀) : Value := (mg "__name__").getD .none
abbrev tabL (c : Nat) : Array Value := #[rawInt 91, rawInt 4, .ref c]
def MidP (fx : Fx12) (q : Hds) (n : Int) (i : Nat) (tl own : List (Addr × Obj)) (made : List Value) (nn : Nat) (t6 : Array Value) (m0 m : Str → Option Value) (nw : List (Addr × Obj)) : Prop :=
  ∃ (x d nx C cf : Nat) (es : List DictEntry) (ad : List (Addr × Obj)) (t1 t2 : Array Value), m = (fun (y : Str) => if y = "stage" then some (.ref x) else m0 y) ∧ nw = ledN q made nn t1 t2 t6 x d C nx es ad tl own ∧ MidM fx q n i tl own x d C cf es ad t1 t2
theorem reord0 {h₀ h : Heap} {L : Addr} {l f c x d hd D cl a b e g : Addr × Obj} (N : News h₀ L h [l, f, c, x, d, hd, D, cl, a, b, e, g]) : News h₀ L h (l :: b :: a :: hd :: e :: g :: [f, c, x, d, D, cl]) := fun p hp => N p (by
  simp only [List.mem_cons, List.mem_nil_iff, or_false] at hp ⊢
  rcases hp with h | h | h | h | h | h | h | h | h | h | h | h <;> (first | ((repeat (first | with_reducible exact h | with_reducible exact Or.inl h | with_reducible exact Or.inl (Or.inl h) | with_reducible exact Or.inl (Or.inr h) | refine Or.inr ?_)); done) | simp [h]))
theorem loop0 {h₀ h : Heap} {L : Addr} {l f c x d hd D cl : Nat} {fo oc ed oc2 : Obj} {vs : List Value} {t6 : Array Value} {m : Str → Option Value} {bS bC b7 bL : List Stmt} {pn : Value} {ns : List Int}
    (_N : News h₀ L h ((l, W.listOf #[] 0) :: (118, tabObj #[]) :: (125, tabObj #[]) :: (hd, W.listOf #[] 0) :: (111, tabObj #[]) :: (146, tabObj t6) :: [(f, fo), (c, oc), (x, instObj 52 d), (d, ed), (D, W.listOf vs.toArray 0), (cl, oc2)]))
    (m1 : m "script" = some (.ref D)) (m2 : m "opener" = some (.ref x)) (m3 : m "stages" = some (.ref l)) (o : 146 < cl ∧ 125 < cl ∧ 118 < cl ∧ 111 < cl ∧ cl < D ∧ D < hd ∧ hd < d ∧ d < x ∧ x < c ∧ c < f ∧ f < l) :
    LoopM ⟨bS, bC, b7, bL, pn, x⟩ ⟨l, hd⟩ ns D t6 [(f, fo), (c, oc), (x, instObj 52 d), (d, ed), (D, W.listOf vs.toArray 0), (cl, oc2)] 0 m ((l, W.listOf #[] 0) :: (118, tabObj #[]) :: (125, tabObj #[]) :: (hd, W.listOf #[] 0) :: (111, tabObj #[]) :: (146, tabObj t6) :: [(f, fo), (c, oc), (x, instObj 52 d), (d, ed), (D, W.listOf vs.toArray 0), (cl, oc2)]) := by
  refine ⟨m1, m2, m3, fun _ => 0, #[], #[], 0, _, rfl, fun p hp => hp, ?_, .inl rfl, .inl rfl, fun k hk => absurd hk (Nat.not_lt_zero k)⟩
  intro p hp b hb
  have hb' : b = l ∨ b = 118 ∨ b = 125 ∨ b = hd ∨ b = 111 ∨ b = 146 := by simpa using hb
  have hp' : p.1 = f ∨ p.1 = c ∨ p.1 = x ∨ p.1 = d ∨ p.1 = D ∨ p.1 = cl := by
    simp only [List.mem_cons, List.mem_nil_iff, or_false] at hp
    rcases hp with rfl | rfl | rfl | rfl | rfl | rfl <;> simp
  refine neN ?_
  rcases hp' with e | e | e | e | e | e <;> rw [e] <;> rcases hb' with e' | e' | e' | e' | e' | e' <;> rw [e'] <;> (first | lia | omega)
theorem start12 {h₀ h : Heap} {L : Addr} {l f c x d hd D cl nop : Nat} {oc oc2 fo : Obj} {eop : List DictEntry} {vs : List Value} {t6 : Array Value} {bS bC b7 bL : List Stmt} {pn : Value} {ns : List Int} {P : Prop}
    (N : News h₀ L h [(l, W.listOf #[] 0), (f, fo), (c, oc), (x, instObj 52 d), (d, dictOf eop nop), (hd, W.listOf #[] 0), (D, W.listOf vs.toArray 0), (cl, oc2), (125, tabObj #[]), (118, tabObj #[]), (111, tabObj #[]), (146, tabObj t6)]) (hf : ∃ dc ct, fo = errL bL cl dc pn c ct) (ht : t6 = tabL c)
    (cc : CodeOf oc "law.<locals>._law_error") (cd : oc2.data = .cell (some (.ref hd))) (ge : getL "error" eop = some (some (.ref f))) (o : 146 < cl ∧ 125 < cl ∧ 118 < cl ∧ 111 < cl ∧ cl < D ∧ D < hd ∧ hd < d ∧ d < x ∧ x < c ∧ c < f ∧ f < l)
    (k : ∀ (tl0 : List (Addr × Obj)) (fx : Fx12) (q : Hds) (t7 : Array Value) (sc : Nat), t7 = tabL c → sc = D → fx.bS = bS → fx.bC = bC → fx.b7 = b7 → fx.bL = bL → fx.pn = pn → fx.op = x → q.st = l → News h₀ L h (ledM q [] 0 #[] #[] t7 tl0) → Opn bL pn tl0 fx.op q.hd → (sc, W.listOf vs.toArray 0) ∈ tl0 → (146 < sc ∧ sc < q.hd ∧ q.hd < q.st) → (∃ o, (cl, o) ∈ tl0 ∧ o.data = .cell (some (.ref q.hd))) →
      (∀ m : Str → Option Value, m "script" = some (.ref sc) → m "opener" = some (.ref x) → m "stages" = some (.ref l) → LoopM fx q ns sc t7 tl0 0 m (ledM q [] 0 #[] #[] t7 tl0)) → P) : P := by
  obtain ⟨dc, ct, rfl⟩ := hf
  subst ht
  refine k [(f, errL bL cl dc pn c ct), (c, oc), (x, instObj 52 d), (d, dictOf eop nop), (D, W.listOf vs.toArray 0), (cl, oc2)] ⟨bS, bC, b7, bL, pn, x⟩ ⟨l, hd⟩ (tabL c) D rfl rfl rfl rfl rfl rfl rfl rfl rfl (reord0 N)
    ⟨_, _, f, cl, c, _, _, _, _, _, .tail _ (.tail _ (.head _)), .tail _ (.tail _ (.tail _ (.head _))), .head _, .tail _ (.tail _ (.tail _ (.tail _ (.tail _ (.head _))))), .tail _ (.head _), cc, cd, ge⟩ (.tail _ (.tail _ (.tail _ (.tail _ (.head _))))) ⟨by (first | lia | omega), by dsimp only; (first | lia | omega), by dsimp only; (first | lia | omega)⟩ ⟨_, .tail _ (.tail _ (.tail _ (.tail _ (.tail _ (.head _))))), cd⟩ ?_
  intro m m1 m2 m3
  exact loop0 (reord0 N) m1 m2 m3 o
theorem cutM {M : Model} {A : Around} {E : Value → Shared → Prop} {s : Shared} {env : Env} {st : Stmt} {rest : List Stmt} {Q : Flow → Shared → Prop} {h₀ : Heap} {L : Addr} {m : Str → Option Value} (_F : Fr h₀ L s.heap m) (fx : Fx12) (q : Hds) (n : Int) (i : Nat) (tl own : List (Addr × Obj)) (made : List Value) (nn : Nat) (t6 : Array Value)
    (h1 : wpAny M A (exec st env) (fun f s' => f = .next ∧ ∃ h tk m' nw, s' = { s with heap := h, toks := tk } ∧ Fr h₀ L h m' ∧ News h₀ L h nw ∧ MidP fx q n i tl own made nn t6 m m' nw) E s)
    (h2 : ∀ h tk x d nx C cf es ad t1 t2, MidM fx q n i tl own x d C cf es ad t1 t2 → Fr h₀ L h (fun (y : Str) => if y = "stage" then some (.ref x) else m y) → News h₀ L h (ledN q made nn t1 t2 t6 x d C nx es ad tl own) → wpAny M A (execs rest env) Q E { s with heap := h, toks := tk }) :
    wpAny M A (execs (st :: rest) env) Q E s := seq_cut _ h1 fun s' h => by
  obtain ⟨h, tk, m', nw, rfl, F', N', x, d, nx, C, cf, es, ad, t1, t2, rfl, rfl, M⟩ := h
  exact h2 h tk x d nx C cf es ad t1 t2 M F' N'
section
variable {fx : Fx12} {q : Hds} {n : Int} {i nn nx x d C cf : Nat} {made : List Value} {t1 t2 t6 : Array Value} {ad tl own : List (Addr × Obj)} {es : List DictEntry} {h₀ h : Heap} {L : Addr}
theorem ledN_new (N : News h₀ L h ((x, instObj C d) :: (d, dictOf es nx) :: (q.st, W.listOf made.toArray nn) :: (118, tabObj t1) :: (125, tabObj t2) :: (q.hd, W.listOf #[] 0) :: (111, tabObj #[]) :: (146, tabObj t6) :: (tl ++ own))) : News h₀ L h (ledN q made nn t1 t2 t6 x d C nx es [] tl own) := fun p hp => N p (by
  simp only [ledN, ledM, List.nil_append, List.mem_cons] at hp ⊢
  rcases hp with h | h | h | h | h | h | h | h | h <;> (first | ((repeat (first | with_reducible exact h | with_reducible exact Or.inl h | with_reducible exact Or.inl (Or.inl h) | with_reducible exact Or.inl (Or.inr h) | refine Or.inr ?_)); done) | simp [h]))
theorem midM_new (kd : Kd fx n i tl x C es) (ho : getL "handler_order" es = some none) (le : es.length ≤ 8) (tG : TabG t1 tl) (tC : TabC t2 tl) (lo : q.st < d ∧ 118 < d ∧ 125 < d ∧ q.hd < d ∧ 111 < d ∧ 146 < d ∧ AllLt d (tl ++ own)) (l2 : d < x) : MidM fx q n i tl own x d C d es [] t1 t2 :=
  ⟨kd, ho, le, tG, tC, lo.2.2.2.2.2.2, (fun _ hp => nomatch hp), ⟨lo.1, lo.2.1, lo.2.2.1, lo.2.2.2.1, lo.2.2.2.2.1, lo.2.2.2.2.2.1, Nat.le_refl _, l2⟩⟩
theorem ledN_sign (N : News h₀ L h ((118, tabObj t1) :: (x, instObj 52 d) :: (d, dictOf es nx) :: (ad ++ ((q.st, W.listOf made.toArray nn) :: (125, tabObj t2) :: (q.hd, W.listOf #[] 0) :: (111, tabObj #[]) :: (146, tabObj t6) :: (tl ++ own))))) : News h₀ L h (ledN q made nn t1 t2 t6 x d 52 nx es ad tl own) := fun p hp => N p (by
  simp only [ledN, ledM, List.mem_cons, List.mem_append] at hp ⊢
  rcases hp with h | h | h | h | h | h | h | h | ((h | h) | h) <;> (first | ((repeat (first | with_reducible exact h | with_reducible exact Or.inl h | with_reducible exact Or.inl (Or.inl h) | with_reducible exact Or.inl (Or.inr h) | refine Or.inr ?_)); done) | simp [h]))
theorem ledN_cook (N : News h₀ L h ((125, tabObj t2) :: (x, instObj 52 d) :: (d, dictOf es nx) :: (ad ++ ((q.st, W.listOf made.toArray nn) :: (118, tabObj t1) :: (q.hd, W.listOf #[] 0) :: (111, tabObj #[]) :: (146, tabObj t6) :: (tl ++ own))))) : News h₀ L h (ledN q made nn t1 t2 t6 x d 52 nx es ad tl own) := fun p hp => N p (by
  simp only [ledN, ledM, List.mem_cons, List.mem_append] at hp ⊢
  rcases hp with h | h | h | h | h | h | h | h | ((h | h) | h) <;> (first | ((repeat (first | with_reducible exact h | with_reducible exact Or.inl h | with_reducible exact Or.inl (Or.inl h) | with_reducible exact Or.inl (Or.inr h) | refine Or.inr ?_)); done) | simp [h]))
theorem midM_sign {a1 a2 a3 a4 : Obj} {pn : Value} (hk : n.fmod 4 = 0) (e : fx.pn = pn) (S : SignT fx.bS pn (i : Int) (addd (n.fdiv 4)) (ad ++ tl) es) (ho : getL "handler_order" es = some none) (le : es.length ≤ 3) (tG : TabG t1 (ad ++ tl)) (tC : TabC t2 tl)
    (al : AllLt cf ((q.st, a1) :: (125, a2) :: (q.hd, a3) :: (111, a4) :: (146, tabObj t6) :: (tl ++ own))) (hi : ∀ p ∈ ad, @LE.le Nat _ cf p.1 ∧ @Ne Nat p.1 d ∧ @Ne Nat p.1 x) (lo : 118 < cf ∧ cf ≤ d ∧ d < x) : MidM fx q n i tl own x d 52 cf es ad t1 t2 :=
  ⟨.inl ⟨hk, rfl, by rw [e]; exact S⟩, ho, by (first | lia | omega), tG, tC.mono fun p hp => List.mem_append_right _ hp, al.2.2.2.2.2, hi, ⟨al.1, lo.1, al.2.1, al.2.2.1, al.2.2.2.1, al.2.2.2.2.1, lo.2.1, lo.2.2⟩⟩
theorem midM_cook {a1 a2 a3 a4 : Obj} {pn : Value} (hk : n.fmod 4 = 2) (e : fx.pn = pn) (S : CookT fx.bC pn (i : Int) x (ad ++ tl) es) (ho : getL "handler_order" es = some none) (le : es.length ≤ 3) (tC : TabC t2 (ad ++ tl)) (tG : TabG t1 tl)
    (al : AllLt cf ((q.st, a1) :: (118, a2) :: (q.hd, a3) :: (111, a4) :: (146, tabObj t6) :: (tl ++ own))) (hi : ∀ p ∈ ad, @LE.le Nat _ cf p.1 ∧ @Ne Nat p.1 d ∧ @Ne Nat p.1 x) (lo : 125 < cf ∧ cf ≤ d ∧ d < x) : MidM fx q n i tl own x d 52 cf es ad t1 t2 :=
  ⟨.inr (.inr (.inl ⟨hk, rfl, by rw [e]; exact S⟩)), ho, by (first | lia | omega), tG.mono fun p hp => List.mem_append_right _ hp, tC, al.2.2.2.2.2, hi, ⟨al.1, al.2.1, lo.1, al.2.2.1, al.2.2.2.1, al.2.2.2.2.1, lo.2.1, lo.2.2⟩⟩
theorem rotS {a b c e f g : Addr × Obj} {tl : List (Addr × Obj)} (N : News h₀ L h (a :: b :: c :: e :: f :: g :: tl)) : News h₀ L h (b :: a :: c :: e :: f :: g :: tl) := fun p hp => N p (by
  simp only [List.mem_cons] at hp ⊢
  rcases hp with h | h | h | h | h | h | h <;> (first | ((repeat (first | with_reducible exact h | with_reducible exact Or.inl h | with_reducible exact Or.inl (Or.inl h) | with_reducible exact Or.inl (Or.inr h) | refine Or.inr ?_)); done) | simp [h]))
theorem rotC {a b c e f g : Addr × Obj} {tl : List (Addr × Obj)} (N : News h₀ L h (a :: b :: c :: e :: f :: g :: tl)) : News h₀ L h (c :: a :: b :: e :: f :: g :: tl) := fun p hp => N p (by
  simp only [List.mem_cons] at hp ⊢
  rcases hp with h | h | h | h | h | h | h <;> (first | ((repeat (first | with_reducible exact h | with_reducible exact Or.inl h | with_reducible exact Or.inl (Or.inl h) | with_reducible exact Or.inl (Or.inr h) | refine Or.inr ?_)); done) | simp [h]))
theorem offS {I sc : Nat} {a1 a2 a3 a4 a5 : Obj} (off : OwnOff tl [q.st, 118, 125, q.hd, 111, 146]) (hown : ∀ p ∈ own, p.1 = I + 1 ∨ p.1 = I ∨ p.1 = sc) (hI : 146 < I) (o : 146 < sc ∧ sc < q.hd ∧ q.hd < q.st) : OwnOff ((q.st, a1) :: (125, a2) :: (q.hd, a3) :: (111, a4) :: (146, a5) :: (tl ++ own)) [118] := by
  intro p hp b hb
  rw [List.mem_singleton.mp hb]
  rcases List.mem_cons.mp hp with rfl | hp
  · exact neN (by dsimp only; (first | lia | omega))
  rcases List.mem_cons.mp hp with rfl | hp
  · exact neN (by dsimp only; (first | lia | omega))
  rcases List.mem_cons.mp hp with rfl | hp
  · exact neN (by dsimp only; (first | lia | omega))
  rcases List.mem_cons.mp hp with rfl | hp
  · exact neN (by dsimp only; (first | lia | omega))
  rcases List.mem_cons.mp hp with rfl | hp
  · exact neN (by dsimp only; (first | lia | omega))
  rcases List.mem_append.mp hp with hp | hp
  · exact off p hp _ (.tail _ (.head _))
  · rcases hown p hp with e | e | e <;> (rw [e]; exact neN (by (first | lia | omega)))
theorem offC {I sc : Nat} {a1 a2 a3 a4 a5 : Obj} (off : OwnOff tl [q.st, 118, 125, q.hd, 111, 146]) (hown : ∀ p ∈ own, p.1 = I + 1 ∨ p.1 = I ∨ p.1 = sc) (hI : 146 < I) (o : 146 < sc ∧ sc < q.hd ∧ q.hd < q.st) : OwnOff ((q.st, a1) :: (118, a2) :: (q.hd, a3) :: (111, a4) :: (146, a5) :: (tl ++ own)) [125] := by
  intro p hp b hb
  rw [List.mem_singleton.mp hb]
  rcases List.mem_cons.mp hp with rfl | hp
  · exact neN (by dsimp only; (first | lia | omega))
  rcases List.mem_cons.mp hp with rfl | hp
  · exact neN (by dsimp only; (first | lia | omega))
  rcases List.mem_cons.mp hp with rfl | hp
  · exact neN (by dsimp only; (first | lia | omega))
  rcases List.mem_cons.mp hp with rfl | hp
  · exact neN (by dsimp only; (first | lia | omega))
  rcases List.mem_cons.mp hp with rfl | hp
  · exact neN (by dsimp only; (first | lia | omega))
  rcases List.mem_append.mp hp with hp | hp
  · exact off p hp _ (.tail _ (.tail _ (.head _)))
  · rcases hown p hp with e | e | e <;> (rw [e]; exact neN (by (first | lia | omega)))
end
end Mine


namespace Mine
theorem fillE : PySem.Challenge.rw_dn0254_12.row.prog = PySem.Challenge.rw_dn0254_12.row.prog ∧ Mine.hd.heap_39 = Mine.hd.heap_39 := by
  w_top off
  k_fill
  exact ⟨rfl, rfl⟩
section
variable {w : World} {A : Around} {E : Value → Shared → Prop} {s : Shared} {L : Addr} {h₀ : Heap} {m : Str → Option Value}
/-- stage.handler_order = v, for a stage of either class -/
theorem set_ord12 {Q : Unit → Shared → Prop} {x d C nx : Nat} {es : List DictEntry} {rest : List (Addr × Obj)} {v : Value} (hC : C = 52 ∨ C = 73) (F : Fr h₀ L s.heap m) (X₀ : (Mine.hd.heap_39 w.params).In h₀) (N : News h₀ L s.heap ((d, dictOf es nx) :: (x, instObj C d) :: rest))
    (hoff : ∀ p ∈ (x, instObj C d) :: rest, p.1 ≠ d) (hl : getL "handler_order" es = some none) (hz : es.length ≤ 8)
    (h : ∀ h' tk' es' n', getL "handler_order" es' = some (some v) → Others "handler_order" es es' → Fr h₀ L h' m → News h₀ L h' ((d, dictOf es' n') :: (x, instObj C d) :: rest) → Q () { s with heap := h', toks := tk' }) :
    wpAny (model PySem.Challenge.rw_dn0254_12.row.prog w) A (setAttr (.ref x) "handler_order" v) Q E s := by
  have U : ∀ (es' : List DictEntry) (n' : Nat), Upd d (dictOf es nx) (dictOf es' n') ((d, dictOf es nx) :: (x, instObj C d) :: rest) ((d, dictOf es' n') :: (x, instObj C d) :: rest) := fun es' n' => .head hoff
  rcases hC with rfl | rfl
  · exact set_sym (K := Mine.hd.heap_39 w.params) (C := 52) F X₀ N (.tail _ (.head _)) (.head _) (by k_is) (by k_is) (by k_is) (by k_is) (by rw [hl]; rfl) (by (first | lia | omega)) U fun h' tk' es' n' a b _ F' N' => h h' tk' es' n' a b F' N'
  · exact set_sym (K := Mine.hd.heap_39 w.params) (C := 73) F X₀ N (.tail _ (.head _)) (.head _) (by k_is) (by k_is) (by k_is) (by k_is) (by rw [hl]; rfl) (by (first | lia | omega)) U fun h' tk' es' n' a b _ F' N' => h h' tk' es' n' a b F' N'
end
section
variable {fx : Fx12} {q : Hds} {n : Int} {i nn nx x d C cf I sc : Nat} {made : List Value} {t1 t2 t6 : Array Value} {ad tl tl0 own : List (Addr × Obj)} {es : List DictEntry} {h₀ h : Heap} {L : Addr}
theorem MidM.offd {es0 : List DictEntry} (M : MidM fx q n i tl own x d C cf es0 ad t1 t2) {a : Obj} : ∀ p ∈ (x, a) :: ledM q made nn t1 t2 t6 ((ad ++ tl) ++ own), p.1 ≠ d := by
  obtain ⟨l1, l2, l3, l4, l5, l6, l7, l8⟩ := M.lo
  intro p hp
  simp only [ledM, List.mem_cons] at hp
  rcases hp with rfl | rfl | rfl | rfl | rfl | rfl | rfl | hp
  · exact Nat.ne_of_gt l8
  · exact neN (by dsimp only; (first | lia | omega))
  · exact neN (by dsimp only; (first | lia | omega))
  · exact neN (by dsimp only; (first | lia | omega))
  · exact neN (by dsimp only; (first | lia | omega))
  · exact neN (by dsimp only; (first | lia | omega))
  · exact neN (by dsimp only; (first | lia | omega))
  · rw [List.append_assoc] at hp
    rcases List.mem_append.mp hp with hp | hp
    · exact (M.hi p hp).2.1
    · have := tb_ltOf M.al p hp
      exact Nat.ne_of_lt (Nat.lt_of_lt_of_le this l7)
/-- stages.append(stage) -/
theorem app12 {prog : Program} {w : World} {A : Around} {E : Value → Shared → Prop} {s : Shared} {m : Str → Option Value} {Q : Value → Shared → Prop} {es0 : List DictEntry} {v : Value} (F : Fr h₀ L s.heap m) (N : News h₀ L s.heap (ledN q made nn t1 t2 t6 x d C nx es ad tl own)) (hz : made.length ≤ 2 ^ 20)
    (M : MidM fx q n i tl own x d C cf es0 ad t1 t2) (off : OwnOff tl [q.st, 118, 125, q.hd, 111, 146]) (hown : ∀ p ∈ own, p.1 = I + 1 ∨ p.1 = I ∨ p.1 = sc) (hI : q.st < I) (o : 146 < sc ∧ sc < q.hd ∧ q.hd < q.st)
    (h : ∀ h', Fr h₀ L h' m → News h₀ L h' (ledN q (made ++ [v]) (nn + 1) t1 t2 t6 x d C nx es ad tl own) → Q .none { s with heap := h' }) : wpAny (model prog w) A (call (.builtin "list.append") [.ref q.st, v]) Q E s := by
  obtain ⟨l1, l2, l3, l4, l5, l6, l7, l8⟩ := M.lo
  refine append_led (n := nn) F N hz (.tail (p := (d, _)) ?_ (.tail (p := (x, _)) ?_ (.head ?_))) h
  · exact neN (by dsimp only; (first | lia | omega))
  · exact neN (by dsimp only; (first | lia | omega))
  · intro p hp
    simp only [List.mem_cons] at hp
    rcases hp with rfl | rfl | rfl | rfl | rfl | hp
    · exact neN (by dsimp only; (first | lia | omega))
    · exact neN (by dsimp only; (first | lia | omega))
    · exact neN (by dsimp only; (first | lia | omega))
    · exact neN (by dsimp only; (first | lia | omega))
    · exact neN (by dsimp only; (first | lia | omega))
    · rw [List.append_assoc] at hp
      rcases List.mem_append.mp hp with hp | hp
      · exact Nat.ne_of_gt (Nat.lt_of_lt_of_le l1 (M.hi p hp).1)
      · rcases List.mem_append.mp hp with hp | hp
        · exact off p hp _ (.head _)
        · rcases hown p hp with e | e | e <;> (rw [e]; exact neN (by (first | lia | omega)))
theorem endM {s₁ : Shared} {tk nn' : Nat} {ns : List Int} {m : Str → Option Value} {xs : Nat → Nat} {es0 : List DictEntry} {t1' t2' : Array Value}
    (F : Fr h₀ L h m) (N : News h₀ L h (ledN q (((List.range i).map fun k => Value.ref (xs k)) ++ [.ref x]) nn t1 t2 t6 x d C nx es ad tl own)) (hoI : ∀ p ∈ ledM q made nn' t1' t2' t6 tl, p.1 ∉ [I + 1, I]) (hI1 : ∃ o, (I, o) ∈ own) (hI2 : ∃ o, (I + 1, o) ∈ own)
    (e1 : m "script" = some (.ref sc)) (e2 : m "opener" = some (.ref fx.op)) (e3 : m "stages" = some (.ref q.st)) (sub : ∀ p ∈ tl0, p ∈ tl) (off : OwnOff tl [q.st, 118, 125, q.hd, 111, 146]) (hst : ∀ k, k < i → Stg fx tl (ns.getD k 0) k (xs k))
    (M : MidM fx q n i tl own x d C cf es0 ad t1 t2) (hn : ns.getD i 0 = n) (hk : Kd fx n i (ad ++ tl) x C es) (ho : ∃ t, OrdV C es (.int (ordr n) t)) :
    EndW h₀ L (LoopM fx q ns sc t6 tl0 (i + 1)) own [I + 1, I] s₁ { s₁ with heap := h, toks := tk } := by
  obtain ⟨l1, l2, l3, l4, l5, l6, l7, l8⟩ := M.lo
  have h1 : I < cf := by obtain ⟨o, ho⟩ := hI1; exact tb_ltOf M.al _ (List.mem_append_right _ ho)
  have h2 : I + 1 < cf := by obtain ⟨o, ho⟩ := hI2; exact tb_ltOf M.al _ (List.mem_append_right _ ho)
  refine ⟨h, tk, m, _, rfl, F, ?_, ?_, LoopM.step (es := es) (nn := nn) (nx := nx) e1 e2 e3 sub off hst M hn hk ho⟩
  · intro p hp
    refine N p ?_
    simp only [ledN, ledM, List.mem_cons, List.mem_append, List.cons_append] at hp ⊢
    rcases hp with hp | hp | hp | hp | hp | hp | hp | hp | (hp | hp) | hp <;> (first | ((repeat (first | with_reducible exact hp | with_reducible exact Or.inl hp | with_reducible exact Or.inl (Or.inl hp) | with_reducible exact Or.inl (Or.inr hp) | refine Or.inr ?_)); done) | simp [hp])
  · intro p hp hb
    have hb' : p.1 = I + 1 ∨ p.1 = I := by simpa using hb
    have big : cf ≤ p.1 → False := fun le => by
      rcases hb' with e | e <;> (rw [e] at le; (first | lia | omega))
    have old : ∀ a : Nat, (∃ o, (a, o) ∈ ledM q made nn' t1' t2' t6 tl) → p.1 = a → False := fun a ⟨o, ho⟩ e => hoI _ ho (e ▸ hb)
    simp only [ledM, List.mem_cons] at hp
    rcases hp with rfl | rfl | rfl | rfl | rfl | rfl | rfl | rfl | hp
    · exact old _ ⟨_, .head _⟩ rfl
    · exact old _ ⟨_, .tail _ (.head _)⟩ rfl
    · exact old _ ⟨_, .tail _ (.tail _ (.head _))⟩ rfl
    · exact old _ ⟨_, .tail _ (.tail _ (.tail _ (.head _)))⟩ rfl
    · exact old _ ⟨_, .tail _ (.tail _ (.tail _ (.tail _ (.head _))))⟩ rfl
    · exact old _ ⟨_, .tail _ (.tail _ (.tail _ (.tail _ (.tail _ (.head _)))))⟩ rfl
    · exact big l7
    · exact big (Nat.le_of_lt (Nat.lt_of_le_of_lt l7 l8))
    · rcases List.mem_append.mp hp with hp | hp
      · exact big (M.hi p hp).1
      · exact hoI p (.tail _ (.tail _ (.tail _ (.tail _ (.tail _ (.tail _ hp)))))) hb
end
end Mine


namespace Mine
theorem sum_led {prog : Program} {w : World} {A : Around} {E : Value → Shared → Prop} {s : Shared} {L l n : Nat} {h₀ : Heap} {m : Str → Option Value} {news : List (Addr × Obj)} {vs : List Value} {ns : List Int} {Q : Value → Shared → Prop} (hh : A.handled = none) (F : Fr h₀ L s.heap m) (N : News h₀ L s.heap news) (hm : (l, W.listOf vs.toArray n) ∈ news) (hi : IntsAre vs ns)
    (h : ∀ h' tk c t', Fr h₀ L h' m → News h₀ L h' news → Q (.int c t') { s with heap := h', toks := tk }) : wpAny (model prog w) A (call (.builtin "sum") [.ref l]) Q E s := by
  have hl : s.heap.IsList l vs.toArray := News.isList N hm
  obtain ⟨xs, hx⟩ := hi.allInts.items
  rw [hx] at hl
  exact sum_intListG hh hl fun h' tk t' hk => h h' tk _ t' (F.keeps hk) (N.grown hk)
theorem rot111 {h₀ h : Heap} {L : Addr} {a b c d e f g hd x y : Addr × Obj} {tl : List (Addr × Obj)} (N : News h₀ L h (a :: b :: c :: d :: e :: f :: g :: hd :: x :: y :: tl)) : News h₀ L h (x :: a :: b :: c :: d :: e :: f :: g :: hd :: y :: tl) := fun p hp => N p (by
  simp only [List.mem_cons] at hp ⊢
  rcases hp with h | h | h | h | h | h | h | h | h | h | h <;> (first | ((repeat (first | with_reducible exact h | with_reducible exact Or.inl h | with_reducible exact Or.inl (Or.inl h) | with_reducible exact Or.inl (Or.inr h) | refine Or.inr ?_)); done) | simp [h]))
theorem off111 {q : Hds} {hda sg rq dq sc : Nat} {a1 a2 a3 a4 a5 a6 a7 a8 a9 : Obj} {tl : List (Addr × Obj)} (off : OwnOff tl [q.st, 118, 125, q.hd, 111, 146]) (o : q.st < dq ∧ dq < rq ∧ rq < sg ∧ sg < hda) (o2 : 146 < sc ∧ sc < q.hd ∧ q.hd < q.st) :
    OwnOff ((hda, a1) :: (sg, a2) :: (rq, a3) :: (dq, a4) :: (q.st, a5) :: (118, a6) :: (125, a7) :: (q.hd, a8) :: (146, a9) :: tl) [111] := by
  intro p hp b hb
  rw [List.mem_singleton.mp hb]
  simp only [List.mem_cons] at hp
  rcases hp with rfl | rfl | rfl | rfl | rfl | rfl | rfl | rfl | rfl | hp
  · exact neN (by dsimp only; (first | lia | omega))
  · exact neN (by dsimp only; (first | lia | omega))
  · exact neN (by dsimp only; (first | lia | omega))
  · exact neN (by dsimp only; (first | lia | omega))
  · exact neN (by dsimp only; (first | lia | omega))
  · exact neN (by dsimp only; (first | lia | omega))
  · exact neN (by dsimp only; (first | lia | omega))
  · exact neN (by dsimp only; (first | lia | omega))
  · exact neN (by dsimp only; (first | lia | omega))
  · exact off p hp _ (.tail _ (.tail _ (.tail _ (.tail _ (.head _)))))
/-! the second part: the request and the page go through the stages -/
def ledP (sg hd : Nat) (signs : List Value) (n1 : Nat) (handed : List Value) (n2 : Nat) (tab t6 : Array Value) (dpp : Nat) (ep : List DictEntry) (np : Nat) (S : List (Addr × Obj)) : List (Addr × Obj) :=
  (sg, W.listOf signs.toArray n1) :: (hd, W.listOf handed.toArray n2) :: (111, tabObj tab) :: (146, tabObj t6) :: (dpp, dictOf ep np) :: S
structure Ph2 (fx : Fx12) (ns : List Int) (sg hd rq st sc : Nat) (xs : Nat → Nat) (nn : Nat) (ws : List Value) (S : List (Addr × Obj)) : Prop where
  req : Req S rq sg
  opn : Opn fx.bL fx.pn S fx.op hd
  stg : ∀ k, k < ws.length → Stg fx S (ns.getD k 0) k (xs k)
  stl : (st, W.listOf ((List.range ws.length).map fun k => Value.ref (xs k)).toArray nn) ∈ S
  scr : (sc, W.listOf ws.toArray 0) ∈ S
  off : OwnOff S [sg, hd, 111, 146]
  ne : 146 < hd ∧ hd < sg
theorem Req.mono {tl tl' : List (Addr × Obj)} {rq sg : Nat} (x : Req tl rq sg) (h : ∀ p ∈ tl, p ∈ tl') : Req tl' rq sg := by
  obtain ⟨dq, nq, eq, a, b, c⟩ := x
  exact ⟨dq, nq, eq, h _ a, h _ b, c⟩
theorem Ph2.mono {fx : Fx12} {ns : List Int} {sg hd rq st sc : Nat} {xs : Nat → Nat} {nn : Nat} {ws : List Value} {S S' : List (Addr × Obj)} (x : Ph2 fx ns sg hd rq st sc xs nn ws S) (h : ∀ p ∈ S, p ∈ S') (o : OwnOff S' [sg, hd, 111, 146]) : Ph2 fx ns sg hd rq st sc xs nn ws S' :=
  ⟨x.req.mono h, x.opn.mono h, fun k hk => (x.stg k hk).mono h, h _ x.stl, h _ x.scr, o, x.ne⟩
theorem start2 {fx : Fx12} {q : Hds} {ns : List Int} {h₀ h : Heap} {L dpp np hda sg rq dq nq nn sc cf pg : Nat} {tab t6 : Array Value} {ep eq : List DictEntry} {ad tl : List (Addr × Obj)} {a1 a2 : Obj} {xs : Nat → Nat} {ws : List Value} {b7 : List Stmt} {pn : Value} {c : Int} {wd : Str} {P : Prop}
    (N : News h₀ L h ((111, tabObj tab) :: (dpp, dictOf ep np) :: (ad ++ ((hda, W.listOf #[] 0) :: (sg, W.listOf #[] 0) :: (rq, instObj 52 dq) :: (dq, dictOf eq nq) :: (q.st, W.listOf ((List.range ws.length).map fun k => Value.ref (xs k)).toArray nn) :: (118, a1) :: (125, a2) :: (q.hd, W.listOf #[] 0) :: (146, tabObj t6) :: tl))))
    (al : AllLt cf ((hda, W.listOf #[] 0) :: (sg, W.listOf #[] 0) :: (rq, instObj 52 dq) :: (dq, dictOf eq nq) :: (q.st, W.listOf ((List.range ws.length).map fun k => Value.ref (xs k)).toArray nn) :: (118, a1) :: (125, a2) :: (q.hd, W.listOf #[] 0) :: (146, tabObj t6) :: tl)) (hi : ∀ p ∈ ad, @LE.le Nat _ cf p.1 ∧ @Ne Nat p.1 dpp) (lo : 111 < cf ∧ cf ≤ dpp)
    (TP : TabP tab (ad ++ [(hda, W.listOf #[] 0)])) (PG : Pg12 b7 pn (ad ++ [(hda, W.listOf #[] 0)]) pg dpp ep c wd []) (hsig : getL "signs" eq = some (some (.ref sg)))
    (off : OwnOff tl [q.st, 118, 125, q.hd, 111, 146]) (hst : ∀ k, k < ws.length → Stg fx tl (ns.getD k 0) k (xs k)) (hop : Opn fx.bL fx.pn tl fx.op q.hd) (hscr : (sc, W.listOf ws.toArray 0) ∈ tl)
    (o : 146 < sc ∧ sc < q.hd ∧ q.hd < q.st) (o2 : q.st < dq ∧ dq < rq ∧ rq < sg ∧ sg < hda) (o3 : AllLt dq tl)
    (k : ∀ S, News h₀ L h (ledP sg q.hd [] 0 [] 0 tab t6 dpp ep np S) → Ph2 fx ns sg q.hd rq q.st sc xs nn ws S → TabP tab S → Pg12 b7 pn S pg dpp ep c wd [] → OwnOff S [dpp] → (sg < dpp ∧ q.hd < dpp ∧ 146 < dpp) → (∀ p ∈ tl, p ∈ S) → (118, a1) ∈ S → (125, a2) ∈ S → P) : P := by
  have c1 : @LT.lt Nat _ hda cf := al.1
  have c2 : @LT.lt Nat _ sg cf := al.2.1
  have upt : ∀ p ∈ tl, p ∈ ad ++ ((hda, W.listOf #[] 0) :: (rq, instObj 52 dq) :: (dq, dictOf eq nq) :: (q.st, W.listOf ((List.range ws.length).map fun k => Value.ref (xs k)).toArray nn) :: (118, a1) :: (125, a2) :: tl) := fun p hp => List.mem_append_right _ (.tail _ (.tail _ (.tail _ (.tail _ (.tail _ (.tail _ hp))))))
  have upa : ∀ p ∈ ad ++ [(hda, W.listOf #[] 0)], p ∈ ad ++ ((hda, W.listOf #[] 0) :: (rq, instObj 52 dq) :: (dq, dictOf eq nq) :: (q.st, W.listOf ((List.range ws.length).map fun k => Value.ref (xs k)).toArray nn) :: (118, a1) :: (125, a2) :: tl) := fun p hp => by
    rcases List.mem_append.mp hp with hp | hp
    · exact List.mem_append_left _ hp
    · rw [List.mem_singleton.mp hp]; exact List.mem_append_right _ (.head _)
  refine k _ ?_ ⟨⟨dq, nq, eq, List.mem_append_right _ (.tail _ (.head _)), List.mem_append_right _ (.tail _ (.tail _ (.head _))), hsig⟩, hop.mono upt, fun k hk => (hst k hk).mono upt, List.mem_append_right _ (.tail _ (.tail _ (.tail _ (.head _)))), upt _ hscr, ?_, ⟨by (first | lia | omega), by (first | lia | omega)⟩⟩ (TP.mono upa) (PG.mono upa) ?_ ⟨by (first | lia | omega), by (first | lia | omega), by (first | lia | omega)⟩ upt (List.mem_append_right _ (.tail _ (.tail _ (.tail _ (.tail _ (.head _)))))) (List.mem_append_right _ (.tail _ (.tail _ (.tail _ (.tail _ (.tail _ (.head _)))))))
  · intro p hp
    refine N p ?_
    simp only [ledP, List.mem_cons, List.mem_append] at hp ⊢
    rcases hp with h | h | h | h | h | h | h | h | h | h | h | h | h <;> (first | ((repeat (first | with_reducible exact h | with_reducible exact Or.inl h | with_reducible exact Or.inl (Or.inl h) | with_reducible exact Or.inl (Or.inr h) | refine Or.inr ?_)); done) | simp [h])
  · intro p hp b hb
    have hb' : b = sg ∨ b = q.hd ∨ b = 111 ∨ b = 146 := by simpa using hb
    rcases List.mem_append.mp hp with hp | hp
    · have hlt : @LT.lt Nat _ b cf := by rcases hb' with rfl | rfl | rfl | rfl <;> (first | lia | omega)
      exact Nat.ne_of_gt (Nat.lt_of_lt_of_le hlt (hi p hp).1)
    · simp only [List.mem_cons] at hp
      rcases hp with rfl | rfl | rfl | rfl | rfl | rfl | hp
      · exact neN (by rcases hb' with e | e | e | e <;> rw [e] <;> dsimp only <;> (first | lia | omega))
      · exact neN (by rcases hb' with e | e | e | e <;> rw [e] <;> dsimp only <;> (first | lia | omega))
      · exact neN (by rcases hb' with e | e | e | e <;> rw [e] <;> dsimp only <;> (first | lia | omega))
      · exact neN (by rcases hb' with e | e | e | e <;> rw [e] <;> dsimp only <;> (first | lia | omega))
      · exact neN (by rcases hb' with e | e | e | e <;> rw [e] <;> dsimp only <;> (first | lia | omega))
      · exact neN (by rcases hb' with e | e | e | e <;> rw [e] <;> dsimp only <;> (first | lia | omega))
      · rcases hb' with rfl | rfl | rfl | rfl
        · exact Nat.ne_of_lt (Nat.lt_trans (tb_ltOf o3 p hp) (Nat.lt_trans o2.2.1 o2.2.2.1))
        · exact off p hp _ (.tail _ (.tail _ (.tail _ (.head _))))
        · exact off p hp _ (.tail _ (.tail _ (.tail _ (.tail _ (.head _)))))
        · exact off p hp _ (.tail _ (.tail _ (.tail _ (.tail _ (.tail _ (.head _))))))
  · intro p hp b hb
    rw [List.mem_singleton.mp hb]
    rcases List.mem_append.mp hp with hp | hp
    · exact (hi p hp).2
    · have : @LT.lt Nat _ p.1 cf := tb_ltOf al p (by
        simp only [List.mem_cons] at hp ⊢
        rcases hp with h | h | h | h | h | h | h <;> (first | ((repeat (first | with_reducible exact h | with_reducible exact Or.inl h | with_reducible exact Or.inl (Or.inl h) | with_reducible exact Or.inl (Or.inr h) | refine Or.inr ?_)); done) | simp [h]))
      exact Nat.ne_of_lt (Nat.lt_of_lt_of_le this lo.2)
end Mine


namespace Mine
section
variable {prog : Program} {w : World} {A : Around} {E : Value → Shared → Prop} {s : Shared} {K : Frag} {x C L f : Addr} {h₀ : Heap} {m : Str → Option Value} {ox : Obj} {od : Option Obj}
/-- hasattr of a thing that lacks the name in its own dict and its class -/
theorem hasattr_no {Q : Value → Shared → Prop} {name : Str} {tk : Tok} {es : List DictEntry} {n : Nat} (hA : A.handled = none) (F : Fr h₀ L s.heap m) (X₀ : K.In h₀) (I : W.InstAt s.heap x ox C (some (dictOf es n)))
    (hg : plainGet K C name = true) (hmod : mroIn K C (.type "module") = some false) (hh : hasDictIn K C = true)
    (ha : findIn K (.ref C) name = some none) (hc : copiedNames.contains name = false) (hn : nameIn K C = true) (hnl : name.length ≤ 100) (hl : getL name es = some none)
    (h : ∀ h' tk', (∀ b o, s.heap.get? b = some o → h'.get? b = some o) → Q (.bool false) { s with heap := h', toks := tk' }) : wpAny (model prog w) A (call (.builtin "hasattr") [.ref x, .str name tk]) Q E s := by
  refine Calls.call_function_entry kind_hasattr plain_hasattr entry_hasattr (args_hasattr2 _ _) ?_
  have X := X₀.keeps F.keep
  obtain ⟨hp, g, d, t, os⟩ := s
  have hga := (plainGet_of hg).1
  have L0 := I.type (M := model prog w)
  have L1 := looks_findIn (M := model prog w) X hga
  have L2 := looks_find (M := model prog w) X I (findObj_miss hh ha hc hl)
  have L3 := looks_mroIn (M := model prog w) X hmod
  have L4 := looks_findIn (M := model prog w) X (plainGet_of hg).2
  unfold Builtin.«hasattr»
  refine wpAny_bind (m := someArgs "hasattr" 2 2 _) (wpAny_pure ?_)
  dsimp only
  refine wpAny_bind (wpAny_bind (wpAny_pure ?_))
  show wpAny _ _ (pure _) _ _ _
  refine wpAny_pure ?_
  show wpAny _ _ (do
    let y ← typeOf (Value.ref x)
    _) _ _ _
  refine wpAny_bind (L0.at ?_)
  dsimp only
  refine wpAny_bind ?_
  repeat ((fail_if_success (with_reducible show wpAny _ _ (getAttrBy? _ _) _ _ _)); lk)
  unfold getAttrBy?
  refine wpAny_bind (wpAny_attempt (getBy_open (fill := false) X I hga ?_))
  refine wpAny_bind (wpAny_pure (wpAny_bind (L0.at (wpAny_bind (L2.at ?_)))))
  refine wpAny_bind (L4.at ?_)
  show wpAny _ _ (Builtin.ObjectAttr.noSuchAttribute _ _) _ _ _
  unfold Builtin.ObjectAttr.noSuchAttribute
  refine wpAny_bind (name_cut (K := K) X I hn fun nm hnm => ?_)
  refine wpAny_raiseAttrError hA (fun h' tk e hx => ?_) (missMsg hnm hnl)
  obtain ⟨t', u', he⟩ := hx.there
  dsimp only
  unfold noteIf noteAttr
  have f1 := sub_AttributeError
  repeat (any_goals (first | assumption | wp_step))
  refine ⟨_, rfl, ?_⟩
  exact h _ _ hx.keeps
end
end Mine


namespace Mine
theorem fillG : PySem.Challenge.rw_dn0254_12.row.prog = PySem.Challenge.rw_dn0254_12.row.prog ∧ Mine.hd.heap_39 = Mine.hd.heap_39 := by
  w_top off
  k_fill
  exact ⟨rfl, rfl⟩
abbrev wsOf {vs : List Value} {ns : List Int} (_ : IntsAre vs ns) : List Value := vs
theorem hdv_up {S R : List (Addr × Obj)} {x : Nat} {o : Int} (h : ∃ t, HdV S x (.int o t)) (u : ∀ p ∈ S, p ∈ R) : ∃ t, HdV R x (.int o t) := by
  obtain ⟨t, C, dx, es, n, a, b, c⟩ := h
  exact ⟨t, C, dx, es, n, u _ a, u _ b, c⟩
theorem perm_map {N : Nat} {xs : Nat → Nat} {p : List Nat} (hp : p.Perm (List.range N)) : (p.map fun i => ((List.range N).map fun k => Value.ref (xs k)).getD i Value.none) = p.map fun i => Value.ref (xs i) := by
  refine List.map_congr_left fun i hi => ?_
  have : i < N := List.mem_range.mp (hp.mem_iff.mp hi)
  rw [List.getD_eq_getElem?_getD, List.getElem?_map, List.getElem?_range this]; rfl
def LoopA (ns : List Int) (sg rq pg sc lr : Nat) (c0 : Int) (p : List Nat) (R : List (Addr × Obj)) (i : Nat) (m : Str → Option Value) (nw : List (Addr × Obj)) : Prop :=
  m "asked" = some (.ref rq) ∧ m "page" = some (.ref pg) ∧ m "first" = some (.ref pg) ∧ m "request" = some (.ref rq) ∧ (∃ t, m "code" = some (.int c0 t)) ∧ m "script" = some (.ref sc) ∧ m "line" = some (.ref lr) ∧
    ∃ signs n1, nw = (sg, W.listOf signs.toArray n1) :: R ∧ IntsAre signs (sig12 ns (p.take i))
section
variable {w : World} {A : Around} {E : Value → Shared → Prop} {s : Shared} {L : Addr} {h₀ : Heap} {m : Str → Option Value} {news : List (Addr × Obj)}
theorem name52 (P : Params) : nameIn (Mine.hd.heap_39 P) 52 = true := by kernel_rfl
theorem name73 (P : Params) : nameIn (Mine.hd.heap_39 P) 73 = true := by kernel_rfl
/-- hasattr of a stage that has the name itself -/
theorem has_req {Q : Value → Shared → Prop} {x d nx : Nat} {es : List DictEntry} {v : Value} {tk : Tok} (F : Fr h₀ L s.heap m) (X : (Mine.hd.heap_39 w.params).In h₀) (N : News h₀ L s.heap news) (h1 : (x, instObj 52 d) ∈ news) (h2 : (d, dictOf es nx) ∈ news) (hl : getL "http_request" es = some (some v)) (hv : handedIn v = true) (h : Q (.bool true) s) :
    wpAny (model PySem.Challenge.rw_dn0254_12.row.prog w) A (call (.builtin "hasattr") [.ref x, .str "http_request" tk]) Q E s :=
  hasattr_yes (K := Mine.hd.heap_39 w.params) F X (InstAt.of_news N h1 h2) (by k_is) (by k_is) (findObj_own (attr := none) (by k_is) (by k_is) (by k_is) hl) hv h
theorem has_rsp {Q : Value → Shared → Prop} {x d nx : Nat} {es : List DictEntry} {v : Value} {tk : Tok} (F : Fr h₀ L s.heap m) (X : (Mine.hd.heap_39 w.params).In h₀) (N : News h₀ L s.heap news) (h1 : (x, instObj 52 d) ∈ news) (h2 : (d, dictOf es nx) ∈ news) (hl : getL "http_response" es = some (some v)) (hv : handedIn v = true) (h : Q (.bool true) s) :
    wpAny (model PySem.Challenge.rw_dn0254_12.row.prog w) A (call (.builtin "hasattr") [.ref x, .str "http_response" tk]) Q E s :=
  hasattr_yes (K := Mine.hd.heap_39 w.params) F X (InstAt.of_news N h1 h2) (by k_is) (by k_is) (findObj_own (attr := none) (by k_is) (by k_is) (by k_is) hl) hv h
theorem no_req52 {Q : Value → Shared → Prop} {x d nx : Nat} {es : List DictEntry} {tk : Tok} (hA : A.handled = none) (F : Fr h₀ L s.heap m) (X : (Mine.hd.heap_39 w.params).In h₀) (N : News h₀ L s.heap news) (h1 : (x, instObj 52 d) ∈ news) (h2 : (d, dictOf es nx) ∈ news) (hl : getL "http_request" es = some none) (h : ∀ h' tk', Fr h₀ L h' m → News h₀ L h' news → Q (.bool false) { s with heap := h', toks := tk' }) :
    wpAny (model PySem.Challenge.rw_dn0254_12.row.prog w) A (call (.builtin "hasattr") [.ref x, .str "http_request" tk]) Q E s :=
  hasattr_no (K := Mine.hd.heap_39 w.params) hA F X (InstAt.of_news N h1 h2) (by k_is) (by k_is) (by k_is) (by k_is) (by decide) (name52 _) (by decide) hl fun h' tk' k => h h' tk' (F.keeps k) (N.grown k)
theorem no_req73 {Q : Value → Shared → Prop} {x d nx : Nat} {es : List DictEntry} {tk : Tok} (hA : A.handled = none) (F : Fr h₀ L s.heap m) (X : (Mine.hd.heap_39 w.params).In h₀) (N : News h₀ L s.heap news) (h1 : (x, instObj 73 d) ∈ news) (h2 : (d, dictOf es nx) ∈ news) (hl : getL "http_request" es = some none) (h : ∀ h' tk', Fr h₀ L h' m → News h₀ L h' news → Q (.bool false) { s with heap := h', toks := tk' }) :
    wpAny (model PySem.Challenge.rw_dn0254_12.row.prog w) A (call (.builtin "hasattr") [.ref x, .str "http_request" tk]) Q E s :=
  hasattr_no (K := Mine.hd.heap_39 w.params) hA F X (InstAt.of_news N h1 h2) (by k_is) (by k_is) (by k_is) (by k_is) (by decide) (name73 _) (by decide) hl fun h' tk' k => h h' tk' (F.keeps k) (N.grown k)
theorem no_rsp52 {Q : Value → Shared → Prop} {x d nx : Nat} {es : List DictEntry} {tk : Tok} (hA : A.handled = none) (F : Fr h₀ L s.heap m) (X : (Mine.hd.heap_39 w.params).In h₀) (N : News h₀ L s.heap news) (h1 : (x, instObj 52 d) ∈ news) (h2 : (d, dictOf es nx) ∈ news) (hl : getL "http_response" es = some none) (h : ∀ h' tk', Fr h₀ L h' m → News h₀ L h' news → Q (.bool false) { s with heap := h', toks := tk' }) :
    wpAny (model PySem.Challenge.rw_dn0254_12.row.prog w) A (call (.builtin "hasattr") [.ref x, .str "http_response" tk]) Q E s :=
  hasattr_no (K := Mine.hd.heap_39 w.params) hA F X (InstAt.of_news N h1 h2) (by k_is) (by k_is) (by k_is) (by k_is) (by decide) (name52 _) (by decide) hl fun h' tk' k => h h' tk' (F.keeps k) (N.grown k)
end
theorem rotP {sg hd n1 n2 dpp np : Nat} {signs handed : List Value} {tab t6 : Array Value} {ep : List DictEntry} {S : List (Addr × Obj)} {a : Addr × Obj} {h₀ h : Heap} {L : Addr} (N : News h₀ L h (a :: ledP sg hd signs n1 handed n2 tab t6 dpp ep np S)) : News h₀ L h (ledP sg hd signs n1 handed n2 tab t6 dpp ep np (a :: S)) := fun p hp => N p (by
  simp only [ledP, List.mem_cons] at hp ⊢
  rcases hp with h | h | h | h | h | h | h <;> (first | ((repeat (first | with_reducible exact h | with_reducible exact Or.inl h | with_reducible exact Or.inl (Or.inl h) | with_reducible exact Or.inl (Or.inr h) | refine Or.inr ?_)); done) | simp [h]))
theorem off_lr {S : List (Addr × Obj)} {sg hd dpp lr : Nat} {o : Obj} (h : OwnOff S [sg, hd, 111, 146]) (h1 : sg < lr) (h2 : hd < lr) (h3 : 111 < lr) (h4 : 146 < lr) : OwnOff ((lr, o) :: S) [sg, hd, 111, 146] := by
  intro p hp b hb
  rcases List.mem_cons.mp hp with rfl | hp
  · have hb' : b = sg ∨ b = hd ∨ b = 111 ∨ b = 146 := by simpa using hb
    rcases hb' with rfl | rfl | rfl | rfl
    · exact Nat.ne_of_gt h1
    · exact Nat.ne_of_gt h2
    · exact Nat.ne_of_gt h3
    · exact Nat.ne_of_gt h4
  · exact h p hp b hb
theorem off_one {S : List (Addr × Obj)} {a lr : Nat} {o : Obj} (h : OwnOff S [a]) (h1 : a < lr) : OwnOff ((lr, o) :: S) [a] := by
  intro p hp b hb
  rcases List.mem_cons.mp hp with rfl | hp
  · rw [List.mem_singleton.mp hb]; exact Nat.ne_of_gt h1
  · exact h p hp b hb
/-- the signs' list lies apart from all else -/
theorem off_sg {S own : List (Addr × Obj)} {sg hd dpp lr I : Nat} {o1 o2 o3 o4 : Obj} (h : OwnOff S [sg, hd, 111, 146]) (ne : 146 < hd ∧ hd < sg) (h1 : sg < dpp) (hown : ∀ p ∈ own, p.1 = I ∨ p.1 = lr) (h2 : sg < lr) (h3 : sg < I) :
    OwnOff ((hd, o1) :: (111, o2) :: (146, o3) :: (dpp, o4) :: (S ++ own)) [sg] := by
  intro p hp b hb
  rw [List.mem_singleton.mp hb]
  simp only [List.mem_cons] at hp
  rcases hp with rfl | rfl | rfl | rfl | hp
  · exact neN (by dsimp only; (first | lia | omega))
  · exact neN (by dsimp only; (first | lia | omega))
  · exact neN (by dsimp only; (first | lia | omega))
  · exact neN (by dsimp only; (first | lia | omega))
  · rcases List.mem_append.mp hp with hp | hp
    · exact h p hp _ (.head _)
    · rcases hown p hp with e | e <;> (rw [e]; exact neN (by (first | lia | omega)))
theorem sig_step {ns : List Int} {p : List Nat} {i k : Nat} (h : p[i]? = some k) : sig12 ns (p.take (i + 1)) = sig12 ns (p.take i) ++ asks12 (ns.getD k 0) k := by
  rw [List.take_add_one, h, Option.toList_some, sig12_snoc]
theorem run_step {ns : List Int} {p : List Nat} {i k : Nat} {s : S12} (h : p[i]? = some k) : run12 ns (p.take (i + 1)) s = step12 (ns.getD k 0) k (run12 ns (p.take i) s) := by
  rw [List.take_add_one, h, Option.toList_some, run12_snoc]
end Mine


namespace Mine
local macro_rules | `(tactic| walk_at "no key of the walk") => `(tactic| fail)
local macro_rules | `(tactic| walk_at "no key of the walk") => `(tactic| fail)
theorem fillH : PySem.Challenge.rw_dn0254_12.row.prog = PySem.Challenge.rw_dn0254_12.row.prog ∧ Mine.hd.heap_39 = Mine.hd.heap_39 := by
  w_top off
  k_fill
  exact ⟨rfl, rfl⟩
def bodyAt (b : List Stmt) (k : Nat) : List Stmt := match b[k]? with
  | some (.For _ _ body _ _) => body
  | _ => []
section
variable {w : World} {E : Value → Shared → Prop} {s : Shared} {L : Addr} {h₀ : Heap} {m : Str → Option Value}
local macro_rules | `(tactic| keq_rows) => `(tactic| first | (k_unfold; (try dsimp only)) | walk1 | (dsimp only; walk1))
local macro_rules | `(tactic| k_mem) => `(tactic| ((with_reducible show List.Mem _ (_ ++ _)); assumption))
local macro_rules | `(tactic| walk_at "getAttr ref") => `(tactic| (k_here; (first | (with_reducible show wpAny _ _ (getAttr (Value.ref _) (PySem.Str.ofString "http_request") _) _ _ _) | (with_reducible show wpAny _ _ (getAttr (Value.ref _) (PySem.Str.ofString "http_response") _) _ _ _)); k_dflt (refine' get_sym ?k1 ?k2 ?k3 ?k4 ?k5 ?k6 ?k7 ?k8 ?k9 ?ka ?kb ?_; (case k1 => k_asm); (case k2 => k_asm); (case k3 => k_asm); (case k4 => k_mem); (case k5 => k_mem); (case k6 => assumption); (case k7 => k_is); (case k8 => k_is); (case k9 => k_is); (case ka => k_is); (case kb => first | rfl | assumption); k_whole)))
local macro_rules | `(tactic| walk_at "getMethod ref") => `(tactic| (k_here; (first | (with_reducible show wpAny _ _ (getMethod (Value.ref _) (PySem.Str.ofString "http_request") _) _ _ _) | (with_reducible show wpAny _ _ (getMethod (Value.ref _) (PySem.Str.ofString "http_response") _) _ _ _)); k_dflt (first
  | (refine' method_usual (r := none) ?k1 (InstAt.of_news (by k_asm) (by k_mem) (by k_mem)) ?k4 ?k5 ?k6 ?k7 ?_; (case k1 => (refine' Frag.In.keeps ?x1 (Fr.keep ?x2); (case x2 => k_asm); (case x1 => k_asm))); (case k4 => k_is); (case k5 => k_is); (case k6 => k_is); (case k7 => rfl); k_whole)
  | (refine' method_inst ?k1 ?k2 (InstAt.of_news (by k_asm) (by k_mem) (by k_mem)) ?k4 ?k5 ?k6 ?k7 ?_; (case k1 => k_asm); (case k2 => k_asm); (case k4 => k_is); (case k5 => k_is); (case k6 => k_is); (case k7 => assumption); k_whole))))
local macro_rules | `(tactic| ktr_rel) => `(tactic| repeat' ((fail_if_success (with_reducible show wpAny _ _ (call (Value.builtin "hasattr") _) _ _ _)); (fail_if_success (with_reducible show wpAny _ _ (call (Value.ref _) _) _ _ _)); (fail_if_success (with_reducible show PostJ _ _ _ _ _ _ _ _ _)); keq_rows))
theorem loopA12 {p : Program} {loose : List Str} {mean : ExcName → Option Value} {mg mb : Str → Option Value} {Q : Flow → Shared → Prop} {b body : List Stmt} {scope scS scC : Scope} {a : Addr} {fx : Fx12} {ns : List Int} {sg hd rq st sc lr dpp np nn n2 cr pg : Nat} {xs : Nat → Nat} {ws handed : List Value} {tab t6 : Array Value} {ep : List DictEntry} {S : List (Addr × Obj)} {pl : List Nat} {c0 : Int} {tc : Tok}
    (hdef : Def12 w 151 "law" b scope) (hbody : body = bodyAt b 13) (dS : Def12 w 123 "_law_signer" fx.bS scS) (dC : Def12 w 130 "_law_cookies" fx.bC scC) (hB : Below callerA h₀ [] h₀) (X : (Mine.hd.heap_39 w.params).In h₀) (T : Top p loose mean mg mb h₀) (hC : CodeHd h₀ 115 111) (epn : fx.pn = (mg "__name__").getD .none)
    (F : Fr h₀ L s.heap m) (N : News h₀ L s.heap (ledP sg hd [] 0 handed n2 tab t6 dpp ep np S)) (P2 : Ph2 fx ns sg hd rq st sc xs nn ws S) (hlr : (lr, W.listOf (pl.map fun i => Value.ref (xs i)).toArray cr) ∈ S) (hpl : ∀ k ∈ pl, k < ws.length) (hpn : pl.length ≤ 32) (hlrg : sg < lr) (hdp : sg < dpp)
    (m1 : m "asked" = some (.ref rq)) (m2 : m "page" = some (.ref pg)) (m3 : m "first" = some (.ref pg)) (m4 : m "request" = some (.ref rq)) (m5 : m "code" = some (.int c0 tc)) (m6 : m "script" = some (.ref sc)) (m7 : m "line" = some (.ref lr))
    (done : ∀ m' signs n1 h tk t', m' "asked" = some (.ref rq) → m' "page" = some (.ref pg) → m' "first" = some (.ref pg) → m' "request" = some (.ref rq) → m' "code" = some (.int c0 t') → m' "script" = some (.ref sc) → m' "line" = some (.ref lr) → Fr h₀ L h m' → News h₀ L h (ledP sg hd signs n1 handed n2 tab t6 dpp ep np S) → IntsAre signs (sig12 ns pl) → Q .next { s with heap := h, toks := tk }) :
    wpAny (model PySem.Challenge.rw_dn0254_12.row.prog w) (callerA.deeper (envOfC "law" scope L a (.ref 150))) (pyIter (.ref lr)) (fun it s₂ => LoopAtV PySem.Challenge.rw_dn0254_12.row.prog w (callerA.deeper (envOfC "law" scope L a (.ref 150))) h₀ (envOfC "law" scope L a (.ref 150)) "stage" body Q E it s₂) E s := by
  obtain ⟨oc', od, params, dV, kV, doc, pm, cdv, ct', an, osl, hbL⟩ := hdef
  k_dflt (refine' lookup_same hbL ?k6 ?_; (case k6 => k_is))
  intro hbe hse
  rw [hbe] at hbody
  dsimp only [bodyAt, List.getElem?_cons_zero, List.getElem?_cons_succ] at hbody
  subst hbody
  subst hse
  clear hbL hbe
  have hlm : (lr, W.listOf (pl.map fun i => Value.ref (xs i)).toArray cr) ∈ ledP sg hd [] 0 handed n2 tab t6 dpp ep np S := .tail _ (.tail _ (.tail _ (.tail _ (.tail _ hlr))))
  refine iter_listJ (LoopA ns sg rq pg sc lr c0 pl ((hd, W.listOf handed.toArray n2) :: (111, tabObj tab) :: (146, tabObj t6) :: (dpp, dictOf ep np) :: S)) rfl (News.isList N hlm) (N _ hlm).2.1 F N ⟨m1, m2, m3, m4, ⟨_, m5⟩, m6, m7, [], 0, rfl, .nil⟩ ?aTurn ?aDone
  case aDone =>
    intro m' nw h tk hj F' N'
    obtain ⟨a1, a2, a3, a4, ⟨t', a5⟩, a6, a7, signs, n1, rfl, hs⟩ := hj
    rw [List.length_map, List.take_length] at hs
    exact done m' signs n1 h tk t' a1 a2 a3 a4 a5 a6 a7 F' N' hs
  case aTurn =>
    intro I i v m₁ nw h tk own hv hj hoI hown hI1 hltI hlI F3 N3
    obtain ⟨a1, a2, a3, a4, ⟨t', a5⟩, a6, a7, signs, n1, rfl, hsg⟩ := hj
    obtain ⟨k, hk, rfl⟩ : ∃ k, pl[i]? = some k ∧ Value.ref (xs k) = v := by
      rw [List.getElem?_map] at hv
      cases q : pl[i]? with
      | none => rw [q] at hv; cases hv
      | some k => rw [q] at hv; exact ⟨k, rfl, Option.some.inj hv⟩
    have hkw := hpl k (List.mem_of_getElem? hk)
    obtain ⟨d, nx, C, es, t, x1, x2, kd, -⟩ := P2.stg k hkw
    replace F3 := fr_g7 F3 a1 a2 a3 a4 a5 a6 a7
    simp only [List.cons_append] at N3
    replace F3 : Fr h₀ L h _ := F3
    replace N3 : News h₀ L h _ := N3
    have hsI : sg < I := hltI _ (.head _)
    have hoff := off_sg (o1 := W.listOf handed.toArray n2) (o2 := tabObj tab) (o3 := tabObj t6) (o4 := dictOf ep np) P2.off P2.ne hdp hown hlrg hsI
    have up : ∀ p ∈ S, p ∈ S ++ own := fun p hp => List.mem_append_left _ hp
    have upT : ∀ p ∈ S, p ∈ (hd, W.listOf handed.toArray n2) :: (111, tabObj tab) :: (146, tabObj t6) :: (dpp, dictOf ep np) :: (S ++ own) := fun p hp => .tail _ (.tail _ (.tail _ (.tail _ (up p hp))))
    have hsl : signs.length ≤ 2 ^ 20 := by
      have h1 := hsg.length
      have h2 := sig12_len (ns := ns) (pl.take i)
      rw [List.length_take] at h2
      (first | lia | omega)
    have hstep := sig_step (ns := ns) hk
    have y1 := up _ x1
    have y2 := up _ x2
    have endA : ∀ {h' : Heap} {tk' n' : Nat} {m' : Str → Option Value} {us : List Value}, Fr h₀ L h' m' → News h₀ L h' ((sg, W.listOf (signs ++ us).toArray n') :: (hd, W.listOf handed.toArray n2) :: (111, tabObj tab) :: (146, tabObj t6) :: (dpp, dictOf ep np) :: (S ++ own)) → m' "asked" = some (.ref rq) → m' "page" = some (.ref pg) → m' "first" = some (.ref pg) → m' "request" = some (.ref rq) → m' "code" = some (.int c0 t') → m' "script" = some (.ref sc) → m' "line" = some (.ref lr) → IntsAre us (asks12 (ns.getD k 0) k) →
        EndJ h₀ L (LoopA ns sg rq pg sc lr c0 pl ((hd, W.listOf handed.toArray n2) :: (111, tabObj tab) :: (146, tabObj t6) :: (dpp, dictOf ep np) :: S) (i + 1)) own I { s with heap := h, toks := tk } { s with heap := h', toks := tk' } := by
      intro h' tk' n' m' us F' N' b1 b2 b3 b4 b5 b6 b7 hu
      refine ⟨h', tk', m', (sg, W.listOf (signs ++ us).toArray n') :: (hd, W.listOf handed.toArray n2) :: (111, tabObj tab) :: (146, tabObj t6) :: (dpp, dictOf ep np) :: S, rfl, F', N', ?_, b1, b2, b3, b4, ⟨_, b5⟩, b6, b7, signs ++ us, n', rfl, by rw [hstep]; exact hsg.append hu⟩
      intro p hp
      rcases List.mem_cons.mp hp with rfl | hp
      · exact (hoI (sg, W.listOf signs.toArray n1) (.head _) : sg ≠ I)
      · exact hoI p (.tail _ hp)
    rcases kd with ⟨hk0, rfl, Sg⟩ | ⟨hk0, rfl, g1, g2, g3⟩ | ⟨hk0, rfl, Ck⟩ | ⟨hk0, rfl, g2, g3⟩
    · obtain ⟨f1, f2, c1, c2, k1, k2, ok1, ok2, oc1, oc2, dc1, dc2, ct1, ct2, ti, ta, z1, z2, z3, z4, z5, z6, cd1, cd2, e1, e2, g1, g2⟩ := Sg
      rw [epn] at z1
      have z1' := up _ z1
      obtain ⟨ocS, odS, paramsS, dVS, kVS, docS, pmS, cdvS, ctS, anS, oslS, hbS⟩ := id dS
      k_dflt (refine' lookup_same hbS ?k6 ?_; (case k6 => k_is))
      intro hbe hse
      rw [hbe] at z1'
      dsimp only [askAt, List.getElem?_cons_zero, List.getElem?_cons_succ] at z1'
      clear hbS hbe hse
      ktr_rel
      with_reducible rename Fr _ _ _ _ => F4
      with_reducible rename News _ _ _ _ => N4
      refine has_req (w := w) F4 X N4 (.tail _ (upT _ x1)) (.tail _ (upT _ x2)) g1 rfl ?_
      ktr_rel
      with_reducible rename Fr _ _ _ _ => F5
      with_reducible rename News _ _ _ _ => N5
      k_dflt (refine ask0 (dp := callerA.depth + 1) dS hB F5 X T rfl rfl hC ?aa1 ?aa2 N5 hoff (upT _ z1) (upT _ z3) (upT _ z5) cd1 e1 (P2.req.mono upT) hsl ?_)
      case aa1 => decide
      case aa2 => decide
      intro h6 tk6 n6 t6' F6 N6
      clear F5 N5
      ktr_rel
      dsimp only [PostJ]
      with_reducible rename Fr _ _ _ _ => F7
      with_reducible rename News _ _ _ _ => N7
      exact endA F7 N7 rfl rfl rfl rfl rfl rfl rfl (by rw [asks12, if_pos hk0]; exact .cons _ _ .nil)
    · ktr_rel
      with_reducible rename Fr _ _ _ _ => F4
      with_reducible rename News _ _ _ _ => N4
      refine no_req73 (w := w) rfl F4 X N4 (.tail _ (upT _ x1)) (.tail _ (upT _ x2)) g2 ?_
      intro h6 tk6 F6 N6
      clear F4 N4
      ktr_rel
      dsimp only [PostJ]
      with_reducible rename Fr _ _ _ _ => F7
      with_reducible rename News _ _ _ _ => N7
      exact endA (us := []) F7 (by rw [List.append_nil]; exact N7) rfl rfl rfl rfl rfl rfl rfl (by rw [asks12, if_neg (by (first | lia | omega)), if_neg (by (first | lia | omega))]; exact .nil)
    · have Ck' := Ck
      obtain ⟨jar, jd, jn, f1, f2, f3, f4, c1, c2, k1, k2, k3, k4, jes, ok1, ok2, ok3, ok4, oc1, oc2, dc1, dc2, ct1, ct2, ct3, ct4, ti, -, -, -, -, z5, -, -, -, -, -, -, -, -, -, -, -, -, -, -, -, -, g1, g2⟩ := Ck'
      rw [epn] at Ck
      have z5' := up _ z5
      obtain ⟨ocS, odS, paramsS, dVS, kVS, docS, pmS, cdvS, ctS, anS, oslS, hbS⟩ := id dC
      k_dflt (refine' lookup_same hbS ?k6 ?_; (case k6 => k_is))
      intro hbe hse
      rw [hbe] at z5'
      dsimp only [reqAt, List.getElem?_cons_zero, List.getElem?_cons_succ] at z5'
      clear hbS hbe hse
      ktr_rel
      with_reducible rename Fr _ _ _ _ => F4
      with_reducible rename News _ _ _ _ => N4
      refine has_req (w := w) F4 X N4 (.tail _ (upT _ x1)) (.tail _ (upT _ x2)) g1 rfl ?_
      ktr_rel
      with_reducible rename Fr _ _ _ _ => F5
      with_reducible rename News _ _ _ _ => N5
      k_dflt (refine ask2 (dp := callerA.depth + 1) dC hB F5 X T rfl rfl hC ?ac1 ?ac2 N5 hoff (upT _ x1) (upT _ x2) (Ck.mono upT) (P2.req.mono upT) hsl g1 ?_)
      case ac1 => decide
      case ac2 => decide
      intro h6 tk6 n6 t6' F6 N6
      clear F5 N5
      ktr_rel
      dsimp only [PostJ]
      with_reducible rename Fr _ _ _ _ => F7
      with_reducible rename News _ _ _ _ => N7
      exact endA F7 N7 rfl rfl rfl rfl rfl rfl rfl (by rw [asks12, if_neg (by (first | lia | omega)), if_pos hk0]; exact .cons _ _ .nil)
    · ktr_rel
      with_reducible rename Fr _ _ _ _ => F4
      with_reducible rename News _ _ _ _ => N4
      refine no_req52 (w := w) rfl F4 X N4 (.tail _ (upT _ x1)) (.tail _ (upT _ x2)) g2 ?_
      intro h6 tk6 F6 N6
      clear F4 N4
      ktr_rel
      dsimp only [PostJ]
      with_reducible rename Fr _ _ _ _ => F7
      with_reducible rename News _ _ _ _ => N7
      exact endA (us := []) F7 (by rw [List.append_nil]; exact N7) rfl rfl rfl rfl rfl rfl rfl (by rw [asks12, if_neg (by (first | lia | omega)), if_neg (by (first | lia | omega))]; exact .nil)
end
end Mine


namespace Mine
section
variable {prog : Program} {w : World} {A : Around} {E : Value → Shared → Prop} {s : Shared} {K : Frag} {x C f L : Addr} {h₀ : Heap} {m : Str → Option Value} {ox : Obj} {od : Option Obj}
/-- hasattr of a thing whose class has a function of the name -/
theorem hasattr_fn {Q : Value → Shared → Prop} {name : Str} {tk : Tok} {es : List DictEntry} {n : Nat} (F : Fr h₀ L s.heap m) (X₀ : K.In h₀) (I : W.InstAt s.heap x ox C (some (dictOf es n)))
    (hg : plainGet K C name = true) (hmod : mroIn K C (.type "module") = some false) (hh : hasDictIn K C = true) (ha : findIn K (.ref C) name = some (some (.ref f))) (hf : isFn K (.ref f) = true)
    (hgf : specialIn K (.ref f) "__get__" = some (some (.builtin "function.__get__"))) (ht : takesIn K (.ref f) = some false) (hc : copiedNames.contains name = false) (hl : getL name es = some none)
    (h : ∀ h', (∀ b o, s.heap.get? b = some o → h'.get? b = some o) → Q (.bool true) { s with heap := h' }) : wpAny (model prog w) A (call (.builtin "hasattr") [.ref x, .str name tk]) Q E s := by
  refine Calls.call_function_entry kind_hasattr plain_hasattr entry_hasattr (args_hasattr2 _ _) ?_
  have X := X₀.keeps F.keep
  obtain ⟨hp, g, d, t, os⟩ := s
  have hga := (plainGet_of hg).1
  have L0 := I.type (M := model prog w)
  have L1 := looks_findIn (M := model prog w) X hga
  have L2 := looks_find (M := model prog w) X I (findObj_fn hh ha hgf ht hc (by show lookIn name (dictOf es n) = _; rw [lookIn_dict, hl]))
  have L3 := looks_mroIn (M := model prog w) X hmod
  have L4 := looks_findIn (M := model prog w) X (plainGet_of hg).2
  unfold Builtin.«hasattr»
  refine wpAny_bind (m := someArgs "hasattr" 2 2 _) (wpAny_pure ?_)
  dsimp only
  refine wpAny_bind (wpAny_bind (wpAny_pure ?_))
  show wpAny _ _ (pure _) _ _ _
  refine wpAny_pure ?_
  show wpAny _ _ (do
    let y ← typeOf (Value.ref x)
    _) _ _ _
  refine wpAny_bind (L0.at ?_)
  dsimp only
  refine wpAny_bind ?_
  repeat ((fail_if_success (with_reducible show wpAny _ _ (getAttrBy? _ _) _ _ _)); lk)
  unfold getAttrBy?
  refine wpAny_bind (wpAny_attempt (getBy_open (fill := false) X I hga ?_))
  refine wpAny_bind (wpAny_pure (wpAny_bind (L0.at (wpAny_bind (L2.at (wpAny_bind (L4.at ?_)))))))
  show wpAny _ _ (holding [.ref f] (call (.builtin "function.__get__") [.ref f, .ref x, .ref C]) >>= ret) _ _ _
  refine wpAny_bind (wpAny_holding (wpAny_call (fn_get X (beq_iff_eq.mp hf) ?_)))
  refine wpAny_pure ?_
  refine handed_on rfl ?_
  refine wpAny_pure ?_
  show wpAny _ _ (ret (.bool true)) _ _ _
  exact wpAny_pure ⟨_, rfl, h _ fun b o e => Heap.get?_push_of_some _ e⟩
end
end Mine


namespace Mine
local macro_rules | `(tactic| walk_at "no key of the walk") => `(tactic| fail)
local macro_rules | `(tactic| walk_at "no key of the walk") => `(tactic| fail)
local macro_rules | `(tactic| walk_at "no key of the walk") => `(tactic| fail)
local macro_rules | `(tactic| walk_at "no key of the walk") => `(tactic| fail)
local macro_rules | `(tactic| walk_at "no key of the walk") => `(tactic| fail)
local macro_rules | `(tactic| walk_at "no key of the walk") => `(tactic| fail)
local macro_rules | `(tactic| walk_at "no key of the walk") => `(tactic| fail)
theorem fillI : PySem.Challenge.rw_dn0254_12.row.prog = PySem.Challenge.rw_dn0254_12.row.prog ∧ Mine.hd.heap_39 = Mine.hd.heap_39 := by
  w_top off
  k_fill
  exact ⟨rfl, rfl⟩
structure StB (fx : Fx12) (rq pg0 sg hd : Nat) (st : S12) (S0 S : List (Addr × Obj)) (pg dpp : Nat) (ep : List DictEntry) (tab : Array Value) (signs handed : List Value) : Prop where
  sub : ∀ p ∈ S0, p ∈ S
  off : OwnOff S [sg, hd, 111, 146]
  offd : OwnOff S [dpp]
  lo : sg < dpp ∧ hd < dpp ∧ 146 < dpp
  tabs : TabP tab S
  page : Pg12 fx.b7 fx.pn S pg dpp ep st.c st.wd st.hs
  sigs : IntsAre signs st.sg
  errs : All2 (EntH rq S) handed st.er
  fst : st.hs = [] → pg = pg0
def LoopB (fx : Fx12) (ns : List Int) (sg hd rq pg0 sc : Nat) (c0 : Int) (t6 : Array Value) (s0 : S12) (pl : List Nat) (S0 : List (Addr × Obj)) (i : Nat) (m : Str → Option Value) (nw : List (Addr × Obj)) : Prop :=
  m "asked" = some (.ref rq) ∧ m "first" = some (.ref pg0) ∧ m "request" = some (.ref rq) ∧ (∃ t, m "code" = some (.int c0 t)) ∧ m "script" = some (.ref sc) ∧
    ∃ pg dpp ep np tab signs handed n1 n2 S, m "page" = some (.ref pg) ∧ nw = ledP sg hd signs n1 handed n2 tab t6 dpp ep np S ∧ StB fx rq pg0 sg hd (run12 ns (pl.take i) s0) S0 S pg dpp ep tab signs handed
theorem off_own {S own : List (Addr × Obj)} {a I lr : Nat} (h : ∀ p ∈ S, p.1 ≠ a) (hown : ∀ p ∈ own, p.1 = I ∨ p.1 = lr) (hI : I ≠ a) (hl : lr ≠ a) : ∀ p ∈ S ++ own, p.1 ≠ a := by
  intro p hp
  rcases List.mem_append.mp hp with hp | hp
  · exact h p hp
  · rcases hown p hp with e | e <;> (rw [e]; assumption)
theorem off_c {a : Nat} {x : Addr × Obj} {l : List (Addr × Obj)} (h : x.1 ≠ a) (k : ∀ p ∈ l, p.1 ≠ a) : ∀ p ∈ x :: l, p.1 ≠ a := fun p hp => by
  rcases List.mem_cons.mp hp with rfl | hp
  · exact h
  · exact k p hp
theorem off_1 {a : Nat} {l : List (Addr × Obj)} (h : ∀ p ∈ l, p.1 ≠ a) : OwnOff l [a] := fun p hp b hb => by rw [List.mem_singleton.mp hb]; exact h p hp
theorem off_2 {a b : Nat} {l : List (Addr × Obj)} (h : ∀ p ∈ l, p.1 ≠ a) (k : ∀ p ∈ l, p.1 ≠ b) : OwnOff l [a, b] := fun p hp c hc => by
  rcases List.mem_cons.mp hc with rfl | hc
  · exact h p hp
  · rw [List.mem_singleton.mp hc]; exact k p hp
section
variable {S own ad : List (Addr × Obj)} {sg hd dpp dpp' cf : Nat}
/-- what a new page lies apart from -/
theorem off_ad (h : OwnOff S [sg, hd, 111, 146]) (hi : ∀ p ∈ ad, @LE.le Nat _ cf p.1 ∧ @Ne Nat p.1 dpp') (h1 : sg < cf) (h2 : hd < cf) (h3 : 111 < cf) (h4 : 146 < cf) : OwnOff (ad ++ S) [sg, hd, 111, 146] := fun p hp b hb => by
  rcases List.mem_append.mp hp with hp | hp
  · have hb' : b = sg ∨ b = hd ∨ b = 111 ∨ b = 146 := by simpa using hb
    have hlt : @LT.lt Nat _ b cf := by rcases hb' with rfl | rfl | rfl | rfl <;> assumption
    exact Nat.ne_of_gt (Nat.lt_of_lt_of_le hlt (hi p hp).1)
  · exact h p hp b hb
theorem off_adp (al : ∀ p ∈ S, @LT.lt Nat _ p.1 cf) (hi : ∀ p ∈ ad, @LE.le Nat _ cf p.1 ∧ @Ne Nat p.1 dpp') (lo : cf ≤ dpp') : OwnOff (ad ++ S) [dpp'] := off_1 fun p hp => by
  rcases List.mem_append.mp hp with hp | hp
  · exact (hi p hp).2
  · exact Nat.ne_of_lt (Nat.lt_of_lt_of_le (al p hp) lo)
end
theorem rotR {h₀ h : Heap} {L : Addr} {a b c d e : Addr × Obj} {tl : List (Addr × Obj)} (N : News h₀ L h (a :: b :: c :: d :: e :: tl)) : News h₀ L h (c :: b :: a :: d :: e :: tl) := fun p hp => N p (by
  simp only [List.mem_cons] at hp ⊢
  rcases hp with h | h | h | h | h | h <;> (first | ((repeat (first | with_reducible exact h | with_reducible exact Or.inl h | with_reducible exact Or.inl (Or.inl h) | with_reducible exact Or.inl (Or.inr h) | refine Or.inr ?_)); done) | simp [h]))
theorem rotR' {h₀ h : Heap} {L : Addr} {a b c d e : Addr × Obj} {tl : List (Addr × Obj)} (N : News h₀ L h (c :: b :: a :: d :: e :: tl)) : News h₀ L h (a :: b :: c :: d :: e :: tl) := rotR N
theorem rotK {h₀ h : Heap} {L : Addr} {a b c d e : Addr × Obj} {tl : List (Addr × Obj)} (N : News h₀ L h (a :: b :: c :: d :: e :: tl)) : News h₀ L h (a :: e :: b :: c :: d :: tl) := fun p hp => N p (by
  simp only [List.mem_cons] at hp ⊢
  rcases hp with h | h | h | h | h | h <;> (first | ((repeat (first | with_reducible exact h | with_reducible exact Or.inl h | with_reducible exact Or.inl (Or.inl h) | with_reducible exact Or.inl (Or.inr h) | refine Or.inr ?_)); done) | simp [h]))
theorem rotK' {h₀ h : Heap} {L : Addr} {a b c d e : Addr × Obj} {tl : List (Addr × Obj)} (N : News h₀ L h (a :: e :: b :: c :: d :: tl)) : News h₀ L h (a :: b :: c :: d :: e :: tl) := fun p hp => N p (by
  simp only [List.mem_cons] at hp ⊢
  rcases hp with h | h | h | h | h | h <;> (first | ((repeat (first | with_reducible exact h | with_reducible exact Or.inl h | with_reducible exact Or.inl (Or.inl h) | with_reducible exact Or.inl (Or.inr h) | refine Or.inr ?_)); done) | simp [h]))
theorem ledE {h₀ h : Heap} {L sg hd n1 n2 dpp dpp' np np' : Nat} {signs handed : List Value} {tab t6 : Array Value} {ep ep' : List DictEntry} {ad S own : List (Addr × Obj)} (N : News h₀ L h ((111, tabObj tab) :: (hd, W.listOf handed.toArray n2) :: (dpp', dictOf ep' np') :: (ad ++ ((sg, W.listOf signs.toArray n1) :: (146, tabObj t6) :: (dpp, dictOf ep np) :: (S ++ own))))) : News h₀ L h (ledP sg hd signs n1 handed n2 tab t6 dpp' ep' np' ((ad ++ S) ++ own)) := fun p hp => N p (by
  simp only [ledP, List.mem_cons, List.mem_append] at hp ⊢
  rcases hp with h | h | h | h | h | ((h | h) | h) <;> (first | ((repeat (first | with_reducible exact h | with_reducible exact Or.inl h | with_reducible exact Or.inl (Or.inl h) | with_reducible exact Or.inl (Or.inr h) | refine Or.inr ?_)); done) | simp [h]))
theorem ledB {h₀ h : Heap} {L sg hd n1 n2 dpp dpp' np np' : Nat} {signs handed : List Value} {tab t6 : Array Value} {ep ep' : List DictEntry} {ad S own : List (Addr × Obj)} (N : News h₀ L h ((111, tabObj tab) :: (dpp', dictOf ep' np') :: (ad ++ ((sg, W.listOf signs.toArray n1) :: (hd, W.listOf handed.toArray n2) :: (146, tabObj t6) :: (dpp, dictOf ep np) :: (S ++ own))))) : News h₀ L h (ledP sg hd signs n1 handed n2 tab t6 dpp' ep' np' ((ad ++ S) ++ own)) := fun p hp => N p (by
  simp only [ledP, List.mem_cons, List.mem_append] at hp ⊢
  rcases hp with h | h | h | h | h | ((h | h) | h) <;> (first | ((repeat (first | with_reducible exact h | with_reducible exact Or.inl h | with_reducible exact Or.inl (Or.inl h) | with_reducible exact Or.inl (Or.inr h) | refine Or.inr ?_)); done) | simp [h]))
theorem has_rspD {w : World} {A : Around} {E : Value → Shared → Prop} {s : Shared} {L : Addr} {h₀ : Heap} {m : Str → Option Value} {news : List (Addr × Obj)} {Q : Value → Shared → Prop} {x d nx : Nat} {es : List DictEntry} {tk : Tok} (F : Fr h₀ L s.heap m) (X : (Mine.hd.heap_39 w.params).In h₀) (N : News h₀ L s.heap news) (h1 : (x, instObj 73 d) ∈ news) (h2 : (d, dictOf es nx) ∈ news) (hl : getL "http_response" es = some none) (h : ∀ h', Fr h₀ L h' m → News h₀ L h' news → Q (.bool true) { s with heap := h' }) :
    wpAny (model PySem.Challenge.rw_dn0254_12.row.prog w) A (call (.builtin "hasattr") [.ref x, .str "http_response" tk]) Q E s :=
  hasattr_fn (K := Mine.hd.heap_39 w.params) (f := 70) F X (InstAt.of_news N h1 h2) (by k_is) (by k_is) (by k_is) (by k_is) (by k_is) (by k_is) (by k_is) (by decide +kernel) hl fun h' k => h h' (F.keeps k) (N.grown k)
section
variable {w : World} {E : Value → Shared → Prop} {s : Shared} {L : Addr} {h₀ : Heap} {m : Str → Option Value}
local macro_rules | `(tactic| keq_rows) => `(tactic| first | (k_unfold; (try dsimp only)) | walk1 | (dsimp only; walk1))
local macro_rules | `(tactic| k_mem) => `(tactic| ((with_reducible show List.Mem _ (_ ++ _)); assumption))
local macro_rules | `(tactic| walk_at "getAttr ref") => `(tactic| (k_here; (first | (with_reducible show wpAny _ _ (getAttr (Value.ref _) (PySem.Str.ofString "http_request") _) _ _ _) | (with_reducible show wpAny _ _ (getAttr (Value.ref _) (PySem.Str.ofString "http_response") _) _ _ _)); k_dflt (refine' get_sym ?k1 ?k2 ?k3 ?k4 ?k5 ?k6 ?k7 ?k8 ?k9 ?ka ?kb ?_; (case k1 => k_asm); (case k2 => k_asm); (case k3 => k_asm); (case k4 => k_mem); (case k5 => k_mem); (case k6 => assumption); (case k7 => k_is); (case k8 => k_is); (case k9 => k_is); (case ka => k_is); (case kb => first | rfl | assumption); k_whole)))
local macro_rules | `(tactic| walk_at "getMethod ref") => `(tactic| (k_here; (first | (with_reducible show wpAny _ _ (getMethod (Value.ref _) (PySem.Str.ofString "http_request") _) _ _ _) | (with_reducible show wpAny _ _ (getMethod (Value.ref _) (PySem.Str.ofString "http_response") _) _ _ _)); k_dflt (first
  | (refine' method_usual (r := none) ?k1 (InstAt.of_news (by k_asm) (by k_mem) (by k_mem)) ?k4 ?k5 ?k6 ?k7 ?_; (case k1 => (refine' Frag.In.keeps ?x1 (Fr.keep ?x2); (case x2 => k_asm); (case x1 => k_asm))); (case k4 => k_is); (case k5 => k_is); (case k6 => k_is); (case k7 => rfl); k_whole)
  | (refine' method_inst ?k1 ?k2 (InstAt.of_news (by k_asm) (by k_mem) (by k_mem)) ?k4 ?k5 ?k6 ?k7 ?_; (case k1 => k_asm); (case k2 => k_asm); (case k4 => k_is); (case k5 => k_is); (case k6 => k_is); (case k7 => assumption); k_whole))))
local macro_rules | `(tactic| ktr_rel) => `(tactic| repeat' ((fail_if_success (with_reducible show wpAny _ _ (call (Value.builtin "hasattr") _) _ _ _)); (fail_if_success (with_reducible show wpAny _ _ (call (Value.ref _) _) _ _ _)); (fail_if_success (with_reducible show PostJ _ _ _ _ _ _ _ _ _)); keq_rows))
theorem loopB12 {p : Program} {loose : List Str} {mean : ExcName → Option Value} {mg mb : Str → Option Value} {Q : Flow → Shared → Prop} {b body : List Stmt} {scope scS scC sc7 : Scope} {a : Addr} {fx : Fx12} {ns : List Int} {sg hd rq st sc lr dpp np nn n1 n2 cr pg : Nat} {xs : Nat → Nat} {ws signs : List Value} {tab t6 : Array Value} {ep : List DictEntry} {S : List (Addr × Obj)} {pl : List Nat} {c0 : Int} {tc : Tok}
    (hdef : Def12 w 151 "law" b scope) (hbody : body = bodyAt b 14) (dS : Def12 w 123 "_law_signer" fx.bS scS) (dC : Def12 w 130 "_law_cookies" fx.bC scC) (d7 : Def12 w 116 "_law_page" fx.b7 sc7) (eL : fx.bL = b) (hB : Below callerA h₀ [] h₀) (X : (Mine.hd.heap_39 w.params).In h₀) (T : Top p loose mean mg mb h₀) (hC : CodeHd h₀ 115 111) (epn : fx.pn = (mg "__name__").getD .none)
    (F : Fr h₀ L s.heap m) (N : News h₀ L s.heap (ledP sg hd signs n1 [] n2 tab t6 dpp ep np S)) (P2 : Ph2 fx ns sg hd rq st sc xs nn ws S) (hlr : (lr, W.listOf (pl.map fun i => Value.ref (xs i)).toArray cr) ∈ S) (hpl : ∀ k ∈ pl, k < ws.length) (hpn : pl.length ≤ 32) (hlrg : sg < lr)
    (B0 : StB fx rq pg sg hd ⟨c0, "w", [], sig12 ns pl, []⟩ S S pg dpp ep tab signs [])
    (m1 : m "asked" = some (.ref rq)) (m2 : m "page" = some (.ref pg)) (m3 : m "first" = some (.ref pg)) (m4 : m "request" = some (.ref rq)) (m5 : m "code" = some (.int c0 tc)) (m6 : m "script" = some (.ref sc))
    (done : ∀ m' h tk t', m' "asked" = some (.ref rq) → m' "first" = some (.ref pg) → m' "request" = some (.ref rq) → m' "code" = some (.int c0 t') → m' "script" = some (.ref sc) → Fr h₀ L h m' → ∀ pg' dpp' ep' np' tab' signs' handed' n1' n2' S', m' "page" = some (.ref pg') → News h₀ L h (ledP sg hd signs' n1' handed' n2' tab' t6 dpp' ep' np' S') → StB fx rq pg sg hd (run12 ns pl ⟨c0, "w", [], sig12 ns pl, []⟩) S S' pg' dpp' ep' tab' signs' handed' → Q .next { s with heap := h, toks := tk }) :
    wpAny (model PySem.Challenge.rw_dn0254_12.row.prog w) (callerA.deeper (envOfC "law" scope L a (.ref 150))) (pyIter (.ref lr)) (fun it s₂ => LoopAtV PySem.Challenge.rw_dn0254_12.row.prog w (callerA.deeper (envOfC "law" scope L a (.ref 150))) h₀ (envOfC "law" scope L a (.ref 150)) "stage" body Q E it s₂) E s := by
  have hdef0 := hdef
  obtain ⟨oc', od, params, dV, kV, doc, pm, cdv, ct', an, osl, hbL⟩ := hdef
  k_dflt (refine' lookup_same hbL ?k6 ?_; (case k6 => k_is))
  intro hbe hse
  rw [hbe] at hbody
  dsimp only [bodyAt, List.getElem?_cons_zero, List.getElem?_cons_succ] at hbody
  subst hbody
  clear hbL hbe
  subst hse
  have hlm : (lr, W.listOf (pl.map fun i => Value.ref (xs i)).toArray cr) ∈ ledP sg hd signs n1 [] n2 tab t6 dpp ep np S := .tail _ (.tail _ (.tail _ (.tail _ (.tail _ hlr))))
  refine iter_listJ (LoopB fx ns sg hd rq pg sc c0 t6 ⟨c0, "w", [], sig12 ns pl, []⟩ pl S) rfl (News.isList N hlm) (N _ hlm).2.1 F N ⟨m1, m3, m4, ⟨_, m5⟩, m6, pg, dpp, ep, np, tab, signs, [], n1, n2, S, m2, rfl, B0⟩ ?bTurn ?bDone
  case bDone =>
    intro m' nw h tk hj F' N'
    obtain ⟨a1, a2, a3, ⟨t', a4⟩, a5, pg', dpp', ep', np', tab', signs', handed', n1', n2', S', a6, rfl, B'⟩ := hj
    rw [List.length_map, List.take_length] at B'
    exact done m' h tk t' a1 a2 a3 a4 a5 F' _ _ _ _ _ _ _ _ _ _ a6 N' B'
  case bTurn =>
    intro I i v m₁ nw h tk own hv hj hoI hown hI1 hltI hlI F3 N3
    obtain ⟨a1, a2, a3, ⟨t', a4⟩, a5, pg', dpp', ep', np', tab', signs', handed', n1', n2', S', a6, rfl, B'⟩ := hj
    obtain ⟨k, hk, rfl⟩ : ∃ k, pl[i]? = some k ∧ Value.ref (xs k) = v := by
      rw [List.getElem?_map] at hv
      cases q : pl[i]? with
      | none => rw [q] at hv; cases hv
      | some k => rw [q] at hv; exact ⟨k, rfl, Option.some.inj hv⟩
    have hkw := hpl k (List.mem_of_getElem? hk)
    obtain ⟨d, nx, C, es, t, x1, x2, kd, -⟩ := P2.stg k hkw
    replace F3 := fr_g6 F3 a1 a2 a3 a4 a5 a6
    simp only [ledP, List.cons_append] at N3
    replace F3 : Fr h₀ L h _ := F3
    replace N3 : News h₀ L h _ := N3
    have hsI : sg < I := hltI _ (.head _)
    have hne := P2.ne
    have hlo := B'.lo
    have hdI : dpp' ≠ I := hoI (dpp', dictOf ep' np') (.tail _ (.tail _ (.tail _ (.tail _ (.head _)))))
    have hdl : lr ≠ dpp' := B'.offd _ (B'.sub _ hlr) _ (.head _)
    have up : ∀ p ∈ S', p ∈ S' ++ own := fun p hp => List.mem_append_left _ hp
    have o111 : ∀ p ∈ S' ++ own, p.1 ≠ 111 := off_own (fun p hp => B'.off p hp _ (.tail _ (.tail _ (.head _)))) hown (neN (by (first | lia | omega))) (neN (by (first | lia | omega)))
    have ohd : ∀ p ∈ S' ++ own, p.1 ≠ hd := off_own (fun p hp => B'.off p hp _ (.tail _ (.head _))) hown (neN (by (first | lia | omega))) (neN (by (first | lia | omega)))
    have osg : ∀ p ∈ S' ++ own, p.1 ≠ sg := off_own (fun p hp => B'.off p hp _ (.head _)) hown (neN (by (first | lia | omega))) (neN (by (first | lia | omega)))
    have odp : ∀ p ∈ S' ++ own, p.1 ≠ dpp' := off_own (fun p hp => B'.offd p hp _ (.head _)) hown (Ne.symm hdI) hdl
    have hrl := run_len (ns := ns) (pl.take i) ⟨c0, "w", [], sig12 ns pl, []⟩
    have hsl0 := sig12_len (ns := ns) pl
    have htl : (pl.take i).length ≤ 32 := by rw [List.length_take]; (first | lia | omega)
    have hww : ("w" : Str).length = 1 := by decide
    dsimp only at hrl
    rw [hww] at hrl
    simp only [List.length_nil] at hrl
    have hstep := run_step (ns := ns) (s := ⟨c0, "w", [], sig12 ns pl, []⟩) hk
    have hsl : signs'.length ≤ 2 ^ 20 := by have := B'.sigs.length; (first | lia | omega)
    have hhl : handed'.length ≤ 2 ^ 20 := by have := B'.errs.len; (first | lia | omega)
    have y1 := up _ (B'.sub _ x1)
    have y2 := up _ (B'.sub _ x2)
    have endB : ∀ {h' : Heap} {tk' : Nat} {m' : Str → Option Value} {pg2 dpp2 np2 n12 n22 : Nat} {ep2 : List DictEntry} {tab2 : Array Value} {signs2 handed2 : List Value} {S2 : List (Addr × Obj)}, Fr h₀ L h' m' → News h₀ L h' (ledP sg hd signs2 n12 handed2 n22 tab2 t6 dpp2 ep2 np2 (S2 ++ own)) → m' "asked" = some (.ref rq) → m' "first" = some (.ref pg) → m' "request" = some (.ref rq) → m' "code" = some (.int c0 t') → m' "script" = some (.ref sc) → m' "page" = some (.ref pg2) → dpp2 ≠ I → (∀ p ∈ S2, p.1 ≠ I) →
        StB fx rq pg sg hd (step12 (ns.getD k 0) k (run12 ns (pl.take i) ⟨c0, "w", [], sig12 ns pl, []⟩)) S S2 pg2 dpp2 ep2 tab2 signs2 handed2 →
        EndJ h₀ L (LoopB fx ns sg hd rq pg sc c0 t6 ⟨c0, "w", [], sig12 ns pl, []⟩ pl S (i + 1)) own I { s with heap := h, toks := tk } { s with heap := h', toks := tk' } := by
      intro h' tk' m' pg2 dpp2 np2 n12 n22 ep2 tab2 signs2 handed2 S2 F' N' b1 b2 b3 b4 b5 b6 hd2 hS2 B2
      refine ⟨h', tk', m', ledP sg hd signs2 n12 handed2 n22 tab2 t6 dpp2 ep2 np2 S2, rfl, F', N', ?_, b1, b2, b3, ⟨_, b4⟩, b5, pg2, dpp2, ep2, np2, tab2, signs2, handed2, n12, n22, S2, b6, rfl, by rw [hstep]; exact B2⟩
      intro p hp
      simp only [ledP, List.mem_cons] at hp
      rcases hp with rfl | rfl | rfl | rfl | rfl | hp
      · exact neN (by dsimp only; (first | lia | omega))
      · exact neN (by dsimp only; (first | lia | omega))
      · exact neN (by dsimp only; (first | lia | omega))
      · exact neN (by dsimp only; (first | lia | omega))
      · exact hd2
      · exact hS2 p hp
    have oldI : ∀ p ∈ S', p.1 ≠ I := fun p hp => hoI p (.tail _ (.tail _ (.tail _ (.tail _ (.tail _ hp)))))
    rcases kd with ⟨hk0, rfl, Sg⟩ | ⟨hk0, rfl, g1, g2, g3⟩ | ⟨hk0, rfl, Ck⟩ | ⟨hk0, rfl, g2, g3⟩
    · --[b0
      obtain ⟨f1, f2, c1, c2, k1, k2, ok1, ok2, oc1, oc2, dc1, dc2, ct1, ct2, ti, ta, z1, z2, z3, z4, z5, z6, cd1, cd2, e1, e2, g1, g2⟩ := Sg
      rw [epn] at z2
      have z2' := up _ (B'.sub _ z2)
      obtain ⟨ocS, odS, paramsS, dVS, kVS, docS, pmS, cdvS, ctS, anS, oslS, hbS⟩ := id dS
      k_dflt (refine' lookup_same hbS ?k6 ?_; (case k6 => k_is))
      intro hbe hse
      rw [hbe] at z2'
      dsimp only [ansAt, List.getElem?_cons_zero, List.getElem?_cons_succ] at z2'
      clear hbS hbe hse
      have hpg := B'.page
      rw [epn] at hpg
      ktr_rel
      with_reducible rename Fr _ _ _ _ => F4
      with_reducible rename News _ _ _ _ => N4
      refine has_rsp (w := w) F4 X N4 (.tail _ (.tail _ (.tail _ (.tail _ (.tail _ y1))))) (.tail _ (.tail _ (.tail _ (.tail _ (.tail _ y2))))) g2 rfl ?_
      ktr_rel
      with_reducible rename Fr _ _ _ _ => F5
      with_reducible rename News _ _ _ _ => N5
      k_dflt (refine ans0 (dp := callerA.depth + 1) (r := S') d7 dS hB F5 X T rfl rfl hC ?ba1 ?ba2 (rot3 N5) (off_1 (off_c (neN (by dsimp only; (first | lia | omega))) (off_c (neN (by dsimp only; (first | lia | omega))) (off_c (neN (by dsimp only; (first | lia | omega))) (off_c (neN (by dsimp only; (first | lia | omega))) o111))))) (fun p hp => .tail _ (.tail _ (.tail _ (.tail _ (up p hp))))) B'.tabs (B'.sub _ z2) (B'.sub _ z3) (B'.sub _ z4) (B'.sub _ z6) cd2 e1 e2 (.tail _ (.tail _ (.tail _ (.head _)))) hpg (by (first | lia | omega)) (by (first | lia | omega)) ?_)
      case ba1 => decide
      case ba2 => decide
      intro h6 tk6 pg6 dp6 np6 cf6 ep6 ad6 tab6 F6 N6 T6 P6 al6 hi6 lo6
      clear F5 N5
      ktr_rel
      dsimp only [PostJ]
      with_reducible rename Fr _ _ _ _ => F7
      with_reducible rename News _ _ _ _ => N7
      have l1 : @LT.lt Nat _ sg cf6 := al6.1
      have l2 : @LT.lt Nat _ hd cf6 := al6.2.1
      have l3 : @LT.lt Nat _ 146 cf6 := al6.2.2.1
      have l5 := al6.2.2.2.2
      have l6 : @LT.lt Nat _ I cf6 := by obtain ⟨o, ho⟩ := hI1; exact tb_ltOf l5 _ (List.mem_append_right _ ho)
      refine endB F7 (ledB N7) rfl rfl rfl rfl rfl rfl (neN (by (first | lia | omega))) (fun p hp => ?_) ⟨fun p hp => List.mem_append_right _ (B'.sub p hp), off_ad B'.off hi6 l1 l2 lo6.1 l3, off_adp (fun p hp => tb_ltOf l5 p (up p hp)) hi6 lo6.2, ⟨by (first | lia | omega), by (first | lia | omega), by (first | lia | omega)⟩, T6, ?_, ?_, ?_, ?_⟩
      · rcases List.mem_append.mp hp with hp | hp
        · exact Nat.ne_of_gt (Nat.lt_of_lt_of_le l6 (hi6 p hp).1)
        · exact oldI p hp
      · unfold step12
        rw [if_pos hk0, epn]
        exact P6
      · unfold step12
        rw [if_pos hk0]
        exact B'.sigs
      · unfold step12
        rw [if_pos hk0]
        exact B'.errs.mono fun _ _ r => r.mono fun p hp => List.mem_append_right _ hp
      · unfold step12
        rw [if_pos hk0]
        intro e
        exact absurd e (by simp)
      --]b0
    · --[b1
      have hpg := B'.page
      rw [epn] at hpg
      have hop := P2.opn
      rw [eL, epn] at hop
      ktr_rel
      with_reducible rename Fr _ _ _ _ => F4
      with_reducible rename News _ _ _ _ => N4
      refine has_rspD (w := w) F4 X N4 (.tail _ (.tail _ (.tail _ (.tail _ (.tail _ y1))))) (.tail _ (.tail _ (.tail _ (.tail _ (.tail _ y2))))) g3 ?_
      intro h55 F55 N55
      clear F4 N4
      ktr_rel
      with_reducible rename Fr _ _ _ _ => F5
      with_reducible rename News _ _ _ _ => N5
      k_dflt (refine resp12 (dp := callerA.depth + 1) (r := S') d7 hdef0 hB F5 X T rfl rfl hC ?bb1 ?bb2 (rotR N5) (off_2 (off_c (neN (by dsimp only; (first | lia | omega))) (off_c (neN (by dsimp only; (first | lia | omega))) (off_c (neN (by dsimp only; (first | lia | omega))) o111))) (off_c (neN (by dsimp only; (first | lia | omega))) (off_c (neN (by dsimp only; (first | lia | omega))) (off_c (neN (by dsimp only; (first | lia | omega))) ohd)))) (by (first | lia | omega)) (fun p hp => .tail _ (.tail _ (.tail _ (up p hp)))) B'.tabs (.tail _ (.tail _ (.tail _ y1))) (.tail _ (.tail _ (.tail _ y2))) g1 (hop.mono B'.sub) (.tail _ (.tail _ (.head _))) hpg (by (first | lia | omega)) (by (first | lia | omega)) hhl ?bbA ?bbB)
      case bb1 => decide
      case bb2 => decide
      case bbA =>
        intro hc h6 tk6 F6 N6
        clear F5 N5
        ktr_rel
        dsimp only [PostJ]
        with_reducible rename Fr _ _ _ _ => F7
        with_reducible rename News _ _ _ _ => N7
        refine endB F7 (rotR' N7) rfl rfl rfl rfl rfl rfl hdI oldI ?_
        unfold step12
        rw [if_neg (by (first | lia | omega)), if_pos hk0, if_pos hc]
        exact B'
      case bbB =>
        intro hc h6 tk6 pg6 dp6 np6 cf6 t6' n6' ep6 ad6 tab6 F6 N6 T6 P6 E6 al6 hi6 lo6
        clear F5 N5
        ktr_rel
        dsimp only [PostJ]
        with_reducible rename Fr _ _ _ _ => F7
        with_reducible rename News _ _ _ _ => N7
        have l1 : @LT.lt Nat _ sg cf6 := al6.1
        have l3 : @LT.lt Nat _ 146 cf6 := al6.2.1
        have l5 := al6.2.2.2
        have l6 : @LT.lt Nat _ I cf6 := by obtain ⟨o, ho⟩ := hI1; exact tb_ltOf l5 _ (List.mem_append_right _ ho)
        refine endB F7 (ledE N7) rfl rfl rfl rfl rfl rfl (neN (by (first | lia | omega))) (fun p hp => ?_) ⟨fun p hp => List.mem_append_right _ (B'.sub p hp), off_ad B'.off hi6 l1 lo6.2.2 lo6.1 l3, off_adp (fun p hp => tb_ltOf l5 p (up p hp)) hi6 lo6.2.1, ⟨by (first | lia | omega), by (first | lia | omega), by (first | lia | omega)⟩, T6, ?_, ?_, ?_, ?_⟩
        · rcases List.mem_append.mp hp with hp | hp
          · exact Nat.ne_of_gt (Nat.lt_of_lt_of_le l6 (hi6 p hp).1)
          · exact oldI p hp
        · unfold step12
          rw [if_neg (by (first | lia | omega)), if_pos hk0, if_neg hc, epn]
          exact P6
        · unfold step12
          rw [if_neg (by (first | lia | omega)), if_pos hk0, if_neg hc]
          exact B'.sigs
        · unfold step12
          rw [if_neg (by (first | lia | omega)), if_pos hk0, if_neg hc]
          exact All2.snoc E6 (B'.errs.mono fun _ _ r => r.mono fun p hp => List.mem_append_right _ hp)
        · unfold step12
          rw [if_neg (by (first | lia | omega)), if_pos hk0, if_neg hc]
          intro e
          exact absurd e (by simp)
      --]b1
    · --[b2
      have Ck' := Ck
      obtain ⟨jar, jd, jn, f1, f2, f3, f4, c1, c2, k1, k2, k3, k4, jes, ok1, ok2, ok3, ok4, oc1, oc2, dc1, dc2, ct1, ct2, ct3, ct4, ti, -, -, -, -, -, z6, -, -, -, -, -, -, -, -, -, -, -, -, -, -, -, -, g2⟩ := Ck'
      rw [epn] at Ck
      have z6' := up _ (B'.sub _ z6)
      obtain ⟨ocS, odS, paramsS, dVS, kVS, docS, pmS, cdvS, ctS, anS, oslS, hbS⟩ := id dC
      k_dflt (refine' lookup_same hbS ?k6 ?_; (case k6 => k_is))
      intro hbe hse
      rw [hbe] at z6'
      dsimp only [rspAt, List.getElem?_cons_zero, List.getElem?_cons_succ] at z6'
      clear hbS hbe hse
      have hpg := B'.page
      rw [epn] at hpg
      ktr_rel
      with_reducible rename Fr _ _ _ _ => F4
      with_reducible rename News _ _ _ _ => N4
      refine has_rsp (w := w) F4 X N4 (.tail _ (.tail _ (.tail _ (.tail _ (.tail _ y1))))) (.tail _ (.tail _ (.tail _ (.tail _ (.tail _ y2))))) g2 rfl ?_
      ktr_rel
      with_reducible rename Fr _ _ _ _ => F5
      with_reducible rename News _ _ _ _ => N5
      k_dflt (refine ans2 (dp := callerA.depth + 1) (r := S') dC hB F5 X T rfl rfl hC ?bc1 ?bc2 (rotK N5) (off_2 (off_c (neN (by dsimp only; (first | lia | omega))) (off_c (neN (by dsimp only; (first | lia | omega))) (off_c (neN (by dsimp only; (first | lia | omega))) osg))) (off_c (neN (by dsimp only; (first | lia | omega))) (off_c (neN (by dsimp only; (first | lia | omega))) (off_c (neN (by dsimp only; (first | lia | omega))) odp)))) (neN (by (first | lia | omega))) (fun p hp => .tail _ (.tail _ (.tail _ (up p hp)))) (.tail _ (.tail _ (.tail _ y1))) (.tail _ (.tail _ (.tail _ y2))) (Ck.mono fun p hp => .tail _ (.tail _ (.tail _ (up p (B'.sub p hp))))) (P2.req.mono fun p hp => .tail _ (.tail _ (.tail _ (up p (B'.sub p hp))))) hsl g2 hpg (by (first | lia | omega)) ?_)
      case bc1 => decide
      case bc2 => decide
      intro h6 tk6 n6 np6 ep6 t6' F6 N6 P6
      clear F5 N5
      ktr_rel
      dsimp only [PostJ]
      with_reducible rename Fr _ _ _ _ => F7
      with_reducible rename News _ _ _ _ => N7
      refine endB F7 (rotK' N7) rfl rfl rfl rfl rfl rfl hdI oldI ⟨B'.sub, B'.off, B'.offd, B'.lo, B'.tabs, ?_, ?_, ?_, ?_⟩
      · unfold step12
        rw [if_neg (by (first | lia | omega)), if_neg (by (first | lia | omega)), if_pos hk0, epn]
        exact P6
      · unfold step12
        rw [if_neg (by (first | lia | omega)), if_neg (by (first | lia | omega)), if_pos hk0]
        exact B'.sigs.append (.cons _ _ .nil)
      · unfold step12
        rw [if_neg (by (first | lia | omega)), if_neg (by (first | lia | omega)), if_pos hk0]
        exact B'.errs
      · unfold step12
        rw [if_neg (by (first | lia | omega)), if_neg (by (first | lia | omega)), if_pos hk0]
        exact B'.fst
      --]b2
    · --[b3
      ktr_rel
      with_reducible rename Fr _ _ _ _ => F4
      with_reducible rename News _ _ _ _ => N4
      refine no_rsp52 (w := w) rfl F4 X N4 (.tail _ (.tail _ (.tail _ (.tail _ (.tail _ y1))))) (.tail _ (.tail _ (.tail _ (.tail _ (.tail _ y2))))) g3 ?_
      intro h6 tk6 F6 N6
      clear F4 N4
      ktr_rel
      dsimp only [PostJ]
      with_reducible rename Fr _ _ _ _ => F7
      with_reducible rename News _ _ _ _ => N7
      refine endB F7 N7 rfl rfl rfl rfl rfl rfl hdI oldI ?_
      unfold step12
      rw [if_neg (by (first | lia | omega)), if_neg (by (first | lia | omega)), if_neg (by (first | lia | omega))]
      exact B'
      --]b3
end
end Mine


namespace Mine
theorem perm_unique {α : Type} {r : α → α → Prop} (as : ∀ a b, r a b → ¬ r b a) : ∀ {l l' : List α}, l.Perm l' → l.Pairwise r → l'.Pairwise r → l = l'
  | [], l', h, _, _ => (List.Perm.nil_eq h)
  | a :: t, [], h, _, _ => absurd h.length_eq (by simp)
  | a :: t, b :: t', h, h1, h2 => by
    have e : a = b := by
      have ha : a ∈ b :: t' := h.mem_iff.mp (.head _)
      have hb : b ∈ a :: t := h.mem_iff.mpr (.head _)
      rcases List.mem_cons.mp ha with q | q
      · exact q
      · rcases List.mem_cons.mp hb with q' | q'
        · exact q'.symm
        · exact absurd ((List.pairwise_cons.mp h2).1 a q) (as _ _ ((List.pairwise_cons.mp h1).1 b q'))
    subst e
    rw [perm_unique as ((List.perm_cons a).mp h) (List.pairwise_cons.mp h1).2 (List.pairwise_cons.mp h2).2]
theorem isNot_self {M : Model} {A : Around} {E : Value → Shared → Prop} {s : Shared} {a : Addr} {Q : Value → Shared → Prop} (h : Q (.bool false) s) : wpAny M A (compareOp .IsNot (.ref a) (.ref a)) Q E s := by
  show wpAny M A (do return .bool (!(← isSame (.ref a) (.ref a)))) Q E s
  exact wpAny_bind (wpAny_isSame_ref_self (wpAny_pure h))
end Mine


namespace Mine
theorem fillJ : PySem.Challenge.rw_dn0254_12.row.prog = PySem.Challenge.rw_dn0254_12.row.prog ∧ Mine.hd.heap_39 = Mine.hd.heap_39 := by
  w_top off
  k_fill
  exact ⟨rfl, rfl⟩
abbrev dPR : PR := ⟨0, 0, 0⟩
theorem plt_asymm {a b : PR} (h : PLt a b) : ¬ PLt b a := by
  unfold PLt at *
  (first | lia | omega)
theorem pairs_eq {R R' : List PR} {os : Nat → Int} {pl : List Nat} {N : Nat} (hR : ∀ i, i < N → (R.getD i dPR).o = os i ∧ (R.getD i dPR).k = (i : Int)) (hlen : R.length = N) (hp : pl.Perm (List.range N)) (hs : pl.Pairwise (SortedBy false os)) (h1 : R'.Perm R) (h2 : R'.Pairwise PLt) :
    R' = pl.map fun i => R.getD i dPR := by
  subst hlen
  refine perm_unique (fun _ _ => plt_asymm) (h1.trans (picked_perm R dPR hp).symm) h2 ?_
  rw [List.pairwise_map]
  refine List.Pairwise.imp_of_mem ?_ hs
  intro i j hi hj h
  obtain ⟨a1, a2⟩ := hR i (List.mem_range.mp (hp.mem_iff.mp hi))
  obtain ⟨b1, b2⟩ := hR j (List.mem_range.mp (hp.mem_iff.mp hj))
  unfold SortedBy at h
  simp only [Bool.false_eq_true, if_false] at h
  unfold PLt
  rw [a1, a2, b1, b2]
  (first | lia | omega)
theorem ghost_bm {h₀ : Heap} {P g bm : Addr} {ps : Array Value} {mg : Str → Option Value} {ob : Obj} (hn : h₀.get? P = none) (x : BMod h₀ g mg bm ob) : BMod (regrown h₀ P ps) g mg bm ob :=
  x.keeps fun b o e => by rw [regrown_ne (fun q => by rw [q, hn] at e; cases e)]; exact e
/-- the tuples that were collected -/
theorem collect_PR {C : Nat} {o : Nat → Int} {h : Heap} : ∀ (us : List Value) (k : Nat), (∀ (j : Nat) v, us[j]? = some v → TupV C o (k + j) v h) →
    ∃ (R : List PR) (tl2 : List (Addr × Obj)), us = refsP R ∧ R.length = us.length ∧ (∀ i, i < us.length → (R.getD i dPR).o = o (k + i) ∧ (R.getD i dPR).k = ((k + i : Nat) : Int)) ∧ (∀ r ∈ R, PairIn tl2 r) ∧ (∀ p ∈ tl2, @LT.lt Nat _ C p.1 ∧ h.get? p.1 = some p.2)
  | [], _, _ => ⟨[], [], rfl, rfl, (fun i hi => absurd hi (Nat.not_lt_zero i)), (fun _ h => nomatch h), (fun _ h => nomatch h)⟩
  | u :: us, k, hu => by
    obtain ⟨t, ta, tb, e, lt, g⟩ := hu 0 u rfl
    obtain ⟨R, tl2, e1, e2, e3, e4, e5⟩ := collect_PR us (k + 1) (fun j v hv => by
      have := hu (j + 1) v hv
      rwa [show k + (j + 1) = k + 1 + j by (first | lia | omega)] at this)
    refine ⟨⟨t, o k, (k : Int)⟩ :: R, (t, { cls := .type "tuple", data := .seq #[.int (o k) ta, .int (k : Int) tb] }) :: tl2, ?_, by simp [e2], ?_, ?_, ?_⟩
    · rw [e, e1]; rfl
    · intro i hi
      cases i with
      | zero => exact ⟨rfl, rfl⟩
      | succ i =>
        have := e3 i (by simpa using hi)
        rw [show k + (i + 1) = k + 1 + i by (first | lia | omega)]
        exact this
    · intro r hr
      rcases List.mem_cons.mp hr with rfl | hr
      · exact ⟨_, _, _, .head _⟩
      · obtain ⟨a, b, c, q⟩ := e4 r hr
        exact ⟨a, b, c, .tail _ q⟩
    · intro p hp
      rcases List.mem_cons.mp hp with rfl | hp
      · exact ⟨lt, g⟩
      · exact e5 p hp
theorem below_C {h₀ h : Heap} {L a : Addr} {m : Str → Option Value} {name : Str} {scope : Scope} {cd : Value} (hB : Below callerA h₀ [] h₀) (F : Fr h₀ L h m) (hk : scope.kind = .function) : Below (callerA.deeper (envOfC name scope L a cd)) h₀ [envOfC name scope L a cd] h := by
  obtain ⟨o, es, ep, hLg, hLd, -⟩ := id F.ns
  exact ⟨Around.frames_deeper hB.stack, F.keep, ⟨(fun q => by
    have q2 : scope.kind = .module := q
    rw [hk] at q2; cases q2), ⟨L, o, rfl, Heap.get?_none_of_le F.above, hLg, fun vs q => by rw [hLd] at q; cases q⟩, trivial⟩⟩
def exprAt (b : List Stmt) (k : Nat) : PySem.Expr := match b[k]? with
  | some (.Assign _ e _) => e
  | _ => default
section
variable {w : World} {E : Value → Shared → Prop} {s : Shared} {L : Addr} {h₀ : Heap} {m : Str → Option Value}
local macro_rules | `(tactic| keq_rows) => `(tactic| first | (k_unfold; (try dsimp only)) | walk1 | (dsimp only; walk1))
local macro_rules | `(tactic| k_mem) => `(tactic| ((with_reducible show List.Mem _ (_ ++ _)); assumption))
local macro_rules | `(tactic| ktr_rel) => `(tactic| repeat' ((fail_if_success (with_reducible show wpAny _ _ (eval (PySem.Expr.GeneratorExp _ _ _ _) _) _ _ _)); (fail_if_success (with_reducible show wpAny _ _ (call (Value.type "enumerate") _) _ _ _)); (fail_if_success (with_reducible show wpAny _ _ (call (Value.builtin "sorted") _) _ _ _)); keq_rows))
theorem pairs12 {p : Program} {loose : List Str} {mean : ExcName → Option Value} {mg mb : Str → Option Value} {Q : Value → Shared → Prop} {b : List Stmt} {e : PySem.Expr} {scope : Scope} {a : Addr} {ns : List Int} {ws : List Value} {sc c0 : Nat} {pre : List (Addr × Obj)} {pl : List Nat}
    (hdef : Def12 w 151 "law" b scope) (he : e = exprAt b 15) (hB : Below callerA h₀ [] h₀) (X : (Mine.hd.heap_39 w.params).In h₀) (T : Top p loose mean mg mb h₀) (hC : CodeHd h₀ 150 146) 
    (F : Fr h₀ L s.heap m) (N : News h₀ L s.heap ((146, tabObj (tabL c0)) :: pre)) (hoff : OwnOff pre [146]) (hI : IntsAre ws ns) (hscr : (sc, W.listOf ws.toArray 0) ∈ pre) (hbare : AllBare s.gens) (hw : ws.length ≤ 32) (hp : pl.Perm (List.range ws.length)) (hs : pl.Pairwise (SortedBy false fun i => ordr (ns.getD i 0))) (hPs : 146 < h₀.objs.size)
    (m6 : m "script" = some (.ref sc))
    (ret : ∀ s' D c (R : List PR) tl2 t6', Fr h₀ L s'.heap m → AllBare s'.gens → s'.os = s.os → News h₀ L s'.heap ((D, W.listOf (refsP R).toArray c) :: (tl2 ++ (146, tabObj t6') :: pre)) → (∀ r ∈ R, PairIn tl2 r) → R.map (·.k) = pl.map (fun (i : Nat) => (i : Int)) → Q (.ref D) s') :
    wpAny (model PySem.Challenge.rw_dn0254_12.row.prog w) (callerA.deeper (envOfC "law" scope L a (.ref 150))) (eval e (envOfC "law" scope L a (.ref 150))) Q E s := by
  obtain ⟨oc', od, params, dV, kV, doc, pm, cdv, ct', an, osl, hbL⟩ := hdef
  k_dflt (refine' lookup_same hbL ?k6 ?_; (case k6 => k_is))
  intro hbe hse
  rw [hbe] at he
  dsimp only [exprAt, List.getElem?_cons_zero, List.getElem?_cons_succ] at he
  subst he
  clear hbL hbe
  subst hse
  ktr_rel
  obtain ⟨bm, ob, hBM⟩ := bmod_of_top T
  have hm146 := N (146, tabObj (tabL c0)) (.head _)
  have hLs : @LT.lt Nat _ L s.heap.objs.size := F.ns.lt
  have hl : s.heap.IsList sc ws.toArray := News.isList N (.tail _ hscr)
  have hlt : @LT.lt Nat _ sc s.heap.objs.size := by obtain ⟨o, ho, _⟩ := hl; exact Heap.lt_size ho
  have hlen : ws.toArray.size = ws.length := by simp
  have hP2 : @LT.lt Nat _ 146 s.heap.objs.size := Heap.lt_size hm146.1
  have hsc : sc ≠ 146 := hoff _ hscr _ (.head _)
  have hst : @LT.lt Nat _ cStatics s.heap.objs.size := by
    obtain ⟨mc, ⟨oS, esS, epS, eS, -⟩, -⟩ := T.nolimit
    exact Heap.lt_size (F.keep _ _ eS)
  refine gen_K (A := ?AA9) (A₂ := Around.in1 (Around.in1 ?AA9)) (mg := mg) (bm := bm) (ob := ob) (L := L) (m := m) (cl := []) (ghost_based (ps := tabL c0) hC T hm146.2.2 hPs (by kn_triples)) ?hMM ?hcode ?hnf ?hh ?hco ?hclos ?hcell ?h0 ?hxa ?hxb ?hab ?hkind ?hroom ?hgen ?hfold
  (case hMM => exact ghost_bm hm146.2.2 hBM)
  (case hcode => with_unfolding_all rfl)
  (case hnf => rfl)
  (case hh => with_unfolding_all rfl)
  (case hco => with_unfolding_all rfl)
  (case hclos => with_unfolding_all rfl)
  (case hcell => decide)
  (case h0 => with_unfolding_all rfl)
  (case hxa => with_unfolding_all rfl)
  (case hxb => with_unfolding_all rfl)
  (case hab => decide)
  (case hkind => with_unfolding_all rfl)
  (case hroom => (simp only [depth_deeper, depth_caller]; decide))
  (case hfold => intro _; with_unfolding_all rfl)
  case hgen =>
    ktr_rel
    refine ld (name := "law") (a := a) (cd := .ref 150) F m6 ?_
    ktr_rel
    refine call_enumerate_list hl fun h' hE hI2 hsz hk => ?_
    refine wpAny_pyIter_enum hE ?_
    have hsz1 : @LT.lt Nat _ s.heap.objs.size h'.objs.size := by (first | lia | omega)
    have hsz2 : @LT.lt Nat _ (s.heap.objs.size + 1) h'.objs.size := by (first | lia | omega)
    refine ⟨s.heap.objs.size + 1, _, _, ws.length, _, _, _, rfl, (fun A' hA => hlen ▸ (WalksT.enumerate (prog := PySem.Challenge.rw_dn0254_12.row.prog) (w := w) hA (s.heap.objs.size + 1) s.heap.objs.size sc (Nat.succ_ne_self _) (ktu_ne 1 hlt) (Nat.ne_of_lt hlt) ws.toArray).toU), ?_, ⟨⟨.none, hE⟩, hI2, hl.at fun o e => hk sc o e⟩, ?_, ?_, ?_, (ghost_up F N (.head _) hPs).keeps hk, ?_, ?_⟩
    · rintro i vals ⟨t, x, hx, rfl⟩
      exact ⟨_, _, rfl⟩
    · intro b hb
      have hb' : b = s.heap.objs.size + 1 ∨ b = s.heap.objs.size ∨ b = sc := by simpa using hb
      rcases hb' with rfl | rfl | rfl
      · exact hsz2
      · exact hsz1
      · exact Nat.lt_trans hlt hsz1
    · intro hb
      have hb' : (146 : Nat) = s.heap.objs.size + 1 ∨ (146 : Nat) = s.heap.objs.size ∨ (146 : Nat) = sc := by simpa using hb
      (first | lia | omega)
    · intro hb
      have hb' : cStatics = s.heap.objs.size + 1 ∨ cStatics = s.heap.objs.size := by simpa using hb
      rcases hb' with e | e
      · exact absurd hst (by rw [e]; exact Nat.not_lt.mpr (Nat.le_succ _))
      · exact absurd hst (by rw [e]; exact Nat.lt_irrefl _)
    · exact (T.nolimit.keeps F.keep).keeps hk
    intro c' C h₄ h₅ tk gs hgs hC4 hsC h5s hgo hx4 hx5 B4 F4
    have F4' := ghost_down hm146.2.2 F4
    have h4t := ghost_tab hPs F4
    obtain ⟨oL, esL, epL, hLg, hLd, hLk, hLf⟩ := id F4'.ns
    have hsz' : @LE.le Nat _ (s.heap.objs.size + 2) C := by
      have q : @LE.le Nat _ h'.objs.size C := hsC
      (first | lia | omega)
    have hLC : @LT.lt Nat _ L C := by (first | lia | omega)
    have wrs : ∀ b ∈ [s.heap.objs.size + 1, s.heap.objs.size], @LT.lt Nat _ b C ∧ @LE.le Nat _ s.heap.objs.size b := fun b hb => by
      have hb' : b = s.heap.objs.size + 1 ∨ b = s.heap.objs.size := by simpa using hb
      rcases hb' with rfl | rfl <;> constructor <;> (first | lia | omega)
    have hab : @LE.le Nat _ h₀.objs.size s.heap.objs.size := Nat.le_trans F.above (Nat.le_of_lt F.ns.lt)
    have hwb : ∀ b ∈ [s.heap.objs.size + 1, s.heap.objs.size], h₀.get? b = none := fun b hb => Heap.get?_none_of_le (Nat.le_trans hab (wrs b hb).2)
    refine ⟨fun i => ordr (ns.getD i 0), ?elt, ?gen⟩
    case elt =>
      exact elem12 (vs := ws) (below_C hB F4' rfl) X T hwb rfl hLg hLd rfl rfl rfl rfl rfl rfl rfl hC4 hx5 (fun i va vb q => by
        obtain ⟨t, x, hx, e⟩ := q
        have e2 := congrArg Array.toList e
        simp only [List.cons.injEq, and_true] at e2
        refine ⟨t, e2.1, ?_⟩
        rw [e2.2]
        simpa using hx) hI (Nat.le_of_ble_eq_true rfl) (Nat.le_of_ble_eq_true rfl) hLC (fun hb => absurd (wrs _ hb).2 (Nat.not_le.mpr hLs))
    case gen =>
      intro hg
      refine spliced_none ?_
      refine sorted_open (args_sorted1 _) (collect_K rfl ?grm (fun b hb => (wrs b hb).1) (by (first | lia | omega)) (fun hb => absurd (wrs _ hb).2 (Nat.not_le.mpr hst)) (by rw [sizeLine_eq]; (first | lia | omega)) hg ?_)
      case grm => (simp only [depth_in1, depth_deeper, depth_caller]; decide)
      intro s' us k1 k2 k3 hul hT
      dsimp only at k1 k2 k3
      obtain ⟨R, tl2, rfl, e2, e3, e4, e5⟩ := collect_PR us 0 (fun j v hv => by rw [Nat.zero_add]; exact hT j v hv)
      have hRl : R.length = ws.length := by rw [e2]; exact hul
      refine ⟨by (first | lia | omega), ?_⟩
      have old : ∀ b o, b ≠ 146 → s.heap.get? b = some o → s'.heap.get? b = some o := fun b o hb e => by
        have lt : @LT.lt Nat _ b s.heap.objs.size := Heap.lt_size e
        exact k1 b o (neN (by (first | lia | omega))) (fun q => absurd (wrs _ q).2 (Nat.not_le.mpr lt)) (by rw [h5s]; (first | lia | omega)) (hx5 _ _ (hx4 _ _ hb (hk _ _ e)))
      have F5 : Fr h₀ L s'.heap m := ⟨F.ns.at' fun o e => old L o (neN (by
        intro q
        have q2 := hm146.2.1
        exact q2 q.symm)) e, fun b o e => old b o (fun q => by rw [q, hm146.2.2] at e; cases e) (F.keep _ _ e), F.above⟩
      have N5 : News h₀ L s'.heap (tl2 ++ (146, tabObj (tabL c0 ++ #[rawInt _, rawInt _, .ref c'])) :: pre) := fun p hp => by
        rcases List.mem_append.mp hp with hp | hp
        · obtain ⟨lt, g⟩ := e5 p hp
          exact ⟨g, Nat.ne_of_gt (Nat.lt_trans hLC lt), Heap.get?_none_of_le (Nat.le_trans hab (Nat.le_of_lt (Nat.lt_of_lt_of_le (by (first | lia | omega)) (Nat.le_of_lt lt))))⟩
        · rcases List.mem_cons.mp hp with rfl | hp
          · exact ⟨k1 _ _ (neN (by (first | lia | omega))) (fun q => absurd (wrs _ q).2 (Nat.not_le.mpr hP2)) (by rw [h5s]; (first | lia | omega)) (hx5 _ _ h4t), hm146.2.1, hm146.2.2⟩
          · have := N p (.tail _ hp)
            exact ⟨old _ _ (hoff p hp _ (.head _)) this.1, this.2⟩
      refine sort_pairs (F5.push _) (N5.push F5 _) (fun p hp => Nat.ne_of_lt (Heap.lt_size (N5 p hp).1)) (fun r hr => ?_) (by (first | lia | omega)) ?_ fun h' c R' hp' hs' F' N' => ret _ _ c R' tl2 _ F' (k2 (AllBare.push hbare hgs)) k3 N' (fun r hr => e4 r (hp'.mem_iff.mp hr)) ?_
      · obtain ⟨n1, n2, n3, q⟩ := e4 r hr
        exact ⟨n1, n2, n3, List.mem_append_left _ q⟩
      · rw [List.pairwise_iff_getElem]
        intro i j hi hj hij
        have a1 := (e3 i (by rw [← e2]; exact hi)).2
        have a2 := (e3 j (by rw [← e2]; exact hj)).2
        rw [List.getD_eq_getElem?_getD, List.getElem?_eq_getElem hi] at a1
        rw [List.getD_eq_getElem?_getD, List.getElem?_eq_getElem hj] at a2
        simp only [Option.getD_some] at a1 a2
        rw [a1, a2]
        (first | lia | omega)
      · have hR : ∀ i, i < ws.length → (R.getD i dPR).o = ordr (ns.getD i 0) ∧ (R.getD i dPR).k = (i : Int) := fun i hi => by
          have := e3 i (by rw [hul]; exact hi)
          rwa [Nat.zero_add] at this
        rw [pairs_eq (os := fun i => ordr (ns.getD i 0)) hR hRl hp hs hp' hs', List.map_map]
        refine List.map_congr_left fun i hi => ?_
        exact (hR i (List.mem_range.mp (hp.mem_iff.mp hi))).2
end
end Mine


namespace Mine
theorem fillK : PySem.Challenge.rw_dn0254_12.row.prog = PySem.Challenge.rw_dn0254_12.row.prog ∧ Mine.hd.heap_39 = Mine.hd.heap_39 := by
  w_top off
  k_fill
  exact ⟨rfl, rfl⟩
def tgtAt (b : List Stmt) (k : Nat) : PySem.Expr := match b[k]? with
  | some (.For t _ _ _ _) => t
  | _ => default
/-- what all the names hold while the pairs are run over -/
structure NmC (rq pg pg0 sc lC lE D : Nat) (m : Str → Option Value) : Prop where
  asked : m "asked" = some (.ref rq)
  request : m "request" = some (.ref rq)
  page : m "page" = some (.ref pg)
  first : m "first" = some (.ref pg0)
  script : m "script" = some (.ref sc)
  signs : m "signs" = some (.ref lC)
  errors : m "errors" = some (.ref lE)
  pairs : m "pairs" = some (.ref D)
structure PrC (ns : List Int) (ws : List Value) (pl : List Nat) (R : List PR) (sc : Nat) (T : List (Addr × Obj)) : Prop where
  pr : ∀ r ∈ R, PairIn T r
  ks : R.map (·.k) = pl.map (fun (i : Nat) => (i : Int))
  scr : (sc, W.listOf ws.toArray 0) ∈ T
  lt : ∀ k ∈ pl, k < ws.length
theorem PrC.at {ns : List Int} {ws : List Value} {pl : List Nat} {R : List PR} {sc : Nat} {T : List (Addr × Obj)} (x : PrC ns ws pl R sc T) (hI : IntsAre ws ns) {i : Nat} {v : Value} (hv : (refsP R)[i]? = some v) :
    ∃ (k : Nat) (t : Addr) (o : Int) (nt : Nat) (ta tb tn : Tok), pl[i]? = some k ∧ v = .ref t ∧ (t, { cls := .type "tuple", data := .seq #[.int o ta, .int (k : Int) tb] nt }) ∈ T ∧ ws[k]? = some (.int (ns.getD k 0) tn) ∧ k < ws.length := by
  rw [refsP, List.getElem?_map] at hv
  cases q : R[i]? with
  | none => rw [q] at hv; cases hv
  | some r =>
    rw [q] at hv
    obtain ⟨n, ta, tb, hm⟩ := x.pr r (List.mem_of_getElem? q)
    have e := congrArg (fun l => l[i]?) x.ks
    simp only [List.getElem?_map, q, Option.map_some] at e
    cases q2 : pl[i]? with
    | none => rw [q2] at e; cases e
    | some k =>
      rw [q2] at e
      have ek : r.k = (k : Int) := by simpa using e
      have hk := x.lt k (List.mem_of_getElem? q2)
      obtain ⟨z, tz, hz, hn⟩ := IntsAre.at hI k ws[k] (List.getElem?_eq_getElem hk)
      refine ⟨k, r.t, r.o, n, ta, tb, tz, rfl, (Option.some.inj hv).symm, by rw [← ek]; exact hm, ?_, hk⟩
      rw [List.getElem?_eq_getElem hk, hz, List.getD_eq_getElem?_getD, hn]; rfl
def LoopC (ns : List Int) (rq pg pg0 sc lC lE D lH : Nat) (c0 : Int) (pl : List Nat) (T : List (Addr × Obj)) (i : Nat) (m : Str → Option Value) (nw : List (Addr × Obj)) : Prop :=
  NmC rq pg pg0 sc lC lE D m ∧ (∃ t, m "code" = some (.int c0 t)) ∧ (∃ t, m "word" = some (.str "w" t)) ∧ m "head" = some (.ref lH) ∧ ∃ vs n1, nw = (lC, W.listOf vs.toArray n1) :: T ∧ IntsAre vs (sig12 ns (pl.take i))
section
variable {w : World} {E : Value → Shared → Prop} {s : Shared} {L : Addr} {h₀ : Heap} {m : Str → Option Value}
local macro_rules | `(tactic| keq_rows) => `(tactic| first | (k_unfold; (try dsimp only)) | walk1 | (dsimp only; walk1))
local macro_rules | `(tactic| k_mem) => `(tactic| ((with_reducible show List.Mem _ (_ ++ _)); assumption))
local macro_rules | `(tactic| ktr_rel) => `(tactic| repeat' ((fail_if_success (with_reducible show wpAny _ _ (subscriptTail _ _ _ _) _ _ _)); (fail_if_success (with_reducible show wpAny _ _ (call (Value.builtin "list.append") _) _ _ _)); (fail_if_success (with_reducible show PostW _ _ _ _ _ _ _ _ _)); keq_rows))
theorem loopC12 {p : Program} {loose : List Str} {mean : ExcName → Option Value} {mg mb : Str → Option Value} {Q : Flow → Shared → Prop} {b body : List Stmt} {scope : Scope} {a : Addr} {ns : List Int} {rq pg pg0 sc lC lE D lH n2 cr : Nat} {tgt : PySem.Expr} {ws : List Value} {R : List PR} {T : List (Addr × Obj)} {pl : List Nat} {c0 : Int} {tc tw : Tok}
    (hdef : Def12 w 151 "law" b scope) (hbody : body = bodyAt b 20) (htgt : tgt = tgtAt b 20) (hB : Below callerA h₀ [] h₀) (X : (Mine.hd.heap_39 w.params).In h₀) (hT : Top p loose mean mg mb h₀) (hC : CodeHd h₀ 115 111)
    (F : Fr h₀ L s.heap m) (N : News h₀ L s.heap ((lC, W.listOf #[] n2) :: T)) (hI : IntsAre ws ns) (P : PrC ns ws pl R sc T) (hD : (D, W.listOf (refsP R).toArray cr) ∈ T) (hpn : pl.length ≤ 32) (hw : ws.length ≤ 32) (off : OwnOff T [lC]) 
    (nm : NmC rq pg pg0 sc lC lE D m) (m1 : m "code" = some (.int c0 tc)) (m2 : m "word" = some (.str "w" tw)) (m3 : m "head" = some (.ref lH))
    (done : ∀ m' vs n1 h tk t1 t2, NmC rq pg pg0 sc lC lE D m' → m' "code" = some (.int c0 t1) → m' "word" = some (.str "w" t2) → m' "head" = some (.ref lH) → Fr h₀ L h m' → News h₀ L h ((lC, W.listOf vs.toArray n1) :: T) → IntsAre vs (sig12 ns pl) → Q .next { s with heap := h, toks := tk }) :
    wpAny (model PySem.Challenge.rw_dn0254_12.row.prog w) (callerA.deeper (envOfC "law" scope L a (.ref 150))) (pyIter (.ref D)) (fun it s₂ => TurnsAt PySem.Challenge.rw_dn0254_12.row.prog w (callerA.deeper (envOfC "law" scope L a (.ref 150))) h₀ (envOfC "law" scope L a (.ref 150)) tgt body Q E it s₂) E s := by
  obtain ⟨oc', od, params, dV, kV, doc, pm, cdv, ct', an, osl, hbL⟩ := hdef
  k_dflt (refine' lookup_same hbL ?k6 ?_; (case k6 => k_is))
  intro hbe hse
  rw [hbe] at hbody htgt
  dsimp only [bodyAt, tgtAt, List.getElem?_cons_zero, List.getElem?_cons_succ] at hbody htgt
  subst hbody
  subst htgt
  clear hbL hbe
  subst hse
  have hRl : (refsP R).length = pl.length := by
    have := congrArg List.length P.ks
    simpa [refsP] using this
  refine iter_listT (LoopC ns rq pg pg0 sc lC lE D lH c0 pl T) rfl (News.isList N (.tail _ hD)) (N _ (.tail _ hD)).2.1 F N ⟨nm, ⟨_, m1⟩, ⟨_, m2⟩, m3, [], n2, rfl, .nil⟩ ?cTurn ?cDone
  case cDone =>
    intro m' nw h tk hj F' N'
    obtain ⟨nm', ⟨t1, b1⟩, ⟨t2, b2⟩, b3, vs, n1, rfl, hv⟩ := hj
    rw [hRl, List.take_length] at hv
    exact done m' vs n1 h tk t1 t2 nm' b1 b2 b3 F' N' hv
  case cTurn =>
    intro I i v m₁ nw h tk own hv hj hoI hown hI1 hltI hlI F3 N3
    obtain ⟨⟨d1, d2, d3, d4, d5, d6, d7, d8⟩, ⟨t1, b1⟩, ⟨t2, b2⟩, b3, vs, n1, rfl, hvs⟩ := hj
    obtain ⟨k, t, o, nt, ta, tb, tn, hk, rfl, htm, hwk, hkw⟩ := P.at hI hv
    have hstep := sig_step (ns := ns) hk
    replace F3 := fr_f11 F3 d1 d2 d3 d4 d5 d6 d7 d8 b1 b2 b3
    simp only [List.cons_append] at N3
    replace F3 : Fr h₀ L h _ := F3
    replace N3 : News h₀ L h _ := N3
    have hlCI : lC < I := hltI _ (.head _)
    have hDC : D ≠ lC := off _ hD _ (.head _)
    have hoff : ∀ p ∈ T ++ own, p.1 ≠ lC := fun p hp => by
      rcases List.mem_append.mp hp with hp | hp
      · exact off p hp _ (.head _)
      · rcases hown p hp with e | e
        · rw [e]; exact Nat.ne_of_gt hlCI
        · rw [e]; exact hDC
    have hsc := List.mem_append_left own P.scr
    have hTt : IsTup h t #[.int o ta, .int (k : Int) tb] := ⟨_, (N3 _ (.tail _ (List.mem_append_left own htm))).1, rfl, _, rfl⟩
    have i0 : 0 ≤ (k : Int) := by (first | lia | omega)
    have i1 : (k : Int) < 2 ^ 63 := by (first | lia | omega)
    have i2 : ws[(k : Int).toNat]? = some (.int (ns.getD k 0) tn) := by rw [Int.toNat_natCast]; exact hwk
    have hvl : vs.length ≤ 2 ^ 20 := by
      have h1 := hvs.length
      have h2 := sig12_len (ns := ns) (pl.take i)
      rw [List.length_take] at h2
      (first | lia | omega)
    have endC : ∀ {h' : Heap} {tk' n' : Nat} {m' : Str → Option Value} {us : List Value}, Fr h₀ L h' m' → News h₀ L h' ((lC, W.listOf (vs ++ us).toArray n') :: (T ++ own)) → NmC rq pg pg0 sc lC lE D m' → m' "code" = some (.int c0 t1) → m' "word" = some (.str "w" t2) → m' "head" = some (.ref lH) → IntsAre us (asks12 (ns.getD k 0) k) →
        EndW h₀ L (LoopC ns rq pg pg0 sc lC lE D lH c0 pl T (i + 1)) own [I] { s with heap := h, toks := tk } { s with heap := h', toks := tk' } := by
      intro h' tk' n' m' us F' N' nm' q1 q2 q3 hu
      refine ⟨h', tk', m', (lC, W.listOf (vs ++ us).toArray n') :: T, rfl, F', N', ?_, nm', ⟨_, q1⟩, ⟨_, q2⟩, q3, vs ++ us, n', rfl, by rw [hstep]; exact hvs.append hu⟩
      intro p hp
      rcases List.mem_cons.mp hp with rfl | hp
      · exact (hoI (lC, W.listOf vs.toArray n1) (.head _) : lC ∉ [I])
      · exact hoI p (.tail _ hp)
    ktr_rel
    with_reducible rename Fr _ _ _ _ => F4
    with_reducible rename News _ _ _ _ => N4
    k_dflt (refine item_led N4 (List.mem_cons_of_mem _ hsc) i0 i1 i2 ?_)
    ktr_rel
    · with_reducible rename Int.fmod _ 4 = 0 => hk0
      with_reducible rename Fr _ _ _ _ => F5
      with_reducible rename News _ _ _ _ => N5
      refine append_led F5 N5 hvl (.head hoff) ?_
      intro h6 F6 N6
      clear F5 N5
      ktr_rel
      with_reducible rename Fr _ _ _ _ => F7
      with_reducible rename News _ _ _ _ => N7
      k_dflt (refine item_led N7 (List.mem_cons_of_mem _ hsc) i0 i1 i2 ?_)
      ktr_rel
      · exact absurd ‹Int.fmod (ns.getD k 0) 4 = 2› (by (first | lia | omega))
      · dsimp only [PostW]
        with_reducible rename Fr _ _ _ _ => F8
        with_reducible rename News _ _ _ _ => N8
        exact endC F8 N8 ⟨rfl, rfl, rfl, rfl, rfl, rfl, rfl, rfl⟩ rfl rfl rfl (by rw [asks12, if_pos hk0]; exact .cons _ _ .nil)
    · with_reducible rename Int.fmod _ 4 ≠ 0 => hk0
      with_reducible rename Fr _ _ _ _ => F5
      with_reducible rename News _ _ _ _ => N5
      k_dflt (refine item_led N5 (List.mem_cons_of_mem _ hsc) i0 i1 i2 ?_)
      ktr_rel
      · with_reducible rename Int.fmod _ 4 = 2 => hk2
        with_reducible rename Fr _ _ _ _ => F6
        with_reducible rename News _ _ _ _ => N6
        refine append_led F6 N6 hvl (.head hoff) ?_
        intro h7 F7 N7
        clear F6 N6
        ktr_rel
        dsimp only [PostW]
        with_reducible rename Fr _ _ _ _ => F8
        with_reducible rename News _ _ _ _ => N8
        exact endC F8 N8 ⟨rfl, rfl, rfl, rfl, rfl, rfl, rfl, rfl⟩ rfl rfl rfl (by rw [asks12, if_neg hk0, if_pos hk2]; exact .cons _ _ .nil)
      · with_reducible rename Int.fmod _ 4 ≠ 2 => hk2
        dsimp only [PostW]
        with_reducible rename Fr _ _ _ _ => F8
        with_reducible rename News _ _ _ _ => N8
        exact endC (us := []) F8 (by rw [List.append_nil]; exact N8) ⟨rfl, rfl, rfl, rfl, rfl, rfl, rfl, rfl⟩ rfl rfl rfl (by rw [asks12, if_neg hk0, if_neg hk2]; exact .nil)
end
end Mine


namespace Mine
local macro_rules | `(tactic| walk_at "no key of the walk") => `(tactic| fail)
local macro_rules | `(tactic| walk_at "no key of the walk") => `(tactic| fail)
local macro_rules | `(tactic| walk_at "no key of the walk") => `(tactic| fail)
local macro_rules | `(tactic| walk_at "no key of the walk") => `(tactic| fail)
local macro_rules | `(tactic| walk_at "no key of the walk") => `(tactic| fail)
local macro_rules | `(tactic| walk_at "no key of the walk") => `(tactic| fail)
local macro_rules | `(tactic| walk_at "no key of the walk") => `(tactic| fail)
local macro_rules | `(tactic| walk_at "no key of the walk") => `(tactic| fail)
theorem fillL : PySem.Challenge.rw_dn0254_12.row.prog = PySem.Challenge.rw_dn0254_12.row.prog ∧ Mine.hd.heap_39 = Mine.hd.heap_39 := by
  w_top off
  k_fill
  exact ⟨rfl, rfl⟩
structure StD (rq lC lE lH : Nat) (st : S12) (T0 T : List (Addr × Obj)) (vs errs : List Value) : Prop where
  sub : ∀ p ∈ T0, p ∈ T
  off : OwnOff T [lC, lE]
  sigs : IntsAre vs st.sg
  errs : All2 (EntH rq T) errs st.er
  head : ∃ hv nh, (lH, W.listOf hv.toArray nh) ∈ T ∧ IntsAre hv st.hs
def LoopD (ns : List Int) (rq pg pg0 sc lC lE D : Nat) (pl : List Nat) (s0 : S12) (T0 : List (Addr × Obj)) (i : Nat) (m : Str → Option Value) (nw : List (Addr × Obj)) : Prop :=
  NmC rq pg pg0 sc lC lE D m ∧ ∃ (lH : Nat) (vs errs : List Value) (n1 n2 : Nat) (T : List (Addr × Obj)) (tc tw : Tok), m "code" = some (.int (run12 ns (pl.take i) s0).c tc) ∧ m "word" = some (.str (run12 ns (pl.take i) s0).wd tw) ∧ m "head" = some (.ref lH) ∧
    nw = (lC, W.listOf vs.toArray n1) :: (lE, W.listOf errs.toArray n2) :: T ∧ StD rq lC lE lH (run12 ns (pl.take i) s0) T0 T vs errs
theorem newsD2 {h₀ h : Heap} {L : Addr} {a b c e : Addr × Obj} {T own : List (Addr × Obj)} (N : News h₀ L h (a :: b :: c :: e :: (T ++ own))) : News h₀ L h (c :: e :: (([a, b] ++ T) ++ own)) := fun p hp => N p (by
  simp only [List.mem_cons, List.mem_append, List.mem_nil_iff, or_false] at hp ⊢
  rcases hp with h | h | ((h | h) | h) | h <;> (first | ((repeat (first | with_reducible exact h | with_reducible exact Or.inl h | with_reducible exact Or.inl (Or.inl h) | with_reducible exact Or.inl (Or.inr h) | refine Or.inr ?_)); done) | simp [h]))
theorem newsD3 {h₀ h : Heap} {L : Addr} {a b d c e : Addr × Obj} {T own : List (Addr × Obj)} (N : News h₀ L h (a :: b :: d :: c :: e :: (T ++ own))) : News h₀ L h (c :: e :: (([a, b, d] ++ T) ++ own)) := fun p hp => N p (by
  simp only [List.mem_cons, List.mem_append, List.mem_nil_iff, or_false] at hp ⊢
  rcases hp with h | h | ((h | h | h) | h) | h <;> (first | ((repeat (first | with_reducible exact h | with_reducible exact Or.inl h | with_reducible exact Or.inl (Or.inl h) | with_reducible exact Or.inl (Or.inr h) | refine Or.inr ?_)); done) | simp [h]))
theorem off_adD {T ad : List (Addr × Obj)} {lC lE : Nat} (h : OwnOff T [lC, lE]) (k : ∀ p ∈ ad, @LT.lt Nat _ lC p.1 ∧ @LT.lt Nat _ lE p.1) : OwnOff (ad ++ T) [lC, lE] := fun p hp b hb => by
  rcases List.mem_append.mp hp with hp | hp
  · rcases List.mem_cons.mp hb with rfl | hb
    · exact Nat.ne_of_gt (k p hp).1
    · rw [List.mem_singleton.mp hb]; exact Nat.ne_of_gt (k p hp).2
  · exact h p hp b hb
section
variable {w : World} {E : Value → Shared → Prop} {s : Shared} {L : Addr} {h₀ : Heap} {m : Str → Option Value}
local macro_rules | `(tactic| keq_rows) => `(tactic| first | (k_unfold; (try dsimp only)) | walk1 | (dsimp only; walk1))
local macro_rules | `(tactic| k_mem) => `(tactic| ((with_reducible show List.Mem _ (_ ++ _)); assumption))
local macro_rules | `(tactic| walk_at "inplaceOp Add str str") => `(tactic| (k_here; (with_reducible show wpAny _ _ (inplaceOp Operator.Add (Value.str _ _) (Value.str _ _)) _ _ _); refine' iadd_str ?h ?hsz; (case hsz => (refine small_size ?_; (try simp only [len_s, len_c, len_e]); omega)); intro t' tk'))
local macro_rules | `(tactic| walk_at "binaryOp Add ref ref") => `(tactic| (k_here; (with_reducible show wpAny _ _ (binaryOp _ (Value.ref _) (Value.ref _)) _ _ _); k_dflt (refine' add_led ?F ?N ?a ?b ?z ?_; (case F => k_asm); (case N => k_asm); (case a => k_mem); (case b => k_mem); (case z => ((try simp only [List.length_cons, List.length_nil]); omega))); intro D' h' F' N' l1; (try k_lt l1)))
local macro_rules | `(tactic| ktr_rel) => `(tactic| repeat' ((fail_if_success (with_reducible show wpAny _ _ (subscriptTail _ _ _ _) _ _ _)); (fail_if_success (with_reducible show wpAny _ _ (call (Value.ref _) _) _ _ _)); (fail_if_success (with_reducible show wpAny _ _ (call (Value.builtin "list.append") _) _ _ _)); (fail_if_success (with_reducible show PostW _ _ _ _ _ _ _ _ _)); keq_rows))
local macro_rules | `(tactic| kwd_less) => `(tactic| repeat' ((fail_if_success (with_reducible show wpAny _ _ (exec (PySem.Stmt.If _ _ _ _) _) _ _ _)); (fail_if_success (with_reducible show wpAny _ _ (execs (PySem.Stmt.If _ _ _ _ :: _) _) _ _ _)); (fail_if_success (with_reducible show wpAny _ _ (subscriptTail _ _ _ _) _ _ _)); (fail_if_success (with_reducible show wpAny _ _ (call (Value.ref _) _) _ _ _)); (fail_if_success (with_reducible show wpAny _ _ (call (Value.builtin "list.append") _) _ _ _)); (fail_if_success (with_reducible show PostW _ _ _ _ _ _ _ _ _)); keq_rows))
theorem loopD12 {p : Program} {loose : List Str} {mean : ExcName → Option Value} {mg mb : Str → Option Value} {Q : Flow → Shared → Prop} {b body : List Stmt} {scope : Scope} {a : Addr} {ns : List Int} {rq pg pg0 sc lC lE D lH n1 n2 cr : Nat} {tgt : PySem.Expr} {ws vs : List Value} {R : List PR} {T : List (Addr × Obj)} {pl : List Nat} {c0 : Int} {tc tw : Tok}
    (hdef : Def12 w 151 "law" b scope) (hbody : body = bodyAt b 21) (htgt : tgt = tgtAt b 21) (hB : Below callerA h₀ [] h₀) (X : (Mine.hd.heap_39 w.params).In h₀) (hT : Top p loose mean mg mb h₀) (hC : CodeHd h₀ 115 111)
    (F : Fr h₀ L s.heap m) (N : News h₀ L s.heap ((lC, W.listOf vs.toArray n1) :: (lE, W.listOf #[] n2) :: T)) (hI : IntsAre ws ns) (P : PrC ns ws pl R sc T) (hD : (D, W.listOf (refsP R).toArray cr) ∈ T) (hpn : pl.length ≤ 32) (hw : ws.length ≤ 32) (hCE : @Ne Nat lC lE)
    (nm : NmC rq pg pg0 sc lC lE D m) (m1 : m "code" = some (.int c0 tc)) (m2 : m "word" = some (.str "w" tw)) (m3 : m "head" = some (.ref lH)) (S0 : StD rq lC lE lH ⟨c0, "w", [], sig12 ns pl, []⟩ T T vs [])
    (done : ∀ m' lH' vs' errs' n1' n2' T' h tk t1 t2, NmC rq pg pg0 sc lC lE D m' → m' "code" = some (.int (run12 ns pl ⟨c0, "w", [], sig12 ns pl, []⟩).c t1) → m' "word" = some (.str (run12 ns pl ⟨c0, "w", [], sig12 ns pl, []⟩).wd t2) → m' "head" = some (.ref lH') → Fr h₀ L h m' → News h₀ L h ((lC, W.listOf vs'.toArray n1') :: (lE, W.listOf errs'.toArray n2') :: T') → StD rq lC lE lH' (run12 ns pl ⟨c0, "w", [], sig12 ns pl, []⟩) T T' vs' errs' → Q .next { s with heap := h, toks := tk }) :
    wpAny (model PySem.Challenge.rw_dn0254_12.row.prog w) (callerA.deeper (envOfC "law" scope L a (.ref 150))) (pyIter (.ref D)) (fun it s₂ => TurnsAt PySem.Challenge.rw_dn0254_12.row.prog w (callerA.deeper (envOfC "law" scope L a (.ref 150))) h₀ (envOfC "law" scope L a (.ref 150)) tgt body Q E it s₂) E s := by
  obtain ⟨oc', od, params, dV, kV, doc, pm, cdv, ct', an, osl, hbL⟩ := hdef
  k_dflt (refine' lookup_same hbL ?k6 ?_; (case k6 => k_is))
  intro hbe hse
  rw [hbe] at hbody htgt
  dsimp only [bodyAt, tgtAt, List.getElem?_cons_zero, List.getElem?_cons_succ] at hbody htgt
  subst hbody
  subst htgt
  clear hbL hbe
  subst hse
  have hRl : (refsP R).length = pl.length := by
    have := congrArg List.length P.ks
    simpa [refsP] using this
  refine iter_listT (LoopD ns rq pg pg0 sc lC lE D pl ⟨c0, "w", [], sig12 ns pl, []⟩ T) rfl (News.isList N (.tail _ (.tail _ hD))) (N _ (.tail _ (.tail _ hD))).2.1 F N ⟨nm, lH, vs, [], n1, n2, T, tc, tw, m1, m2, m3, rfl, S0⟩ ?dTurn ?dDone
  case dDone =>
    intro m' nw h tk hj F' N'
    obtain ⟨nm', lH', vs', errs', n1', n2', T', t1, t2, b1, b2, b3, rfl, S'⟩ := hj
    rw [hRl, List.take_length] at S' b1 b2
    exact done m' lH' vs' errs' n1' n2' T' h tk t1 t2 nm' b1 b2 b3 F' N' S'
  case dTurn =>
    intro I i v m₁ nw h tk own hv hj hoI hown hI1 hltI hlI F3 N3
    obtain ⟨⟨d1, d2, d3, d4, d5, d6, d7, d8⟩, lH', vs', errs', n1', n2', T', t1, t2, b1, b2, b3, rfl, S'⟩ := hj
    obtain ⟨k, t, o, nt, ta, tb, tn, hk, rfl, htm, hwk, hkw⟩ := P.at hI hv
    obtain ⟨hv, nh, hhm, hhi⟩ := S'.head
    have hstep := run_step (ns := ns) (s := ⟨c0, "w", [], sig12 ns pl, []⟩) hk
    have hrl := run_len (ns := ns) (pl.take i) ⟨c0, "w", [], sig12 ns pl, []⟩
    have hsl0 := sig12_len (ns := ns) pl
    have htl : (pl.take i).length ≤ 32 := by rw [List.length_take]; (first | lia | omega)
    have hww : ("w" : Str).length = 1 := by decide
    dsimp only at hrl
    rw [hww] at hrl
    simp only [List.length_nil] at hrl
    generalize hst : run12 ns (pl.take i) ⟨c0, "w", [], sig12 ns pl, []⟩ = st at b1 b2 S' hhi hstep hrl
    replace F3 := fr_f11 F3 d1 d2 d3 d4 d5 d6 d7 d8 b1 b2 b3
    simp only [List.cons_append] at N3
    replace F3 : Fr h₀ L h _ := F3
    replace N3 : News h₀ L h _ := N3
    have hsc := List.mem_append_left own (S'.sub _ P.scr)
    have hHm := List.mem_append_left own hhm
    have hTt : IsTup h t #[.int o ta, .int (k : Int) tb] := ⟨_, (N3 _ (.tail _ (.tail _ (List.mem_append_left own (S'.sub _ htm))))).1, rfl, _, rfl⟩
    have i0 : 0 ≤ (k : Int) := by (first | lia | omega)
    have i1 : (k : Int) < 2 ^ 63 := by (first | lia | omega)
    have i2 : ws[(k : Int).toNat]? = some (.int (ns.getD k 0) tn) := by rw [Int.toNat_natCast]; exact hwk
    have hvl : vs'.length ≤ 2 ^ 20 := by have := S'.sigs.length; (first | lia | omega)
    have hel : errs'.length ≤ 2 ^ 20 := by have := S'.errs.len; (first | lia | omega)
    have hhl : hv.length ≤ 1000 := by have := hhi.length; (first | lia | omega)
    have hlCI : lC < I := hltI _ (.head _)
    have hlEI : lE < I := hltI _ (.tail _ (.head _))
    have hDC : D ≠ lC := S'.off _ (S'.sub _ hD) _ (.head _)
    have hDE : D ≠ lE := S'.off _ (S'.sub _ hD) _ (.tail _ (.head _))
    have oC : ∀ p ∈ T' ++ own, p.1 ≠ lC := off_own (fun p hp => S'.off p hp _ (.head _)) hown (Nat.ne_of_gt hlCI) hDC
    have oE : ∀ p ∈ T' ++ own, p.1 ≠ lE := off_own (fun p hp => S'.off p hp _ (.tail _ (.head _))) hown (Nat.ne_of_gt hlEI) hDE
    have oI : ∀ p ∈ T', p.1 ∉ [I] := fun p hp => hoI p (.tail _ (.tail _ hp))
    have cI : lC ∉ [I] := hoI (lC, W.listOf vs'.toArray n1') (.head _)
    have eI : lE ∉ [I] := hoI (lE, W.listOf errs'.toArray n2') (.tail _ (.head _))
    have endD : ∀ {h' : Heap} {tk' n1'' n2'' lH2 : Nat} {m' : Str → Option Value} {vs2 errs2 : List Value} {ad : List (Addr × Obj)} {u1 u2 : Tok}, Fr h₀ L h' m' → News h₀ L h' ((lC, W.listOf vs2.toArray n1'') :: (lE, W.listOf errs2.toArray n2'') :: ((ad ++ T') ++ own)) → NmC rq pg pg0 sc lC lE D m' → m' "code" = some (.int (step12 (ns.getD k 0) k st).c u1) → m' "word" = some (.str (step12 (ns.getD k 0) k st).wd u2) → m' "head" = some (.ref lH2) →
        (∀ p ∈ ad, p.1 ∉ [I]) → StD rq lC lE lH2 (step12 (ns.getD k 0) k st) T (ad ++ T') vs2 errs2 →
        EndW h₀ L (LoopD ns rq pg pg0 sc lC lE D pl ⟨c0, "w", [], sig12 ns pl, []⟩ T (i + 1)) own [I] { s with heap := h, toks := tk } { s with heap := h', toks := tk' } := by
      intro h' tk' n1'' n2'' lH2 m' vs2 errs2 ad u1 u2 F' N' nm' q1 q2 q3 ha S2
      refine ⟨h', tk', m', (lC, W.listOf vs2.toArray n1'') :: (lE, W.listOf errs2.toArray n2'') :: (ad ++ T'), rfl, F', N', ?_, nm', lH2, vs2, errs2, n1'', n2'', ad ++ T', u1, u2, by rw [hstep]; exact q1, by rw [hstep]; exact q2, q3, rfl, by rw [hstep]; exact S2⟩
      intro p hp
      rcases List.mem_cons.mp hp with rfl | hp
      · exact cI
      rcases List.mem_cons.mp hp with rfl | hp
      · exact eI
      rcases List.mem_append.mp hp with hp | hp
      · exact ha p hp
      · exact oI p hp
    kwd_less
    with_reducible rename Fr _ _ _ _ => F4
    with_reducible rename News _ _ _ _ => N4
    k_dflt (refine item_led N4 (.tail _ (List.mem_cons_of_mem _ hsc)) i0 i1 i2 ?_)
    kwd_less
    with_reducible rename Fr _ _ _ _ => F5
    with_reducible rename News _ _ _ _ => N5
    have hk4 : (ns.getD k 0).fmod 4 = 0 ∨ (ns.getD k 0).fmod 4 = 1 ∨ (ns.getD k 0).fmod 4 = 2 ∨ (ns.getD k 0).fmod 4 = 3 := by
      have h1 := Int.fmod_nonneg_of_pos (ns.getD k 0) (show (0 : Int) < 4 by decide)
      have h2 := Int.fmod_lt_of_pos (ns.getD k 0) (show (0 : Int) < 4 by decide)
      (first | lia | omega)
    have same : step12 (ns.getD k 0) k st = st → StD rq lC lE lH' (step12 (ns.getD k 0) k st) T ([] ++ T') vs' errs' := fun e => by rw [e]; exact ⟨S'.sub, S'.off, S'.sigs, S'.errs, hv, nh, hhm, hhi⟩
    rcases hk4 with hk0 | hk0 | hk0 | hk0
    · rw [hk0] at F5
      ktr_rel
      with_reducible rename Fr _ _ _ _ => F6
      with_reducible rename News _ _ _ _ => N6
      k_dflt (refine item_led N6 (.tail _ (List.mem_cons_of_mem _ hsc)) i0 i1 i2 ?_)
      ktr_rel
      with_reducible rename Fr _ _ _ _ => F7
      with_reducible rename News _ _ _ _ => N7
      k_dflt (refine added12 (dp := callerA.depth + 1) hB F7 X N7 hT rfl rfl ?da1 ?da2 ?_)
      case da1 => decide
      case da2 => decide
      intro h8 tk8 u8 F8 N8
      clear F7 N7
      ktr_rel
      dsimp only [PostW]
      with_reducible rename Fr _ _ _ _ => F9
      with_reducible rename News _ _ _ _ => N9
      with_reducible rename _ < _ ∧ _ < _ ∧ _ < _ ∧ AllLt _ _ => l2
      with_reducible rename _ < _ ∧ _ < _ ∧ AllLt _ _ => l1
      have lI : ∀ {x : Nat}, AllLt x (T' ++ own) → @LT.lt Nat _ I x := fun al => by obtain ⟨o, ho⟩ := hI1; exact tb_ltOf al _ (List.mem_append_right _ ho)
      have lI1 := lI l1.2.2
      have lI2 := lI l2.2.2.2
      have e0 : step12 (ns.getD k 0) k st = { st with c := st.c + addd ((ns.getD k 0).fdiv 4), wd := st.wd ++ "s", hs := st.hs ++ [(k : Int)] } := by unfold step12; rw [if_pos hk0]
      refine endD (ad := [_, _]) F9 (newsD2 N9) ⟨rfl, rfl, rfl, rfl, rfl, rfl, rfl, rfl⟩ (by rw [e0]; rfl) (by rw [e0]; rfl) rfl (all_cons ?_ (all_cons ?_ all_nil)) ?_
      · exact fun q => absurd (List.mem_singleton.mp q) (neN (by dsimp only; (first | lia | omega)))
      · exact fun q => absurd (List.mem_singleton.mp q) (neN (by dsimp only; (first | lia | omega)))
      · rw [e0]
        exact ⟨fun p hp => List.mem_append_right _ (S'.sub p hp), off_adD S'.off (all_cons ⟨by dsimp only; (first | lia | omega), by dsimp only; (first | lia | omega)⟩ (all_cons ⟨by dsimp only; (first | lia | omega), by dsimp only; (first | lia | omega)⟩ all_nil)), S'.sigs, S'.errs.mono fun _ _ r => r.mono fun p hp => List.mem_append_right _ hp, _, _, .head _, hhi.append (.cons _ _ .nil)⟩
    · rw [hk0] at F5
      ktr_rel
      · with_reducible rename Int.fdiv st.c 100 ≠ 2 => hc
        with_reducible rename Fr _ _ _ _ => F6
        with_reducible rename News _ _ _ _ => N6
        with_reducible rename _ < _ ∧ _ < _ ∧ AllLt _ _ => l1
        refine append_led F6 N6 hel (.tail (neN (by dsimp only; (first | lia | omega))) (.tail hCE (.head oE))) ?_
        intro h7 F7 N7
        clear F6 N6
        ktr_rel
        dsimp only [PostW]
        with_reducible rename Fr _ _ _ _ => F9
        with_reducible rename News _ _ _ _ => N9
        with_reducible rename _ < _ ∧ _ < _ ∧ _ < _ ∧ _ < _ ∧ AllLt _ _ => l3
        with_reducible rename _ < _ ∧ _ < _ ∧ _ < _ ∧ AllLt _ _ => l2
        have lI : ∀ {x : Nat}, AllLt x (T' ++ own) → @LT.lt Nat _ I x := fun al => by obtain ⟨o, ho⟩ := hI1; exact tb_ltOf al _ (List.mem_append_right _ ho)
        have lI1 := lI l1.2.2
        have lI2 := lI l2.2.2.2
        have lI3 := lI l3.2.2.2.2
        have e0 : step12 (ns.getD k 0) k st = { st with c := st.c + 60, wd := st.wd ++ "e", hs := st.hs ++ [st.c], er := st.er ++ [(st.c, st.wd, st.hs)] } := by unfold step12; rw [if_neg (by (first | lia | omega)), if_pos hk0, if_neg hc]
        refine endD (ad := [_, _, _]) F9 (newsD3 N9) ⟨rfl, rfl, rfl, rfl, rfl, rfl, rfl, rfl⟩ (by rw [e0]; rfl) (by rw [e0]; rfl) rfl (all_cons ?_ (all_cons ?_ (all_cons ?_ all_nil))) ?_
        · exact fun q => absurd (List.mem_singleton.mp q) (neN (by dsimp only; (first | lia | omega)))
        · exact fun q => absurd (List.mem_singleton.mp q) (neN (by dsimp only; (first | lia | omega)))
        · exact fun q => absurd (List.mem_singleton.mp q) (neN (by dsimp only; (first | lia | omega)))
        · rw [e0]
          exact ⟨fun p hp => List.mem_append_right _ (S'.sub p hp), off_adD S'.off (all_cons ⟨by dsimp only; (first | lia | omega), by dsimp only; (first | lia | omega)⟩ (all_cons ⟨by dsimp only; (first | lia | omega), by dsimp only; (first | lia | omega)⟩ (all_cons ⟨by dsimp only; (first | lia | omega), by dsimp only; (first | lia | omega)⟩ all_nil))), S'.sigs, All2.snoc ⟨_, _, _, _, _, _, _, rfl, .tail _ (.tail _ (.head _)), List.mem_append_right _ hhm, hhi⟩ (S'.errs.mono fun _ _ r => r.mono fun p hp => List.mem_append_right _ hp), _, _, .head _, hhi.append (.cons _ _ .nil)⟩
      · with_reducible rename Int.fdiv st.c 100 = 2 => hc
        have e0 : step12 (ns.getD k 0) k st = st := by unfold step12; rw [if_neg (by (first | lia | omega)), if_pos hk0, if_pos hc]
        dsimp only [PostW]
        with_reducible rename Fr _ _ _ _ => F9
        with_reducible rename News _ _ _ _ => N9
        exact endD (ad := []) F9 N9 ⟨rfl, rfl, rfl, rfl, rfl, rfl, rfl, rfl⟩ (by rw [e0]; rfl) (by rw [e0]; rfl) rfl all_nil (same e0)
    · rw [hk0] at F5
      ktr_rel
      with_reducible rename Fr _ _ _ _ => F6
      with_reducible rename News _ _ _ _ => N6
      refine append_led F6 N6 hvl (.head (off_c (Ne.symm hCE) oC)) ?_
      intro h7 F7 N7
      clear F6 N6
      ktr_rel
      dsimp only [PostW]
      with_reducible rename Fr _ _ _ _ => F9
      with_reducible rename News _ _ _ _ => N9
      have e0 : step12 (ns.getD k 0) k st = { st with wd := st.wd ++ "c", sg := st.sg ++ [st.c] } := by unfold step12; rw [if_neg (by (first | lia | omega)), if_neg (by (first | lia | omega)), if_pos hk0]
      refine endD (ad := []) F9 N9 ⟨rfl, rfl, rfl, rfl, rfl, rfl, rfl, rfl⟩ (by rw [e0]; rfl) (by rw [e0]; rfl) rfl all_nil ?_
      rw [e0]
      exact ⟨S'.sub, S'.off, S'.sigs.append (.cons _ _ .nil), S'.errs, hv, nh, hhm, hhi⟩
    · rw [hk0] at F5
      ktr_rel
      have e0 : step12 (ns.getD k 0) k st = st := by unfold step12; rw [if_neg (by (first | lia | omega)), if_neg (by (first | lia | omega)), if_neg (by (first | lia | omega))]
      dsimp only [PostW]
      with_reducible rename Fr _ _ _ _ => F9
      with_reducible rename News _ _ _ _ => N9
      exact endD (ad := []) F9 N9 ⟨rfl, rfl, rfl, rfl, rfl, rfl, rfl, rfl⟩ (by rw [e0]; rfl) (by rw [e0]; rfl) rfl all_nil (same e0)
end
end Mine


namespace Mine
/-! == and != of lists and tuples that are equal item by item (things by identity) -/
inductive EqsAt (A : Around) (s : Shared) : List Value → List Value → Prop
  | nil : EqsAt A s [] []
  | cons {v u : Value} {vs us : List Value} : SeqAt.EqAt A s v u true → EqsAt A s vs us → EqsAt A s (v :: vs) (u :: us)
section
variable {A : Around} {s : Shared} {vs us : List Value} {l b : Addr}
theorem EqsAt.length (e : EqsAt A s vs us) : vs.length = us.length := by
  induction e with
  | nil => rfl
  | cons _ _ ih => simp [ih]
theorem EqsAt.at (e : EqsAt A s vs us) : ∀ (j : Nat) (h1 : j < vs.length) (h2 : j < us.length), SeqAt.EqAt A s vs[j] us[j] true := by
  induction e with
  | nil => intro j h1; exact absurd h1 (Nat.not_lt_zero _)
  | cons h _ ih =>
    intro j h1 h2
    cases j with
    | zero => exact h
    | succ j => exact ih j (Nat.lt_of_succ_lt_succ h1) (Nat.lt_of_succ_lt_succ h2)
theorem eq_str {x : Str} {t u : Tok} : SeqAt.EqAt A s (.str x t) (.str x u) true := by
  have h := SeqAt.EqAt.str_str (A := A) (s := s) x t x u
  rwa [beq_self_eq_true] at h
theorem eq_int {x : Int} {t u : Tok} : SeqAt.EqAt A s (.int x t) (.int x u) true := by
  have h := SeqAt.EqAt.int_int (A := A) (s := s) x t x u
  rwa [beq_self_eq_true] at h
theorem tup_rc (hl : s.heap.IsTuple l vs.toArray) (hb : s.heap.IsTuple b us.toArray) (hu : A.units < cLine) (e : EqsAt A.in1 s vs us) : SeqAt.RcAt A s (.ref l) (.ref b) true := by
  have h := SeqAt.RcAt.tuples (e := fun _ => true) hl hb hu (fun j h1 h2 => by simpa using e.at j (by simpa using h1) (by simpa using h2))
  have q := e.length
  rwa [show ((List.range (min vs.toArray.size us.toArray.size)).all (fun _ => true) && vs.toArray.size == us.toArray.size) = true from by simp [q]] at h
theorem list_rc (hl : s.heap.IsList l vs.toArray) (hb : s.heap.IsList b us.toArray) (hu : A.units < cLine) (e : EqsAt A.in1 s vs us) : SeqAt.RcAt A s (.ref l) (.ref b) true := by
  have h := SeqAt.RcAt.lists (e := fun _ => true) hl hb (by simpa using e.length) hu (fun j h1 h2 => by simpa using e.at j (by simpa using h1) (by simpa using h2))
  rwa [show ((List.range vs.toArray.size).all (fun _ => true)) = true from by simp] at h
theorem eq_tup (hl : s.heap.IsTuple l vs.toArray) (hb : s.heap.IsTuple b us.toArray) (hu : A.units < cLine) (e : EqsAt A.in1 s vs us) : SeqAt.EqAt A s (.ref l) (.ref b) true := by
  by_cases q : l = b
  · rw [q]; exact SeqAt.EqAt.same _
  · exact SeqAt.EqAt.of_refs q (tup_rc hl hb hu e)
theorem eq_list (hl : s.heap.IsList l vs.toArray) (hb : s.heap.IsList b us.toArray) (hu : A.units < cLine) (e : EqsAt A.in1 s vs us) : SeqAt.EqAt A s (.ref l) (.ref b) true := by
  by_cases q : l = b
  · rw [q]; exact SeqAt.EqAt.same _
  · exact SeqAt.EqAt.of_refs q (list_rc hl hb hu e)
end
section
variable {prog : Program} {w : World} {A : Around} {E : Value → Shared → Prop} {s : Shared} {vs us : List Value} {l b : Addr} {Q : Value → Shared → Prop}
theorem cmp_eq_list (hl : s.heap.IsList l vs.toArray) (hb : s.heap.IsList b us.toArray) (hu : A.units < cLine) (e : EqsAt A.in1 s vs us) (h : Q (.bool true) s) : wpAny (model prog w) A (compareOp .Eq (.ref l) (.ref b)) Q E s := list_rc hl hb hu e prog w E Q h
theorem cmp_ne_list (hl : s.heap.IsList l vs.toArray) (hb : s.heap.IsList b us.toArray) (hu : A.units < cLine) (e : EqsAt A.in1 s vs us) (h : Q (.bool false) s) : wpAny (model prog w) A (compareOp .NotEq (.ref l) (.ref b)) Q E s := by
  have k := SeqAt.RcNeAt.lists (e := fun _ => true) hl hb (by simpa using e.length) hu (fun j h1 h2 => by simpa using e.at j (by simpa using h1) (by simpa using h2))
  rw [show (!((List.range vs.toArray.size).all (fun _ => true))) = false from by simp] at k
  exact k prog w E Q h
end
theorem tup_at {h₀ h : Heap} {L l : Addr} {news : List (Addr × Obj)} {vs : List Value} {n : Nat} (N : News h₀ L h news) (hl : (l, { cls := .type "tuple", data := .seq vs.toArray n }) ∈ news) : h.IsTuple l vs.toArray := ⟨_, (N _ hl).1, rfl, _, rfl⟩
end Mine


namespace Mine
local macro_rules | `(tactic| walk_at "no key of the walk") => `(tactic| fail)
local macro_rules | `(tactic| walk_at "no key of the walk") => `(tactic| fail)
local macro_rules | `(tactic| walk_at "no key of the walk") => `(tactic| fail)
local macro_rules | `(tactic| walk_at "no key of the walk") => `(tactic| fail)
local macro_rules | `(tactic| walk_at "no key of the walk") => `(tactic| fail)
theorem fillM : PySem.Challenge.rw_dn0254_12.row.prog = PySem.Challenge.rw_dn0254_12.row.prog ∧ Mine.hd.heap_39 = Mine.hd.heap_39 := by
  w_top off
  k_fill
  exact ⟨rfl, rfl⟩
theorem rot146 {sg hd n1 n2 dpp np : Nat} {signs handed : List Value} {tab t6 : Array Value} {ep : List DictEntry} {S : List (Addr × Obj)} {h₀ h : Heap} {L : Addr} (N : News h₀ L h (ledP sg hd signs n1 handed n2 tab t6 dpp ep np S)) : News h₀ L h ((146, tabObj t6) :: (sg, W.listOf signs.toArray n1) :: (hd, W.listOf handed.toArray n2) :: (111, tabObj tab) :: (dpp, dictOf ep np) :: S) := fun p hp => N p (by
  simp only [ledP, List.mem_cons] at hp ⊢
  rcases hp with h | h | h | h | h | h <;> (first | ((repeat (first | with_reducible exact h | with_reducible exact Or.inl h | with_reducible exact Or.inl (Or.inl h) | with_reducible exact Or.inl (Or.inr h) | refine Or.inr ?_)); done) | simp [h]))
theorem eqs_ints {A : Around} {s : Shared} : ∀ {vs us : List Value} {ns : List Int}, IntsAre vs ns → IntsAre us ns → EqsAt A s vs us
  | _, _, _, .nil, .nil => .nil
  | _, _, _, .cons _ _ h, .cons _ _ k => .cons eq_int (eqs_ints h k)
theorem eqs_entH {h₀ : Heap} {L : Addr} {A : Around} {s : Shared} {rq : Nat} {T : List (Addr × Obj)} {x y : Value} {e : Int × Str × List Int} (N : News h₀ L s.heap T) (hu : A.units + 10 < cLine) (a : EntH rq T x e) (b : EntH rq T y e) : SeqAt.EqAt A s x y true := by
  obtain ⟨t, hda, nh, th, tc, tw, hv, rfl, a1, a2, a3⟩ := a
  obtain ⟨t', hda', nh', th', tc', tw', hv', rfl, b1, b2, b3⟩ := b
  refine eq_tup (vs := [_, _, _, _, _]) (us := [_, _, _, _, _]) (tup_at N a1) (tup_at N b1) (by (first | lia | omega)) ?_
  refine .cons eq_str (.cons (SeqAt.EqAt.same _) (.cons eq_int (.cons eq_str (.cons ?_ .nil))))
  exact eq_list (News.isList N a2) (News.isList N b2) (by simp only [units_in1]; (first | lia | omega)) (eqs_ints a3 b3)
theorem eqs_errsH {h₀ h : Heap} {L : Addr} {A : Around} {s : Shared} {rq : Nat} {T : List (Addr × Obj)} (N : News h₀ L h T) (hh : s.heap = h) (hu : A.units + 10 < cLine) : ∀ {vs us : List Value} {es : List (Int × Str × List Int)}, All2 (EntH rq T) vs es → All2 (EntH rq T) us es → EqsAt A s vs us
  | _, _, _, .nil, .nil => .nil
  | _, _, _, .cons a ra, .cons b rb => .cons (eqs_entH (by rw [hh]; exact N) hu a b) (eqs_errsH N hh hu ra rb)
section
variable {w : World} {E : Value → Shared → Prop} {s : Shared} {L : Addr} {h₀ : Heap} {m : Str → Option Value}
theorem eq_sameI {prog : Program} {A : Around} {x : Int} {t u : Tok} {Q : Value → Shared → Prop} (h : Q (.bool true) s) : wpAny (model prog w) A (compareOp .Eq (.int x t) (.int x u)) Q E s :=
  PyProof.Rows.eq_int (by rw [show (x == x) = true by simp]; exact h)
theorem eq_sameS {prog : Program} {A : Around} {x : Str} {t u : Tok} {Q : Value → Shared → Prop} (h : Q (.bool true) s) : wpAny (model prog w) A (compareOp .Eq (.str x t) (.str x u)) Q E s :=
  PyProof.Rows.eq_str (by rw [show (x == x) = true by simp]; exact h)
local macro_rules | `(tactic| keq_rows) => `(tactic| first | (k_unfold; (try dsimp only)) | walk1 | (dsimp only; walk1))
local macro_rules | `(tactic| k_mem) => `(tactic| with_reducible assumption)
local macro_rules | `(tactic| walk_at "compareOp Eq int int") => `(tactic| (k_here; refine eq_sameI ?_))
local macro_rules | `(tactic| walk_at "compareOp Eq str str") => `(tactic| (k_here; refine eq_sameS ?_))
local macro_rules | `(tactic| walk_at "compareOp IsNot ref ref") => `(tactic| (k_here; refine isNot_self ?_))
local macro_rules | `(tactic| walk_at "getAttr ref") => `(tactic| (k_here; k_dflt (refine' get_sym ?k1 ?k2 ?k3 ?k4 ?k5 ?k6 ?k7 ?k8 ?k9 ?ka ?kb ?_; (case k1 => k_asm); (case k2 => k_asm); (case k3 => k_asm); (case k4 => k_mem); (case k5 => k_mem); (case k6 => assumption); (case k7 => k_is); (case k8 => k_is); (case k9 => k_is); (case ka => k_is); (case kb => first | rfl | assumption); k_whole)))
local macro_rules | `(tactic| walk_at "getMethod ref") => `(tactic| (k_here; (with_reducible show wpAny _ _ (getMethod (Value.ref _) (PySem.Str.ofString "info") _) _ _ _); k_dflt (refine' method_usual (r := none) ?k1 (InstAt.of_news (by k_asm) (by k_mem) (by k_mem)) ?k4 ?k5 ?k6 ?k7 ?_; (case k1 => (refine' Frag.In.keeps ?x1 (Fr.keep ?x2); (case x2 => k_asm); (case x1 => k_asm))); (case k4 => k_is); (case k5 => k_is); (case k6 => k_is); (case k7 => rfl); k_whole)))
local macro_rules | `(tactic| walk_at "truthy ref") => `(tactic| (k_here; k_dflt (refine' truthy_led ?k1 ?k2 ?k3 ?_; (case k1 => k_asm); (case k2 => k_mem); (case k3 => assumption))))
local macro_rules | `(tactic| ktr_rel) => `(tactic| repeat' ((fail_if_success (with_reducible show wpAny _ _ (compareOp PySem.CmpOp.NotEq (Value.ref _) (Value.ref _)) _ _ _)); (fail_if_success (with_reducible show wpAny _ _ (compareOp PySem.CmpOp.Eq (Value.ref _) (Value.ref _)) _ _ _)); (fail_if_success (with_reducible show wpAny _ _ (exec (PySem.Stmt.If (PySem.Expr.BoolOp PySem.BoolOp.And _ _) _ _ _) _) _ _ _)); (fail_if_success (with_reducible show wpAny _ _ (execs (PySem.Stmt.If (PySem.Expr.BoolOp PySem.BoolOp.And _ _) _ _ _ :: _) _) _ _ _)); keq_rows))
local macro_rules | `(tactic| kwd_less) => `(tactic| repeat' ((fail_if_success (with_reducible show wpAny _ _ (compareOp PySem.CmpOp.Eq (Value.ref _) (Value.ref _)) _ _ _)); keq_rows))
theorem fin12 {p : Program} {loose : List Str} {mean : ExcName → Option Value} {mg mb : Str → Option Value} {Q : Flow → Shared → Prop} {b : List Stmt} {scope sc7 : Scope} {a : Addr} {fx : Fx12} {rq pg pg0 sc sg hd lC lE D lH dpp np n1 n2 n3 n4 nh : Nat} {ep : List DictEntry} {signs handed vs errs hv : List Value} {X1 : List Int} {X2 : List (Int × Str × List Int)} {hs : List Int} {c : Int} {wd : Str} {tc tw : Tok} {T : List (Addr × Obj)} {oc : Obj}
    (hdef : Def12 w 151 "law" b scope) (d7 : Def12 w 116 "_law_page" fx.b7 sc7) (hB : Below callerA h₀ [] h₀) (X : (Mine.hd.heap_39 w.params).In h₀) (hT : Top p loose mean mg mb h₀) (hC : CodeHd h₀ 115 111) (epn : fx.pn = (mg "__name__").getD .none)
    (F : Fr h₀ L s.heap m) (N : News h₀ L s.heap T) (nm : NmC rq pg pg0 sc lC lE D m) (m1 : m "code" = some (.int c tc)) (m2 : m "word" = some (.str wd tw)) (m3 : m "head" = some (.ref lH))
    (hcm : (L + 1, oc) ∈ T) (hcd : oc.data = .cell (some (.ref hd))) (hr : Req T rq sg) (h1 : (sg, W.listOf signs.toArray n1) ∈ T) (h2 : (hd, W.listOf handed.toArray n2) ∈ T) (h3 : (lC, W.listOf vs.toArray n3) ∈ T) (h4 : (lE, W.listOf errs.toArray n4) ∈ T) (h5 : (lH, W.listOf hv.toArray nh) ∈ T) (h6 : (dpp, dictOf ep np) ∈ T)
    (e1 : IntsAre signs X1) (e2 : IntsAre vs X1) (e3 : All2 (EntH rq T) handed X2) (e4 : All2 (EntH rq T) errs X2) (e5 : IntsAre hv hs) (hp : Pg12 fx.b7 fx.pn T pg dpp ep c wd hs) (hf : hs = [] → pg = pg0) (hhl : hs.length ≤ 1000)
    (ret : ∀ h' tk' m', Fr h₀ L h' m' → News h₀ L h' T → Q (.ret (.bool true)) { s with heap := h', toks := tk' }) :
    wpAny (model PySem.Challenge.rw_dn0254_12.row.prog w) (callerA.deeper (envOfC "law" scope L a (.ref 150))) (execs (b.drop 22) (envOfC "law" scope L a (.ref 150))) Q E s := by
  obtain ⟨oc', od, params, dV, kV, doc, pm, cdv, ct', an, osl, hbL⟩ := hdef
  k_dflt (refine' lookup_same hbL ?k6 ?_; (case k6 => k_is))
  intro hbe hse
  rw [show List.drop 22 b = _ from congrArg (List.drop 22) hbe]
  dsimp only [List.drop]
  clear hbL hbe
  subst hse
  obtain ⟨d1, d2, d3, d4, d5, d6, d7', d8⟩ := nm
  obtain ⟨fl, cf, hda, nhd, kl, ocf, okl, ctl, tc9, tw9, hv9, p1, p2, p3, p4, p5, p6, q1, q2, q3, q4, q5, q6⟩ := hp
  obtain ⟨dq, nq, eq, r1, r2, r3⟩ := hr
  obtain ⟨oc7, od7, params7, dV7, kV7, doc7, pm7, cdv7, ct7, an7, osl7, hbody7⟩ := d7
  k_dflt (refine' lookup_same hbody7 ?k6 ?_; (case k6 => k_is))
  intro hbe hse
  rw [hbe, epn] at p2
  dsimp only [lamAt, List.getElem?_cons_zero, List.getElem?_cons_succ] at p2
  clear hbody7 hbe hse
  obtain ⟨vk6, tk6, d61, d62⟩ := id p6
  have hvl : hv.length ≤ 2 ^ 20 := by have := e5.length; (first | lia | omega)
  replace F := fr_f11 F d1 d2 d3 d4 d5 d6 d7' d8 m1 m2 m3
  ktr_rel
  with_reducible rename News _ _ _ _ => N4
  refine cmp_ne_list (vs := signs) (us := vs) (News.isList N4 h1) (News.isList N4 h3) ?_ (eqs_ints e1 e2) ?_
  · exact Nat.le_of_ble_eq_true rfl
  ktr_rel
  with_reducible rename News _ _ _ _ => N5
  refine cmp_ne_list (vs := handed) (us := errs) (News.isList N5 h2) (News.isList N5 h4) ?_ ?ferr ?_
  · exact Nat.le_of_ble_eq_true rfl
  case ferr =>
    refine eqs_errsH N5 ?fheap ?_ e3 e4
    · rfl
    exact Nat.le_of_ble_eq_true rfl
  ktr_rel
  cases hv with
  | nil =>
    obtain rfl : pg = pg0 := hf (by cases e5; rfl)
    kwd_less
    with_reducible rename News _ _ _ _ => N6
    refine cmp_eq_list (vs := hv9) (us := []) (News.isList N6 p5) (News.isList N6 h5) ?_ (eqs_ints q5 e5) ?_
    · exact Nat.le_of_ble_eq_true rfl
    kwd_less
    with_reducible rename Fr h₀ _ _ _ => F8
    with_reducible rename News h₀ _ _ _ => N8
    exact ret _ _ _ F8 N8
  | cons v0 hv =>
    kwd_less
    · exact absurd ‹(v0 :: hv).isEmpty = true› (by simp)
    with_reducible rename News _ _ _ _ => N6
    refine cmp_eq_list (vs := hv9) (us := v0 :: hv) (News.isList N6 p5) (News.isList N6 h5) ?_ (eqs_ints q5 e5) ?_
    · exact Nat.le_of_ble_eq_true rfl
    kwd_less
    with_reducible rename Fr h₀ _ _ _ => F8
    with_reducible rename News h₀ _ _ _ => N8
    exact ret _ _ _ F8 N8
end
theorem rotF {h₀ h : Heap} {L : Addr} {a b c : Addr × Obj} {tl : List (Addr × Obj)} (N : News h₀ L h (a :: b :: c :: tl)) : News h₀ L h (c :: b :: a :: tl) := fun p hp => N p (by
  simp only [List.mem_cons] at hp ⊢
  rcases hp with h | h | h | h <;> (first | ((repeat (first | with_reducible exact h | with_reducible exact Or.inl h | with_reducible exact Or.inl (Or.inl h) | with_reducible exact Or.inl (Or.inr h) | refine Or.inr ?_)); done) | simp [h]))
theorem execs_eq {M : Model} {A : Around} {env : Env} {Q : Flow → Shared → Prop} {E : Value → Shared → Prop} {s : Shared} {l l' : List Stmt} (e : l = l') (h : wpAny M A (execs l' env) Q E s) : wpAny M A (execs l env) Q E s := e ▸ h
theorem PairIn.up {nw nw' : List (Addr × Obj)} {r : PR} (h : PairIn nw r) (u : ∀ p ∈ nw, p ∈ nw') : PairIn nw' r := by
  obtain ⟨a, b, c, q⟩ := h
  exact ⟨a, b, c, u _ q⟩
theorem post_true (ns : List Int) : PySem.Challenge.rw_dn0254_12.row.claim.post [ofPy (PyData.list (List.map PyData.int ns))] (.bool true) [ofPy (PyData.list (List.map PyData.int ns))] = true := by
  first | rfl | wrow_post
theorem upS12 {x : Addr} {tl2 S : List (Addr × Obj)} {a b c d e : Addr × Obj} (_w : AllLt x (tl2 ++ a :: b :: c :: d :: e :: S)) : ∀ p ∈ S, p ∈ tl2 ++ a :: b :: c :: d :: e :: S := fun _ hp => List.mem_append_right _ (.tail _ (.tail _ (.tail _ (.tail _ (.tail _ hp)))))
theorem upG12 {x : Addr} {G T : List (Addr × Obj)} {a b : Addr × Obj} (_w : AllLt x G) (h : ∀ p ∈ a :: b :: G, p ∈ T) : ∀ p ∈ G, p ∈ T := fun p hp => h p (.tail _ (.tail _ hp))
end Mine


namespace Mine
local macro_rules | `(tactic| walk_at "no key of the walk") => `(tactic| fail)
local macro_rules | `(tactic| walk_at "no key of the walk") => `(tactic| fail)
local macro_rules | `(tactic| walk_at "no key of the walk") => `(tactic| fail)
local macro_rules | `(tactic| walk_at "no key of the walk") => `(tactic| fail)
local macro_rules | `(tactic| walk_at "no key of the walk") => `(tactic| fail)
local macro_rules | `(tactic| walk_at "no key of the walk") => `(tactic| fail)
local macro_rules | `(tactic| walk_at "no key of the walk") => `(tactic| fail)
local macro_rules | `(tactic| walk_at "no key of the walk") => `(tactic| fail)
theorem fillT : PySem.Challenge.rw_dn0254_12.row.prog = PySem.Challenge.rw_dn0254_12.row.prog ∧ Mine.hd.heap_39 = Mine.hd.heap_39 := by
  k_fill
  exact ⟨rfl, rfl⟩
local macro_rules | `(tactic| keq_rows) => `(tactic| first | (k_unfold; (try dsimp only)) | walk1 | (dsimp only; walk1))
local macro_rules | `(tactic| kn_posts) => `(tactic| refine kn_post2 (by assumption) (fun _ _ => rfl) ?_)
local macro_rules | `(tactic| k_mem) => `(tactic| ((with_reducible show List.Mem _ (_ ++ _)); assumption))
local macro_rules | `(tactic| bits_by_make) => `(tactic| repeat' ((fail_if_success (with_reducible show wpAny _ _ (eval (PySem.Expr.Call _ [PySem.Expr.GeneratorExp _ _ _ _] _ _) _) _ _ _)); (fail_if_success (with_reducible show wpAny _ _ (exec (PySem.Stmt.Assign _ (PySem.Expr.Call _ [PySem.Expr.GeneratorExp _ _ _ _] _ _) _) _) _ _ _)); (fail_if_success (with_reducible show wpAny _ _ (pyIter _) _ _ _)); (fail_if_success (with_reducible show wpAny _ _ (call (Value.type "enumerate") _) _ _ _)); keq_rows))
local macro_rules | `(tactic| walk_at "exec For Tuple Call cons nil") => `(tactic| (k_here; (rename Fr _ _ _ _ => lF'); (with_unfolding_all refine' For_turns lF' ?_; k_whole)))
local macro_rules | `(tactic| kwd_less) => `(tactic| repeat' ((fail_if_success (with_reducible show wpAny _ _ (exec (PySem.Stmt.If (PySem.Expr.Compare _ _ _ _) _ _ _) _) _ _ _)); (fail_if_success (with_reducible show wpAny _ _ (execs (PySem.Stmt.If (PySem.Expr.Compare _ _ _ _) _ _ _ :: _) _) _ _ _)); (fail_if_success (with_reducible show wpAny _ _ (call (Value.ref 123) _) _ _ _)); (fail_if_success (with_reducible show wpAny _ _ (call (Value.ref 130) _) _ _ _)); (fail_if_success (with_reducible show wpAny _ _ (call (Value.ref 137) _) _ _ _)); (fail_if_success (with_reducible show wpAny _ _ (call (Value.ref 144) _) _ _ _)); (fail_if_success (with_reducible show wpAny _ _ (exec (PySem.Stmt.If (PySem.Expr.BinOp _ _ _ _) _ _ _) _) _ _ _)); (fail_if_success (with_reducible show wpAny _ _ (execs (PySem.Stmt.If (PySem.Expr.BinOp _ _ _ _) _ _ _ :: _) _) _ _ _)); keq_rows))
local macro_rules | `(tactic| tb_rel) => `(tactic| repeat' ((fail_if_success (with_reducible show wpAny _ _ (call (Value.ref 144) _) _ _ _)); (fail_if_success (with_reducible show wpAny _ _ (setAttr _ _ _) _ _ _)); (fail_if_success (with_reducible show wpAny _ _ (call (Value.builtin "list.append") _) _ _ _)); (fail_if_success (with_reducible show PostW _ _ _ _ _ _ _ _ _)); keq_rows))
local macro_rules | `(tactic| keq_hits) => `(tactic| repeat' ((fail_if_success (with_reducible show wpAny _ _ (pyIter _) _ _ _)); (fail_if_success (with_reducible show wpAny _ _ (call (Value.builtin "sum") _) _ _ _)); (fail_if_success (with_reducible show wpAny _ _ (call (Value.builtin "sorted") _) _ _ _)); (fail_if_success (with_reducible show wpAny _ _ (call (Value.ref 116) _) _ _ _)); (fail_if_success (with_reducible show wpAny _ _ (eval (PySem.Expr.GeneratorExp _ _ _ _) _) _ _ _)); keq_rows))
local macro_rules | `(tactic| ksw_less) => `(tactic| repeat' ((fail_if_success (with_reducible show And (@Eq Flow _ _) _)); (fail_if_success (with_reducible show wpAny _ _ (call (Value.ref 123) _) _ _ _)); (fail_if_success (with_reducible show wpAny _ _ (call (Value.ref 130) _) _ _ _)); (fail_if_success (with_reducible show wpAny _ _ (call (Value.ref 137) _) _ _ _)); (fail_if_success (with_reducible show wpAny _ _ (call (Value.ref 144) _) _ _ _)); (fail_if_success (with_reducible show wpAny _ _ (exec (PySem.Stmt.If (PySem.Expr.BinOp _ _ _ _) _ _ _) _) _ _ _)); (fail_if_success (with_reducible show wpAny _ _ (execs (PySem.Stmt.If (PySem.Expr.BinOp _ _ _ _) _ _ _ :: _) _) _ _ _)); keq_rows))
local macro_rules | `(tactic| walk_at "getAttr ref") => `(tactic| (k_here; (first | (with_reducible show wpAny _ _ (getAttr (Value.ref _) (PySem.Str.ofString "http_request") _) _ _ _) | (with_reducible show wpAny _ _ (getAttr (Value.ref _) (PySem.Str.ofString "http_response") _) _ _ _)); k_dflt (refine' get_sym ?k1 ?k2 ?k3 ?k4 ?k5 ?k6 ?k7 ?k8 ?k9 ?ka ?kb ?_; (case k1 => k_asm); (case k2 => k_asm); (case k3 => k_asm); (case k4 => k_mem); (case k5 => k_mem); (case k6 => assumption); (case k7 => k_is); (case k8 => k_is); (case k9 => k_is); (case ka => k_is); (case kb => first | rfl | assumption); k_whole)))
local macro_rules | `(tactic| walk_at "getMethod ref") => `(tactic| (k_here; (first | (with_reducible show wpAny _ _ (getMethod (Value.ref _) (PySem.Str.ofString "http_request") _) _ _ _) | (with_reducible show wpAny _ _ (getMethod (Value.ref _) (PySem.Str.ofString "http_response") _) _ _ _)); k_dflt (first
  | (refine' method_usual (r := none) ?k1 (InstAt.of_news (by k_asm) (by k_mem) (by k_mem)) ?k4 ?k5 ?k6 ?k7 ?_; (case k1 => (refine' Frag.In.keeps ?x1 (Fr.keep ?x2); (case x2 => k_asm); (case x1 => k_asm))); (case k4 => k_is); (case k5 => k_is); (case k6 => k_is); (case k7 => rfl); k_whole)
  | (refine' method_inst ?k1 ?k2 (InstAt.of_news (by k_asm) (by k_mem) (by k_mem)) ?k4 ?k5 ?k6 ?k7 ?_; (case k1 => k_asm); (case k2 => k_asm); (case k4 => k_is); (case k5 => k_is); (case k6 => k_is); (case k7 => assumption); k_whole))))
local macro_rules | `(tactic| walk_at "exec For Tuple Name cons nil") => `(tactic| (k_here; (rename Fr _ _ _ _ => lF'); (with_unfolding_all refine' For_turns lF' ?_; k_whole)))
local macro_rules | `(tactic| ktr_rel) => `(tactic| repeat' ((fail_if_success (with_reducible show wpAny _ _ (call (Value.builtin "hasattr") _) _ _ _)); (fail_if_success (with_reducible show wpAny _ _ (call (Value.ref _) _) _ _ _)); (fail_if_success (with_reducible show PostJ _ _ _ _ _ _ _ _ _)); keq_rows))
theorem t : PySem.Challenge.rw_dn0254_12.Holds := hd (by
  w_strict (
    k_go0
    (all_goals try k_fold)
    bits_by_make
    with_reducible rename Fr _ _ _ _ => F1
    with_reducible rename News _ _ _ _ => N1
    with_reducible rename Top topProg _ _ _ _ _ => hTop
    with_reducible rename Below _ _ _ _ => hB
    with_reducible rename IntsAre _ (List.take _ _) => hI
    with_reducible rename Frag.In _ _ => hX
    with_reducible rename CodeHd _ (129, 125).1 _ => hC1
    with_reducible rename CodeHd _ (122, 118).1 _ => hC2
    with_reducible rename CodeHd _ (115, 111).1 _ => hC3
    with_reducible rename CodeHd _ (150, 146).1 _ => hC4
    dsimp only at hC1 hC2 hC3 hC4
    with_reducible rename World => w1
    k_dflt (refine' with_def (w := w1) (f := 123) (name := "_law_signer") ?k6 ?_; (case k6 => k_is))
    intro bS scS dS
    k_dflt (refine' with_def (w := w1) (f := 130) (name := "_law_cookies") ?k6 ?_; (case k6 => k_is))
    intro bC scC dC
    k_dflt (refine' with_def (w := w1) (f := 116) (name := "_law_page") ?k6 ?_; (case k6 => k_is))
    intro b7 sc7 d7
    k_dflt (refine' with_def (w := w1) (f := 151) (name := "law") ?k6 ?_; (case k6 => k_is))
    intro bL scL dL
    have hlen := hI.length
    obtain ⟨ocL, odL, paramsL, dVL, kVL, docL, pmL, cdvL, ctL, anL, oslL, hbodyL⟩ := id dL
    k_dflt (refine' lookup_same hbodyL ?k6 ?_; (case k6 => k_is))
    intro hbe hse
    refine start12 (bS := bS) (bC := bC) (b7 := b7) (bL := bL) (pn := pnOf hTop) (ns := nsOf hI) N1 ?shf ?sht ?scc ?scd ?sge ?soo ?skk
    case shf => exact ⟨_, _, by rw [hbe]; rfl⟩
    case sht => rfl
    case scc => exact ⟨_, _, by assumption, by assumption⟩
    case scd => assumption
    case sge => rfl
    case soo => (first | lia | omega)
    case skk =>
      subst hse
      clear hbodyL hbe
      intro tl0 fx q t6 sc e6 esc eS eC e7 eL epn eo eq N2 hop hscr hD hcl J0
      subst esc eS eC e7 eL
      have hlen := hI.length
      have hDm : ∀ {p : Addr × Obj}, p ∈ tl0 → p ∈ ledM q [] 0 #[] #[] t6 tl0 := fun hp => .tail _ (.tail _ (.tail _ (.tail _ (.tail _ (.tail _ hp)))))
      refine iter_enumT (LoopM fx q (nsOf hI) sc t6 tl0) rfl (News.isList N2 (hDm hscr)) (N2 _ (hDm hscr)).2.1 F1 N2 (J0 _ rfl rfl rfl) ?lTurn ?lDone
      case lTurn =>
        --[mturn
        intro I i v m₁ nw h tk own T t hv hJ hoI hown hI1 hI2 hltI hlI F3 N3 hT
        obtain ⟨m1, m2, m3, xs, t1, t2, nn, tl, rfl, sub, off, tG, tC, hst⟩ := hJ
        obtain ⟨n, tn, rfl, hk⟩ := IntsAre.at hI i v hv
        replace F3 := fr_f3 F3 m1 m2 m3
        clear F1 N1 N2 J0 hDm
        simp only [ledM, List.cons_append] at N3
        kwd_less
        with_reducible rename Fr _ _ _ _ => F4
        with_reducible rename News _ _ _ _ => N4
        dsimp only
        refine cutM F4 fx q n i tl own ((List.range i).map fun k => Value.ref (xs k)) nn t6 ?tMid ?tTail
        case tMid =>
          --[tmid
          have hI146 : 146 < I := hltI _ (.tail _ (.tail _ (.tail _ (.tail _ (.tail _ (.head _))))))
          ksw_less
          · with_reducible rename Fr _ _ _ _ => F5
            with_reducible rename News _ _ _ _ => N5
            with_reducible rename Int.fmod n 4 = 0 => hk0
            k_dflt (refine added12 (dp := callerA.depth + 1) hB F5 hX N5 hTop rfl rfl ?ad1 ?ad2 ?_)
            case ad1 => decide
            case ad2 => decide
            intro h6 tk6 u6 F6 N6
            clear F5 N5
            ksw_less
            with_reducible rename Fr _ _ _ _ => F7
            with_reducible rename News _ _ _ _ => N7
            k_dflt (refine sign12 (dp := callerA.depth + 1) (r := tl) dS hB F7 hX (rotS N7) (offS off hown hI146 hD) hTop hC2 rfl rfl ?sg1 ?sg2 tG ?_)
            case sg1 => decide
            case sg2 => decide
            intro h8 tk8 x8 d8 nx8 cf8 es8 ad8 tab8 F8 N8 T8 S8 o8 l8 al8 hi8 lo8
            clear F7 N7
            ksw_less
            with_reducible rename Fr _ _ _ _ => F9
            with_reducible rename News _ _ _ _ => N9
            exact ⟨rfl, _, _, _, _, rfl, F9, ledN_sign N9, _, _, _, _, _, _, _, _, _, rfl, rfl, midM_sign hk0 epn S8 o8 l8 T8 tC al8 hi8 lo8⟩
          · with_reducible rename Fr _ _ _ _ => F5
            with_reducible rename News _ _ _ _ => N5
            with_reducible rename Int.fmod n 4 = 1 => hk1
            with_reducible rename _ < _ ∧ _ < _ ∧ _ < _ ∧ _ < _ ∧ _ < _ ∧ _ < _ ∧ AllLt _ _ => lo1
            exact ⟨rfl, _, _, _, _, rfl, F5, ledN_new N5, _, _, _, _, _, _, _, _, _, rfl, rfl, midM_new (.inr (.inl ⟨hk1, rfl, rfl, rfl, rfl⟩)) rfl (Nat.le_of_ble_eq_true rfl) tG tC lo1 (by assumption)⟩
          · with_reducible rename Fr _ _ _ _ => F5
            with_reducible rename News _ _ _ _ => N5
            with_reducible rename Int.fmod n 4 = 2 => hk2
            k_dflt (refine cook12 (dp := callerA.depth + 1) (r := tl) dC hB F5 hX (rotC N5) (offC off hown hI146 hD) hTop hC1 rfl rfl ?ck1 ?ck2 tC ?_)
            case ck1 => decide
            case ck2 => decide
            intro h8 tk8 x8 d8 nx8 cf8 es8 ad8 tab8 F8 N8 T8 S8 o8 l8 al8 hi8 lo8
            clear F5 N5
            ksw_less
            with_reducible rename Fr _ _ _ _ => F9
            with_reducible rename News _ _ _ _ => N9
            exact ⟨rfl, _, _, _, _, rfl, F9, ledN_cook N9, _, _, _, _, _, _, _, _, _, rfl, rfl, midM_cook hk2 epn S8 o8 l8 T8 tG al8 hi8 lo8⟩
          · with_reducible rename Fr _ _ _ _ => F5
            with_reducible rename News _ _ _ _ => N5
            have hk3 : n.fmod 4 = 3 := by
              have h1 := Int.fmod_nonneg_of_pos n (show (0 : Int) < 4 by decide)
              have h2 := Int.fmod_lt_of_pos n (show (0 : Int) < 4 by decide)
              (first | lia | omega)
            with_reducible rename _ < _ ∧ _ < _ ∧ _ < _ ∧ _ < _ ∧ _ < _ ∧ _ < _ ∧ AllLt _ _ => lo1
            exact ⟨rfl, _, _, _, _, rfl, F5, ledN_new N5, _, _, _, _, _, _, _, _, _, rfl, rfl, midM_new (.inr (.inr (.inr ⟨hk3, rfl, rfl, rfl⟩))) rfl (Nat.zero_le _) tG tC lo1 (by assumption)⟩
          --]tmid
        case tTail =>
          --[ttail
          have hI146 : 146 < I := hltI _ (.tail _ (.tail _ (.tail _ (.tail _ (.tail _ (.head _))))))
          have hIst : q.st < I := hltI _ (.head _)
          clear F4 N4
          intro h6 tk6 x d nx C cf es ad t1' t2' M F6 N6
          have hn : (nsOf hI).getD i 0 = n := by rw [List.getD_eq_getElem?_getD, hk]; rfl
          have hz : ((List.range i).map fun k => Value.ref (xs k)).length ≤ 2 ^ 20 := by
            have h1 := (List.getElem?_eq_some_iff.mp hv).1
            rw [hlen, List.length_take] at h1
            rw [List.length_map, List.length_range]
            (first | lia | omega)
          tb_rel
          · with_reducible rename Int.fmod (Int.fdiv n 4) 2 ≠ 0 => hm
            with_reducible rename Fr _ _ _ _ => F6
            with_reducible rename News _ _ _ _ => N6
            k_dflt (refine order12 (dp := callerA.depth + 1) hB F6 hX N6 hTop rfl rfl ?or1 ?or2 ?_)
            case or1 => decide
            case or2 => decide
            intro h7 tk7 u7 F7 N7
            clear F6 N6
            tb_rel
            with_reducible rename Fr _ _ _ _ => F8
            refine set_ord12 (M.kd.cls.imp And.left And.left) F8 hX N7 M.offd M.ho M.le ?_
            intro h9 tk9 es9 n9 g9 o9 F9 N9
            clear F8 N7
            tb_rel
            with_reducible rename Fr _ _ _ _ => F10
            refine app12 F10 N9 hz M off hown hIst hD ?_
            intro h11 F11 N11
            clear F10 N9
            tb_rel
            dsimp only [PostW]
            with_reducible rename Fr _ _ _ _ => F12
            exact endM F12 N11 hoI hI1 hI2 rfl rfl rfl sub off hst M hn (M.kd.oth o9) (ord_own (M.kd.oth o9) g9)
          · with_reducible rename Int.fmod (Int.fdiv n 4) 2 = 0 => hm
            with_reducible rename Fr _ _ _ _ => F10
            refine app12 F10 N6 hz M off hown hIst hD ?_
            intro h11 F11 N11
            clear F10 N6
            tb_rel
            dsimp only [PostW]
            with_reducible rename Fr _ _ _ _ => F12
            exact endM F12 N11 hoI hI1 hI2 rfl rfl rfl sub off hst M hn M.kd (ord_cls M.kd hm M.ho)
          --]ttail
        --]mturn
      case lDone =>
        intro m₁ nw h tk hJ F3 N3
        obtain ⟨m1, m2, m3, xs, t1, t2, nn, tl, rfl, sub, off, tG, tC, hst⟩ := hJ
        replace F3 := fr_f3 F3 m1 m2 m3
        clear F1 N1 N2 J0 hDm
        simp only [ledM] at N3
        replace hscr := sub _ hscr
        dsimp only
        keq_hits
        with_reducible rename Fr _ _ _ _ => F4
        with_reducible rename News _ _ _ _ => N4
        refine sum_led rfl F4 N4 (.tail _ (.tail _ (.tail _ (.tail _ (.tail _ (.tail _ hscr)))))) hI ?_
        intro h5 tk5 csum tsum F5 N5
        clear F4 N4
        keq_hits
        with_reducible rename Fr _ _ _ _ => F6
        with_reducible rename News _ _ _ _ => N6
        with_reducible rename _ < _ ∧ _ < _ ∧ _ < _ ∧ _ < _ ∧ _ < _ ∧ _ < _ ∧ _ < _ ∧ _ < _ ∧ _ < _ ∧ AllLt _ tl => b1
        with_reducible rename _ < _ ∧ _ < _ ∧ _ < _ ∧ _ < _ ∧ _ < _ ∧ _ < _ ∧ _ < _ ∧ _ < _ ∧ AllLt _ tl => b2
        with_reducible rename _ < _ ∧ _ < _ ∧ _ < _ ∧ _ < _ ∧ _ < _ ∧ _ < _ ∧ AllLt _ tl => b3
        k_dflt (refine page12 (dp := callerA.depth + 1) (r := [(_, W.listOf #[] 0)]) (nh := 0) (hv := []) d7 hB F6 hX hTop rfl rfl hC3 ?pg1 ?pg2 (rot111 N6) ?pgo (.inl rfl) (.head _) .nil ?_)
        case pg1 => decide
        case pg2 => decide
        case pgo => exact off111 off (by (first | lia | omega)) hD
        intro h7 tk7 pg dpp np cf ep ad tab F7 N7 TP PG al7 hi7 lo7
        clear F6 N6
        refine start2 N7 al7 hi7 lo7 TP PG rfl off hst (by rw [epn]; exact hop.mono sub) hscr hD (by (first | lia | omega)) b3.2.2.2.2.2.2 ?_
        intro S N8 P2 TP2 PG2 offp hdp hSt h118 h125
        clear N7 al7 hi7 TP PG
        keq_hits
        with_reducible rename Fr _ _ _ _ => F9
        with_reducible rename News _ _ _ _ => N9
        replace N9 := fun p hp => N9 p (.tail _ hp)
        have hw : (wsOf hI).length ≤ 32 := by rw [show (wsOf hI).length = _ from hlen, List.length_take]; (first | lia | omega)
        k_dflt (refine sorted_list_by (b := false) (vs := (List.range (wsOf hI).length).map fun k => Value.ref (xs k)) (os := fun i => ordr ((nsOf hI).getD i 0)) (args_sorted1 _) (fun _ => args_list_sort _) revTree_nil F9 N9 (News.isList N9 (.tail _ (.tail _ (.tail _ (.tail _ (.tail _ P2.stl)))))) ?sln (kind12 fun i hi => hdv_up (P2.stg i hi).hd fun p hp => .tail _ (.tail _ (.tail _ (.tail _ (.tail _ hp))))) ?sask ?sdn)
        case sln => rw [List.length_map, List.length_range]; (first | lia | omega)
        case sask =>
          k_dflt (exact ask12 hB hX hTop rfl (Nat.le_of_ble_eq_true rfl) (Nat.le_of_ble_eq_true rfl) fun i hi => hdv_up (P2.stg i hi).hd fun p hp => .tail _ (.tail _ (.tail _ (.tail _ (.tail _ hp)))))
        case sdn =>
          intro h10 tk10 lr cr p hp hs F10 N10 hlt10
          rw [List.length_map, List.length_range] at hp
          rw [perm_map hp] at N10
          clear F9 N9
          dsimp only
          have hlg : _ < lr := hlt10 _ (.head _)
          have hlh : q.hd < lr := hlt10 _ (.tail _ (.head _))
          have hl1 : 111 < lr := hlt10 _ (.tail _ (.tail _ (.head _)))
          have hl6 : 146 < lr := hlt10 _ (.tail _ (.tail _ (.tail _ (.head _))))
          have hld : dpp < lr := hlt10 _ (.tail _ (.tail _ (.tail _ (.tail _ (.head _)))))
          replace N10 := rotP N10
          replace P2 := P2.mono (S' := (lr, W.listOf (p.map fun i => Value.ref (xs i)).toArray cr) :: S) (fun p hp => .tail _ hp) (off_lr (dpp := dpp) P2.off hlg hlh hl1 hl6)
          replace TP2 := TP2.mono (tl' := (lr, W.listOf (p.map fun i => Value.ref (xs i)).toArray cr) :: S) (fun p hp => .tail _ hp)
          replace PG2 := PG2.mono (tl' := (lr, W.listOf (p.map fun i => Value.ref (xs i)).toArray cr) :: S) (fun p hp => .tail _ hp)
          replace offp := off_one (o := W.listOf (p.map fun i => Value.ref (xs i)).toArray cr) offp hld
          have hSt2 : ∀ x ∈ tl, x ∈ (lr, W.listOf (p.map fun i => Value.ref (xs i)).toArray cr) :: S := fun x hx => .tail _ (hSt x hx)
          have h118' := List.mem_cons_of_mem (lr, W.listOf (p.map fun i => Value.ref (xs i)).toArray cr) h118
          have h125' := List.mem_cons_of_mem (lr, W.listOf (p.map fun i => Value.ref (xs i)).toArray cr) h125
          have hlrm : (lr, W.listOf (p.map fun i => Value.ref (xs i)).toArray cr) ∈ (lr, W.listOf (p.map fun i => Value.ref (xs i)).toArray cr) :: S := .head _
          generalize hS2 : (lr, W.listOf (p.map fun i => Value.ref (xs i)).toArray cr) :: S = S2 at N10 P2 TP2 PG2 offp hSt2 h118' h125' hlrm
          clear hSt h118 h125 hlt10 hS2
          have hpw : ∀ k ∈ p, k < (wsOf hI).length := fun k hk => List.mem_range.mp (hp.mem_iff.mp hk)
          have hpn : p.length ≤ 32 := by rw [hp.length_eq, List.length_range]; exact hw
          keq_hits
          with_reducible rename Fr _ _ _ _ => F11
          with_reducible rename News _ _ _ _ => N11
          obtain ⟨ocM, odM, paramsM, dVM, kVM, docM, pmM, cdvM, ctM, anM, oslM, hbodyM⟩ := id dL
          k_dflt (refine' lookup_same hbodyM ?k6 ?_; (case k6 => k_is))
          intro hbM hsM
          refine loopA12 dL ?lAb dS dC hB hX hTop hC3 epn F11 N11 P2 hlrm hpw hpn hlg hdp.1 rfl rfl rfl rfl rfl rfl rfl ?lAd
          case lAb => rw [hbM]; rfl
          case lAd =>
            intro m2 signs n1 h12 tk12 tA a1 a2 a3 a4 a5 a6 a7 F12 N12 hsg
            replace F12 := fr_f7 F12 a1 a2 a3 a4 a5 a6 a7
            clear F11 N11
            dsimp only
            keq_hits
            with_reducible rename Fr _ _ _ _ => F13
            with_reducible rename News _ _ _ _ => N13
            with_reducible rename IntsAre signs _ => hsg
            refine loopB12 (sc7 := sc7) dL ?lBb dS dC d7 rfl hB hX hTop hC3 epn F13 N13 P2 hlrm hpw hpn hlg ⟨fun _ h => h, P2.off, offp, hdp, TP2, by rw [epn]; exact PG2, hsg, .nil, fun _ => rfl⟩ rfl rfl rfl rfl rfl rfl ?lBd
            case lBb => rw [hbM]; rfl
            case lBd =>
              intro m3 h14 tk14 tB b1 b2 b3 b4 b5 F14 pg2 dpp2 ep2 np2 tab2 signs2 handed2 n12 n22 S3 b6 N14 B2
              replace F14 := fr_f6 F14 b1 b2 b3 b4 b5 b6
              clear F13 N13
              dsimp only
              bits_by_make
              iterate 1 keq_rows
              with_reducible rename Fr _ _ _ _ => F15
              with_reducible rename News _ _ _ _ => N15
              rw [e6] at N15
              with_reducible rename IntsAre _ (List.take _ _) => hI
              have hne := P2.ne
              have hB2lo := B2.lo
              refine pairs12 dL ?pPe hB hX hTop hC4 F15 (rot146 N15) (off_1 (off_c (neN (by dsimp only; (first | lia | omega))) (off_c (neN (by dsimp only; (first | lia | omega))) (off_c (neN (by dsimp only; (first | lia | omega))) (off_c (neN (by dsimp only; (first | lia | omega))) fun p hp => B2.off p hp _ (.tail _ (.tail _ (.tail _ (.head _))))))))) hI (.tail _ (.tail _ (.tail _ (.tail _ (B2.sub _ P2.scr))))) (bare_nil (by assumption)) hw hp hs ?pPs rfl ?pPr
              case pPe => rw [hbM]; rfl
              case pPs => rw [hideAll_size]; (first | lia | omega)
              case pPr =>
                intro s9 D c9 R tl2 t6' F16 bare os16 N16 hR hks
                obtain ⟨h9, g9, d9, t9, o9⟩ := s9
                dsimp only at F16 bare os16 N16
                clear F15 N15
                keq_hits
                with_reducible rename Fr _ _ _ _ => F17
                with_reducible rename News _ _ _ _ => N17
                with_reducible rename IntsAre _ (List.take _ _) => hI
                with_reducible rename _ < _ ∧ _ < _ ∧ _ < _ ∧ AllLt _ (tl2 ++ _) => w3
                with_reducible rename _ < _ ∧ _ < _ ∧ AllLt _ (tl2 ++ _) => w2
                with_reducible rename _ < _ ∧ AllLt _ (tl2 ++ _) => w1
                have upS := upS12 w1.2
                refine loopC12 dL ?cCb ?cCt hB hX hTop hC3 F17 (rotF N17) hI ⟨fun r hr => (hR r hr).up fun x hx => .tail _ (.tail _ (.tail _ (List.mem_append_left _ hx))), hks, .tail _ (.tail _ (.tail _ (upS _ (B2.sub _ P2.scr)))), hpw⟩ (.tail _ (.tail _ (.head _))) hpn hw (off_1 (off_c (Nat.ne_of_gt w2.1) (off_c (Nat.ne_of_gt w3.2.1) (off_c (Nat.ne_of_lt w1.1) fun x hx => Nat.ne_of_lt (tb_ltOf w1.2 x hx))))) ⟨rfl, rfl, rfl, rfl, rfl, rfl, rfl, rfl⟩ rfl rfl rfl ?cCd
                case cCb => rw [hbM]; rfl
                case cCt => rw [hbM]; rfl
                case cCd =>
                  intro m4 vs4 n14 h18 tk18 tc1 tc2 nm4 c1 c2 c3 F18 N18 hvs
                  obtain ⟨x1, x2, x3, x4, x5, x6, x7, x8⟩ := nm4
                  replace F18 := fr_f11 F18 x1 x2 x3 x4 x5 x6 x7 x8 c1 c2 c3
                  clear F17 N17
                  dsimp only
                  keq_hits
                  with_reducible rename Fr _ _ _ _ => F19
                  with_reducible rename News _ _ _ _ => N19
                  with_reducible rename IntsAre vs4 _ => hvs
                  with_reducible rename IntsAre _ (List.take _ _) => hI
                  refine loopD12 dL ?dDb ?dDt hB hX hTop hC3 F19 N19 hI ⟨fun r hr => (hR r hr).up fun x hx => .tail _ (.tail _ (List.mem_append_left _ hx)), hks, .tail _ (.tail _ (upS _ (B2.sub _ P2.scr))), hpw⟩ (.tail _ (.head _)) hpn hw (Nat.ne_of_lt w2.1) ⟨rfl, rfl, rfl, rfl, rfl, rfl, rfl, rfl⟩ rfl rfl rfl ⟨fun _ h => h, off_2 (off_c (Nat.ne_of_gt w3.2.1) (off_c (Nat.ne_of_lt w1.1) fun x hx => Nat.ne_of_lt (tb_ltOf w1.2 x hx))) (off_c (Nat.ne_of_gt w3.1) (off_c (Nat.ne_of_lt w2.2.1) fun x hx => Nat.ne_of_lt (tb_ltOf w2.2.2 x hx))), hvs, .nil, [], 0, .head _, .nil⟩ ?dDd
                  case dDb => rw [hbM]; rfl
                  case dDt => rw [hbM]; rfl
                  case dDd =>
                    intro m5 lH5 vs5 errs5 n15 n25 T5 h20 tk20 td1 td2 nm5 g1 g2 g3 F20 N20 SD
                    obtain ⟨hv5, nh5, hh5, hi5⟩ := SD.head
                    obtain ⟨ocl, hcl1, hcl2⟩ := hcl
                    have upT : ∀ x ∈ S3, x ∈ T5 := fun x hx => SD.sub _ (.tail _ (.tail _ (upS x hx)))
                    have upG := upG12 w1.2 SD.sub
                    have hrl := run_len (ns := nsOf hI) p ⟨50 + csum.fmod 400, "w", [], sig12 (nsOf hI) p, []⟩
                    dsimp only
                    refine execs_eq (l' := List.drop 22 fx.bL) (by rw [hbM]; rfl) ?_
                    refine fin12 (sc7 := sc7) dL d7 hB hX hTop hC3 epn F20 N20 nm5 g1 g2 g3 (.tail _ (.tail _ (upT _ (B2.sub _ (hSt2 _ (sub _ hcl1)))))) hcl2 (P2.req.mono fun x hx => .tail _ (.tail _ (upT _ (B2.sub _ hx)))) (.tail _ (.tail _ (upG _ (List.mem_append_right _ (.tail _ (.head _)))))) (.tail _ (.tail _ (upG _ (List.mem_append_right _ (.tail _ (.tail _ (.head _))))))) (.head _) (.tail _ (.head _)) (.tail _ (.tail _ hh5)) (.tail _ (.tail _ (upG _ (List.mem_append_right _ (.tail _ (.tail _ (.tail _ (.tail _ (.head _))))))))) B2.sigs SD.sigs (B2.errs.mono fun _ _ r => r.mono fun x hx => .tail _ (.tail _ (upT x hx))) (SD.errs.mono fun _ _ r => r.mono fun x hx => .tail _ (.tail _ hx)) hi5 (B2.page.mono fun x hx => .tail _ (.tail _ (upT x hx))) B2.fst ?fhl ?fret
                    case fhl =>
                      refine Nat.le_trans hrl.2.1 ?_
                      dsimp only [List.length_nil]
                      (first | lia | omega)
                    case fret =>
                      intro h21 tk21 m6 F21 N21
                      subst os16
                      dsimp only
                      refine ⟨⟨?gw, GrownAt.of N21 (.tail _ (.tail _ (upT _ (B2.sub _ h125')))), GrownAt.of N21 (.tail _ (.tail _ (upT _ (B2.sub _ h118')))), GrownAt.of N21 (.tail _ (.tail _ (upG _ (List.mem_append_right _ (.tail _ (.tail _ (.tail _ (.head _)))))))), GrownAt.of N21 (.tail _ (.tail _ (upG _ (List.mem_append_right _ (.head _))))), trivial⟩, bare⟩
                      refine goodW_bool F21 rfl (raisesW_false ?_) ?_
                      · wrow_none_raised
                      · exact post_true _))
end Mine


theorem PySem.Challenge.cw_dn0254_12_holds : PySem.Challenge.rw_dn0254_12.Holds :=
  Mine.t
