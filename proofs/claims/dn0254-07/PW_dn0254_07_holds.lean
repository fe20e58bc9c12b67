import PyProof.Rows.All
import Wide.All
import OpenK.AllK
import Wide.FinOn
import PyProof.AttrMissHeap
import KE.KTryDeepN
import PySem.Challenge.RW_dn0254_07
open PySem PySem.W PyProof.Rows PySem.Calls
set_option Elab.async false
set_option maxRecDepth 100000
set_option rowWalk.seconds 0
set_option compiler.extract_closed false
set_option genInjectivity false
namespace Mine
set_option maxHeartbeats 8000000
open_top hd for PySem.Challenge.rw_dn0254_07
end Mine
set_option maxHeartbeats 8000000

namespace Mine
section
variable {prog : Program} {w : World} {A : Around} {E : Value → Shared → Prop} {s : Shared} {K : Frag} {x C L f : Addr} {h₀ : Heap} {m : Str → Option Value} {ox : Obj} {od : Option Obj}
end

/-! loops by an invariant over the frame's names and the ledger -/
section
variable {prog : Program} {w : World} {A : Around} {E : Value → Shared → Prop} {s : Shared} {env : Env} {h₀ : Heap} {x : Str} {body : List Stmt} {Q : Flow → Shared → Prop}
def EndJ (h₀ : Heap) (L : Addr) (J : (Str → Option Value) → List (Addr × Obj) → Prop) (own : List (Addr × Obj)) (I : Addr) (s₁ s₂ : Shared) : Prop :=
  ∃ h' tk m' news', s₂ = { s₁ with heap := h', toks := tk } ∧ Fr h₀ L h' m' ∧ News h₀ L h' (news' ++ own) ∧ (∀ p ∈ news', p.1 ≠ I) ∧ J m' news'
def PostJ (h₀ : Heap) (L : Addr) (J : (Str → Option Value) → List (Addr × Obj) → Prop) (own : List (Addr × Obj)) (I : Addr) (s₁ : Shared) (Q : Flow → Shared → Prop) (f : Flow) (s₂ : Shared) : Prop :=
  match f with
  | .ret v => Q (.ret v) s₂
  | .brk => Q .next s₂
  | _ => EndJ h₀ L J own I s₁ s₂
end

/-! a name put into a dict's entries -/
theorem isStr_two {k : Value} {a b : Str} (h : k.isStr a = true) (hne : b ≠ a) : k.isStr b = false := by
  cases k with
  | str x t =>
    have e : x = a := by simpa [Value.isStr] using h
    subst e
    simp only [Value.isStr]
    exact beq_false_of_ne (fun q => hne q.symm)
  | _ => cases h
theorem find_put_same (name : Str) (hsh : Int) (t : Tok) (v : Value) : ∀ es : List DictEntry, ((putL name hsh (.str name t) v es).find? (·.key.isStr name)).map (·.val) = some v
  | [] => by simp [putL, Value.isStr]
  | e :: r => by
    unfold putL
    split
    · rename_i h; simp [h]
    · rename_i h
      rw [List.find?_cons_of_neg (p := fun x : DictEntry => x.key.isStr name) h]
      exact find_put_same name hsh t v r
theorem find_put_other {name nm : Str} (hne : nm ≠ name) (hsh : Int) (t : Tok) (v : Value) : ∀ es : List DictEntry, (putL name hsh (.str name t) v es).find? (·.key.isStr nm) = es.find? (·.key.isStr nm)
  | [] => by
    unfold putL
    have : (name == nm) = false := beq_false_of_ne fun q => hne q.symm
    simp [Value.isStr, this]
  | e :: r => by
    unfold putL
    split
    · rename_i h
      have h2 := isStr_two h hne
      rw [List.find?_cons_of_neg (by simp [h2]), List.find?_cons_of_neg (by simp [h2])]
    · rename_i h
      rw [List.find?_cons, List.find?_cons, find_put_other hne hsh t v r]
theorem refKey_put (name : Str) (hsh : Int) (t : Tok) (v : Value) : ∀ es : List DictEntry, (putL name hsh (.str name t) v es).any (·.refKey) = es.any (·.refKey)
  | [] => by simp [putL]; rfl
  | e :: r => by
    unfold putL
    split
    · rfl
    · rw [List.any_cons, List.any_cons, refKey_put name hsh t v r]
theorem getL_put_same (name : Str) (hsh : Int) (t : Tok) (v : Value) (es : List DictEntry) : getL name (putL name hsh (.str name t) v es) = some (some v) := by
  have h := find_put_same name hsh t v es
  unfold getL
  cases q : (putL name hsh (.str name t) v es).find? (·.key.isStr name) with
  | none => rw [q] at h; cases h
  | some e => rw [q] at h; simp at h; simp [h]
theorem getL_put_other {name nm : Str} (hne : nm ≠ name) (hsh : Int) (t : Tok) (v : Value) (es : List DictEntry) : getL nm (putL name hsh (.str name t) v es) = getL nm es := by
  unfold getL
  rw [find_put_other hne, refKey_put]
theorem put_len (name : Str) (hsh : Int) (t : Tok) (v : Value) : ∀ es : List DictEntry, (putL name hsh (.str name t) v es).length = if (es.find? (·.key.isStr name)).isSome then es.length else es.length + 1
  | [] => by simp [putL]
  | e :: r => by
    unfold putL
    split
    · rename_i h; simp [h]
    · rename_i h
      rw [List.length_cons, put_len name hsh t v r, List.find?_cons_of_neg (p := fun x : DictEntry => x.key.isStr name) h]
      split <;> simp
/-- the ledger without one address -/
def off (d : Addr) (news : List (Addr × Obj)) : List (Addr × Obj) := news.filter fun p => p.1 != d
theorem news_sub {h₀ h : Heap} {L : Addr} {news news' : List (Addr × Obj)} (N : News h₀ L h news) (hs : ∀ p ∈ news', p ∈ news) : News h₀ L h news' := fun p hp => N p (hs p hp)
theorem fill1 {m : Str → Option Value} {k : Str} {v : Value} (h : m k = some v) (y : Str) : (if y = k then some v else m y) = m y := by
  split
  · rename_i e; rw [e, h]
  · rfl
section
variable {M : Model} {A : Around} {E : Value → Shared → Prop} {s : Shared} {h₀ : Heap} {L a b : Addr} {oa ob : Obj} {news : List (Addr × Obj)} {Q : Value → Shared → Prop}
end

section
variable {prog : Program} {w : World} {A : Around} {E : Value → Shared → Prop} {s : Shared} {h₀ : Heap} {L : Addr} {news : List (Addr × Obj)}
end

/-! lists of the ledger -/
section
variable {prog : Program} {w : World} {A : Around} {E : Value → Shared → Prop} {s : Shared} {h₀ : Heap} {L D : Addr} {m : Str → Option Value} {news news' : List (Addr × Obj)} {vs : List Value} {v : Value} {n : Nat}
theorem lineBig : 2 ^ 20 ≤ sizeLine := by decide
theorem append_led {Q : Value → Shared → Prop} (F : Fr h₀ L s.heap m) (N : News h₀ L s.heap news) (hz : vs.length ≤ 2 ^ 20) (U : Upd D (W.listOf vs.toArray n) (W.listOf (vs ++ [v]).toArray (n + 1)) news news')
    (h : ∀ h', Fr h₀ L h' m → News h₀ L h' news' → Q .none { s with heap := h' }) : wpAny (model prog w) A (call (.builtin "list.append") [.ref D, v]) Q E s :=
  append_K (its := vs.toArray) F N (by rw [List.push_toArray]; exact U) h (by rw [List.size_toArray]; exact Nat.le_trans hz lineBig)
end
theorem seq_cut {M : Model} {A : Around} {E : Value → Shared → Prop} {s : Shared} {env : Env} {st : Stmt} {rest : List Stmt} {Q : Flow → Shared → Prop} (I : Shared → Prop) (h1 : wpAny M A (exec st env) (fun f s' => f = .next ∧ I s') E s) (h2 : ∀ s', I s' → wpAny M A (execs rest env) Q E s') :
    wpAny M A (execs (st :: rest) env) Q E s := wpAny_execs_cons (wpAny_mono h1 (fun f s' h => by obtain ⟨rfl, hi⟩ := h; exact h2 s' hi) fun _ _ e => e)
end Mine


namespace Mine
section
variable {prog : Program} {w : World} {A : Around} {E : Value → Shared → Prop} {s : Shared} {K : Frag} {x C L f : Addr} {h₀ : Heap} {m : Str → Option Value} {ox : Obj} {od : Option Obj}
/-- a written class's name is short -/
def nameIn (K : Frag) (C : Addr) : Bool := (clsIn K C).any fun cd => decide (cd.name.cps.foldl (fun k c => k + (Str.utf8Of c).length) 0 ≤ 50) && decide (cd.name.toString.length ≤ 100)
end
end Mine


namespace Mine
theorem fr_f11 {h₀ h : Heap} {L : Addr} {m : Str → Option Value} {k1 k2 k3 k4 k5 k6 k7 k8 k9 k10 k11 : Str} {v1 v2 v3 v4 v5 v6 v7 v8 v9 v10 v11 : Value} (F : Fr h₀ L h m) (e1 : m k1 = some v1) (e2 : m k2 = some v2) (e3 : m k3 = some v3) (e4 : m k4 = some v4) (e5 : m k5 = some v5) (e6 : m k6 = some v6) (e7 : m k7 = some v7) (e8 : m k8 = some v8) (e9 : m k9 = some v9) (e10 : m k10 = some v10) (e11 : m k11 = some v11) : Fr h₀ L h (fun y => if y = k1 then some v1 else if y = k2 then some v2 else if y = k3 then some v3 else if y = k4 then some v4 else if y = k5 then some v5 else if y = k6 then some v6 else if y = k7 then some v7 else if y = k8 then some v8 else if y = k9 then some v9 else if y = k10 then some v10 else if y = k11 then some v11 else m y) := by
  rw [show (fun y => if y = k1 then some v1 else if y = k2 then some v2 else if y = k3 then some v3 else if y = k4 then some v4 else if y = k5 then some v5 else if y = k6 then some v6 else if y = k7 then some v7 else if y = k8 then some v8 else if y = k9 then some v9 else if y = k10 then some v10 else if y = k11 then some v11 else m y) = m from funext fun y => by simp only [fill1 e1, fill1 e2, fill1 e3, fill1 e4, fill1 e5, fill1 e6, fill1 e7, fill1 e8, fill1 e9, fill1 e10, fill1 e11]]; exact F
theorem fr_f13 {h₀ h : Heap} {L : Addr} {m : Str → Option Value} {k1 k2 k3 k4 k5 k6 k7 k8 k9 k10 k11 k12 k13 : Str} {v1 v2 v3 v4 v5 v6 v7 v8 v9 v10 v11 v12 v13 : Value} (F : Fr h₀ L h m) (e1 : m k1 = some v1) (e2 : m k2 = some v2) (e3 : m k3 = some v3) (e4 : m k4 = some v4) (e5 : m k5 = some v5) (e6 : m k6 = some v6) (e7 : m k7 = some v7) (e8 : m k8 = some v8) (e9 : m k9 = some v9) (e10 : m k10 = some v10) (e11 : m k11 = some v11) (e12 : m k12 = some v12) (e13 : m k13 = some v13) : Fr h₀ L h (fun y => if y = k1 then some v1 else if y = k2 then some v2 else if y = k3 then some v3 else if y = k4 then some v4 else if y = k5 then some v5 else if y = k6 then some v6 else if y = k7 then some v7 else if y = k8 then some v8 else if y = k9 then some v9 else if y = k10 then some v10 else if y = k11 then some v11 else if y = k12 then some v12 else if y = k13 then some v13 else m y) := by
  rw [show (fun y => if y = k1 then some v1 else if y = k2 then some v2 else if y = k3 then some v3 else if y = k4 then some v4 else if y = k5 then some v5 else if y = k6 then some v6 else if y = k7 then some v7 else if y = k8 then some v8 else if y = k9 then some v9 else if y = k10 then some v10 else if y = k11 then some v11 else if y = k12 then some v12 else if y = k13 then some v13 else m y) = m from funext fun y => by simp only [fill1 e1, fill1 e2, fill1 e3, fill1 e4, fill1 e5, fill1 e6, fill1 e7, fill1 e8, fill1 e9, fill1 e10, fill1 e11, fill1 e12, fill1 e13]]; exact F
end Mine


namespace Mine
theorem item_tup5 {prog : Program} {w : World} {A : Around} {E : Value → Shared → Prop} {s : Shared} {h₀ : Heap} {L : Addr} {news : List (Addr × Obj)} {value slice : PySem.Expr} {D : Addr} {v0 v1 v2 v3 v4 : Value} {n : Nat} {k : Int} {u : Tok} {Q : Value → Shared → Prop} (N : News h₀ L s.heap news)
    (hm : (D, { cls := .type "tuple", data := .seq #[v0, v1, v2, v3, v4] n }) ∈ news) (lo : 0 ≤ k) (hi : k < 5) (h0 : k = 0 → Q v0 s) (h1 : k = 1 → Q v1 s) (h2 : k = 2 → Q v2 s) (h3 : k = 3 → Q v3 s) (h4 : k = 4 → Q v4 s)
    (hs : subscripted slice false (.ref D) (.int k u) = operate [.ref D, .int k u] (getItem (.ref D) (.int k u)) := by with_unfolding_all rfl) :
    wpAny (model prog w) A (subscriptTail value slice (.ref D) (.int k u)) Q E s := by
  have hT : IsTup s.heap D ([v0, v1, v2, v3, v4] : List Value).toArray := ⟨_, (N _ hm).1, rfl, _, rfl⟩
  have e : k = 0 ∨ k = 1 ∨ k = 2 ∨ k = 3 ∨ k = 4 := by omega
  rcases e with rfl | rfl | rfl | rfl | rfl
  · exact item_tupleT (j := 0) hT (by decide) (by decide) rfl rfl (h0 rfl) hs
  · exact item_tupleT (j := 1) hT (by decide) (by decide) rfl rfl (h1 rfl) hs
  · exact item_tupleT (j := 2) hT (by decide) (by decide) rfl rfl (h2 rfl) hs
  · exact item_tupleT (j := 3) hT (by decide) (by decide) rfl rfl (h3 rfl) hs
  · exact item_tupleT (j := 4) hT (by decide) (by decide) rfl rfl (h4 rfl) hs
end Mine


namespace Mine
/-! a generator expression over enumerate of a list, its element pure -/
section
variable {prog : Program} {w : World} {A : Around} {E : Value → Shared → Prop} {s : Shared} {h₁ h₀ : Heap} {c P L l : Addr} {ps : Array Value} {m : Str → Option Value} {env : Env} {elt : PySem.Expr} {scope : Scope} {cl : List (Str × Addr)} {xa xb : Str} {pos : Pos} {Q : Value → Shared → Prop} {vs : List Value}
theorem bare_nil {g : Array GenState} (h : g = #[]) : AllBare g := by subst h; exact AllBare.empty
end
end Mine


namespace Mine
/-! a generator expression where the code's table is laid aside (the law makes lambdas too) -/
theorem regrown_self {h₀ : Heap} {P : Addr} {ps : Array Value} (hP : P < h₀.objs.size) : (regrown h₀ P ps).get? P = some (tabObj ps) := by
  obtain ⟨objs, l⟩ := h₀
  show Heap.get? ⟨objs.modify P _, l⟩ P = _
  unfold Heap.get?
  have hs : P < (objs.modify P fun _ => tabObj ps).size := by simpa using hP
  show (match (objs.modify P fun _ => tabObj ps)[P]? with | some ⟨_, _, .freed, _⟩ => none | o => o) = _
  rw [Array.getElem?_eq_getElem hs, Array.getElem_modify_self]
theorem regrown_ne {h₀ : Heap} {P b : Addr} {ps : Array Value} (hb : b ≠ P) : (regrown h₀ P ps).get? b = h₀.get? b := Heap.get?_update_other _ _ (Ne.symm hb)
theorem regrown_size {h₀ : Heap} {P : Addr} {ps : Array Value} : (regrown h₀ P ps).objs.size = h₀.objs.size := (Heap.SameBut.update h₀ P _).1
section
variable {prog : Program} {w : World} {A : Around} {E : Value → Shared → Prop} {s : Shared} {h₀ h : Heap} {c P L : Addr} {ps ps' : Array Value} {m mg mb : Str → Option Value} {news : List (Addr × Obj)} {p : Program} {loose : List Str} {mean : ExcName → Option Value}
theorem ghost_up (F : Fr h₀ L h m) (N : News h₀ L h news) (hm : (P, tabObj ps) ∈ news) (hP : P < h₀.objs.size) : Fr (regrown h₀ P ps) L h m := by
  refine ⟨F.ns, fun b o e => ?_, by rw [regrown_size]; exact F.above⟩
  by_cases hb : b = P
  · subst hb
    rw [regrown_self hP] at e
    exact (Option.some.inj e) ▸ (N _ hm).1
  · rw [regrown_ne hb] at e
    exact F.keep b o e
theorem ghost_down (hn : h₀.get? P = none) (F : Fr (regrown (regrown h₀ P ps) P ps') L h m) : Fr h₀ L h m := by
  refine ⟨F.ns, fun b o e => ?_, by have := F.above; rw [regrown_size, regrown_size] at this; exact this⟩
  have hb : b ≠ P := fun q => by rw [q, hn] at e; cases e
  exact F.keep b o (by rw [regrown_ne hb, regrown_ne hb]; exact e)
theorem ghost_tab (hP : P < h₀.objs.size) (F : Fr (regrown (regrown h₀ P ps) P ps') L h m) : h.get? P = some (tabObj ps') :=
  F.keep _ _ (regrown_self (by rw [regrown_size]; exact hP))
theorem ghost_based (C : CodeHd h₀ c P) (T : Top p loose mean mg mb h₀) (hn : h₀.get? P = none) (hP : P < h₀.objs.size) (ht : TriplesOk ps.toList) : Based (regrown h₀ P ps) (regrown h₀ P ps) c P ps := by
  have hk : ∀ b o, h₀.get? b = some o → (regrown h₀ P ps).get? b = some o := fun b o e => by
    rw [regrown_ne (fun q => by rw [q, hn] at e; cases e)]; exact e
  have C' := C.keeps hk
  refine .start (C'.code (regrown_self hP) ht) (C'.tab (regrown_self hP)) fun q => ?_
  obtain ⟨mc, ⟨o, es, ep, e, _⟩, _⟩ := T.nolimit
  rw [q] at hn
  have e' : h₀.get? cStatics = some o := e
  rw [hn] at e'
  cases e'
end
/-- the end of a law that makes defs or lambdas and runs generators -/
def GoodV (cw : ClaimW) (cl : Str → Option Addr) (mean : ExcName → Option Value) (args : List WData) (s₁ : Shared) (tabs : List (Addr × Addr)) (r : Result) (s' : Shared) : Prop :=
  (GoodW cw cl mean args s₁ r { s' with gens := #[] } ∧ GrownAll tabs s'.heap) ∧ AllBare s'.gens
theorem kn_post2 {M : Model} {A : Around} {cd : Code} {s s₁ : Shared} {cw : ClaimW} {cl : Str → Option Addr} {mean : ExcName → Option Value} {args : List WData} {tabs : List (Addr × Addr)} (hT : TabsAt tabs s₁.heap) (hr : ∀ a x, cw.raises a x = false)
    (h : codeAny M A cd (GoodV cw cl mean args { s₁ with heap := ghostOf s₁.heap tabs } tabs) s) : codeAny M A cd (GoodWG cw cl mean args s₁) s :=
  codeAny_mono h fun r s' ⟨⟨⟨hc, hk, hos, _⟩, hgr⟩, hb⟩ => by
    have keep : ∀ b o, b ∉ tabs.map (·.2) → s₁.heap.get? b = some o → s'.heap.get? b = some o := fun b o hb e => hk b o (ghost_ne e hb)
    have grown : ∀ b o, b ∈ tabs.map (·.2) → s₁.heap.get? b = some o → isCodeTable s₁.heap b ∧ o = tabObj #[] ∧ ∃ ps, s'.heap.get? b = some (tabObj ps) := fun b o hb e => by
      obtain ⟨q, hq, rfl⟩ := List.mem_map.mp hb
      have e2 := (hT q hq).2
      rw [e] at e2
      exact ⟨((hT q hq).1.tab (hT q hq).2).isCodeTable, Option.some.inj e2, hgr.get q hq⟩
    refine ⟨?_, ⟨fun b o e => ?_, fun b o e => ?_⟩, hos, hb⟩
    · rcases hc with ⟨v, d, as, r1, r2, r3, r4, r5⟩ | ⟨e, ob, x, _, _, _, r4, _⟩
      · refine .inl ⟨v, d, as, r1, r2, r3, r4, fun q => ⟨(r5 q).1, fun a ha => ?_⟩⟩
        cases q1 : s₁.heap.get? a with
        | none => rfl
        | some o =>
          by_cases hb : a ∈ tabs.map (·.2)
          · obtain ⟨_, _, ps, hP⟩ := grown a o hb q1
            exact absurd ha (readsW_apart hP rfl r3)
          · have e3 := (r5 q).2 a ha
            rw [show (ghostOf s₁.heap tabs).get? a = some o from ghost_ne q1 hb] at e3
            cases e3
      · rw [hr] at r4; cases r4
    · by_cases hb : b ∈ tabs.map (·.2)
      · obtain ⟨ht, rfl, ps, hP⟩ := grown b o hb e
        exact .inr (.inl ⟨ht, rfl, #[], ps, rfl, by rw [Array.empty_append]; exact hP⟩)
      · exact .inl (keep b o hb e)
    · by_cases hb : b ∈ tabs.map (·.2)
      · obtain ⟨_, _, ps, hP⟩ := grown b o hb e
        exact ⟨_, hP⟩
      · exact ⟨o, keep b o hb e⟩
end Mine


namespace Mine
/-! a generator expression over a list whose element may make things and write one object Pt; the heap keeps J -/
def KeptJ (C a : Addr) (Pt : Addr → Prop) (I : Addr) (h h' : Heap) : Prop := ∀ b o, (b < C ∨ b = a) → ¬ Pt b → b ≠ I → h.get? b = some o → h'.get? b = some o
theorem KeptJ.refl {C a I : Addr} {Pt : Addr → Prop} {h : Heap} : KeptJ C a Pt I h h := fun _ _ _ _ _ e => e
theorem KeptJ.trans {C a I : Addr} {Pt : Addr → Prop} {h h' h'' : Heap} (x : KeptJ C a Pt I h h') (y : KeptJ C a Pt I h' h'') : KeptJ C a Pt I h h'' := fun b o h1 h2 h3 e => y b o h1 h2 h3 (x b o h1 h2 h3 e)
def SinceJ (C a : Addr) (Pt : Addr → Prop) (I : Addr) (J : Heap → Prop) (s₀ s : Shared) : Prop := ∃ h' tk, s = { s₀ with heap := h', toks := tk } ∧ KeptJ C a Pt I s₀.heap h' ∧ J h'
def protoJ (C a : Addr) (Pt : Addr → Prop) (I : Addr) (J : Heap → Prop) : Protocol := fun _ s₀ v s kap =>
  v = .bool true ∧ SinceJ C a Pt I J s₀ s ∧ ∀ s'' : Shared, (∀ b o, s.heap.get? b = some o → s''.heap.get? b = some o) → kap (.send .none) s''
def endJ (C a : Addr) (Pt : Addr → Prop) (I : Addr) (J : Heap → Prop) : GenEnd := fun n s₀ r s₁ => r = .ok .next ∧ (n = 0 ∧ SinceJ C a Pt I J s₀ s₁)
/-- what an element does -/
def EltJ (prog : Program) (w : World) (AE : Around) (cenv : Env) (x : Str) (elt : PySem.Expr) (vs : List Value) (C a : Addr) (Pt : Addr → Prop) (I : Addr) (J : Heap → Prop) (href : Heap) : Prop :=
  ∀ E' (i : Nat) v (s₂ : Shared) m₂, vs[i]? = some v → s₂.heap.Ns C m₂ → m₂ x = some v → KeptJ C a Pt I href s₂.heap → J s₂.heap →
    wpAny (model prog w) AE (eval elt cenv) (fun y s₃ => y = .bool true ∧ ∃ h tk, s₃ = { s₂ with heap := h, toks := tk } ∧ (∀ b o, (b < C ∨ b = a) → ¬ Pt b → s₂.heap.get? b = some o → h.get? b = some o) ∧ h.Ns C m₂ ∧ J h) E' s₂
section
variable {prog : Program} {w : World} {A : Around} {C a I l : Addr} {Pt : Addr → Prop} {J : Heap → Prop} {vs : List Value}
abbrev loopC (elt iter : PySem.Expr) (x : Str) (px : Pos) (scope : Scope) (pos : Pos) (I : Addr) (cenv : Env) : Code := .compLoop (.GeneratorExp elt [⟨.Name x px, iter, [], 0⟩] scope pos) 0 (.ref I) .none cenv
theorem seg_J {elt iter : PySem.Expr} {x : Str} {px : Pos} {scope : Scope} {pos : Pos} {cenv : Env} (hh : A.handled = none) (hIl : I ≠ l) (href : Heap)
    (hx : cenv.kindOf x = some .local) (hp : (cenv.scope.kind == .class || (cenv.scope.kind == .module && cenv.locals != cenv.globals)) = false) (hco : cenv.scope.isCoroutine = false) (hC : cenv.locals = C)
    (hCI : C ≠ I) (hCl : C ≠ l) (haC : a ≠ C) (haI : a ≠ I) (hlC : l < C) (hIC : I < C) (hlP : ¬ Pt l) (hIP : ¬ Pt I)
    (hJ : ∀ h h', J h → (∀ b o, b ≠ C → b ≠ I → h.get? b = some o → h'.get? b = some o) → J h')
    (hq : EltJ prog w (A.over (loopC elt iter x px scope pos I cenv) []) cenv x elt vs C a Pt I J href) :
    ∀ (k i : Nat) (s₀ s : Shared) (m : Str → Option Value), vs.length - i = k → i ≤ vs.length → (s.heap.IsListIter I l i ∧ s.heap.IsList l vs.toArray) → s.heap.Ns C m → SinceJ C a Pt I J s₀ s → KeptJ C a Pt I href s.heap →
      Seg (model prog w) A (endJ C a Pt I J) (protoJ C a Pt I J) (vs.length - i) s₀ (loopC elt iter x px scope pos I cenv) ((model prog w).den (loopC elt iter x px scope pos I cenv)) [] s := by
  have W₀ : ∀ A' : Around, A'.handled = none → Walks prog w A' I [I, l] [I] vs.length (fun i v => vs[i]? = some v) (fun i h => h.IsListIter I l i ∧ h.IsList l vs.toArray) := fun A' hA => by
    have W := Walks.list (prog := prog) (w := w) hA I l hIl.symm vs.toArray
    have hlen : vs.toArray.size = vs.length := by simp
    rw [hlen] at W
    simpa using W
  have hh' : (A.over (loopC elt iter x px scope pos I cenv) []).handled = none := hh
  subst hC
  intro k
  induction k with
  | zero =>
    intro i s₀ s m hk hi hst hn hsince hkp
    have hin : i = vs.length := by omega
    subst hin
    show Seg _ A _ _ _ s₀ _ ((compTurn (.GeneratorExp elt [⟨.Name x px, iter, [], 0⟩] scope pos) 0 (.ref I) .none cenv).onRaise (leaving cenv)) [] s
    rw [compTurn_gen, Sem.onRaise_eq_wrap]
    refine seg_bind_wrap (wpAny_standAt ?_)
    refine seg_bind_wrap ((W₀ _ hh').done s _ _ hst fun h' tk hk' => ?_)
    obtain ⟨h₁, tk₁, rfl, hk₁, hj₁⟩ := hsince
    refine seg_end (.ok .next) ⟨rfl, by omega, h', tk, rfl, hk₁.trans fun b o _ _ hb e => hk' b o (fun q => hb (List.mem_singleton.mp q)) e, hJ _ _ hj₁ fun b o _ hb e => hk' b o (fun q => hb (List.mem_singleton.mp q)) e⟩
  | succ k ih =>
    intro i s₀ s m hk hi hst hn hsince hkp
    have hlt : i < vs.length := by omega
    show Seg _ A _ _ _ s₀ _ ((compTurn (.GeneratorExp elt [⟨.Name x px, iter, [], 0⟩] scope pos) 0 (.ref I) .none cenv).onRaise (leaving cenv)) [] s
    rw [compTurn_gen, Sem.onRaise_eq_wrap]
    refine seg_bind_wrap (wpAny_standAt ?_)
    refine seg_bind_wrap ((W₀ _ hh').item i s _ _ hlt hst fun v h₁ tk₁ hPv hst₁ hk₁ => ?_)
    refine seg_bind_wrap (wpAny_of_eq (rfl : letOwnedTupleGo (.Name x px) (.ref I) v = pure ()) ?_)
    refine seg_bind_wrap (wpAny_assign_Name (wpAny_storeName_local hx (hn.at' fun o e => hk₁ _ o (fun q => hCI (List.mem_singleton.mp q)) e) (fun h₂ hn₂ hs₂ => ?_) hp))
    have up₂ : ∀ b o, b ≠ cenv.locals → b ≠ I → s.heap.get? b = some o → h₂.get? b = some o := fun b o hbC hbw e => hs₂.extBut b o hbC (hk₁ b o (fun q => hbw (List.mem_singleton.mp q)) e)
    have hst₂ : h₂.IsListIter I l (i + 1) ∧ h₂.IsList l vs.toArray := (W₀ A hh).frame _ _ _ hst₁ fun b hb o e => hs₂.extBut b o (fun h => by
      rcases List.mem_cons.mp hb with q | q
      · exact hCI (h.symm.trans q)
      · exact hCl (h.symm.trans (List.mem_singleton.mp q))) e
    have hkp₂ : KeptJ cenv.locals a Pt I href h₂ := fun b o h1 h2 h3 e => up₂ b o (fun q => by rcases h1 with h1 | h1 <;> subst q; (· exact Nat.lt_irrefl _ h1); (· exact haC h1.symm)) h3 (hkp b o h1 h2 h3 e)
    obtain ⟨h₀', tk₀, rfl, hk₀, hj₀⟩ := hsince
    have hj₂ : J h₂ := hJ _ _ hj₀ up₂
    refine seg_bind_wrap (wpAny_pure ?_)
    simp only [if_true]
    have hy : ∀ v, yieldOut cenv v = yieldValue v := fun v => by simp only [yieldOut, hco, Bool.false_eq_true, if_false]
    simp only [hy]
    rw [Sem.bind_eq_wrap', Sem.bind_eq_wrap', Sem.wrap_wrap, Sem.wrap_wrap]
    have hlen : vs.length - i = (vs.length - (i + 1)) + 1 := by omega
    rw [hlen]
    refine seg_wrap (wpAny_mono (hq _ i v _ _ hPv hn₂ (by simp) hkp₂ hj₂) (fun y s₄ h₄ => ?_) fun _ _ e => e)
    obtain ⟨hFy, h₄, tk₄, rfl, hk₄, hn₄, hj₄⟩ := h₄
    refine seg_at (seg_yield rfl rfl rfl ⟨hFy, ⟨h₄, tk₄, rfl, fun b o h1 h2 h3 e => hk₄ b o h1 h2 (up₂ b o (fun q => by rcases h1 with h1 | h1 <;> subst q; (· exact Nat.lt_irrefl _ h1); (· exact haC h1.symm)) h3 (hk₀ b o h1 h2 h3 e)), hj₄⟩, fun s'' hal => ?_⟩)
    have hst₄ : h₄.IsListIter I l (i + 1) ∧ h₄.IsList l vs.toArray := (W₀ A hh).frame _ _ _ hst₂ fun b hb o e => hk₄ b o (by
      rcases List.mem_cons.mp hb with q | q
      · exact .inl (q ▸ hIC)
      · exact .inl ((List.mem_singleton.mp q) ▸ hlC)) (by
      rcases List.mem_cons.mp hb with q | q
      · exact q ▸ hIP
      · exact (List.mem_singleton.mp q) ▸ hlP) e
    refine seg_again rfl (ih (i + 1) s'' s'' _ (by omega) hlt ((W₀ A hh).frame _ _ _ hst₄ fun b _ o e => hal b o e) (hn₄.at' fun o e => hal _ o e) ⟨s''.heap, s''.toks, rfl, .refl, hJ _ _ hj₄ fun b o _ _ e => hal b o e⟩ ?_)
    exact fun b o h1 h2 h3 e => hal b o (hk₄ b o h1 h2 (hkp₂ b o h1 h2 h3 e))
/-- the addresses lie apart -/
structure ApartJ (C a : Addr) (Pt : Addr → Prop) (I l : Addr) : Prop where
  il : I ≠ l
  ac : C < a
  lc : l < C
  ic : I < C
  lp : ¬ Pt l
  ip : ¬ Pt I
  pc : ∀ b, Pt b → b < C
structure FrameJ (cenv : Env) (x : Str) (C : Addr) : Prop where
  x : cenv.kindOf x = some .local
  p : (cenv.scope.kind == .class || (cenv.scope.kind == .module && cenv.locals != cenv.globals)) = false
  co : cenv.scope.isCoroutine = false
  c : cenv.locals = C
theorem seg_J0 {elt iter : PySem.Expr} {x : Str} {px : Pos} {scope : Scope} {pos : Pos} {cenv : Env} (hh : A.handled = none) (ap : ApartJ C a Pt I l) (fr : FrameJ cenv x C) (href : Heap)
    (hJ : ∀ h h', J h → (∀ b o, b ≠ C → b ≠ I → h.get? b = some o → h'.get? b = some o) → J h')
    (hq : EltJ prog w (A.over (loopC elt iter x px scope pos I cenv) []) cenv x elt vs C a Pt I J href)
    (s₀ s : Shared) (m : Str → Option Value) (hst : s.heap.IsListIter I l 0 ∧ s.heap.IsList l vs.toArray) (hn : s.heap.Ns C m) (hs : SinceJ C a Pt I J s₀ s) (hkp : KeptJ C a Pt I href s.heap) :
    Seg (model prog w) A (endJ C a Pt I J) (protoJ C a Pt I J) vs.length s₀ (.compStart (.GeneratorExp elt [⟨.Name x px, iter, [], 0⟩] scope pos) 0 (.ref I) .none cenv)
      ((model prog w).den (.compStart (.GeneratorExp elt [⟨.Name x px, iter, [], 0⟩] scope pos) 0 (.ref I) .none cenv)) [] s := by
  have hh' : (A.over (.compStart (.GeneratorExp elt [⟨.Name x px, iter, [], 0⟩] scope pos) 0 (.ref I) .none cenv) []).handled = none := hh
  have loop := seg_J (iter := iter) (px := px) (scope := scope) (pos := pos) hh ap.il href fr.x fr.p fr.co fr.c (Nat.ne_of_gt ap.ic) (Nat.ne_of_gt ap.lc) (Nat.ne_of_gt ap.ac) (Nat.ne_of_gt (Nat.lt_trans ap.ic ap.ac)) ap.lc ap.ic ap.lp ap.ip hJ hq vs.length 0 s₀ s m (Nat.sub_zero _) (Nat.zero_le _) hst hn hs hkp
  have W := Walks.list (prog := prog) (w := w) hh' I l ap.il.symm vs.toArray
  show Seg _ A _ _ _ s₀ _ ((compStart (.GeneratorExp elt [⟨.Name x px, iter, [], 0⟩] scope pos) 0 (.ref I) .none cenv).onRaise (leaving cenv)) [] s
  unfold compStart
  rw [Sem.onRaise_eq_wrap]
  show Seg _ A _ _ _ s₀ _ ((ask >>= _).wrap _ _ _ _) [] s
  refine seg_bind_wrap (wpAny_askSetting ?_)
  split
  · exact seg_again rfl loop
  · first
      | exact seg_bind_wrap (wpAny_rule (seg_bind_wrap (wpAny_standAt (seg_bind_wrap (W.self 0 s _ _ hst (seg_again rfl loop))))))
      | (refine seg_bind_wrap (wpAny_rule ?_); show Seg _ A _ _ _ s₀ _ ((standAt iter.pos >>= _).wrap _ _ _ _) [] s; exact seg_bind_wrap (wpAny_standAt (seg_bind_wrap (W.self 0 s _ _ hst (seg_again rfl loop)))))
/-- such a generator, j elements taken -/
def GenJ (prog : Program) (w : World) (A : Around) (C a : Addr) (Pt : Addr → Prop) (I : Addr) (J : Heap → Prop) (n g j : Nat) (s : Shared) : Prop :=
  s.heap.IsGen a g ∧ s.heap.NoLimit ∧ J s.heap ∧ ∃ gs, s.gens[g]? = some gs ∧ ∀ s'' : Shared, (∀ b o, s.heap.get? b = some o → s''.heap.get? b = some o) →
    gs.Goes (model prog w) A.in1 (endJ C a Pt I J) (protoJ C a Pt I J) (n - j) (.send .none) s''
def MovedJ (C a : Addr) (Pt : Addr → Prop) (I : Addr) (J : Heap → Prop) (s s' : Shared) : Prop := KeptJ C a Pt I s.heap s'.heap ∧ J s'.heap ∧ (AllBare s.gens → AllBare s'.gens) ∧ s'.os = s.os
theorem MovedJ.trans {s s' s'' : Shared} (x : MovedJ C a Pt I J s s') (y : MovedJ C a Pt I J s' s'') : MovedJ C a Pt I J s s'' := ⟨x.1.trans y.1, y.2.1, fun b => y.2.2.1 (x.2.2.1 b), y.2.2.2.trans x.2.2.2⟩
theorem bare_set {s s₁ : Shared} {g : Nat} {gs gs' : GenState} (hgs : s.gens[g]? = some gs) (hb : gs'.bare = true) (e : s₁.gens = (s.setGen g .running).gens) : AllBare s.gens → AllBare (s₁.setGen g gs').gens := fun b => by
  have h1 : (s₁.setGen g gs').gens = ((s.setGen g .running).setGen g gs').gens := by
    unfold Shared.setGen at e ⊢
    simp only at e ⊢
    rw [e]
  rw [h1]
  exact GenOnlyQ.bare (GenOnlyQ.of ((GenOnly.setGen s g .running).trans (GenOnly.setGen _ g gs')) (setGen_self (gs := .running) (setGen_self hgs)) hb) b
theorem next_J {n g j : Nat} {s : Shared} {Q : Option Value → Shared → Prop} {E : Value → Shared → Prop} (hh : A.handled = none) (hroom : A.depth < recursionLimit) (ap : ApartJ C a Pt I l) (hcs : cStatics < C) (hcP : ¬ Pt cStatics) (hcI : cStatics ≠ I) (hj : j < n) (st : GenJ prog w A C a Pt I J n g j s)
    (hQ : ∀ s', GenJ prog w A C a Pt I J n g (j + 1) s' → MovedJ C a Pt I J s s' → Q (some (.bool true)) s') : wpAny (model prog w) A (pyNext (.ref a)) Q E s := by
  obtain ⟨hg, hl, hj₀, gs, hgs, hgo⟩ := st
  obtain ⟨m, hm⟩ : ∃ m, n - j = m + 1 := ⟨n - j - 1, by omega⟩
  rw [hm] at hgo
  refine wpAny_pyNext_genexpQ (P := fun n s₀ s₁ => n = 0 ∧ SinceJ C a Pt I J s₀ s₁) hh hl hroom hg hgs (hgo _ fun _ _ e => e) (fun v s₁ gs' hb hv => ?_) (fun s₁ hp h' hk => ?_)
  · obtain ⟨rfl, ⟨h₁, tk₁, rfl, hk₁, hj₁⟩, hkap⟩ := hv
    have hac : a < C ∨ a = a := .inr rfl
    have haP : ¬ Pt a := fun z => Nat.lt_irrefl _ (Nat.lt_trans (ap.pc _ z) ap.ac)
    have haI : a ≠ I := Nat.ne_of_gt (Nat.lt_trans ap.ic ap.ac)
    refine hQ _ ⟨let ⟨o, nm, qn, ho, r⟩ := hg; ⟨o, nm, qn, hk₁ a o hac haP haI ho, r⟩, (let ⟨mc, hns, hnn⟩ := hl; ⟨mc, hns.at' fun o e => hk₁ cStatics o (.inl hcs) hcP hcI e, hnn⟩), hj₁, gs', setGen_self (gs := .running) (setGen_self hgs), fun s'' hal => ?_⟩ ⟨hk₁, hj₁, bare_set hgs hb rfl, rfl⟩
    have e : n - (j + 1) = m := by omega
    rw [e]
    exact hkap s'' hal
  · exact absurd hp.1 (Nat.succ_ne_zero m)
theorem done_J {n g : Nat} {s : Shared} {Q : Option Value → Shared → Prop} {E : Value → Shared → Prop} (hh : A.handled = none) (hroom : A.depth < recursionLimit) (hJk : ∀ h h', J h → (∀ b o, h.get? b = some o → h'.get? b = some o) → J h') (st : GenJ prog w A C a Pt I J n g n s)
    (hQ : ∀ s', MovedJ C a Pt I J s s' → Q none s') : wpAny (model prog w) A (pyNext (.ref a)) Q E s := by
  obtain ⟨hg, hl, hj₀, gs, hgs, hgo⟩ := st
  rw [Nat.sub_self] at hgo
  refine wpAny_pyNext_genexpQ (P := fun n s₀ s₁ => n = 0 ∧ SinceJ C a Pt I J s₀ s₁) hh hl hroom hg hgs (hgo _ fun _ _ e => e) (fun v s₁ gs' hb hv => ?_) (fun s₁ hp h' hk => ?_)
  · obtain ⟨_, _, hkap⟩ := hv
    exact False.elim (hkap s₁ fun _ _ e => e)
  · obtain ⟨_, h₁, tk₁, rfl, hk₁, hj₁⟩ := hp
    exact hQ _ ⟨fun b o h1 h2 h3 e => hk b o (hk₁ b o h1 h2 h3 e), hJk _ _ hj₁ fun b o e => hk b o e, bare_set (gs' := .finished) hgs rfl rfl, rfl⟩
theorem allLoop_J {n g : Nat} {R : Result → Shared → Prop} (hh : A.handled = none) (hroom : A.in1.depth < recursionLimit) (ap : ApartJ C a Pt I l) (hcs : cStatics < C) (hcP : ¬ Pt cStatics) (hcI : cStatics ≠ I) (hJk : ∀ h h', J h → (∀ b o, h.get? b = some o → h'.get? b = some o) → J h') :
    ∀ (k j : Nat) (s : Shared), n - j = k → j ≤ n → GenJ prog w A.in1 C a Pt I J n g j s → (∀ s', MovedJ C a Pt I J s s' → R (.ok (.ret (.bool true))) s') → codeAny (model prog w) A (.builtin "all.loop" ⟨[.ref a], []⟩) R s := by
  intro k
  induction k with
  | zero =>
    intro j s hk hj hst hR
    have e : j = n := by omega
    subst e
    refine codeAny_builtin F.entry_all_loop ?_
    rw [Around.under_plainId F.plain_all_loop _]
    show wpAny _ A.in1 (pyNext (.ref a) >>= _) _ _ s
    refine wpAny_bind (done_J (A := A.in1) hh hroom hJk hst fun s' hm => ?_)
    exact wpAny_bind (wpAny_rule (wpAny_pure (hR s' hm)))
  | succ k ih =>
    intro j s hk hj hst hR
    refine codeAny_builtin F.entry_all_loop ?_
    rw [Around.under_plainId F.plain_all_loop _]
    show wpAny _ A.in1 (pyNext (.ref a) >>= _) _ _ s
    refine wpAny_bind (next_J (A := A.in1) hh hroom ap hcs hcP hcI (by omega) hst fun s' hst' hm => ?_)
    refine wpAny_bind (wpAny_holding (wpAny_truthy_bool ?_))
    refine wpAny_bind (wpAny_letGo ?_)
    rw [if_pos rfl]
    exact wpAny_pure ⟨plainId_quiet F.plain_all_loop _, ih (j + 1) s' (by omega) (by omega) hst' fun s'' hm' => hR s'' (hm.trans hm')⟩
theorem call_all_J {n g : Nat} {s : Shared} {Q : Value → Shared → Prop} {E : Value → Shared → Prop} (hh : A.handled = none) (hroom : A.in1.depth < recursionLimit) (ap : ApartJ C a Pt I l) (hcs : cStatics < C) (hcP : ¬ Pt cStatics) (hcI : cStatics ≠ I) (hJk : ∀ h h', J h → (∀ b o, h.get? b = some o → h'.get? b = some o) → J h')
    (st : GenJ prog w A.in1 C a Pt I J n g 0 s) (hQ : ∀ s', MovedJ C a Pt I J s s' → Q (.bool true) s') : wpAny (model prog w) A (call (.builtin "all") [.ref a]) Q E s := by
  refine call_function_tree F.kind_all F.plain_all F.entry_all (F.args_all1 _) ?_
  unfold Builtin.«all»
  refine wpAny_bind (m := oneArg "all" _) (wpAny_pure ?_)
  refine wpAny_bind (wpAny_pyIter_gen st.1 ?_)
  exact wpAny_pure ⟨plainId_quiet F.plain_all_loop _, allLoop_J hh hroom ap hcs hcP hcI hJk n 0 s (Nat.sub_zero _) (Nat.zero_le _) st fun s' hm => hQ s' hm⟩
theorem gen_J {h₁ h₀ : Heap} {c P L : Addr} {ps : Array Value} {m mg : Str → Option Value} {bm : Addr} {ob : Obj} {s : Shared} {E : Value → Shared → Prop} {env : Env} {elt iter : PySem.Expr} {x : Str} {px : Pos} {scope : Scope} {cl : List (Str × Addr)} {pos : Pos} {Q : Value → Shared → Prop}
    (B : Based h₁ h₀ c P ps) (M : BMod h₀ env.globals mg bm ob) (hcode : env.code = .ref c) (hnf : codeAmong pos ps.toList = none)
    (hh : A.handled = none) (hco : scope.isCoroutine = false) (hclos : closureFor scope env = pure cl) (hcell : ∀ y ∈ scope.names, y.2 ≠ .cell) (h0 : scope.names.lookup (".0" : Str) = some NameKind.local)
    (hx : scope.names.lookup x = some .local) (hkind : scope.kind = .function) (hroom : A.depth < recursionLimit)
    (h : wpAny (model prog w) A (eval iter env) (fun xv s₁ => ∃ l vs, xv = .ref l ∧ s₁.heap.IsList l vs.toArray ∧ Fr h₀ L s₁.heap m ∧ s₁.heap.NoLimit ∧
      ∀ (c' C : Addr) (h₄ h₅ : Heap) (tk : Nat) (gs : GenState), gs.bare = true → h₄.objs.size = C → s₁.heap.objs.size < C → h₅.objs.size = C + 1 + 1 → (∃ go, h₅.get? (C + 1) = some go) → (∀ b o, b ≠ P → s₁.heap.get? b = some o → h₄.get? b = some o) → (∀ b o, h₄.get? b = some o → h₅.get? b = some o) →
        Based h₁ (regrown h₀ P (ps ++ #[rawInt pos.line, rawInt pos.col, .ref c'])) c P (ps ++ #[rawInt pos.line, rawInt pos.col, .ref c']) → Fr (regrown h₀ P (ps ++ #[rawInt pos.line, rawInt pos.col, .ref c'])) L h₄ m →
        ∃ Pt J, ApartJ C (C + 1) Pt s₁.heap.objs.size l ∧ (∀ h h', J h → (∀ b o, b ≠ C → b ≠ s₁.heap.objs.size → h.get? b = some o → h'.get? b = some o) → J h') ∧ J h₅ ∧
          EltJ prog w (A.in1.in1.over (loopC elt iter x px scope pos s₁.heap.objs.size (genEnv scope cl C (.ref c') builtinsNs env)) []) (genEnv scope cl C (.ref c') builtinsNs env) x elt vs C (C + 1) Pt s₁.heap.objs.size J h₅ ∧
          (GenJ prog w A.in1 C (C + 1) Pt s₁.heap.objs.size J vs.length s₁.gens.size 0 { s₁ with gens := s₁.gens.push gs, toks := tk, heap := h₅ } → Q (.ref (C + 1)) { s₁ with gens := s₁.gens.push gs, toks := tk, heap := h₅ })) E s)
    (hs : ∀ x, genFold iter env x = pure x) :
    wpAny (model prog w) A (eval (.GeneratorExp elt [⟨.Name x px, iter, [], 0⟩] scope pos) env) Q E s := by
  refine wpAny_GeneratorExp_make hco hclos hcell h0 hkind hroom (wpAny_mono h (fun xv s₁ h₁' => ?_) fun _ _ e => e) hs
  obtain ⟨l, vs, rfl, hl, F₁, hlim, hq⟩ := h₁'
  have hlt : l < s₁.heap.objs.size := by obtain ⟨_, e, _⟩ := hl; exact Heap.lt_size e
  have hPlt : P < s₁.heap.objs.size := Heap.lt_size (B.tabAt F₁).2
  have hlP : l ≠ P := fun e => by
    obtain ⟨o, ho, hc, _⟩ := hl
    rw [e, (B.tabAt F₁).2] at ho; cases ho; exact absurd hc (by simp)
  refine wpAny_pyIter_list hl ⟨hlim.push _, ?_⟩
  have F₂ := F₁.push { cls := .type "list_iterator", data := .fields #[.ref l, .int 0 0] }
  have hit : (s₁.heap.push { cls := .type "list_iterator", data := .fields #[.ref l, .int 0 0] }).IsListIter s₁.heap.objs.size l 0 := ⟨_, Heap.get?_push_size _ rfl, rfl, rfl⟩
  have hl₂ : (s₁.heap.push { cls := .type "list_iterator", data := .fields #[.ref l, .int 0 0] }).IsList l vs.toArray := hl.push _
  have hsz₂ : (s₁.heap.push { cls := .type "list_iterator", data := .fields #[.ref l, .int 0 0] }).objs.size = s₁.heap.objs.size + 1 := Heap.size_push _ _
  have keep₂ : ∀ b o, s₁.heap.get? b = some o → (s₁.heap.push { cls := .type "list_iterator", data := .fields #[.ref l, .int 0 0] }).get? b = some o := fun b o e => Heap.get?_push_of_some _ e
  have hlim₂ : (s₁.heap.push { cls := .type "list_iterator", data := .fields #[.ref l, .int 0 0] }).NoLimit := hlim.push _
  generalize (s₁.heap.push { cls := .type "list_iterator", data := .fields #[.ref l, .int 0 0] }) = H₂ at F₂ hit hl₂ hsz₂ keep₂ hlim₂ ⊢
  refine wpAny_genexprCodeX (s := { s₁ with heap := H₂ }) hcode (B.codeAt F₂) (B.tabAt F₂) hnf fun c' h₃ tk₃ hx₃ hge hlt₃ hcode₃ _ htab₃ _ => ?_
  have hsz : H₂.objs.size ≤ h₃.objs.size := Nat.le_trans hge (Nat.le_of_lt hlt₃)
  obtain ⟨B₃, F₃⟩ := B.grow F₂ hx₃ hcode₃ htab₃
  have M₃ : BMod h₃ env.globals mg bm ob := (M.keeps F₂.keep).extBut (B.tabAt F₂) hx₃
  have hcP : cStatics ≠ P := fun e => by
    obtain ⟨_, hns, _⟩ := hlim
    obtain ⟨o, es, ep, ho, hd, _⟩ := hns
    rw [e, (B.tabAt F₁).2] at ho; cases ho; cases hd
  have hl₃ : h₃.NoLimit := hlim₂.extBut hx₃ hcP
  refine wpAny_builtinsFor M₃.ns M₃.name M₃.ne M₃.obj M₃.cls M₃.dict M₃.data ?_
  intro h' hn' hs'
  have hsz' : h'.objs.size = h₃.objs.size + 1 := by rw [hs'.1, Heap.size_push]
  have keep' : ∀ b o, h₃.get? b = some o → h'.get? b = some o := fun b o e => hs'.extBut b o (Nat.ne_of_lt (Heap.lt_size e)) (Heap.get?_push_of_some _ e)
  have keep₅ : ∀ b o, h₃.get? b = some o → (h'.push { cls := .type "generator", data := .fields #[.int s₁.gens.size 0, .str "<genexpr>" (tk₃ + 1), .str (env.qual ++ "<genexpr>") (tk₃ + 1 + 1)] }).get? b = some o := fun b o e => Heap.get?_push_of_some _ (keep' b o e)
  have hIc : s₁.heap.objs.size < h₃.objs.size := by omega
  obtain ⟨Pt, J, ap, hJ, hJ₅, hE, hQ⟩ := hq c' h₃.objs.size h₃ (h'.push { cls := .type "generator", data := .fields #[.int s₁.gens.size 0, .str "<genexpr>" (tk₃ + 1), .str (env.qual ++ "<genexpr>") (tk₃ + 1 + 1)] }) (tk₃ + 1 + 1 + 1) (.fresh (.compStart (.GeneratorExp elt [⟨.Name x px, iter, [], 0⟩] scope pos) 0 (.ref s₁.heap.objs.size) .none (genEnv scope cl h₃.objs.size (.ref c') builtinsNs env))) rfl rfl hIc (by rw [Heap.size_push, hsz']) ⟨_, by rw [← hsz']; exact Heap.get?_push_size _ rfl⟩ (fun b o hb e => hx₃ b o hb (keep₂ b o e)) keep₅ B₃ F₃
  rw [hsz']
  refine hQ ⟨⟨_, _, _, by rw [← hsz']; exact Heap.get?_push_size _ rfl, rfl, rfl, rfl⟩, hl₃.keeps keep₅, hJ₅, _, Array.getElem?_push_size .., fun s'' hal => ⟨rfl, ?_⟩⟩
  have hIP : s₁.heap.objs.size ≠ P := Nat.ne_of_gt hPlt
  have hns : (h'.push { cls := .type "generator", data := .fields #[.int s₁.gens.size 0, .str "<genexpr>" (tk₃ + 1), .str (env.qual ++ "<genexpr>") (tk₃ + 1 + 1)] }).Ns h₃.objs.size (fun y => if y = ".0" then some (.ref s₁.heap.objs.size) else none) := hn'.push _
  have hit₃ : h₃.IsListIter s₁.heap.objs.size l 0 := let ⟨o, e, r⟩ := hit; ⟨o, hx₃ _ _ hIP e, r⟩
  have hl₃' : h₃.IsList l vs.toArray := hl₂.at fun o e => hx₃ _ _ hlP e
  refine seg_J0 (A := A.in1.in1) (l := l) hh ap ⟨by simp [Env.kindOf, genEnv, hx], by simp [genEnv, hkind], hco, rfl⟩ _ hJ hE s'' s'' _ ⟨let ⟨o, e, r⟩ := hit₃; ⟨o, hal _ _ (keep₅ _ _ e), r⟩, hl₃'.at fun o e => hal _ _ (keep₅ _ _ e)⟩ (hns.at' fun o e => hal _ o e) ⟨s''.heap, s''.toks, rfl, .refl, hJ _ _ hJ₅ fun b o _ _ e => hal b o e⟩ fun b o _ _ _ e => hal b o e
end
end Mine


namespace Mine
/-- one of two ints -/
def inF (a b k : Int) : Bool := decide (a = k) || decide (b = k)
section
variable {prog : Program} {w : World} {A : Around} {E : Value → Shared → Prop} {s : Shared} {h₀ : Heap} {L l : Addr} {news : List (Addr × Obj)} {a b k : Int} {ta tb t : Tok} {n : Nat} {Q : Value → Shared → Prop}
def eqI (k : Int) : Value → Bool
  | .int i _ => decide (i = k)
  | _ => false
theorem eqI_at {x : Int} {t u : Tok} : SeqAt.EqAt A s (.int x t) (.int k u) (eqI k (.int x t)) := by
  have h := SeqAt.EqAt.int_int (A := A) (s := s) x t k u
  have e : (x == k) = decide (x = k) := by cases h : decide (x = k) <;> simp_all
  rw [e] at h
  exact h
theorem in_two (N : News h₀ L s.heap news) (hl : (l, { cls := .type "tuple", data := .seq #[.int a ta, .int b tb] n }) ∈ news) (h : Q (.bool (inF a b k)) s) : wpAny (model prog w) A (compareOp .In (.int k t) (.ref l)) Q E s := by
  refine SeqAt.in_tupleAt (eqI k) (items := #[.int a ta, .int b tb]) ⟨_, (N _ hl).1, rfl, _, rfl⟩ (fun y hy => ?_) ?_
  · simp at hy
    rcases hy with rfl | rfl <;> exact eqI_at
  · have : (#[Value.int a ta, Value.int b tb] : Array Value).any (eqI k) = inF a b k := by simp [eqI, inF]
    rw [this]; exact h
theorem notin_two (N : News h₀ L s.heap news) (hl : (l, { cls := .type "tuple", data := .seq #[.int a ta, .int b tb] n }) ∈ news) (h : Q (.bool (!inF a b k)) s) : wpAny (model prog w) A (compareOp .NotIn (.int k t) (.ref l)) Q E s := by
  refine SeqAt.notIn_tupleAt (eqI k) (items := #[.int a ta, .int b tb]) ⟨_, (N _ hl).1, rfl, _, rfl⟩ (fun y hy => ?_) ?_
  · simp at hy
    rcases hy with rfl | rfl <;> exact eqI_at
  · have : (#[Value.int a ta, Value.int b tb] : Array Value).any (eqI k) = inF a b k := by simp [eqI, inF]
    rw [this]; exact h
end
end Mine


namespace Mine
/-- es' is es but for name -/
def Others (name : Str) (es es' : List DictEntry) : Prop := ∀ nm, nm ≠ name → getL nm es' = getL nm es
theorem others_none {name nm : Str} {es es' : List DictEntry} {o : Option (Option Value)} (h : Others name es es') (g : getL nm es = o) (hne : nm ≠ name) : getL nm es' = o := (h nm hne).trans g
section
variable {prog : Program} {w : World} {A : Around} {E : Value → Shared → Prop} {s : Shared} {K : Frag} {x C dx L : Addr} {h₀ : Heap} {m : Str → Option Value} {news : List (Addr × Obj)} {news' : List DictEntry → Nat → List (Addr × Obj)} {es : List DictEntry} {n : Nat} {name : Str} {v : Value}
/-- x.name = v, where x's dict is known only by what is found in it -/
theorem set_sym {Q : Unit → Shared → Prop} (F : Fr h₀ L s.heap m) (X₀ : K.In h₀) (N : News h₀ L s.heap news) (h1 : (x, instObj C dx) ∈ news) (h2 : (dx, dictOf es n) ∈ news)
    (hs : findIn K (.ref C) "__setattr__" = some (some (.builtin "object.__setattr__"))) (hp : plainOver K C = true) (ht : takerIn K C name = some none) (hh : hasDictIn K C = true) (hl : (getL name es).isSome = true) (hz : es.length ≤ 900)
    (U : ∀ es' n', Upd dx (dictOf es n) (dictOf es' n') news (news' es' n'))
    (h : ∀ h' tk' es' n', getL name es' = some (some v) → Others name es es' → es'.length ≤ es.length + 1 → Fr h₀ L h' m → News h₀ L h' (news' es' n') → Q () { s with heap := h', toks := tk' }) :
    wpAny (model prog w) A (setAttr (.ref x) name v) Q E s := by
  have hlen := put_len name (PyData.keyHash w.params name) (s.toks + 1) v es
  have hle : (putL name (PyData.keyHash w.params name) (.str name (s.toks + 1)) v es).length ≤ es.length + 1 := by rw [hlen]; split <;> omega
  refine set_dict F X₀ N (InstAt.of_news N h1 h2) rfl hs hp ht hh hl rfl (U _ _) (by omega) fun h' F' N' => h h' _ _ _ (getL_put_same _ _ _ _ _) (fun nm hne => getL_put_other hne _ _ _ _) hle F' N'
end
def SlotIs (nm : Str) (es : List DictEntry) (b : Bool) (P : Value → Prop) : Prop := (b = true ∧ getL nm es = some none) ∨ (b = false ∧ ∃ v, getL nm es = some (some v) ∧ P v)
theorem slot_no {nm : Str} {es : List DictEntry} {b : Bool} {P : Value → Prop} (h : b = true) (g : getL nm es = some none) : SlotIs nm es b P := .inl ⟨h, g⟩
theorem slot_yes {nm : Str} {es : List DictEntry} {b : Bool} {P : Value → Prop} {v : Value} (h : b = false) (g : getL nm es = some (some v)) (p : P v) : SlotIs nm es b P := .inr ⟨h, v, g, p⟩
theorem slot_keep {nm : Str} {es es' : List DictEntry} {b : Bool} {P : Value → Prop} (h : SlotIs nm es b P) (g : getL nm es' = getL nm es) : SlotIs nm es' b P := by
  unfold SlotIs at *
  rw [g]; exact h
theorem slot_other {nm name : Str} {es es' : List DictEntry} {b : Bool} {P : Value → Prop} (o : Others name es es') (h : SlotIs nm es b P) (hne : nm ≠ name) : SlotIs nm es' b P := slot_keep h (o nm hne)
theorem slot_some {nm : Str} {es : List DictEntry} {b : Bool} {P : Value → Prop} (h : SlotIs nm es b P) : (getL nm es).isSome = true := by
  rcases h with ⟨-, h⟩ | ⟨-, v, h, -⟩ <;> rw [h] <;> rfl
theorem some_of {nm : Str} {es : List DictEntry} {o : Option Value} (h : getL nm es = some o) : (getL nm es).isSome = true := by rw [h]; rfl
end Mine


namespace Mine
/-- a new exception, as it flies first -/
structure NewE (h h' : Heap) (e : Addr) (cls : String) : Prop where
  keeps : ∀ b o, h.get? b = some o → h'.get? b = some o
  new : h.get? e = none
  there : ∃ ob vs a0, h'.get? e = some ob ∧ ob.cls = .type cls ∧ ob.data = .fields vs ∧ vs[1]? = some .none ∧ vs[0]? = some a0
theorem NewE.of_attr {h h' : Heap} {e : Addr} {o : Value} {name : Str} (x : Heap.NewAttrErr h h' e o name) : NewE h h' e "AttributeError" :=
  ⟨x.keeps, x.new, by obtain ⟨t, u, he⟩ := x.there; exact ⟨_, _, _, he, rfl, rfl, rfl, rfl⟩⟩
theorem NewE.of_new {h h' : Heap} {e : Addr} {cls : String} (x : Heap.NewExc h h' e cls) : NewE h h' e cls :=
  ⟨x.keeps, x.new, by obtain ⟨ob, t, he, hc, hd⟩ := x.there; exact ⟨ob, _, _, he, hc, hd, rfl, rfl⟩⟩
section
variable {prog : Program} {w : World} {A : Around} {E : Value → Shared → Prop} {s : Shared} {K : Frag} {x C L f : Addr} {h₀ : Heap} {m : Str → Option Value} {ox : Obj} {od : Option Obj}
theorem name_cut {Q : String → Shared → Prop} (X : K.In s.heap) (I : W.InstAt s.heap x ox C od) (hn : nameIn K C = true) (h : ∀ n : String, n.length ≤ 100 → Q n s) : wpAny (model prog w) A (typeNameOfCut 100 (.ref x)) Q E s := by
  obtain ⟨cd, hc, hb⟩ := any_some hn
  simp only [Bool.and_eq_true, decide_eq_true_eq] at hb
  unfold PySem.typeNameOfCut PySem.shownTypeOf
  refine wpAny_bind (wpAny_bind (I.type.here ?_))
  simp only [show (Value.ref C == Value.type "builtin_function_or_method") = false from rfl, Bool.false_eq_true, if_false]
  refine wpAny_pure ?_
  unfold PySem.typeNameCut
  refine wpAny_bind ((looks_clsIn X hc).here ?_)
  dsimp only
  rw [if_pos (by omega)]
  exact wpAny_pure (h _ hb.2)
theorem missMsg {n : String} {name : Str} (hp : n.length ≤ 100) (hn : name.length ≤ 100) : ((Str.ofString s!"'{n}' object has no attribute '") ++ name ++ Str.ofString "'").length ≤ sizeLine := by
  rw [strLen_append, strLen_append, PySem.ofString_length, PySem.ofString_length, sizeLine_eq]
  simp only [String.length_append, toString]
  have e1 : "'".length ≤ 100 := by decide
  have e2 : "' object has no attribute '".length ≤ 100 := by decide
  omega
theorem findObj_miss {od : Obj} {name : Str} (hh : hasDictIn K C = true) (ha : findIn K (.ref C) name = some none) (hc : copiedNames.contains name = false) (hl : lookIn name od = some none) :
    findObj K C (some od) name = some .missing := by
  obtain ⟨cd, hc', hd⟩ := any_some hh
  unfold findObj
  have ho : W.ownOf cd (some od) name = some none := by unfold W.ownOf; rw [if_pos hd]; exact hl
  rw [hc', Option.bind_some, ha, Option.bind_some]
  simp only [Option.bind_some, ho, hc, Bool.false_and, Bool.false_eq_true, if_false]
theorem get_miss {name : Str} {expr : Bool} {Q : Value → Shared → Prop} {es : List DictEntry} {n : Nat} (hA : A.handled = none) (F : Fr h₀ L s.heap m) (X₀ : K.In h₀) (I : W.InstAt s.heap x ox C (some (dictOf es n))) (hg : plainGet K C name = true) (hh : hasDictIn K C = true)
    (ha : findIn K (.ref C) name = some none) (hc : copiedNames.contains name = false) (hn : nameIn K C = true) (hnl : name.length ≤ 100) (hl : getL name es = some none)
    (h : ∀ h' tk e, NewE s.heap h' e "AttributeError" → E (.ref e) { s with heap := h', toks := tk }) : wpAny (model prog w) A (getAttr (.ref x) name expr) Q E s := by
  have X := X₀.keeps F.keep
  refine get_open X I (plainGet_of hg).1 ?_
  obtain ⟨hp, g, d, t, os⟩ := s
  have L0 := I.type (M := model prog w)
  have L1 := looks_find (M := model prog w) X I (findObj_miss hh ha hc hl)
  have L2 := looks_findIn (M := model prog w) X (plainGet_of hg).2
  refine wpAny_bind (wpAny_pure (wpAny_bind (L0.at (wpAny_bind (L1.at ?_)))))
  refine wpAny_bind (L2.at ?_)
  show wpAny _ _ (Builtin.ObjectAttr.noSuchAttribute _ _) _ _ _
  unfold Builtin.ObjectAttr.noSuchAttribute
  refine wpAny_bind (name_cut (K := K) X I hn fun nm hnm => ?_)
  refine wpAny_raiseAttrError hA (fun h' tk e hx => ?_) (missMsg hnm hnl)
  obtain ⟨t', u', he⟩ := hx.there
  dsimp only
  unfold noteIf noteAttr
  rw [if_pos rfl]
  have f1 := sub_AttributeError
  repeat (any_goals (first | assumption | wp_step))
  exact h _ _ _ (NewE.of_attr hx)
end
section
variable {M : Model} {A : Around} {E : Value → Shared → Prop} {s' : Shared} {base g g₂ h : Heap} {outer : List Env} {L a e t : Addr} {m : Str → Option Value} {name : Str} {scope : Scope} {cd : Value} {Q : Unit → Shared → Prop} {news : List (Addr × Obj)}
end
section
variable {prog : Program} {w : World} {A₀ : Around} {E : Value → Shared → Prop} {s s' : Shared} {h₀ h : Heap} {outer : List Env} {L a e : Addr} {m : Str → Option Value} {name : Str} {scope : Scope} {cd : Value}
  {b₀ : Stmt} {suite : List Stmt} {pos np : Pos} {rest hs : List ExceptHandler} {Q : Flow → Shared → Prop} {news : List (Addr × Obj)}
  {p : Program} {loose : List Str} {mean : ExcName → Option Value} {mg mb : Str → Option Value} {x : Str} {X T' : String}
/-- an exception that has come to a try statement's handlers -/
def Held (h₀ : Heap) (L : Addr) (m : Str → Option Value) (news : List (Addr × Obj)) (l : List Env) (e : Addr) (X : String) (h : Heap) : Prop :=
  Fr h₀ L h m ∧ ∃ B a0, h₀.StaysIn B ∧ B.get? L = none ∧ (∀ q ∈ news, B.get? q.1 = some q.2 ∧ h₀.get? q.1 = none) ∧ Heap.FlyingW B l e (.type X) a0 h
end
theorem isExc_AttributeError : isSubtype (.type "AttributeError") (.type "BaseException") = pure true := by rw [isSubtype_type]; kernel_rfl
theorem notTuple_AttributeError : isSubtype (.type ((Manifest.find? "AttributeError").elim "type" fun y => y.metatype)) (.type "tuple") = pure false := by rw [isSubtype_type]; kernel_rfl
end Mine


namespace Mine
/-- a place of x in a row of addresses, counted from the end (0: not in it) -/
def rk : List Nat → Nat → Nat
  | [], _ => 0
  | a :: r, x => bif Nat.beq x a then r.length + 1 else rk r x
def Lb (c : Nat → Nat) (x i : Nat) : Prop := c x = i
theorem neR {c : Nat → Nat} {a b i j : Nat} (ha : Lb c a i) (hb : Lb c b j) (h : Nat.beq i j = false) : a ≠ b := fun e => by
  subst e
  have : i = j := ha.symm.trans hb
  subst this
  rw [Nat.beq_refl] at h
  cases h
theorem rk_hd (a : Nat) (r : List Nat) : rk (a :: r) a = r.length + 1 := by simp [rk]
theorem rk_tl {a x : Nat} {r : List Nat} (h : x ≠ a) : rk (a :: r) x = rk r x := by
  have : Nat.beq x a = false := by
    cases e : Nat.beq x a
    · rfl
    · exact absurd (Nat.eq_of_beq_eq_true e) h
  simp [rk, this]
def Inc : List Nat → Prop
  | [] => True
  | a :: r => (∀ y ∈ r, a < y) ∧ Inc r
theorem Inc.one (a : Nat) : Inc [a] := ⟨fun _ h => (nomatch h), trivial⟩
theorem Inc.cons {a b : Nat} {r : List Nat} (h : a < b) (k : Inc (b :: r)) : Inc (a :: b :: r) :=
  ⟨fun y hy => by rcases List.mem_cons.mp hy with rfl | hy; exact h; exact Nat.lt_trans h (k.1 y hy), k⟩
theorem Inc.at {l : List Nat} : Inc l → ∀ (i : Nat) (x : Nat), l[i]? = some x → rk l x = l.length - i := by
  induction l with
  | nil => intro _ i x h; cases h
  | cons a r ih =>
    intro h i x hx
    cases i with
    | zero => cases hx; rw [rk_hd]; rfl
    | succ i =>
      have hx' : r[i]? = some x := hx
      have hm : x ∈ r := List.mem_of_getElem? hx'
      rw [rk_tl (Nat.ne_of_gt (h.1 x hm)), ih h.2 i x hx', List.length_cons, Nat.add_sub_add_right]
theorem rk_not {l : List Nat} {x : Nat} (h : ∀ y ∈ l, x ≠ y) : rk l x = 0 := by
  induction l with
  | nil => rfl
  | cons a r ih => rw [rk_tl (h a (.head _))]; exact ih fun y hy => h y (.tail _ hy)
theorem Inc.last {a z : Nat} {r : List Nat} : Inc (a :: r) → (a :: r).getLast? = some z → ∀ y ∈ a :: r, a ≤ y ∧ y ≤ z := by
  induction r generalizing a with
  | nil => intro _ e y hy; cases e; rcases List.mem_cons.mp hy with rfl | hy; exact ⟨Nat.le_refl _, Nat.le_refl _⟩; cases hy
  | cons b r ih =>
    intro h e y hy
    have e' : (b :: r).getLast? = some z := by rw [List.getLast?_cons_cons] at e; exact e
    have hk := ih h.2 e'
    have hab : a < b := h.1 b (.head _)
    rcases List.mem_cons.mp hy with rfl | hy
    · exact ⟨Nat.le_refl _, Nat.le_trans (Nat.le_of_lt hab) (hk b (.head _)).2⟩
    · exact ⟨Nat.le_of_lt (h.1 y hy), (hk y hy).2⟩
theorem Inc.out {a z x : Nat} {r : List Nat} (h : Inc (a :: r)) (e : (a :: r).getLast? = some z) (k : x < a ∨ z < x) : rk (a :: r) x = 0 :=
  rk_not fun y hy => by
    have := h.last e y hy
    omega
end Mine


namespace Mine
theorem allLt_mem2 {d : Nat} {l : List (Addr × Obj)} : ∀ {p : Addr × Obj}, AllLt d l → List.Mem p l → @LT.lt Nat _ p.1 d := by
  induction l with
  | nil => intro p _ m; cases m
  | cons q r ih =>
    intro p h m
    have h1 : @LT.lt Nat _ q.1 d ∧ AllLt d r := h
    cases m with
    | head => exact h1.1
    | tail _ m => exact ih h1.2 m
theorem neA0 {a b : Addr} {o : Obj} {l : List (Addr × Obj)} (h : AllLt a l) (m : List.Mem (b, o) l) : a ≠ b := Nat.ne_of_gt (allLt_mem2 h m)
theorem neA1 {a b : Addr} {o : Obj} {l : List (Addr × Obj)} (h : AllLt a l) (m : List.Mem (b, o) l) : a + 1 ≠ b := Nat.ne_of_gt (Nat.lt_succ_of_lt (allLt_mem2 h m))
theorem neA2 {a b : Addr} {o : Obj} {l : List (Addr × Obj)} (h : AllLt a l) (m : List.Mem (b, o) l) : a + 1 + 1 ≠ b := Nat.ne_of_gt (Nat.lt_succ_of_lt (Nat.lt_succ_of_lt (allLt_mem2 h m)))
theorem neA3 {a b : Addr} {o : Obj} {l : List (Addr × Obj)} (h : AllLt a l) (m : List.Mem (b, o) l) : a + 1 + 1 + 1 ≠ b := Nat.ne_of_gt (Nat.lt_succ_of_lt (Nat.lt_succ_of_lt (Nat.lt_succ_of_lt (allLt_mem2 h m))))
theorem neB0 {a b d : Addr} {o : Obj} {l : List (Addr × Obj)} (h2 : @LT.lt Nat _ d a) (h : AllLt d l) (m : List.Mem (b, o) l) : a ≠ b := Nat.ne_of_gt (Nat.lt_trans (allLt_mem2 h m) h2)
theorem neB1 {a d : Addr} (h2 : @LT.lt Nat _ d a) : a ≠ d := Nat.ne_of_gt h2
theorem news_idx {h₀ h : Heap} {L : Addr} {l l' : List (Addr × Obj)} (f : List Nat) (e : f.map (fun i => l[i]?) = l'.map some) (N : News h₀ L h l) : News h₀ L h l' := fun p hp => by
  have h1 : some p ∈ l'.map some := List.mem_map.mpr ⟨p, hp, rfl⟩
  rw [← e] at h1
  obtain ⟨i, _, hi⟩ := List.mem_map.mp h1
  exact N p (List.mem_of_getElem? hi)
end Mine


namespace Mine
/-! a call below which an exception is caught: the frames of the callers may change in their slots -/
abbrev frs (l : List Env) : List Addr := l.filterMap (·.frame)
theorem frs_mem {env : Env} {outer : List Env} {L b : Addr} (hf : env.frame = some L) (hm : b ∈ frs (env :: outer)) : b = L ∨ b ∈ frs outer := by
  obtain ⟨e, he, hb⟩ := List.mem_filterMap.mp hm
  rcases List.mem_cons.mp he with rfl | he
  · rw [hf] at hb; exact .inl (Option.some.inj hb).symm
  · exact .inr (List.mem_filterMap.mpr ⟨e, he, hb⟩)
def LeaveT (fs : List Addr) (g : Heap) (R : List (Addr × Obj) → Value → Shared → Prop) (v : Value) (s' : Shared) : Prop :=
  ∃ g' L' m' news', KtsTurn fs g g' ∧ Fr g' L' s'.heap m' ∧ News g' L' s'.heap news' ∧ R news' v s'
/-- what a caller knows afterwards -/
def BackT (A₀ : Around) (base : Heap) (outer : List Env) (h₀ : Heap) (L : Addr) (m : Str → Option Value) (R : Result → Shared → Prop) (news' : List (Addr × Obj)) (v : Value) (s' : Shared) : Prop :=
  ∀ h₀', KtsTurn (frs outer) h₀ h₀' → Fr h₀' L s'.heap m → News h₀' L s'.heap news' → Below A₀ base outer h₀' → KtsDicts (frs outer) h₀' → R (.ok (.ret v)) s'
section
variable {prog : Program} {w : World} {A₀ A : Around} {s : Shared} {base h₀ g₀ : Heap} {env : Env} {outer : List Env} {L L' : Addr} {m m' : Str → Option Value} {news news' : List (Addr × Obj)} {K : Frag} {p : Program} {loose : List Str} {mean : ExcName → Option Value} {mg mb : Str → Option Value}
    {R : Result → Shared → Prop} {name qual : Str} {params : Arguments} {body : List Stmt} {scope : Scope} {dV kV doc pm cdv ct oc : Value} {an od : Option Addr} {osl : Array (Option Value)} {f : Addr} {args : Args} {binds : List (Str × Value)}
theorem turn_back {g' h' : Heap} (B : Below A₀ base outer h₀) (F : Fr h₀ L s.heap m) (N : News h₀ L s.heap news) (hA : A.frames = some (env :: outer)) (hf : env.frame = some L) (hke : env.scope.kind = .function) (D : KtsDicts (frs outer) h₀)
    (T' : KtsTurn (frs (env :: outer)) (hideAll s.heap (news.map (·.1))) g') (F' : Fr g' L' h' m') (N' : News g' L' h' news') :
    ∃ h₀', KtsTurn (frs outer) h₀ h₀' ∧ Fr h₀' L h' m ∧ News h₀' L h' news' ∧ Below A₀ base outer h₀' ∧ KtsDicts (frs outer) h₀' := by
  obtain ⟨FG, BG, st, -⟩ := groundX (R := fun _ _ => True) B F N hA hf hke
  have nL₀ : h₀.get? L = none := kts_self F
  obtain ⟨oL, es, ep, hLg, hLd, hLk, hLf⟩ := FG.ns
  obtain ⟨sl, hs⟩ := T'.up hLg
  obtain ⟨T₁, S₁⟩ := kts_turn_at (h := h') (fs := frs outer) (g := h₀)
    (fun b hb => by
      obtain ⟨_, o, ho', _⟩ := B.frames.mem hb
      exact ⟨o, ho'⟩)
    (fun b o e nmem => F'.keep b o (T'.other b o (st b o e) (fun q => by
      rcases frs_mem hf q with z | z
      · rw [z, nL₀] at e
        cases e
      · exact nmem z)))
    (fun b o e hm => by
      obtain ⟨sl', hs'⟩ := T'.up (st b o e)
      exact ⟨sl', F'.keep _ _ hs'⟩)
  refine ⟨_, T₁, ⟨⟨_, es, ep, F'.keep _ _ hs, hLd, hLk, hLf⟩, S₁, by rw [T₁.size]; exact F.above⟩, (fun p hp => ⟨(N' p hp).1, fun q => ?_, T₁.none_ _ ?_⟩), ⟨B.stack, fun b o e => T₁.other b o (B.stays b o e) (fun hm => by
    rw [(B.frames.mem hm).1] at e
    cases e), B.frames.of_keeps fun b o e _ => by
    obtain ⟨sl', hs'⟩ := T₁.up e
    exact ⟨_, hs', rfl⟩⟩, D.turn T₁⟩
  · have := (N' p hp).2.2; rw [q, hs] at this; cases this
  · cases q : h₀.get? p.1 with
    | none => rfl
    | some o =>
      obtain ⟨sl', hs'⟩ := T'.up (st _ _ q)
      have := (N' p hp).2.2
      rw [hs'] at this
      cases this
theorem dicts_push {h : Heap} (F : Fr h₀ L h m) (st : h₀.StaysIn h) (D : KtsDicts (frs outer) h₀) (hf : env.frame = some L) : KtsDicts (frs (env :: outer)) h := fun b hb => by
  rcases frs_mem hf hb with rfl | hb
  · obtain ⟨o, es, ep, ho, hd, _⟩ := F.ns
    exact ⟨o, es, ep, ho, hd⟩
  · obtain ⟨o, es', n', ho', hd'⟩ := D b hb
    exact ⟨o, es', n', st b o ho', hd'⟩
/-- a def of K without cells -/
theorem code_defT (B : Below A₀ base outer h₀) (F : Fr h₀ L s.heap m) (X₀ : K.In h₀) (N : News h₀ L s.heap news) (T : Top p loose mean mg mb h₀) (D : KtsDicts (frs outer) h₀) (hA : A.frames = some (env :: outer)) (hf : env.frame = some L) (hke : env.scope.kind = .function)
    (ho : K.lookup f = some ⟨oc, od, .func (fnOf name qual params body scope dV kV doc pm an cdv ct), osl⟩) (hcd : codeIn K cdv qual = true) (hroom : A.depth < recursionLimit)
    (hbind : BindsTo s (fnOf name qual params body scope dV kV doc pm an cdv ct) args binds) (hloc : ∀ y ∈ binds, scope.names.lookup y.1 = some .local)
    (h : ∀ g L' h₁, Fr h₀ L g m → Fr g L' h₁ (fun y => binds.reverse.lookup y) → News g L' h₁ news → Below A base (env :: outer) g → K.In g → Top p loose mean mg mb g → KtsDicts (frs (env :: outer)) g →
      wpAny (model prog w) (A.deeper (envOf qual scope L' f cdv)) (execs body (envOf qual scope L' f cdv))
        (fun fl s' => LeaveT (frs (env :: outer)) g (BackT A₀ base outer h₀ L m R) (match fl with | .ret v => v | _ => .none) s')
        (fun e s' => wpAny (model prog w) (A.deeper (envOf qual scope L' f cdv)) (leaving (envOf qual scope L' f cdv) e) (fun _ s'' => R (.error e) s'') (fun e' s'' => R (.error e') s'') s')
        { s with heap := h₁, toks := s.toks + binds.length })
    (hco : scope.isCoroutine = false) (hgen : scope.isGenerator = false) (hk : scope.kind = .function)
    (hcell : ∀ x ∈ scope.names, x.2 ≠ .cell) : codeAny (model prog w) A (.call (.ref f) args) R s := by
  have X := X₀.keeps F.keep
  refine codeAny_call_def (fd := fnOf name qual params body scope dV kV doc pm an cdv ct) (body := body) (binds := binds) hroom (X _ _ ho) rfl (T.nolimit.keeps F.keep) (codeRec_of X hcd) rfl hbind hcell hloc (fun h₁ hns hk₁ => ?_) hco hgen hk
  obtain ⟨FG, BG, st, -⟩ := groundX (R := R) B F N hA hf hke
  refine wpAny_mono (h _ s.heap.objs.size h₁ FG ⟨hns, fun b o e => hk₁ b o (of_hideAll _ e), Nat.le_of_eq (hideAll_size _ _)⟩
    (fun p hp => ⟨hk₁ _ _ (N p hp).1, Nat.ne_of_lt (Heap.lt_size (N p hp).1), hideAll_none _ (List.mem_map_of_mem hp)⟩) BG (X₀.keeps st) (T.keeps st) (dicts_push FG st D hf)) (fun fl s' hl => ?_) fun _ _ y => y
  obtain ⟨g', L', m', news', T', F', N', k⟩ := hl
  obtain ⟨h₀', a1, a2, a3, a4, a5⟩ := turn_back B F N hA hf hke D T' F' N'
  exact k h₀' a1 a2 a3 a4 a5
/-- a def of K with cells -/
theorem code_defCT (B : Below A₀ base outer h₀) (F : Fr h₀ L s.heap m) (X₀ : K.In h₀) (N : News h₀ L s.heap news) (T : Top p loose mean mg mb h₀) (D : KtsDicts (frs outer) h₀) (hA : A.frames = some (env :: outer)) (hf : env.frame = some L) (hke : env.scope.kind = .function)
    (ho : K.lookup f = some ⟨oc, od, .func (fnOf name qual params body scope dV kV doc pm an cdv ct), osl⟩) (hcd : codeIn K cdv qual = true) (hroom : A.depth < recursionLimit)
    (hbind : BindsTo s (fnOf name qual params body scope dV kV doc pm an cdv ct) args binds) (hkind : (binds.all fun y => scope.names.lookup y.1 == some .local || scope.names.lookup y.1 == some .cell) = true)
    (hnd : ((cellsFrom 0 scope.names []).map (·.1)).Nodup)
    (h : ∀ g L' h₁ tk cells, Fr h₀ L g m → Fr g L' h₁ (bindL (envOfC qual scope L' f cdv).kindOf binds fun _ => none) → News g L' h₁ (cells ++ news) →
      CellsAre (bindC (envOfC qual scope L' f cdv).kindOf binds fun _ => none) (cellsFrom (L' + 1) scope.names []) cells → Below A base (env :: outer) g → K.In g → Top p loose mean mg mb g → KtsDicts (frs (env :: outer)) g → (∀ p ∈ news, p.1 < L') →
      wpAny (model prog w) (A.deeper (envOfC qual scope L' f cdv)) (execs body (envOfC qual scope L' f cdv))
        (fun fl s' => LeaveT (frs (env :: outer)) g (BackT A₀ base outer h₀ L m R) (match fl with | .ret v => v | _ => .none) s')
        (fun e s' => wpAny (model prog w) (A.deeper (envOfC qual scope L' f cdv)) (leaving (envOfC qual scope L' f cdv) e) (fun _ s'' => R (.error e) s'') (fun e' s'' => R (.error e') s'') s')
        { s with heap := h₁, toks := tk })
    (hco : scope.isCoroutine = false) (hgen : scope.isGenerator = false) (hk : scope.kind = .function) : codeAny (model prog w) A (.call (.ref f) args) R s := by
  have X := X₀.keeps F.keep
  obtain ⟨FG, BG, st, -⟩ := groundX (R := R) B F N hA hf hke
  refine codeAny_call_function hroom (X _ _ ho) rfl hco hgen rfl (codeRec_of X hcd) (hbind _ _ _ _ ?_)
  refine wpAny_newFunctionEnv_cells hk (kindsX hkind _) fun env' he s' x => ?_
  subst he
  refine ⟨((T.nolimit).keeps F.keep).keeps x.toInCall.keep, codeAny_func ?_⟩
  obtain ⟨h₁, tk, rfl, _⟩ := x.done
  have hk₁ := x.toInCall.keep
  obtain ⟨cells, NC, Y⟩ := Cl.news (h₀ := s.heap) (Nat.le_refl _) fun n c hm => ⟨x.cell n c (lookup_of_mem_nodup (cellsFrom_names scope.names 0 (s.heap.objs.size + 1) [] [] rfl ▸ hnd) hm), x.above n c hm⟩
  refine wpAny_mono (h _ s.heap.objs.size h₁ tk cells FG ⟨x.toInCall.ns, fun b o e => hk₁ b o (of_hideAll _ e), Nat.le_of_eq (hideAll_size _ _)⟩ (fun p hp => ?_) Y BG (X₀.keeps st) (T.keeps st) (dicts_push FG st D hf) (fun p hp => Heap.lt_size (N p hp).1)) (fun fl s' hl => ?_) fun _ _ y => y
  · rcases List.mem_append.mp hp with hp | hp
    · refine ⟨(NC p hp).1, (NC p hp).2.1, ?_⟩
      cases q : (hideAll s.heap (news.map (·.1))).get? p.1 with
      | none => rfl
      | some o => have := of_hideAll _ q; rw [(NC p hp).2.2] at this; cases this
    · exact ⟨hk₁ _ _ (N p hp).1, Nat.ne_of_lt (Heap.lt_size (N p hp).1), hideAll_none _ (List.mem_map_of_mem hp)⟩
  · obtain ⟨g', L', m', news', T', F', N', k⟩ := hl
    obtain ⟨h₀', a1, a2, a3, a4, a5⟩ := turn_back B F N hA hf hke D T' F' N'
    exact k h₀' a1 a2 a3 a4 a5
end
section
variable {M : Model} {A : Around} {E : Value → Shared → Prop} {s' : Shared} {base g g₂ h : Heap} {env : Env} {outer : List Env} {L e : Addr} {m : Str → Option Value} {Q : Unit → Shared → Prop} {news : List (Addr × Obj)}
theorem leaveE_new {cls : String} (K : Below A base outer g) (hx : NewE h s'.heap e cls) (F : Fr g L h m) (N : News g L h news) (hf : env.frame = some L) (hke : env.scope.kind = .function)
    (hQ : ∀ h', RaisedSN base g outer e (.type cls) news h' → g.UpToSlots h' → Q () { s' with heap := h' }) :
    wpAny M (A.deeper env) (leaving env (.ref e)) Q E s' := by
  have K' := pushX K F hf hke
  have hin : ∀ en ∈ (env :: outer), ∀ b, en.frame = some b → b ∈ frs (env :: outer) := fun en he b hb => List.mem_filterMap.mpr ⟨en, he, hb⟩
  have st : base.StaysIn (hideAll h (frs (env :: outer))) := fun b o q => hideAll_get _ (K'.stays b o q) fun hm => by
    rw [(K'.frames.mem hm).1] at q; cases q
  have sg : ∀ b o, g.get? b = some o → b ∉ frs outer → (hideAll h (frs (env :: outer))).get? b = some o := fun b o q nm => hideAll_get _ (F.keep b o q) fun hm => by
    rcases frs_mem hf hm with z | z
    · rw [z, kts_self F] at q
      cases q
    · exact nm z
  have hl : ∀ q ∈ news, (hideAll h (frs (env :: outer))).get? q.1 = some q.2 ∧ g.get? q.1 = none ∧ base.get? q.1 = none := fun q hq => by
    refine ⟨hideAll_get _ (N q hq).1 fun hm => ?_, (N q hq).2.2, fresh_of_stays K.stays (N q hq).2.2⟩
    rcases frs_mem hf hm with z | z
    · exact (N q hq).2.1 z
    · obtain ⟨o, ho, _⟩ := (K.frames.mem z).2
      rw [(N q hq).2.2] at ho; cases ho
  obtain ⟨ob, vs, tp, he, hcls, hd, h1, h0⟩ := hx.there
  have hen : (hideAll h (frs (env :: outer))).get? e = none := by
    cases q : (hideAll h (frs (env :: outer))).get? e with
    | none => rfl
    | some o => have := of_hideAll _ q; rw [hx.new] at this; cases this
  refine wpAny_leaving_firstW (a0 := tp) K'.stack ((funFrames_hide K'.frames hin).of_keeps fun b o hb _ => ⟨o, hx.keeps b o hb, rfl⟩) hf he (fun b o hb => hx.keeps b o (of_hideAll _ hb)) hen hd h1 h0 fun h' hL => ?_
  obtain ⟨k1, ⟨_, _, k2⟩, k3, k4⟩ := hL
  exact hQ h' ⟨_, tp, st, sg, hl, k1, hen, k2, by rw [← hcls]; exact k3⟩ (((Heap.UpToSlots.of_keeps F.keep).trans (Heap.UpToSlots.of_keeps hx.keeps)).trans k4)
theorem leaveE_on {cls : Value} (K : Below A base outer g) (F : Fr g L g₂ m) (R : RaisedSN base g₂ (env :: outer) e cls news s'.heap) (hsm : g₂.UpToSlots s'.heap) (hf : env.frame = some L)
    (hQ : ∀ h', RaisedSN base g outer e cls news h' → g.UpToSlots h' → Q () { s' with heap := h' }) :
    wpAny M (A.deeper env) (leaving env (.ref e)) Q E s' := by
  obtain ⟨B, a0, hB, hBG, hl, hfl⟩ := R
  exact wpAny_leaves_onW (Around.frames_deeper K.stack) hf hfl fun h' x1 x2 =>
    hQ h' ⟨B, a0, hB, fun b o q nm => hBG b o (F.keep b o q) (fun hm => by
      rcases frs_mem hf hm with z | z
      · rw [z, kts_self F] at q
        cases q
      · exact nm z), fun q hq => ⟨(hl q hq).1, kts_none F.keep (hl q hq).2.1, (hl q hq).2.2⟩, x1⟩ ((Heap.UpToSlots.of_keeps F.keep).trans (hsm.trans x2))
end
section
variable {prog : Program} {w : World} {A₀ : Around} {E : Value → Shared → Prop} {s s' : Shared} {base g g₀ G : Heap} {outer : List Env} {L a e : Addr} {m : Str → Option Value} {name : Str} {scope : Scope} {cd : Value}
  {b₀ : Stmt} {suite : List Stmt} {pos np : Pos} {rest hs : List ExceptHandler} {Q : Flow → Shared → Prop} {news : List (Addr × Obj)} {KF : Frag}
  {p : Program} {loose : List Str} {mean : ExcName → Option Value} {mg mb : Str → Option Value} {x : Str} {X T' : String}
def HeldS (base G : Heap) (L : Addr) (l : List Env) (e : Addr) (X : String) (news : List (Addr × Obj)) (h : Heap) : Prop :=
  ∃ B a0, base.StaysIn B ∧ (∀ b o, G.get? b = some o → b ∉ frs l → B.get? b = some o) ∧ (∀ q ∈ news, B.get? q.1 = some q.2 ∧ G.get? q.1 = none ∧ base.get? q.1 = none) ∧ B.get? L = none ∧ Heap.FlyingW B l e (.type X) a0 h ∧ G.UpToSlots h
theorem heldS_first (R : RaisedSN base G (envOf name scope L a cd :: outer) e (.type X) news s'.heap) (K : Below A₀ base outer g) (hsm : G.UpToSlots s'.heap)
    (k : ∀ h', HeldS base G L (envOf name scope L a cd :: outer) e X news h' → wpAny (model prog w) (A₀.deeper (envOf name scope L a cd)) (handleBy (.ref e) (envOf name scope L a cd) hs) Q E { s' with heap := h' }) :
    wpAny (model prog w) (A₀.deeper (envOf name scope L a cd)) (noteFrame (.ref e) (envOf name scope L a cd))
      (fun _ s₂ => wpAny (model prog w) (A₀.deeper (envOf name scope L a cd)) (setFlight (.ref e) none) (fun _ s₃ =>
        wpAny (model prog w) (A₀.deeper (envOf name scope L a cd)) (handleBy (.ref e) (envOf name scope L a cd) hs) Q E s₃) E s₂) E s' := by
  obtain ⟨B, a0, hB, hBG, hl, hfl⟩ := R
  have hL : B.get? L = none := by
    obtain ⟨_, ⟨L', _, hf, hn', _⟩, _⟩ := hfl.2.2.1
    obtain rfl : L = L' := Option.some.inj hf
    exact hn'
  refine wpAny_looks_onW (Around.frames_deeper K.stack) rfl hfl fun h₄ hheld₄ hsm₄ => ?_
  refine wpAny_landsW hheld₄ fun h₅ hheld hsm₅' => ?_
  exact k h₅ ⟨B, a0, hB, hBG, hl, hL, hheld, (hsm.trans (hsm₄.trans hsm₅'))⟩
theorem heldS_skip (H : HeldS base G L (envOf name scope L a cd :: outer) e X news s.heap) (F : Fr g L G m) (K : Below A₀ base outer g) (XB : KF.In base) (TB : Top p loose mean mg mb base)
    (ex : nsIn KF mainGlobals x = some none) (hv : bootBuiltins x = some (.type T')) (hn' : x ≠ "__name__")
    (hexc : isSubtype (.type T') (.type "BaseException") = pure true) (hnt : isSubtype (.type ((Manifest.find? T').elim "type" fun y => y.metatype)) (.type "tuple") = pure false) (hsub : isSubtype (.type X) (.type T') = pure false)
    (k : wpAny (model prog w) (A₀.deeper (envOf name scope L a cd)) (handleBy (.ref e) (envOf name scope L a cd) rest) Q E s)
    (hk : scope.kind = .function := by rfl) (hx : (envOf name scope L a cd).kindOf x = some .globalImplicit := by rfl) (hd : (x == ("__debug__" : Str)) = false := by decide) :
    wpAny (model prog w) (A₀.deeper (envOf name scope L a cd)) (handleBy (.ref e) (envOf name scope L a cd) (.ExceptHandler (some (.Name x np)) none (b₀ :: suite) pos :: rest)) Q E s := by
  obtain ⟨B, a0, hB, hBG, hl, hL, hheld, hsm⟩ := H
  obtain ⟨g₅, T₅, F₅, K₅⟩ := kts_ground K F hBG hheld.1 hsm
  obtain ⟨ob, hob, hobc⟩ := hheld.there
  exact wpAny_handleBy_builtin (X := X) (T := T') (b := false) hexc hnt hsub (name_B F₅ (XB.keeps K₅.stays) (topRead_of (TB.keeps K₅.stays)) ex hv hn' ⟨rfl, ⟨ob, hob, hobc⟩, k⟩ hk hx hd)
theorem heldS_take (H : HeldS base G L (envOf name scope L a cd :: outer) e X news s.heap) (F : Fr g L G m) (K : Below A₀ base outer g) (XB : KF.In base) (TB : Top p loose mean mg mb base) (D : KtsDicts (frs outer) g)
    (ex : nsIn KF mainGlobals x = some none) (hv : bootBuiltins x = some (.type T')) (hn' : x ≠ "__name__")
    (hexc : isSubtype (.type T') (.type "BaseException") = pure true) (hnt : isSubtype (.type ((Manifest.find? T').elim "type" fun y => y.metatype)) (.type "tuple") = pure false) (hsub : isSubtype (.type X) (.type T') = pure true)
    (k : ∀ h' g', KtsTurn (frs outer) g g' → Fr g' L h' m → News g' L h' news → Below A₀ base outer g' → KF.In g' → Top p loose mean mg mb g' → KtsDicts (frs outer) g' →
      wpAny (model prog w) ((A₀.deeper (envOf name scope L a cd)).mark (some (.ref e))) (execs (b₀ :: suite) (envOf name scope L a cd)) Q E { s with heap := h' })
    (hk : scope.kind = .function := by rfl) (hx : (envOf name scope L a cd).kindOf x = some .globalImplicit := by rfl) (hd : (x == ("__debug__" : Str)) = false := by decide)
    (hE : PassesOwnAt (model prog w) ((A₀.deeper (envOf name scope L a cd)).mark (some (.ref e))) (A₀.deeper (envOf name scope L a cd)) (envOf name scope L a cd) E := by passes_own) :
    wpAny (model prog w) (A₀.deeper (envOf name scope L a cd)) (handleBy (.ref e) (envOf name scope L a cd) (.ExceptHandler (some (.Name x np)) none (b₀ :: suite) pos :: rest)) Q E s := by
  obtain ⟨B, a0, hB, hBG, hl, hL, hheld, hsm⟩ := H
  obtain ⟨g₅, T₅, F₅, K₅⟩ := kts_ground K F hBG hheld.1 hsm
  obtain ⟨ob, hob, hobc⟩ := hheld.there
  refine wpAny_handleBy_builtin (X := X) (T := T') (b := true) hexc hnt hsub (name_B F₅ (XB.keeps K₅.stays) (topRead_of (TB.keeps K₅.stays)) ex hv hn' ⟨rfl, ⟨ob, hob, hobc⟩, ?_⟩ hk hx hd)
  refine lands_againW hheld fun h₆ hfl₆ hsm₆ => ?_
  obtain ⟨g₆, T₆, F₆, K₆⟩ := kts_ground K F hBG hfl₆.1 (hsm.trans hsm₆)
  have Nl : News g₆ L h₆ news := fun q hq => ⟨hfl₆.1 _ _ (hl q hq).1, (fun z => by have := (hl q hq).1; rw [z, hL] at this; cases this), T₆.none_ _ (kts_none F.keep (hl q hq).2.1)⟩
  exact wpAny_passesOwnAt hE (k h₆ g₆ T₆ F₆ Nl K₆ (XB.keeps K₆.stays) (TB.keeps K₆.stays) (D.turn T₆))
end
end Mine


namespace Mine
section
variable {prog : Program} {w : World} {A : Around} {E : Value → Shared → Prop} {s : Shared}
theorem msg_fits2 {op a b : String} (ho : op.length ≤ 100) (ha : a.length ≤ 100) (hb : b.length ≤ 100) : (Str.ofString s!"'{op}' not supported between instances of '{a}' and '{b}'").length ≤ sizeLine := by
  rw [PySem.ofString_length, sizeLine_eq]
  simp only [String.length_append, toString]
  have e1 : "'".length ≤ 100 := by decide
  have e3 : "' not supported between instances of '".length ≤ 100 := by decide
  have e4 : "' and '".length ≤ 100 := by decide
  omega
/-- an int at the left of <=, a text at the right -/
theorem le_int_str {i : Int} {t : Tok} {x : Str} {u : Tok} {Q : Value → Shared → Prop} (hh : A.handled = none)
    (h : ∀ h' tk e, Heap.NewExc s.heap h' e "TypeError" → E (.ref e) { s with heap := h', toks := tk }) :
    wpAny (model prog w) A (compareOp .LtE (.int i t) (.str x u)) Q E s := by
  refine cmp_ofLtE ?_
  have hT : ∀ s' : Shared, s'.TypeIs (.int i t) "int" := fun _ => rfl
  have hS : ∀ s' : Shared, s'.TypeIs (.str x u) "str" := fun _ => rfl
  simp only [richCompare, cmpInfo, (hT s).oneThing_none]
  refine wpAny_holding (wpAny_bind (wpAny_cRoomFor_or (.inl rfl) ?_))
  refine wpAny_bind (wpAny_typeOf (hT s) (wpAny_bind (wpAny_typeOf (hS s) ?_)))
  simp only [show (Value.type "int" != Value.type "str") = true from rfl, if_true]
  refine wpAny_bind (wpAny_of_eq isSubtype_str_int ?_)
  simp only [Bool.false_eq_true, if_false, Bool.not_false, if_true]
  refine wpAny_bind (wpAny_tryCompare_declines (hT s) PySem.F.slot_int_le ?_)
  refine wpAny_call_entry PySem.F.slot_int_le (hT s) PySem.F.entry_int_le
    (show wpAny _ _ (do rule "int.binary.not-an-int"; ret .notImplemented) _ _ s from wpAny_bind (wpAny_rule (wpAny_pure ⟨_, rfl, rfl, ?_⟩))) (PySem.F.args_int_le_2 _ _)
  dsimp only
  refine wpAny_bind (wpAny_tryCompare_declines (hS s) PySem.F.slot_str_ge ?_)
  refine wpAny_call_entry PySem.F.slot_str_ge (hS s) PySem.F.entry_str_ge
    (show wpAny _ _ (do rule "str.__ge__.not-a-str"; ret .notImplemented) _ _ s from wpAny_bind (wpAny_rule (wpAny_pure ⟨_, rfl, rfl, ?_⟩))) (PySem.F.args_str_ge_2 _ _)
  dsimp only
  refine wpAny_bind (wpAny_rule (wpAny_bind (wpAny_typeNameOf' (hT _) (by decide) (wpAny_bind (wpAny_typeNameOf' (hS _) (by decide) ?_)))))
  exact wpAny_raiseTypeError hh h (msg_fits2 (by decide) (by decide) (by decide))
end
end Mine


namespace Mine
/-! == and != of lists and tuples that are equal item by item (things by identity) -/
inductive EqsAt (A : Around) (s : Shared) : List Value → List Value → Prop
  | nil : EqsAt A s [] []
  | cons {v u : Value} {vs us : List Value} : SeqAt.EqAt A s v u true → EqsAt A s vs us → EqsAt A s (v :: vs) (u :: us)
section
variable {A : Around} {s : Shared} {vs us : List Value} {l b : Addr}
theorem EqsAt.length (e : EqsAt A s vs us) : vs.length = us.length := by
  induction e with
  | nil => rfl
  | cons _ _ ih => simp [ih]
theorem EqsAt.at (e : EqsAt A s vs us) : ∀ (j : Nat) (h1 : j < vs.length) (h2 : j < us.length), SeqAt.EqAt A s vs[j] us[j] true := by
  induction e with
  | nil => intro j h1; exact absurd h1 (Nat.not_lt_zero _)
  | cons h _ ih =>
    intro j h1 h2
    cases j with
    | zero => exact h
    | succ j => exact ih j (Nat.lt_of_succ_lt_succ h1) (Nat.lt_of_succ_lt_succ h2)
theorem eq_str {x : Str} {t u : Tok} : SeqAt.EqAt A s (.str x t) (.str x u) true := by
  have h := SeqAt.EqAt.str_str (A := A) (s := s) x t x u
  rwa [beq_self_eq_true] at h
theorem eq_int {x : Int} {t u : Tok} : SeqAt.EqAt A s (.int x t) (.int x u) true := by
  have h := SeqAt.EqAt.int_int (A := A) (s := s) x t x u
  rwa [beq_self_eq_true] at h
theorem tup_rc (hl : s.heap.IsTuple l vs.toArray) (hb : s.heap.IsTuple b us.toArray) (hu : A.units < cLine) (e : EqsAt A.in1 s vs us) : SeqAt.RcAt A s (.ref l) (.ref b) true := by
  have h := SeqAt.RcAt.tuples (e := fun _ => true) hl hb hu (fun j h1 h2 => by simpa using e.at j (by simpa using h1) (by simpa using h2))
  have q := e.length
  rwa [show ((List.range (min vs.toArray.size us.toArray.size)).all (fun _ => true) && vs.toArray.size == us.toArray.size) = true from by simp [q]] at h
theorem list_rc (hl : s.heap.IsList l vs.toArray) (hb : s.heap.IsList b us.toArray) (hu : A.units < cLine) (e : EqsAt A.in1 s vs us) : SeqAt.RcAt A s (.ref l) (.ref b) true := by
  have h := SeqAt.RcAt.lists (e := fun _ => true) hl hb (by simpa using e.length) hu (fun j h1 h2 => by simpa using e.at j (by simpa using h1) (by simpa using h2))
  rwa [show ((List.range vs.toArray.size).all (fun _ => true)) = true from by simp] at h
theorem eq_tup (hl : s.heap.IsTuple l vs.toArray) (hb : s.heap.IsTuple b us.toArray) (hu : A.units < cLine) (e : EqsAt A.in1 s vs us) : SeqAt.EqAt A s (.ref l) (.ref b) true := by
  by_cases q : l = b
  · rw [q]; exact SeqAt.EqAt.same _
  · exact SeqAt.EqAt.of_refs q (tup_rc hl hb hu e)
end
section
variable {prog : Program} {w : World} {A : Around} {E : Value → Shared → Prop} {s : Shared} {vs us : List Value} {l b : Addr} {Q : Value → Shared → Prop}
theorem cmp_eq_list (hl : s.heap.IsList l vs.toArray) (hb : s.heap.IsList b us.toArray) (hu : A.units < cLine) (e : EqsAt A.in1 s vs us) (h : Q (.bool true) s) : wpAny (model prog w) A (compareOp .Eq (.ref l) (.ref b)) Q E s := list_rc hl hb hu e prog w E Q h
theorem cmp_ne_list (hl : s.heap.IsList l vs.toArray) (hb : s.heap.IsList b us.toArray) (hu : A.units < cLine) (e : EqsAt A.in1 s vs us) (h : Q (.bool false) s) : wpAny (model prog w) A (compareOp .NotEq (.ref l) (.ref b)) Q E s := by
  have k := SeqAt.RcNeAt.lists (e := fun _ => true) hl hb (by simpa using e.length) hu (fun j h1 h2 => by simpa using e.at j (by simpa using h1) (by simpa using h2))
  rw [show (!((List.range vs.toArray.size).all (fun _ => true))) = false from by simp] at k
  exact k prog w E Q h
end
theorem tup_at {h₀ h : Heap} {L l : Addr} {news : List (Addr × Obj)} {vs : List Value} {n : Nat} (N : News h₀ L h news) (hl : (l, { cls := .type "tuple", data := .seq vs.toArray n }) ∈ news) : h.IsTuple l vs.toArray := ⟨_, (N _ hl).1, rfl, _, rfl⟩
end Mine


namespace Mine
section
variable {prog : Program} {w : World} {A : Around} {E : Value → Shared → Prop} {s : Shared} {h₀ : Heap} {L D : Addr} {m : Str → Option Value} {news : List (Addr × Obj)} {news' : Nat → List (Addr × Obj)} {its : Array Value} {n : Nat}
/-- xs.clear(), the list empty or not -/
theorem clear_led {Q : Value → Shared → Prop} (F : Fr h₀ L s.heap m) (N : News h₀ L s.heap news) (hz : its.size ≤ 2 ^ 20) (U : ∀ n', Upd D (W.listOf its n) (W.listOf #[] n') news (news' n'))
    (h : ∀ h' n', Fr h₀ L h' m → News h₀ L h' (news' n') → Q .none { s with heap := h' }) : wpAny (model prog w) A (call (.builtin "list.clear") [.ref D]) Q E s := by
  have hz' : its.toList.length ≤ sizeLine := Nat.le_trans (by rw [Array.length_toList]; exact hz) lineBig
  by_cases hne : its.toList.length = 0
  · obtain ⟨pre, post, rfl, q, a, c⟩ := (U n).split
    have z := N (D, W.listOf its n) (List.mem_append.mpr (.inr (.head _)))
    refine call_meets PySem.F.slot_list_clear ⟨_, z.1, rfl⟩ PySem.F.entry_list_clear (PySem.F.args_list_clear_1 _) (PySem.AutoSeq1.list_clear_list_0 D its n (by simpa using hz')) ⟨z.1, h _ n (F.change (Heap.SameBut.update ..) z.2.1 z.2.2) ?_⟩
    rw [q]
    exact kl_turn0 (fun _ => #[]) N a c rfl (by simpa using hne.symm)
  · exact kl_clear F N (U (n + 1)) hne hz' fun h' F' N' => h h' _ F' N'
end
end Mine


namespace Mine
/-- the heap's first C places -/
def cutH (h : Heap) (C : Nat) : Heap := { h with objs := h.objs.extract 0 C }
theorem cutH_lt {h : Heap} {C : Nat} {b : Addr} (hb : @LT.lt Nat _ b C) : (cutH h C).get? b = h.get? b := by
  unfold Heap.get? cutH
  have : (h.objs.extract 0 C)[b]? = h.objs[b]? := by
    rw [Array.getElem?_extract]
    by_cases q : b < min C h.objs.size
    · simp [q]
    · have : h.objs[b]? = none := Array.getElem?_eq_none (by have hb' : @LT.lt Nat _ b C := hb; have q' : ¬ @LT.lt Nat _ b (min C h.objs.size) := q; show @LE.le Nat _ h.objs.size b; omega)
      simp [this, q]
  simp only [this]
theorem cutH_ge {h : Heap} {C : Nat} {b : Addr} (hb : @LE.le Nat _ C b) : (cutH h C).get? b = none := by
  unfold Heap.get? cutH
  have : (h.objs.extract 0 C)[b]? = none := Array.getElem?_eq_none (by simp; omega)
  simp only [this]
theorem of_cutH {h : Heap} {C : Nat} {b : Addr} {o : Obj} (e : (cutH h C).get? b = some o) : h.get? b = some o := by
  by_cases q : @LT.lt Nat _ b C
  · rwa [cutH_lt q] at e
  · rw [cutH_ge (Nat.le_of_not_lt q)] at e; cases e
theorem cutH_size {h : Heap} {C : Nat} : (cutH h C).objs.size ≤ C := by
  show (h.objs.extract 0 C).size ≤ C
  simp
  omega
section
variable {prog : Program} {w : World} {A : Around} {E : Value → Shared → Prop} {s : Shared} {h₀ : Heap} {L : Addr} {m mg mb : Str → Option Value} {K : Frag} {p : Program} {loose : List Str} {mean : ExcName → Option Value} {x : Str} {pos : Pos} {env : Env} {v : Value}
theorem name_env (F : Fr h₀ L s.heap m) (X : K.In h₀) (T : TopRead p loose mg mb h₀) (e : nsIn K mainGlobals x = some (some v)) {Q : Value → Shared → Prop} (h : Q v s) (hg : env.globals = mainGlobals)
    (hk : env.scope.kind = .function) (hx : env.kindOf x = some .globalImplicit) (hd : (x == ("__debug__" : Str)) = false) :
    wpAny (model prog w) A (eval (.Name x pos) env) Q E s :=
  Name_function_global hk hx (loadGlobal_global (hg ▸ (T.g.keeps F.keep)) (mg_of X T.g e) h) hd
/-- a call of a def of K, by name, with one local, in any function's env -/
theorem call1_env {f : Str} {a : Addr} {pf px pos : Pos} (F : Fr h₀ L s.heap m) (X : K.In h₀) (T : TopRead p loose mg mb h₀) (e : nsIn K mainGlobals f = some (some (.ref a))) (hk' : keepIn K (.ref a) = true) {Q : Value → Shared → Prop} (hg : env.globals = mainGlobals)
    (hk : env.scope.kind = .function) (hf : env.kindOf f = some .globalImplicit) (hdf : (f == ("__debug__" : Str)) = false) (hl : env.locals = L) (hx : env.kindOf x = some .local) (hdx : (x == ("__debug__" : Str)) = false) (hv : m x = some v)
    (h : wpAny (model prog w) A (call (.ref a) [v]) Q E s) : wpAny (model prog w) A (eval (.Call (.Name f pf) [.Name x px] [] pos) env) Q E s := by
  refine Call_ ?_
  refine name_env F X T e ?_ hg hk hf hdf
  refine callWith_K X hk' ?_
  refine spliced_more ?_
  subst hl
  refine wpAny_Name (wpAny_loadName_local hk hx F.ns hv ?_) hdx
  refine spliced_none ⟨X.keeps F.keep, h⟩
end
end Mine


namespace Mine
theorem fill : PySem.Challenge.rw_dn0254_07.row.prog = PySem.Challenge.rw_dn0254_07.row.prog ∧ Mine.hd.heap_39 = Mine.hd.heap_39 := by
  w_top off
  k_fill
  exact ⟨rfl, rfl⟩
theorem item_tup5g {prog : Program} {w : World} {A : Around} {E : Value → Shared → Prop} {s : Shared} {h₀ : Heap} {L l : Addr} {news : List (Addr × Obj)} {value slice : PySem.Expr} {k a1 a2 a3 a4 a5 : Int} {t1 t2 t3 t4 t5 u : Tok} {n : Nat} {Q : Value → Shared → Prop} (N : News h₀ L s.heap news)
    (hl : (l, { cls := .type "tuple", data := .seq #[.int a1 t1, .int a2 t2, .int a3 t3, .int a4 t4, .int a5 t5] n }) ∈ news) (h0 : 0 ≤ k) (h1 : k < 5) (h : ∀ c t, Q (.int c t) s)
    (hs : subscripted slice false (.ref l) (.int k u) = operate [.ref l, .int k u] (getItem (.ref l) (.int k u)) := by with_unfolding_all rfl) :
    wpAny (model prog w) A (subscriptTail value slice (.ref l) (.int k u)) Q E s := by
  exact item_tup5 N hl h0 h1 (fun _ => h _ _) (fun _ => h _ _) (fun _ => h _ _) (fun _ => h _ _) (fun _ => h _ _) hs
abbrev ktrAny (dp un : Nat) (gd : Option (List Code)) (env : Env) (outer : List Env) : Around := { handled := none, depth := dp, frames := some (env :: outer), guards := gd, units := un }
section
variable {w : World} {E : Value → Shared → Prop} {s : Shared} {L : Addr} {h₀ : Heap} {m : Str → Option Value} {ga : Nat} {go : Obj}
local macro_rules | `(tactic| keq_rows) => `(tactic| first | (k_unfold; (try dsimp only)) | walk1 | (dsimp only; walk1))
local macro_rules | `(tactic| keq_hits) => `(tactic| repeat' ((fail_if_success (with_reducible show wpAny _ _ (execs (PySem.Stmt.If _ _ _ _ :: _) _) _ _ _)); keq_rows))
local macro_rules | `(tactic| kwd_less) => `(tactic| repeat' ((fail_if_success (with_reducible show wpAny _ _ (subscriptTail _ _ _ _) _ _ _)); (fail_if_success (with_reducible show wpAny _ _ (execs (PySem.Stmt.If _ _ _ _ :: _) _) _ _ _)); keq_rows))
local macro_rules | `(tactic| k_all) => `(tactic| assumption)
end
end Mine


namespace Mine
theorem fill2 : PySem.Challenge.rw_dn0254_07.row.prog = PySem.Challenge.rw_dn0254_07.row.prog ∧ Mine.hd.heap_39 = Mine.hd.heap_39 := by
  w_top off
  k_fill
  exact ⟨rfl, rfl⟩
/-- the def that a body makes at a place -/
def fnAt (body : List Stmt) (i : Nat) (env : Env) (cl : List (Str × Addr)) (dc pm : Value) (c : Addr) (ct : Value) : Obj := match body[i]? with
  | some (.FunctionDef name params b _ _ _ scope _ _ _) => fnMade name (qualnameIn env name name) params b scope cl dc pm c ct
  | _ => default
theorem lookup_same {K : Frag} {f : Addr} {oc oc' : Value} {od od' : Option Addr} {name qual name' qual' : Str} {params params' : Arguments} {body body' : List Stmt} {scope scope' : Scope} {dV kV doc pm cdv ct dV' kV' doc' pm' cdv' ct' : Value} {an an' : Option Addr} {osl osl' : Array (Option Value)} {P : Prop}
    (h : K.lookup f = some ⟨oc, od, .func (fnOf name qual params body scope dV kV doc pm an cdv ct), osl⟩) (h' : K.lookup f = some ⟨oc', od', .func (fnOf name' qual' params' body' scope' dV' kV' doc' pm' an' cdv' ct'), osl'⟩)
    (k : body = body' → scope = scope' → P) : P := by
  have e := Option.some.inj (h.symm.trans h')
  have e2 := congrArg Obj.data e
  simp only [Data.func.injEq, FuncData.mk.injEq, FuncBody.stmts.injEq] at e2
  exact k e2.2.2.2.1 e2.2.2.2.2.1
/-- what a round has made: addresses, ints, and what comes along -/
structure V07 where
  L : Nat
  fbe : Nat
  kbe : Nat
  fge : Nat
  kge : Nat
  fbi : Nat
  kbi : Nat
  fgi : Nat
  kgi : Nat
  xp : Nat
  dpr : Nat
  xr : Nat
  dr : Nat
  xa : Nat
  da : Nat
  lc : Nat
  lt : Nat
  lh : Nat
  lq : Nat
  Df : Nat
  ga : Nat
  go : Obj
  obe : Obj
  oge : Obj
  obi : Obj
  ogi : Obj
  oc1 : Obj
  oc2 : Obj
  oc3 : Obj
  n : Int
  mm : Int
  code : Int
  a : Int
  b : Int
  t : Tok
  tm : Tok
  tc : Tok
  ta : Tok
  tb : Tok
  pn : Value
  dc1 : Value
  dc2 : Value
  dc3 : Value
  dc4 : Value
  ct1 : Value
  ct2 : Value
  ct3 : Value
  ct4 : Value
  v1 : Array Value
  v2 : Array Value
  v3 : Array Value
  v4 : Array Value
  t1 : Tok
  t2 : Tok
  t3 : Tok
  t4 : Tok
  ps : Array Value
abbrev env07 (scope : Scope) (L : Nat) : Env := envOfC "_law_round" scope L 89 (.ref 88)
def led07 (v : V07) (body : List Stmt) (scope : Scope) (odp odr oda olc : Obj) : List (Addr × Obj) :=
  [(v.fbe, fnAt body 13 (env07 scope v.L) [("calls", v.L + 1)] v.dc1 v.pn v.kbe v.ct1), (v.kbe, v.obe), (v.fge, fnAt body 12 (env07 scope v.L) [("token", v.L + 1 + 1 + 1), ("calls", v.L + 1)] v.dc2 v.pn v.kge v.ct2), (v.kge, v.oge),
    (v.fbi, fnAt body 11 (env07 scope v.L) [("calls", v.L + 1)] v.dc3 v.pn v.kbi v.ct3), (v.kbi, v.obi), (v.fgi, fnAt body 10 (env07 scope v.L) [("head", v.L + 1 + 1), ("calls", v.L + 1)] v.dc4 v.pn v.kgi v.ct4), (v.kgi, v.ogi),
    (v.xp, instObj 66 v.dpr), (v.dpr, odp), (v.xr, instObj 45 v.dr), (v.dr, odr), (v.xa, instObj 45 v.da), (v.da, oda), (v.lc, olc), (v.lt, W.listOf #[.int v.code v.tc] 0), (v.lh, W.listOf #[.int v.mm v.tm] 0), (v.lq, W.listOf #[.int v.n v.t] 0),
    (v.Df, { cls := .type "tuple", data := .seq #[.int v.a v.ta, .int v.b v.tb] }), (v.L + 1 + 1 + 1, v.oc3), (v.L + 1 + 1, v.oc2), (v.L + 1, v.oc1), (84, tabObj v.ps), (v.ga, v.go)]
structure Ok07 (v : V07) (scope : Scope) : Prop where
  ho1 : v.oc1.data = .cell (some (.ref v.lc))
  ho2 : v.oc2.data = .cell (some (.ref v.lh))
  ho3 : v.oc3.data = .cell (some (.ref v.lt))
  hc1 : v.obe.data = .fields v.v1
  hd1 : v.v1[1]? = some (.str (qualnameIn (env07 scope v.L) "_law_bad_error" "_law_bad_error") v.t1)
  hc2 : v.oge.data = .fields v.v2
  hd2 : v.v2[1]? = some (.str (qualnameIn (env07 scope v.L) "_law_good_error" "_law_good_error") v.t2)
  hc3 : v.obi.data = .fields v.v3
  hd3 : v.v3[1]? = some (.str (qualnameIn (env07 scope v.L) "_law_bad_info" "_law_bad_info") v.t3)
  hc4 : v.ogi.data = .fields v.v4
  hd4 : v.v4[1]? = some (.str (qualnameIn (env07 scope v.L) "_law_good_info" "_law_good_info") v.t4)
  hord : 84 < v.L ∧ v.ga < v.L ∧ 84 ≠ v.ga ∧ v.L + 3 < v.Df ∧ v.Df < v.lq ∧ v.lq < v.lh ∧ v.lh < v.lt ∧ v.lt < v.lc ∧ v.lc < v.da ∧ v.da < v.xa ∧ v.xa < v.dr ∧ v.dr < v.xr ∧ v.xr < v.dpr ∧ v.dpr < v.xp ∧ v.xp < v.fgi ∧ v.fgi < v.fbi ∧ v.fbi < v.fge ∧ v.fge < v.fbe
  hork : (v.kbe < v.L ∨ v.xp < v.kbe) ∧ (v.kge < v.L ∨ v.xp < v.kge) ∧ (v.kbi < v.L ∨ v.xp < v.kbi) ∧ (v.kgi < v.L ∨ v.xp < v.kgi) ∧ v.kbe ≠ 84 ∧ v.kge ≠ 84 ∧ v.kbi ≠ 84 ∧ v.kgi ≠ 84
theorem Ok07.lab {v : V07} {scope : Scope} (ok : Ok07 v scope) : ∃ c : Nat → Nat, Lb c (84) 16 ∧ Lb c (v.L) 15 ∧ Lb c (v.L + 1) 14 ∧ Lb c (v.L + 1 + 1) 13 ∧ Lb c (v.L + 1 + 1 + 1) 12 ∧ Lb c (v.Df) 11 ∧ Lb c (v.lq) 10 ∧ Lb c (v.lh) 9 ∧ Lb c (v.lt) 8 ∧ Lb c (v.lc) 7 ∧ Lb c (v.da) 6 ∧ Lb c (v.xa) 5 ∧ Lb c (v.dr) 4 ∧ Lb c (v.xr) 3 ∧ Lb c (v.dpr) 2 ∧ Lb c (v.xp) 1 ∧ Lb c v.kbe 0 ∧ Lb c v.kge 0 ∧ Lb c v.kbi 0 ∧ Lb c v.kgi 0 ∧ Lb c v.fgi 0 ∧ Lb c v.fbi 0 ∧ Lb c v.fge 0 ∧ Lb c v.fbe 0 ∧ Lb c v.ga 0 := by
  obtain ⟨-, -, -, -, -, -, -, -, -, -, -, hord, hork⟩ := ok
  obtain ⟨o1, o2, o3, o4, o5, o6, o7, o8, o9, o10, o11, o12, o13, o14, o15, o16, o17, o18⟩ := hord
  obtain ⟨k1, k2, k3, k4, k5, k6, k7, k8⟩ := hork
  have i15 : Inc [v.xp] := .one _
  have i14 : Inc [v.dpr, v.xp] := .cons (o14) i15
  have i13 : Inc [v.xr, v.dpr, v.xp] := .cons (o13) i14
  have i12 : Inc [v.dr, v.xr, v.dpr, v.xp] := .cons (o12) i13
  have i11 : Inc [v.xa, v.dr, v.xr, v.dpr, v.xp] := .cons (o11) i12
  have i10 : Inc [v.da, v.xa, v.dr, v.xr, v.dpr, v.xp] := .cons (o10) i11
  have i9 : Inc [v.lc, v.da, v.xa, v.dr, v.xr, v.dpr, v.xp] := .cons (o9) i10
  have i8 : Inc [v.lt, v.lc, v.da, v.xa, v.dr, v.xr, v.dpr, v.xp] := .cons (o8) i9
  have i7 : Inc [v.lh, v.lt, v.lc, v.da, v.xa, v.dr, v.xr, v.dpr, v.xp] := .cons (o7) i8
  have i6 : Inc [v.lq, v.lh, v.lt, v.lc, v.da, v.xa, v.dr, v.xr, v.dpr, v.xp] := .cons (o6) i7
  have i5 : Inc [v.Df, v.lq, v.lh, v.lt, v.lc, v.da, v.xa, v.dr, v.xr, v.dpr, v.xp] := .cons (o5) i6
  have i4 : Inc [v.L + 1 + 1 + 1, v.Df, v.lq, v.lh, v.lt, v.lc, v.da, v.xa, v.dr, v.xr, v.dpr, v.xp] := .cons (o4) i5
  have i3 : Inc [v.L + 1 + 1, v.L + 1 + 1 + 1, v.Df, v.lq, v.lh, v.lt, v.lc, v.da, v.xa, v.dr, v.xr, v.dpr, v.xp] := .cons (Nat.lt_succ_self _) i4
  have i2 : Inc [v.L + 1, v.L + 1 + 1, v.L + 1 + 1 + 1, v.Df, v.lq, v.lh, v.lt, v.lc, v.da, v.xa, v.dr, v.xr, v.dpr, v.xp] := .cons (Nat.lt_succ_self _) i3
  have i1 : Inc [v.L, v.L + 1, v.L + 1 + 1, v.L + 1 + 1 + 1, v.Df, v.lq, v.lh, v.lt, v.lc, v.da, v.xa, v.dr, v.xr, v.dpr, v.xp] := .cons (Nat.lt_succ_self _) i2
  have i0 : Inc [84, v.L, v.L + 1, v.L + 1 + 1, v.L + 1 + 1 + 1, v.Df, v.lq, v.lh, v.lt, v.lc, v.da, v.xa, v.dr, v.xr, v.dpr, v.xp] := .cons (o1) i1
  have f1 := Nat.lt_trans o15 o16
  have f2 := Nat.lt_trans f1 o17
  have f3 := Nat.lt_trans f2 o18
  refine ⟨rk [84, v.L, v.L + 1, v.L + 1 + 1, v.L + 1 + 1 + 1, v.Df, v.lq, v.lh, v.lt, v.lc, v.da, v.xa, v.dr, v.xr, v.dpr, v.xp], i0.at 0 _ rfl, i0.at 1 _ rfl, i0.at 2 _ rfl, i0.at 3 _ rfl, i0.at 4 _ rfl, i0.at 5 _ rfl, i0.at 6 _ rfl, i0.at 7 _ rfl, i0.at 8 _ rfl, i0.at 9 _ rfl, i0.at 10 _ rfl, i0.at 11 _ rfl, i0.at 12 _ rfl, i0.at 13 _ rfl, i0.at 14 _ rfl, i0.at 15 _ rfl, (rk_tl k5).trans (i1.out rfl k1), (rk_tl k6).trans (i1.out rfl k2), (rk_tl k7).trans (i1.out rfl k3), (rk_tl k8).trans (i1.out rfl k4), (rk_tl (Nat.ne_of_gt (by omega))).trans (i1.out rfl (.inr o15)), (rk_tl (Nat.ne_of_gt (by omega))).trans (i1.out rfl (.inr f1)), (rk_tl (Nat.ne_of_gt (by omega))).trans (i1.out rfl (.inr f2)), (rk_tl (Nat.ne_of_gt (by omega))).trans (i1.out rfl (.inr f3)), (rk_tl (Ne.symm o3)).trans (i1.out rfl (.inl o2))⟩
structure Nm07 (v : V07) (m : Str → Option Value) : Prop where
  m1 : m "_law_bad_error" = some (.ref v.fbe)
  m2 : m "_law_good_error" = some (.ref v.fge)
  m3 : m "_law_bad_info" = some (.ref v.fbi)
  m4 : m "_law_good_info" = some (.ref v.fgi)
  m5 : m "processor" = some (.ref v.xp)
  m6 : m "parent" = some (.ref v.xr)
  m7 : m "answer" = some (.ref v.xa)
  m8 : m "request" = some (.ref v.lq)
  m9 : m "code" = some (.int v.code v.tc)
  m10 : ∃ tq, m "m" = some (.int v.mm tq)
  m11 : m "faults" = some (.ref v.Df)
structure Ans07 (v : V07) (es : List DictEntry) : Prop where
  code : SlotIs "code" es (inF v.a v.b 1) fun x => (inF v.a v.b 5 = true ∧ ∃ t, x = .str "204" t) ∨ (inF v.a v.b 5 = false ∧ x = .int v.code v.tc)
  msg : SlotIs "msg" es (inF v.a v.b 2) fun x => ∃ t, x = .str "word" t
  info : SlotIs "info" es (inF v.a v.b 3) fun x => (inF v.a v.b 4 = true ∧ x = .ref v.fbi) ∨ (inF v.a v.b 4 = false ∧ x = .ref v.fgi)
  len : es.length ≤ 3
structure Par07 (v : V07) (es : List DictEntry) : Prop where
  err : SlotIs "error" es (inF v.a v.b 6) fun x => (inF v.a v.b 7 = true ∧ x = .ref v.fbe) ∨ (inF v.a v.b 7 = false ∧ x = .ref v.fge)
  len : es.length ≤ 1
structure Pro07 (v : V07) (es : List DictEntry) : Prop where
  par : SlotIs "parent" es (inF v.a v.b 6 && decide (v.mm.fmod 2 = 0)) fun x => x = .ref v.xr
  addp : getL "add_parent" es = some none
  resp : getL "http_response" es = some none
  len : es.length ≤ 1
section
variable {w : World} {E : Value → Shared → Prop} {s : Shared} {h₀ : Heap} {m : Str → Option Value}
theorem fill11 {k1 k2 k3 k4 k5 k6 k7 k8 k9 k10 k11 : Str} {v1 v2 v3 v4 v5 v6 v7 v8 v9 v10 v11 : Value} (e1 : m k1 = some v1) (e2 : m k2 = some v2) (e3 : m k3 = some v3) (e4 : m k4 = some v4) (e5 : m k5 = some v5) (e6 : m k6 = some v6) (e7 : m k7 = some v7) (e8 : m k8 = some v8) (e9 : m k9 = some v9) (e10 : m k10 = some v10) (e11 : m k11 = some v11) : (fun y => if y = k1 then some v1 else if y = k2 then some v2 else if y = k3 then some v3 else if y = k4 then some v4 else if y = k5 then some v5 else if y = k6 then some v6 else if y = k7 then some v7 else if y = k8 then some v8 else if y = k9 then some v9 else if y = k10 then some v10 else if y = k11 then some v11 else m y) = m := funext fun y => by simp only [fill1 e1, fill1 e2, fill1 e3, fill1 e4, fill1 e5, fill1 e6, fill1 e7, fill1 e8, fill1 e9, fill1 e10, fill1 e11]
def Post07 (h₀ : Heap) (m : Str → Option Value) (v : V07) (body : List Stmt) (scope : Scope) (olc : Obj) (P : List DictEntry → List DictEntry → List DictEntry → Prop) (s : Shared) (f : Flow) (s' : Shared) : Prop :=
  f = .next ∧ ∃ h tk ep np er nr ea na, s' = { s with heap := h, toks := tk } ∧ (∃ m', Fr h₀ v.L h m' ∧ m' = m) ∧ News h₀ v.L h (led07 v body scope (dictOf ep np) (dictOf er nr) (dictOf ea na) olc) ∧ P ea er ep
theorem cut07 {M : Model} {A : Around} {env : Env} {st : Stmt} {rest : List Stmt} {Q : Flow → Shared → Prop} {v : V07} {body : List Stmt} {scope : Scope} {odp odr oda olc : Obj} (_F : Fr h₀ v.L s.heap m) (_N : News h₀ v.L s.heap (led07 v body scope odp odr oda olc)) (P : List DictEntry → List DictEntry → List DictEntry → Prop)
    (h1 : wpAny M A (exec st env) (Post07 h₀ m v body scope olc P s) E s)
    (h2 : ∀ h tk ep np er nr ea na, P ea er ep → Fr h₀ v.L h m → News h₀ v.L h (led07 v body scope (dictOf ep np) (dictOf er nr) (dictOf ea na) olc) → wpAny M A (execs rest env) Q E { s with heap := h, toks := tk }) :
    wpAny M A (execs (st :: rest) env) Q E s := seq_cut (fun s' => Post07 h₀ m v body scope olc P s .next s') (wpAny_mono h1 (fun f s' z => ⟨z.1, by obtain ⟨rfl, z⟩ := z; exact ⟨rfl, z⟩⟩) fun _ _ z => z) fun s' h => by
  obtain ⟨-, h, tk, ep, np, er, nr, ea, na, rfl, ⟨m', F', rfl⟩, N', p⟩ := h
  exact h2 h tk ep np er nr ea na p F' N'
local macro_rules | `(tactic| k_ne) => `(tactic| (refine' neR ?a1 ?a2 ?a3; (case a1 => (with_reducible assumption)); (case a2 => (with_reducible assumption)); (case a3 => exact rfl)))
local macro_rules | `(tactic| keq_rows) => `(tactic| first | (k_unfold; (try dsimp only)) | walk1 | (dsimp only; walk1))
local macro_rules | `(tactic| walk_at "compareOp NotIn int ref") => `(tactic| (k_here; k_dflt (refine' notin_two ?a ?b ?_; (case a => k_asm); (case b => k_mem); k_whole)))
local macro_rules | `(tactic| walk_at "compareOp In int ref") => `(tactic| (k_here; k_dflt (refine' in_two ?a ?b ?_; (case a => k_asm); (case b => k_mem); k_whole)))
local macro_rules | `(tactic| walk_at "setAttr ref") => `(tactic| (k_here; k_dflt (refine' set_sym ?k1 ?k2 ?k3 ?k4 ?k5 ?k6 ?k7 ?k8 ?k9 ?ka ?kb ?kc ?_; (case k1 => k_asm); (case k2 => k_asm); (case k3 => k_asm); (case k4 => k_mem); (case k5 => k_mem); (case k6 => k_is); (case k7 => k_is); (case k8 => k_is); (case k9 => k_is); (case ka => first | exact some_of (by assumption) | exact slot_some (by assumption)); (case kb => omega); (case kc => (intro es' n'; k_upd))); intro h' tk' es' n' hg' ho' hle' F' N'))
local macro_rules | `(tactic| ktr_room) => `(tactic| ((simp only [depth_mark, depth_in1, depth_deeper]); (try dsimp only [ktrAny]); omega))
local macro_rules | `(tactic| walk_at "call ref") => `(tactic| (k_here; (with_reducible show wpAny _ _ (call (Value.ref 28) _) _ _ _); refine wpAny_call ?_; k_dflt (refine' code_def ?k1 ?k2 ?k3 ?k4 ?k5 ?kA ?kF ?kK ?k6 ?k7 ?k8 ?k9 ?kB ?_ ?c2 ?c3 ?c4 ?c5; (case kA => exact rfl); (case kF => exact rfl); (case kK => exact rfl); (case k1 => k_asm); (case k2 => k_asm); (case k3 => k_asm); (case k4 => k_asm); (case k5 => k_asm); (case k6 => k_is); (case k7 => k_is); (case k8 => ktr_room); (case k9 => exact BindsTo.of_eq rfl); (case c5 => decide); (case kB => exact locs rfl); (case c2 => exact rfl); (case c3 => exact rfl); (case c4 => exact rfl); k_whole; intro g' L' h' FG' F' N' B' X' T'; (try dsimp only); (try k_fold))))
local macro_rules | `(tactic| kwd_less) => `(tactic| repeat' keq_rows)
local macro_rules | `(tactic| walk_at "getMethod ref") => `(tactic| (k_here; (with_reducible show wpAny _ _ (getMethod (Value.ref _) (PySem.Str.ofString "add_parent") _) _ _ _); k_dflt (refine' method_inst ?k1 ?k2 (InstAt.of_news (by k_asm) (by k_mem) (by k_mem)) ?k4 ?k5 ?k6 ?k7 ?_; (case k1 => k_asm); (case k2 => k_asm); (case k4 => k_is); (case k5 => k_is); (case k6 => k_is); (case k7 => assumption); k_whole)))
theorem rest1 {Q : Flow → Shared → Prop} {p : Program} {loose : List Str} {mean : ExcName → Option Value} {mg mb : Str → Option Value} {dp un : Nat} {gd : Option (List Code)} {env : Env} {outer : List Env} {base : Heap}
    {oc : Value} {od : Option Addr} {params : Arguments} {body : List Stmt} {scope : Scope} {dV kV doc pm cdv ct : Value} {an : Option Addr} {osl : Array (Option Value)}
    (hbody : (Mine.hd.heap_39 w.params).lookup 89 = some ⟨oc, od, .func (fnOf "_law_round" "_law_round" params body scope dV kV doc pm an cdv ct), osl⟩) (v : V07)
    (B : Below (ktrAny dp un gd env outer) base (env :: outer) h₀) (F : Fr h₀ v.L s.heap m) (X : (Mine.hd.heap_39 w.params).In h₀) (T : Top p loose mean mg mb h₀) (hC : CodeHd h₀ 88 84)
    (N : News h₀ v.L s.heap (led07 v body scope (dictOf [] 0) (dictOf [] 0) (dictOf [] 0) (W.listOf #[] 0))) (ok : Ok07 v scope) (nm : Nm07 v m) (hd : dp + 8 < recursionLimit) (hu : un + 90 < cLine)
    (next : ∀ h' tk' m' ea na er nr ep np, Fr h₀ v.L h' m' → News h₀ v.L h' (led07 v body scope (dictOf ep np) (dictOf er nr) (dictOf ea na) (W.listOf #[] 0)) → Nm07 v m' → Ans07 v ea → Par07 v er → Pro07 v ep →
      wpAny (model PySem.Challenge.rw_dn0254_07.row.prog w) ((ktrAny dp un gd env outer).deeper (env07 scope v.L)) (execs (body.drop 19) (env07 scope v.L)) Q E { s with heap := h', toks := tk' }) :
    wpAny (model PySem.Challenge.rw_dn0254_07.row.prog w) ((ktrAny dp un gd env outer).deeper (env07 scope v.L)) (execs (body.drop 14) (env07 scope v.L)) Q E s := by
  k_dflt (refine' lookup_same hbody ?k6 ?_; (case k6 => k_is))
  intro hbe hse
  subst hse
  subst hbe
  obtain ⟨cc, b1, b2, b3, b4, b5, b6, b7, b8, b9, b10, b11, b12, b13, b14, b15, b16, b17, b18, b19, b20, b21, b22, b23, b24, b25⟩ := ok.lab
  obtain ⟨ho1, ho2, ho3, hc1, hd1, hc2, hd2, hc3, hd3, hc4, hd4, hord, hork⟩ := ok
  obtain ⟨hor1, hor2, hor3, hor4, hor5, hor6, hor7, hor8, hor9, hor10, hor11, hor12, hor13, hor14, hor15, hor16, hor17, hor18⟩ := hord
  obtain ⟨hok1, hok2, hok3, hok4, hok5, hok6, hok7, hok8⟩ := hork
  have nm0 := nm
  obtain ⟨m1, m2, m3, m4, m5, m6, m7, m8, m9, ⟨tq, m10⟩, m11⟩ := nm
  have hz0 : ∀ nm, getL nm ([] : List DictEntry) = some none := fun _ => rfl
  have hl0 : ([] : List DictEntry).length = 0 := rfl
  generalize ([] : List DictEntry) = e0 at N hz0 hl0
  have g1 := hz0 "code"
  have g2 := hz0 "msg"
  have g3 := hz0 "info"
  have g4 := hz0 "error"
  have g5 := hz0 "parent"
  have g6 := hz0 "add_parent"
  have g7 := hz0 "http_response"
  dsimp only [List.drop]
  refine cut07 F N (fun ea er ep => SlotIs "code" ea (inF v.a v.b 1) (fun x => (inF v.a v.b 5 = true ∧ ∃ t, x = .str "204" t) ∨ (inF v.a v.b 5 = false ∧ x = .int v.code v.tc)) ∧ getL "msg" ea = some none ∧ getL "info" ea = some none ∧ ea.length ≤ 1 ∧ getL "error" er = some none ∧ er.length ≤ 0 ∧ getL "parent" ep = some none ∧ getL "add_parent" ep = some none ∧ getL "http_response" ep = some none ∧ ep.length ≤ 0) ?_ ?_
  · --[s0
    replace F := fr_f11 F m1 m2 m3 m4 m5 m6 m7 m8 m9 m10 m11
    dsimp only [led07, fnAt, List.getElem?_cons_zero, List.getElem?_cons_succ] at N
    kwd_less
    all_goals (rename Fr _ _ _ _ => F8; rename News _ _ _ _ => N8; refine ⟨rfl, _, _, _, _, _, _, _, _, rfl, ⟨_, F8, fill11 m1 m2 m3 m4 m5 m6 m7 m8 m9 m10 m11⟩, N8, ?_⟩)
    all_goals (refine ⟨?_, ?_, ?_, ?_, ?_, ?_, ?_, ?_, ?_, ?_⟩)
    all_goals (first | assumption | omega | exact slot_no (by assumption) (by assumption) | exact slot_no (Bool.and_eq_true_iff.mpr ⟨by assumption, decide_eq_true (by assumption)⟩) (by assumption) | exact slot_yes (by first | assumption | (rw [Bool.and_eq_false_iff]; first | exact .inl (by assumption) | exact .inr (decide_eq_false (by assumption)))) (by assumption) (by first | exact .inl ⟨by assumption, _, rfl⟩ | exact .inr ⟨by assumption, rfl⟩ | exact .inl ⟨by assumption, rfl⟩ | exact ⟨_, rfl⟩ | exact rfl) | exact slot_other (by assumption) (by assumption) (by decide) | exact others_none (by assumption) (by assumption) (by decide))
    --]s0
  intro h0 tk0 ep0 np0 er0 nr0 ea0 na0 ⟨q0a , q0b , q0c , q0d , q0e , q0f , q0g , q0h , q0i , q0j⟩ F9 N9
  clear F N 
  refine cut07 F9 N9 (fun ea er ep => SlotIs "code" ea (inF v.a v.b 1) (fun x => (inF v.a v.b 5 = true ∧ ∃ t, x = .str "204" t) ∨ (inF v.a v.b 5 = false ∧ x = .int v.code v.tc)) ∧ SlotIs "msg" ea (inF v.a v.b 2) (fun x => ∃ t, x = .str "word" t) ∧ getL "info" ea = some none ∧ ea.length ≤ 2 ∧ getL "error" er = some none ∧ er.length ≤ 0 ∧ getL "parent" ep = some none ∧ getL "add_parent" ep = some none ∧ getL "http_response" ep = some none ∧ ep.length ≤ 0) ?_ ?_
  · --[s1
    replace F9 := fr_f11 F9 m1 m2 m3 m4 m5 m6 m7 m8 m9 m10 m11
    dsimp only [led07, fnAt, List.getElem?_cons_zero, List.getElem?_cons_succ] at N9
    kwd_less
    all_goals (rename Fr _ _ _ _ => F8; rename News _ _ _ _ => N8; refine ⟨rfl, _, _, _, _, _, _, _, _, rfl, ⟨_, F8, fill11 m1 m2 m3 m4 m5 m6 m7 m8 m9 m10 m11⟩, N8, ?_⟩)
    all_goals (refine ⟨?_, ?_, ?_, ?_, ?_, ?_, ?_, ?_, ?_, ?_⟩)
    all_goals (first | assumption | omega | exact slot_no (by assumption) (by assumption) | exact slot_no (Bool.and_eq_true_iff.mpr ⟨by assumption, decide_eq_true (by assumption)⟩) (by assumption) | exact slot_yes (by first | assumption | (rw [Bool.and_eq_false_iff]; first | exact .inl (by assumption) | exact .inr (decide_eq_false (by assumption)))) (by assumption) (by first | exact .inl ⟨by assumption, _, rfl⟩ | exact .inr ⟨by assumption, rfl⟩ | exact .inl ⟨by assumption, rfl⟩ | exact ⟨_, rfl⟩ | exact rfl) | exact slot_other (by assumption) (by assumption) (by decide) | exact others_none (by assumption) (by assumption) (by decide))
    --]s1
  intro h1 tk1 ep1 np1 er1 nr1 ea1 na1 ⟨q1a , q1b , q1c , q1d , q1e , q1f , q1g , q1h , q1i , q1j⟩ F9 N9
  clear   q0a q0b q0c q0d q0e q0f q0g q0h q0i q0j
  refine cut07 F9 N9 (fun ea er ep => SlotIs "code" ea (inF v.a v.b 1) (fun x => (inF v.a v.b 5 = true ∧ ∃ t, x = .str "204" t) ∨ (inF v.a v.b 5 = false ∧ x = .int v.code v.tc)) ∧ SlotIs "msg" ea (inF v.a v.b 2) (fun x => ∃ t, x = .str "word" t) ∧ SlotIs "info" ea (inF v.a v.b 3) (fun x => (inF v.a v.b 4 = true ∧ x = .ref v.fbi) ∨ (inF v.a v.b 4 = false ∧ x = .ref v.fgi)) ∧ ea.length ≤ 3 ∧ getL "error" er = some none ∧ er.length ≤ 0 ∧ getL "parent" ep = some none ∧ getL "add_parent" ep = some none ∧ getL "http_response" ep = some none ∧ ep.length ≤ 0) ?_ ?_
  · --[s2
    replace F9 := fr_f11 F9 m1 m2 m3 m4 m5 m6 m7 m8 m9 m10 m11
    dsimp only [led07, fnAt, List.getElem?_cons_zero, List.getElem?_cons_succ] at N9
    kwd_less
    all_goals (rename Fr _ _ _ _ => F8; rename News _ _ _ _ => N8; refine ⟨rfl, _, _, _, _, _, _, _, _, rfl, ⟨_, F8, fill11 m1 m2 m3 m4 m5 m6 m7 m8 m9 m10 m11⟩, N8, ?_⟩)
    all_goals (refine ⟨?_, ?_, ?_, ?_, ?_, ?_, ?_, ?_, ?_, ?_⟩)
    all_goals (first | assumption | omega | exact slot_no (by assumption) (by assumption) | exact slot_no (Bool.and_eq_true_iff.mpr ⟨by assumption, decide_eq_true (by assumption)⟩) (by assumption) | exact slot_yes (by first | assumption | (rw [Bool.and_eq_false_iff]; first | exact .inl (by assumption) | exact .inr (decide_eq_false (by assumption)))) (by assumption) (by first | exact .inl ⟨by assumption, _, rfl⟩ | exact .inr ⟨by assumption, rfl⟩ | exact .inl ⟨by assumption, rfl⟩ | exact ⟨_, rfl⟩ | exact rfl) | exact slot_other (by assumption) (by assumption) (by decide) | exact others_none (by assumption) (by assumption) (by decide))
    --]s2
  intro h2 tk2 ep2 np2 er2 nr2 ea2 na2 ⟨q2a , q2b , q2c , q2d , q2e , q2f , q2g , q2h , q2i , q2j⟩ F9 N9
  clear   q1a q1b q1c q1d q1e q1f q1g q1h q1i q1j
  refine cut07 F9 N9 (fun ea er ep => SlotIs "code" ea (inF v.a v.b 1) (fun x => (inF v.a v.b 5 = true ∧ ∃ t, x = .str "204" t) ∨ (inF v.a v.b 5 = false ∧ x = .int v.code v.tc)) ∧ SlotIs "msg" ea (inF v.a v.b 2) (fun x => ∃ t, x = .str "word" t) ∧ SlotIs "info" ea (inF v.a v.b 3) (fun x => (inF v.a v.b 4 = true ∧ x = .ref v.fbi) ∨ (inF v.a v.b 4 = false ∧ x = .ref v.fgi)) ∧ ea.length ≤ 3 ∧ SlotIs "error" er (inF v.a v.b 6) (fun x => (inF v.a v.b 7 = true ∧ x = .ref v.fbe) ∨ (inF v.a v.b 7 = false ∧ x = .ref v.fge)) ∧ er.length ≤ 1 ∧ getL "parent" ep = some none ∧ getL "add_parent" ep = some none ∧ getL "http_response" ep = some none ∧ ep.length ≤ 0) ?_ ?_
  · --[s3
    replace F9 := fr_f11 F9 m1 m2 m3 m4 m5 m6 m7 m8 m9 m10 m11
    dsimp only [led07, fnAt, List.getElem?_cons_zero, List.getElem?_cons_succ] at N9
    kwd_less
    all_goals (rename Fr _ _ _ _ => F8; rename News _ _ _ _ => N8; refine ⟨rfl, _, _, _, _, _, _, _, _, rfl, ⟨_, F8, fill11 m1 m2 m3 m4 m5 m6 m7 m8 m9 m10 m11⟩, N8, ?_⟩)
    all_goals (refine ⟨?_, ?_, ?_, ?_, ?_, ?_, ?_, ?_, ?_, ?_⟩)
    all_goals (first | assumption | omega | exact slot_no (by assumption) (by assumption) | exact slot_no (Bool.and_eq_true_iff.mpr ⟨by assumption, decide_eq_true (by assumption)⟩) (by assumption) | exact slot_yes (by first | assumption | (rw [Bool.and_eq_false_iff]; first | exact .inl (by assumption) | exact .inr (decide_eq_false (by assumption)))) (by assumption) (by first | exact .inl ⟨by assumption, _, rfl⟩ | exact .inr ⟨by assumption, rfl⟩ | exact .inl ⟨by assumption, rfl⟩ | exact ⟨_, rfl⟩ | exact rfl) | exact slot_other (by assumption) (by assumption) (by decide) | exact others_none (by assumption) (by assumption) (by decide))
    --]s3
  intro h3 tk3 ep3 np3 er3 nr3 ea3 na3 ⟨q3a , q3b , q3c , q3d , q3e , q3f , q3g , q3h , q3i , q3j⟩ F9 N9
  clear   q2a q2b q2c q2d q2e q2f q2g q2h q2i q2j
  refine cut07 F9 N9 (fun ea er ep => SlotIs "code" ea (inF v.a v.b 1) (fun x => (inF v.a v.b 5 = true ∧ ∃ t, x = .str "204" t) ∨ (inF v.a v.b 5 = false ∧ x = .int v.code v.tc)) ∧ SlotIs "msg" ea (inF v.a v.b 2) (fun x => ∃ t, x = .str "word" t) ∧ SlotIs "info" ea (inF v.a v.b 3) (fun x => (inF v.a v.b 4 = true ∧ x = .ref v.fbi) ∨ (inF v.a v.b 4 = false ∧ x = .ref v.fgi)) ∧ ea.length ≤ 3 ∧ SlotIs "error" er (inF v.a v.b 6) (fun x => (inF v.a v.b 7 = true ∧ x = .ref v.fbe) ∨ (inF v.a v.b 7 = false ∧ x = .ref v.fge)) ∧ er.length ≤ 1 ∧ SlotIs "parent" ep (inF v.a v.b 6 && decide (v.mm.fmod 2 = 0)) (fun x => x = .ref v.xr) ∧ getL "add_parent" ep = some none ∧ getL "http_response" ep = some none ∧ ep.length ≤ 1) ?_ ?_
  · --[s4
    replace F9 := fr_f11 F9 m1 m2 m3 m4 m5 m6 m7 m8 m9 m10 m11
    dsimp only [led07, fnAt, List.getElem?_cons_zero, List.getElem?_cons_succ] at N9
    kwd_less
    all_goals (rename Fr _ _ _ _ => F8; rename News _ _ _ _ => N8; refine ⟨rfl, _, _, _, _, _, _, _, _, rfl, ⟨_, F8, fill11 m1 m2 m3 m4 m5 m6 m7 m8 m9 m10 m11⟩, N8, ?_⟩)
    all_goals (refine ⟨?_, ?_, ?_, ?_, ?_, ?_, ?_, ?_, ?_, ?_⟩)
    all_goals (first | assumption | omega | exact slot_no (by assumption) (by assumption) | exact slot_no (Bool.and_eq_true_iff.mpr ⟨by assumption, decide_eq_true (by assumption)⟩) (by assumption) | exact slot_yes (by first | assumption | (rw [Bool.and_eq_false_iff]; first | exact .inl (by assumption) | exact .inr (decide_eq_false (by assumption)))) (by assumption) (by first | exact .inl ⟨by assumption, _, rfl⟩ | exact .inr ⟨by assumption, rfl⟩ | exact .inl ⟨by assumption, rfl⟩ | exact ⟨_, rfl⟩ | exact rfl) | exact slot_other (by assumption) (by assumption) (by decide) | exact others_none (by assumption) (by assumption) (by decide))
    --]s4
  intro h4 tk4 ep4 np4 er4 nr4 ea4 na4 ⟨q4a , q4b , q4c , q4d , q4e , q4f , q4g , q4h , q4i , q4j⟩ F9 N9
  clear   q3a q3b q3c q3d q3e q3f q3g q3h q3i q3j
  exact next _ _ _ _ _ _ _ _ _ F9 N9 nm0 ⟨q4a, q4b, q4c, q4d⟩ ⟨q4e, q4f⟩ ⟨q4g, q4h, q4i, q4j⟩
end
end Mine


namespace Mine
theorem fill3 : PySem.Challenge.rw_dn0254_07.row.prog = PySem.Challenge.rw_dn0254_07.row.prog ∧ Mine.hd.heap_39 = Mine.hd.heap_39 := by
  w_top off
  k_fill
  exact ⟨rfl, rfl⟩
theorem name45 (P : Params) : nameIn (Mine.hd.heap_39 P) 45 = true := by kernel_rfl
theorem name66 (P : Params) : nameIn (Mine.hd.heap_39 P) 66 = true := by kernel_rfl
theorem news_skip2 {h₀ h : Heap} {L : Addr} {a x : Addr × Obj} {r : List (Addr × Obj)} (N : News h₀ L h (a :: x :: r)) : News h₀ L h (a :: r) := fun p hp => N p (by
  rcases List.mem_cons.mp hp with rfl | hp
  · exact .head _
  · exact .tail _ (.tail _ hp))
theorem news_skip3 {h₀ h : Heap} {L : Addr} {a b x : Addr × Obj} {r : List (Addr × Obj)} (N : News h₀ L h (a :: b :: x :: r)) : News h₀ L h (a :: b :: r) := fun p hp => N p (by
  rcases List.mem_cons.mp hp with rfl | hp
  · exact .head _
  · rcases List.mem_cons.mp hp with rfl | hp
    · exact .tail _ (.head _)
    · exact .tail _ (.tail _ (.tail _ hp)))
theorem get_sym {K : Frag} {prog : Program} {w : World} {A : Around} {E : Value → Shared → Prop} {s : Shared} {x C dx L : Addr} {h₀ : Heap} {m : Str → Option Value} {news : List (Addr × Obj)} {es : List DictEntry} {n : Nat} {name : Str} {v : Value} {expr : Bool} {Q : Value → Shared → Prop} {attr : Option Value}
    (F : Fr h₀ L s.heap m) (X₀ : K.In h₀) (N : News h₀ L s.heap news) (h1 : (x, instObj C dx) ∈ news) (h2 : (dx, dictOf es n) ∈ news) (hl : getL name es = some (some v)) (hg : plainGet K C name = true) (hh : hasDictIn K C = true)
    (ha : findIn K (.ref C) name = some attr) (hn : noGet K attr = true) (hv : handedIn v = true) (h : Q v { s with toks := s.toks + 1 }) :
    wpAny (model prog w) A (getAttr (.ref x) name expr) Q E s := get_own F X₀ (InstAt.of_news N h1 h2) hg hh ha hn hl hv h
theorem get_symN {K : Frag} {prog : Program} {w : World} {A : Around} {E : Value → Shared → Prop} {s : Shared} {x C dx L : Addr} {h₀ : Heap} {m : Str → Option Value} {news : List (Addr × Obj)} {es : List DictEntry} {n : Nat} {name : Str} {expr : Bool} {Q : Value → Shared → Prop}
    (F : Fr h₀ L s.heap m) (X₀ : K.In h₀) (N : News h₀ L s.heap news) (h1 : (x, instObj C dx) ∈ news) (h2 : (dx, dictOf es n) ∈ news) (hl : getL name es = some none) (hA : A.handled = none) (hg : plainGet K C name = true) (hh : hasDictIn K C = true)
    (ha : findIn K (.ref C) name = some none) (hc : copiedNames.contains name = false) (hn : nameIn K C = true) (hnl : name.length ≤ 100)
    (h : ∀ h' tk e, NewE s.heap h' e "AttributeError" → E (.ref e) { s with heap := h', toks := tk }) :
    wpAny (model prog w) A (getAttr (.ref x) name expr) Q E s := get_miss hA F X₀ (InstAt.of_news N h1 h2) hg hh ha hc hn hnl hl h
section
variable {w : World} {E : Value → Shared → Prop} {s : Shared} {h₀ : Heap} {m : Str → Option Value}
local macro_rules | `(tactic| k_ne) => `(tactic| (refine' neR ?a1 ?a2 ?a3; (case a1 => (with_reducible assumption)); (case a2 => (with_reducible assumption)); (case a3 => exact rfl)))
local macro_rules | `(tactic| keq_rows) => `(tactic| first | (k_unfold; (try dsimp only)) | walk1 | (dsimp only; walk1))
local macro_rules | `(tactic| ktr_room) => `(tactic| ((simp only [depth_mark, depth_in1, depth_deeper]); (try dsimp only [ktrAny]); omega))
local macro_rules | `(tactic| k_room) => `(tactic| ktr_room)
local macro_rules | `(tactic| walk_at "call ref") => `(tactic| (k_here; (first | (with_reducible show wpAny _ _ (call (Value.ref 28) _) _ _ _) | (with_reducible show wpAny _ _ (call (Value.ref 63) _) _ _ _)); refine wpAny_call ?_; k_dflt (refine' code_def ?k1 ?k2 ?k3 ?k4 ?k5 ?kA ?kF ?kK ?k6 ?k7 ?k8 ?k9 ?kB ?_ ?c2 ?c3 ?c4 ?c5; (case kA => exact rfl); (case kF => exact rfl); (case kK => exact rfl); (case k1 => k_asm); (case k2 => k_asm); (case k3 => k_asm); (case k4 => k_asm); (case k5 => k_asm); (case k6 => k_is); (case k7 => k_is); (case k8 => ktr_room); (case k9 => exact BindsTo.of_eq rfl); (case c5 => decide); (case kB => exact locs rfl); (case c2 => exact rfl); (case c3 => exact rfl); (case c4 => exact rfl); k_whole; intro g' L' h' FG' F' N' B' X' T'; (try dsimp only); (try k_fold))))
local macro_rules | `(tactic| walk_at "getMethod ref") => `(tactic| (k_here; (first | (with_reducible show wpAny _ _ (getMethod (Value.ref _) (PySem.Str.ofString "add_parent") _) _ _ _) | (with_reducible show wpAny _ _ (getMethod (Value.ref _) (PySem.Str.ofString "http_response") _) _ _ _)); k_dflt (refine' method_inst ?k1 ?k2 (InstAt.of_news (by k_asm) (by k_mem) (by k_mem)) ?k4 ?k5 ?k6 ?k7 ?_; (case k1 => k_asm); (case k2 => k_asm); (case k4 => k_is); (case k5 => k_is); (case k6 => k_is); (case k7 => assumption); k_whole)))
local macro_rules | `(tactic| walk_at "getMethod ref") => `(tactic| (k_here; (first | (with_reducible show wpAny _ _ (getMethod (Value.ref _) (PySem.Str.ofString "info") _) _ _ _) | (with_reducible show wpAny _ _ (getMethod (Value.ref _) (PySem.Str.ofString "error") _) _ _ _)); k_dflt (refine' method_usual (r := none) ?k1 (InstAt.of_news (by k_asm) (by k_mem) (by k_mem)) ?k4 ?k5 ?k6 ?k7 ?_; (case k1 => (refine' Frag.In.keeps ?x1 (Fr.keep ?x2); (case x2 => k_asm); (case x1 => k_asm))); (case k4 => k_is); (case k5 => k_is); (case k6 => k_is); (case k7 => rfl); k_whole)))
local macro_rules | `(tactic| walk_at "getAttr ref") => `(tactic| (k_here; k_dflt (first
  | (refine' get_sym ?k1 ?k2 ?k3 ?k4 ?k5 ?k6 ?k7 ?k8 ?k9 ?ka ?kb ?_; (case k1 => k_asm); (case k2 => k_asm); (case k3 => k_asm); (case k4 => k_mem); (case k5 => k_mem); (case k6 => assumption); (case k7 => k_is); (case k8 => k_is); (case k9 => k_is); (case ka => k_is); (case kb => first | rfl | assumption); k_whole)
  | (refine' get_symN ?k1 ?k2 ?k3 ?k4 ?k5 ?k6 ?k7 ?k8 ?k9 ?ka ?kb ?kc ?kd ?_; (case k1 => k_asm); (case k2 => k_asm); (case k3 => k_asm); (case k4 => k_mem); (case k5 => k_mem); (case k6 => assumption); (case k7 => rfl); (case k8 => k_is); (case k9 => k_is); (case ka => k_is); (case kb => decide); (case kc => first | exact name45 _ | exact name66 _); (case kd => decide); k_whole; intro h' tk' e' hx'))))
local macro_rules | `(tactic| walk_at "leaving ref") => `(tactic| (k_here; k_dflt (first
  | (refine' leaveE_new ?k1 ?k0 ?k2 ?k3 ?k4 ?k5 ?_; (case k0 => first | assumption | exact NewE.of_new (by assumption) | exact NewE.of_made (by assumption)); (case k2 => assumption); (case k1 => assumption); (case k3 => k_asm); (case k4 => exact rfl); (case k5 => exact rfl); k_whole; intro h' R' U'; (try dsimp only at R' U' ⊢))
  | (refine' leaveE_on ?k1 ?k2 ?k3 ?k4 ?k5 ?_; (case k3 => assumption); (case k2 => assumption); (case k1 => assumption); (case k4 => assumption); (case k5 => exact rfl); k_whole; intro h' R' U'; (try dsimp only at R' U' ⊢)))))
local macro_rules | `(tactic| walk_at "eval Name") => `(tactic| (k_here; (with_reducible show wpAny _ _ (eval (Expr.Name _ _) (envOf _ _ _ _ _)) _ _ _); name_kind "local"; k_dflt (refine' ld ?k1 ?k2 ?_; (case k1 => k_asm); (case k2 => exact rfl); k_whole)))
local macro_rules | `(tactic| walk_at "exec Raise some none") => `(tactic| (k_here; refine Raise_new rfl ?_))
local macro_rules | `(tactic| walk_at "noteFrame ref") => `(tactic| (k_here; k_dflt (refine' heldS_first ?k1 ?k2 ?k3 ?_; (case k1 => assumption); (case k2 => assumption); (case k3 => assumption)); intro h' H'))
local macro_rules | `(tactic| walk_at "compareOp LtE int") => `(tactic| (k_here; (with_reducible show wpAny _ _ (compareOp CmpOp.LtE (Value.int _ _) (Value.str _ _)) _ _ _); k_dflt (refine' le_int_str ?k0 ?_; (case k0 => rfl); k_whole); intro h' tk' e' hx'))
local macro_rules | `(tactic| kwd_less) => `(tactic| repeat' ((fail_if_success (with_reducible show wpAny _ _ (handleBy _ _ _) _ _ _)); (fail_if_success (with_reducible show LeaveT _ _ _ _ _)); keq_rows))
theorem try1 {Q : Value → Shared → Prop} {p : Program} {loose : List Str} {mean : ExcName → Option Value} {mg mb : Str → Option Value} {dp un : Nat} {gd : Option (List Code)} {env : Env} {outer : List Env} {base : Heap} {body : List Stmt} {scope : Scope} {v : V07} {ep er ea : List DictEntry} {np nr na nc : Nat}
    (B : Below (ktrAny dp un gd env outer) base (env :: outer) h₀) (F : Fr h₀ v.L s.heap m) (X : (Mine.hd.heap_39 w.params).In h₀) (T : Top p loose mean mg mb h₀) (XB : (Mine.hd.heap_39 w.params).In base) (TB : Top p loose mean mg mb base) (D : KtsDicts (frs (env :: outer)) h₀) (hC : CodeHd h₀ 88 84)
    (N : News h₀ v.L s.heap (led07 v body scope (dictOf ep np) (dictOf er nr) (dictOf ea na) (W.listOf #[] nc))) (ok : Ok07 v scope) (hd : dp + 8 < recursionLimit) (hu : un + 90 < cLine) (hk : scope.kind = .function) (hr : getL "http_response" ep = some none)
    (g1 : getL "code" ea = some none)
    (ret : ∀ h₀' h' tk' Dt t nc' , KtsTurn (frs (env :: outer)) h₀ h₀' → Fr h₀' v.L h' m → News h₀' v.L h' ((Dt, { cls := .type "tuple", data := .seq #[.str "AttributeError" t, .none] }) :: led07 v body scope (dictOf ep np) (dictOf er nr) (dictOf ea na) (W.listOf #[] nc')) → Below (ktrAny dp un gd env outer) base (env :: outer) h₀' → KtsDicts (frs (env :: outer)) h₀' → Q (.ref Dt) { s with heap := h', toks := tk' }) :
    wpAny (model PySem.Challenge.rw_dn0254_07.row.prog w) ((ktrAny dp un gd env outer).deeper (env07 scope v.L)) (call (.ref 82) [.ref v.xp, .ref v.lq, .ref v.xa]) Q E s := by
  obtain ⟨cc, b1, b2, b3, b4, b5, b6, b7, b8, b9, b10, b11, b12, b13, b14, b15, b16, b17, b18, b19, b20, b21, b22, b23, b24, b25⟩ := ok.lab
  obtain ⟨ho1, ho2, ho3, hc1, hd1, hc2, hd2, hc3, hd3, hc4, hd4, hord, hork⟩ := ok
  obtain ⟨hor1, hor2, hor3, hor4, hor5, hor6, hor7, hor8, hor9, hor10, hor11, hor12, hor13, hor14, hor15, hor16, hor17, hor18⟩ := hord
  obtain ⟨hok1, hok2, hok3, hok4, hok5, hok6, hok7, hok8⟩ := hork
  dsimp only [led07] at N
  refine wpAny_call ?_
  k_dflt (refine' code_defT ?k1 ?k2 ?k3 ?k4 ?k5 ?kx ?kA ?kF ?kK ?k6 ?k7 ?k8 ?k9 ?kB ?_ ?c2 ?c3 ?c4 ?c5; (case kA => exact rfl); (case kF => exact rfl); (case kK => exact hk); (case kx => exact D); (case k1 => k_asm); (case k2 => k_asm); (case k3 => k_asm); (case k4 => k_asm); (case k5 => k_asm); (case k6 => k_is); (case k7 => k_is); (case k8 => ktr_room); (case k9 => exact BindsTo.of_eq rfl); (case c5 => decide); (case kB => exact locs rfl); (case c2 => exact rfl); (case c3 => exact rfl); (case c4 => exact rfl); k_whole; intro g' L' h' FG' F' N' B' X' T' D'; (try dsimp only); (try k_fold))
  kwd_less
  ((k_dflt (refine' heldS_take ?R ?F ?K ?XB ?TB ?D ?ex PyProof.Rows.Boot.«AttributeError» ?hn isExc_AttributeError notTuple_AttributeError ?hs ?_; (case R => assumption); (case F => assumption); (case K => assumption); (case XB => assumption); (case TB => assumption); (case D => assumption); (case ex => k_is); (case hn => decide); (case hs => (rw [isSubtype_type]; kernel_rfl))); intro h' g' T' F' N' B' X' TT' D'))
  kwd_less
  rename Fr _ _ _ _ => F9
  rename News _ _ _ _ => N9
  (try simp only [List.push_toArray, List.nil_append, List.cons_append] at N9)
  exact ⟨_, _, _, _, by first | assumption | exact KtsTurn.refl, F9, N9, fun h₀' T F N B D => ret _ _ _ _ _ _ T F N B D⟩
theorem try2 {Q : Value → Shared → Prop} {p : Program} {loose : List Str} {mean : ExcName → Option Value} {mg mb : Str → Option Value} {dp un : Nat} {gd : Option (List Code)} {env : Env} {outer : List Env} {base : Heap} {body : List Stmt} {scope : Scope} {v : V07} {ep er ea : List DictEntry} {np nr na nc : Nat}
    (B : Below (ktrAny dp un gd env outer) base (env :: outer) h₀) (F : Fr h₀ v.L s.heap m) (X : (Mine.hd.heap_39 w.params).In h₀) (T : Top p loose mean mg mb h₀) (XB : (Mine.hd.heap_39 w.params).In base) (TB : Top p loose mean mg mb base) (D : KtsDicts (frs (env :: outer)) h₀) (hC : CodeHd h₀ 88 84)
    (N : News h₀ v.L s.heap (led07 v body scope (dictOf ep np) (dictOf er nr) (dictOf ea na) (W.listOf #[] nc))) (ok : Ok07 v scope) (hd : dp + 8 < recursionLimit) (hu : un + 90 < cLine) (hk : scope.kind = .function) (hr : getL "http_response" ep = some none)
    {cv : Value} (hcv : handedIn cv = true) (g1 : getL "code" ea = some (some cv)) (g2 : getL "msg" ea = some none)
    (ret : ∀ h₀' h' tk' Dt t nc' , KtsTurn (frs (env :: outer)) h₀ h₀' → Fr h₀' v.L h' m → News h₀' v.L h' ((Dt, { cls := .type "tuple", data := .seq #[.str "AttributeError" t, .none] }) :: led07 v body scope (dictOf ep np) (dictOf er nr) (dictOf ea na) (W.listOf #[] nc')) → Below (ktrAny dp un gd env outer) base (env :: outer) h₀' → KtsDicts (frs (env :: outer)) h₀' → Q (.ref Dt) { s with heap := h', toks := tk' }) :
    wpAny (model PySem.Challenge.rw_dn0254_07.row.prog w) ((ktrAny dp un gd env outer).deeper (env07 scope v.L)) (call (.ref 82) [.ref v.xp, .ref v.lq, .ref v.xa]) Q E s := by
  obtain ⟨cc, b1, b2, b3, b4, b5, b6, b7, b8, b9, b10, b11, b12, b13, b14, b15, b16, b17, b18, b19, b20, b21, b22, b23, b24, b25⟩ := ok.lab
  obtain ⟨ho1, ho2, ho3, hc1, hd1, hc2, hd2, hc3, hd3, hc4, hd4, hord, hork⟩ := ok
  obtain ⟨hor1, hor2, hor3, hor4, hor5, hor6, hor7, hor8, hor9, hor10, hor11, hor12, hor13, hor14, hor15, hor16, hor17, hor18⟩ := hord
  obtain ⟨hok1, hok2, hok3, hok4, hok5, hok6, hok7, hok8⟩ := hork
  dsimp only [led07] at N
  refine wpAny_call ?_
  k_dflt (refine' code_defT ?k1 ?k2 ?k3 ?k4 ?k5 ?kx ?kA ?kF ?kK ?k6 ?k7 ?k8 ?k9 ?kB ?_ ?c2 ?c3 ?c4 ?c5; (case kA => exact rfl); (case kF => exact rfl); (case kK => exact hk); (case kx => exact D); (case k1 => k_asm); (case k2 => k_asm); (case k3 => k_asm); (case k4 => k_asm); (case k5 => k_asm); (case k6 => k_is); (case k7 => k_is); (case k8 => ktr_room); (case k9 => exact BindsTo.of_eq rfl); (case c5 => decide); (case kB => exact locs rfl); (case c2 => exact rfl); (case c3 => exact rfl); (case c4 => exact rfl); k_whole; intro g' L' h' FG' F' N' B' X' T' D'; (try dsimp only); (try k_fold))
  kwd_less
  ((k_dflt (refine' heldS_take ?R ?F ?K ?XB ?TB ?D ?ex PyProof.Rows.Boot.«AttributeError» ?hn isExc_AttributeError notTuple_AttributeError ?hs ?_; (case R => assumption); (case F => assumption); (case K => assumption); (case XB => assumption); (case TB => assumption); (case D => assumption); (case ex => k_is); (case hn => decide); (case hs => (rw [isSubtype_type]; kernel_rfl))); intro h' g' T' F' N' B' X' TT' D'))
  kwd_less
  rename Fr _ _ _ _ => F9
  rename News _ _ _ _ => N9
  (try simp only [List.push_toArray, List.nil_append, List.cons_append] at N9)
  exact ⟨_, _, _, _, by first | assumption | exact KtsTurn.refl, F9, N9, fun h₀' T F N B D => ret _ _ _ _ _ _ T F N B D⟩
theorem try3 {Q : Value → Shared → Prop} {p : Program} {loose : List Str} {mean : ExcName → Option Value} {mg mb : Str → Option Value} {dp un : Nat} {gd : Option (List Code)} {env : Env} {outer : List Env} {base : Heap} {body : List Stmt} {scope : Scope} {v : V07} {ep er ea : List DictEntry} {np nr na nc : Nat}
    (B : Below (ktrAny dp un gd env outer) base (env :: outer) h₀) (F : Fr h₀ v.L s.heap m) (X : (Mine.hd.heap_39 w.params).In h₀) (T : Top p loose mean mg mb h₀) (XB : (Mine.hd.heap_39 w.params).In base) (TB : Top p loose mean mg mb base) (D : KtsDicts (frs (env :: outer)) h₀) (hC : CodeHd h₀ 88 84)
    (N : News h₀ v.L s.heap (led07 v body scope (dictOf ep np) (dictOf er nr) (dictOf ea na) (W.listOf #[] nc))) (ok : Ok07 v scope) (hd : dp + 8 < recursionLimit) (hu : un + 90 < cLine) (hk : scope.kind = .function) (hr : getL "http_response" ep = some none)
    {cv : Value} (hcv : handedIn cv = true) (g1 : getL "code" ea = some (some cv)) {mv : Value} (hmv : handedIn mv = true) (g2 : getL "msg" ea = some (some mv)) (g3 : getL "info" ea = some none)
    (ret : ∀ h₀' h' tk' Dt t nc' , KtsTurn (frs (env :: outer)) h₀ h₀' → Fr h₀' v.L h' m → News h₀' v.L h' ((Dt, { cls := .type "tuple", data := .seq #[.str "AttributeError" t, .none] }) :: led07 v body scope (dictOf ep np) (dictOf er nr) (dictOf ea na) (W.listOf #[] nc')) → Below (ktrAny dp un gd env outer) base (env :: outer) h₀' → KtsDicts (frs (env :: outer)) h₀' → Q (.ref Dt) { s with heap := h', toks := tk' }) :
    wpAny (model PySem.Challenge.rw_dn0254_07.row.prog w) ((ktrAny dp un gd env outer).deeper (env07 scope v.L)) (call (.ref 82) [.ref v.xp, .ref v.lq, .ref v.xa]) Q E s := by
  obtain ⟨cc, b1, b2, b3, b4, b5, b6, b7, b8, b9, b10, b11, b12, b13, b14, b15, b16, b17, b18, b19, b20, b21, b22, b23, b24, b25⟩ := ok.lab
  obtain ⟨ho1, ho2, ho3, hc1, hd1, hc2, hd2, hc3, hd3, hc4, hd4, hord, hork⟩ := ok
  obtain ⟨hor1, hor2, hor3, hor4, hor5, hor6, hor7, hor8, hor9, hor10, hor11, hor12, hor13, hor14, hor15, hor16, hor17, hor18⟩ := hord
  obtain ⟨hok1, hok2, hok3, hok4, hok5, hok6, hok7, hok8⟩ := hork
  dsimp only [led07] at N
  refine wpAny_call ?_
  k_dflt (refine' code_defT ?k1 ?k2 ?k3 ?k4 ?k5 ?kx ?kA ?kF ?kK ?k6 ?k7 ?k8 ?k9 ?kB ?_ ?c2 ?c3 ?c4 ?c5; (case kA => exact rfl); (case kF => exact rfl); (case kK => exact hk); (case kx => exact D); (case k1 => k_asm); (case k2 => k_asm); (case k3 => k_asm); (case k4 => k_asm); (case k5 => k_asm); (case k6 => k_is); (case k7 => k_is); (case k8 => ktr_room); (case k9 => exact BindsTo.of_eq rfl); (case c5 => decide); (case kB => exact locs rfl); (case c2 => exact rfl); (case c3 => exact rfl); (case c4 => exact rfl); k_whole; intro g' L' h' FG' F' N' B' X' T' D'; (try dsimp only); (try k_fold))
  kwd_less
  ((k_dflt (refine' heldS_take ?R ?F ?K ?XB ?TB ?D ?ex PyProof.Rows.Boot.«AttributeError» ?hn isExc_AttributeError notTuple_AttributeError ?hs ?_; (case R => assumption); (case F => assumption); (case K => assumption); (case XB => assumption); (case TB => assumption); (case D => assumption); (case ex => k_is); (case hn => decide); (case hs => (rw [isSubtype_type]; kernel_rfl))); intro h' g' T' F' N' B' X' TT' D'))
  kwd_less
  rename Fr _ _ _ _ => F9
  rename News _ _ _ _ => N9
  (try simp only [List.push_toArray, List.nil_append, List.cons_append] at N9)
  exact ⟨_, _, _, _, by first | assumption | exact KtsTurn.refl, F9, N9, fun h₀' T F N B D => ret _ _ _ _ _ _ T F N B D⟩
theorem try4 {Q : Value → Shared → Prop} {p : Program} {loose : List Str} {mean : ExcName → Option Value} {mg mb : Str → Option Value} {dp un : Nat} {gd : Option (List Code)} {env : Env} {outer : List Env} {base : Heap} {body : List Stmt} {scope : Scope} {v : V07} {ep er ea : List DictEntry} {np nr na nc : Nat}
    {oc : Value} {od : Option Addr} {params : Arguments} {dV kV doc pm cdv ct : Value} {an : Option Addr} {osl : Array (Option Value)}
    (hbody : (Mine.hd.heap_39 w.params).lookup 89 = some ⟨oc, od, .func (fnOf "_law_round" "_law_round" params body scope dV kV doc pm an cdv ct), osl⟩) (B : Below (ktrAny dp un gd env outer) base (env :: outer) h₀) (F : Fr h₀ v.L s.heap m) (X : (Mine.hd.heap_39 w.params).In h₀) (T : Top p loose mean mg mb h₀) (XB : (Mine.hd.heap_39 w.params).In base) (TB : Top p loose mean mg mb base) (D : KtsDicts (frs (env :: outer)) h₀) (hC : CodeHd h₀ 88 84)
    (N : News h₀ v.L s.heap (led07 v body scope (dictOf ep np) (dictOf er nr) (dictOf ea na) (W.listOf #[] nc))) (ok : Ok07 v scope) (hd : dp + 8 < recursionLimit) (hu : un + 90 < cLine) (hk : scope.kind = .function) (hr : getL "http_response" ep = some none)
    {cv : Value} (hcv : handedIn cv = true) (g1 : getL "code" ea = some (some cv)) {mv : Value} (hmv : handedIn mv = true) (g2 : getL "msg" ea = some (some mv)) (g3 : getL "info" ea = some (some (.ref v.fbi)))
    (ret : ∀ h₀' h' tk' Dt t nc' t2 , KtsTurn (frs (env :: outer)) h₀ h₀' → Fr h₀' v.L h' m → News h₀' v.L h' ((Dt, { cls := .type "tuple", data := .seq #[.str "KeyError" t, .none] }) :: led07 v body scope (dictOf ep np) (dictOf er nr) (dictOf ea na) (W.listOf #[.str "info" t2] nc')) → Below (ktrAny dp un gd env outer) base (env :: outer) h₀' → KtsDicts (frs (env :: outer)) h₀' → Q (.ref Dt) { s with heap := h', toks := tk' }) :
    wpAny (model PySem.Challenge.rw_dn0254_07.row.prog w) ((ktrAny dp un gd env outer).deeper (env07 scope v.L)) (call (.ref 82) [.ref v.xp, .ref v.lq, .ref v.xa]) Q E s := by
  k_dflt (refine' lookup_same hbody ?k6 ?_; (case k6 => k_is))
  intro hbe hse
  subst hse
  subst hbe
  obtain ⟨cc, b1, b2, b3, b4, b5, b6, b7, b8, b9, b10, b11, b12, b13, b14, b15, b16, b17, b18, b19, b20, b21, b22, b23, b24, b25⟩ := ok.lab
  obtain ⟨ho1, ho2, ho3, hc1, hd1, hc2, hd2, hc3, hd3, hc4, hd4, hord, hork⟩ := ok
  obtain ⟨hor1, hor2, hor3, hor4, hor5, hor6, hor7, hor8, hor9, hor10, hor11, hor12, hor13, hor14, hor15, hor16, hor17, hor18⟩ := hord
  obtain ⟨hok1, hok2, hok3, hok4, hok5, hok6, hok7, hok8⟩ := hork
  dsimp only [led07, fnAt, List.getElem?_cons_zero, List.getElem?_cons_succ] at N
  refine wpAny_call ?_
  k_dflt (refine' code_defT ?k1 ?k2 ?k3 ?k4 ?k5 ?kx ?kA ?kF ?kK ?k6 ?k7 ?k8 ?k9 ?kB ?_ ?c2 ?c3 ?c4 ?c5; (case kA => exact rfl); (case kF => exact rfl); (case kK => exact hk); (case kx => exact D); (case k1 => k_asm); (case k2 => k_asm); (case k3 => k_asm); (case k4 => k_asm); (case k5 => k_asm); (case k6 => k_is); (case k7 => k_is); (case k8 => ktr_room); (case k9 => exact BindsTo.of_eq rfl); (case c5 => decide); (case kB => exact locs rfl); (case c2 => exact rfl); (case c3 => exact rfl); (case c4 => exact rfl); k_whole; intro g' L' h' FG' F' N' B' X' T' D'; (try dsimp only); (try k_fold))
  kwd_less
  (k_dflt (refine' heldS_skip ?R ?F ?K ?XB ?TB ?ex PyProof.Rows.Boot.«AttributeError» ?hn isExc_AttributeError notTuple_AttributeError ?hs ?_; (case R => assumption); (case F => assumption); (case K => assumption); (case XB => assumption); (case TB => assumption); (case ex => k_is); (case hn => decide); (case hs => (rw [isSubtype_type]; kernel_rfl))))
  ((k_dflt (refine' heldS_take ?R ?F ?K ?XB ?TB ?D ?ex PyProof.Rows.Boot.«KeyError» ?hn kr_isExc_KeyError kr_notTuple_KeyError ?hs ?_; (case R => assumption); (case F => assumption); (case K => assumption); (case XB => assumption); (case TB => assumption); (case D => assumption); (case ex => k_is); (case hn => decide); (case hs => (rw [isSubtype_type]; kernel_rfl))); intro h' g' T' F' N' B' X' TT' D'))
  kwd_less
  rename Fr _ _ _ _ => F9
  rename News _ _ _ _ => N9
  (try simp only [List.push_toArray, List.nil_append, List.cons_append] at N9)
  exact ⟨_, _, _, _, by first | assumption | exact KtsTurn.refl, F9, N9, fun h₀' T F N B D => ret _ _ _ _ _ _ _ T F N B D⟩
theorem try5 {Q : Value → Shared → Prop} {p : Program} {loose : List Str} {mean : ExcName → Option Value} {mg mb : Str → Option Value} {dp un : Nat} {gd : Option (List Code)} {env : Env} {outer : List Env} {base : Heap} {body : List Stmt} {scope : Scope} {v : V07} {ep er ea : List DictEntry} {np nr na nc : Nat}
    {oc : Value} {od : Option Addr} {params : Arguments} {dV kV doc pm cdv ct : Value} {an : Option Addr} {osl : Array (Option Value)}
    (hbody : (Mine.hd.heap_39 w.params).lookup 89 = some ⟨oc, od, .func (fnOf "_law_round" "_law_round" params body scope dV kV doc pm an cdv ct), osl⟩) (B : Below (ktrAny dp un gd env outer) base (env :: outer) h₀) (F : Fr h₀ v.L s.heap m) (X : (Mine.hd.heap_39 w.params).In h₀) (T : Top p loose mean mg mb h₀) (XB : (Mine.hd.heap_39 w.params).In base) (TB : Top p loose mean mg mb base) (D : KtsDicts (frs (env :: outer)) h₀) (hC : CodeHd h₀ 88 84)
    (N : News h₀ v.L s.heap (led07 v body scope (dictOf ep np) (dictOf er nr) (dictOf ea na) (W.listOf #[] nc))) (ok : Ok07 v scope) (hd : dp + 8 < recursionLimit) (hu : un + 90 < cLine) (hk : scope.kind = .function) (hr : getL "http_response" ep = some none)
    {tq : Tok} (g1 : getL "code" ea = some (some (.str "204" tq))) {mv : Value} (hmv : handedIn mv = true) (g2 : getL "msg" ea = some (some mv)) (g3 : getL "info" ea = some (some (.ref v.fgi)))
    (ret : ∀ h₀' h' tk' Dt t nc' t2 , KtsTurn (frs (env :: outer)) h₀ h₀' → Fr h₀' v.L h' m → News h₀' v.L h' ((Dt, { cls := .type "tuple", data := .seq #[.str "TypeError" t, .none] }) :: led07 v body scope (dictOf ep np) (dictOf er nr) (dictOf ea na) (W.listOf #[.str "info" t2] nc')) → Below (ktrAny dp un gd env outer) base (env :: outer) h₀' → KtsDicts (frs (env :: outer)) h₀' → Q (.ref Dt) { s with heap := h', toks := tk' }) :
    wpAny (model PySem.Challenge.rw_dn0254_07.row.prog w) ((ktrAny dp un gd env outer).deeper (env07 scope v.L)) (call (.ref 82) [.ref v.xp, .ref v.lq, .ref v.xa]) Q E s := by
  k_dflt (refine' lookup_same hbody ?k6 ?_; (case k6 => k_is))
  intro hbe hse
  subst hse
  subst hbe
  obtain ⟨cc, b1, b2, b3, b4, b5, b6, b7, b8, b9, b10, b11, b12, b13, b14, b15, b16, b17, b18, b19, b20, b21, b22, b23, b24, b25⟩ := ok.lab
  obtain ⟨ho1, ho2, ho3, hc1, hd1, hc2, hd2, hc3, hd3, hc4, hd4, hord, hork⟩ := ok
  obtain ⟨hor1, hor2, hor3, hor4, hor5, hor6, hor7, hor8, hor9, hor10, hor11, hor12, hor13, hor14, hor15, hor16, hor17, hor18⟩ := hord
  obtain ⟨hok1, hok2, hok3, hok4, hok5, hok6, hok7, hok8⟩ := hork
  dsimp only [led07, fnAt, List.getElem?_cons_zero, List.getElem?_cons_succ] at N
  refine wpAny_call ?_
  k_dflt (refine' code_defT ?k1 ?k2 ?k3 ?k4 ?k5 ?kx ?kA ?kF ?kK ?k6 ?k7 ?k8 ?k9 ?kB ?_ ?c2 ?c3 ?c4 ?c5; (case kA => exact rfl); (case kF => exact rfl); (case kK => exact hk); (case kx => exact D); (case k1 => k_asm); (case k2 => k_asm); (case k3 => k_asm); (case k4 => k_asm); (case k5 => k_asm); (case k6 => k_is); (case k7 => k_is); (case k8 => ktr_room); (case k9 => exact BindsTo.of_eq rfl); (case c5 => decide); (case kB => exact locs rfl); (case c2 => exact rfl); (case c3 => exact rfl); (case c4 => exact rfl); k_whole; intro g' L' h' FG' F' N' B' X' T' D'; (try dsimp only); (try k_fold))
  kwd_less
  (k_dflt (refine' heldS_skip ?R ?F ?K ?XB ?TB ?ex PyProof.Rows.Boot.«AttributeError» ?hn isExc_AttributeError notTuple_AttributeError ?hs ?_; (case R => assumption); (case F => assumption); (case K => assumption); (case XB => assumption); (case TB => assumption); (case ex => k_is); (case hn => decide); (case hs => (rw [isSubtype_type]; kernel_rfl))))
  (k_dflt (refine' heldS_skip ?R ?F ?K ?XB ?TB ?ex PyProof.Rows.Boot.«KeyError» ?hn kr_isExc_KeyError kr_notTuple_KeyError ?hs ?_; (case R => assumption); (case F => assumption); (case K => assumption); (case XB => assumption); (case TB => assumption); (case ex => k_is); (case hn => decide); (case hs => (rw [isSubtype_type]; kernel_rfl))))
  ((k_dflt (refine' heldS_take ?R ?F ?K ?XB ?TB ?D ?ex PyProof.Rows.Boot.«TypeError» ?hn PySem.F.isExc_TypeError PySem.F.notTuple_TypeError ?hs ?_; (case R => assumption); (case F => assumption); (case K => assumption); (case XB => assumption); (case TB => assumption); (case D => assumption); (case ex => k_is); (case hn => decide); (case hs => (rw [isSubtype_type]; kernel_rfl))); intro h' g' T' F' N' B' X' TT' D'))
  kwd_less
  rename Fr _ _ _ _ => F9
  rename News _ _ _ _ => N9
  (try simp only [List.push_toArray, List.nil_append, List.cons_append] at N9)
  exact ⟨_, _, _, _, by first | assumption | exact KtsTurn.refl, F9, N9, fun h₀' T F N B D => ret _ _ _ _ _ _ _ T F (news_skip2 N) B D⟩
theorem try6 {Q : Value → Shared → Prop} {p : Program} {loose : List Str} {mean : ExcName → Option Value} {mg mb : Str → Option Value} {dp un : Nat} {gd : Option (List Code)} {env : Env} {outer : List Env} {base : Heap} {body : List Stmt} {scope : Scope} {v : V07} {ep er ea : List DictEntry} {np nr na nc : Nat}
    {oc : Value} {od : Option Addr} {params : Arguments} {dV kV doc pm cdv ct : Value} {an : Option Addr} {osl : Array (Option Value)}
    (hbody : (Mine.hd.heap_39 w.params).lookup 89 = some ⟨oc, od, .func (fnOf "_law_round" "_law_round" params body scope dV kV doc pm an cdv ct), osl⟩) (B : Below (ktrAny dp un gd env outer) base (env :: outer) h₀) (F : Fr h₀ v.L s.heap m) (X : (Mine.hd.heap_39 w.params).In h₀) (T : Top p loose mean mg mb h₀) (XB : (Mine.hd.heap_39 w.params).In base) (TB : Top p loose mean mg mb base) (D : KtsDicts (frs (env :: outer)) h₀) (hC : CodeHd h₀ 88 84)
    (N : News h₀ v.L s.heap (led07 v body scope (dictOf ep np) (dictOf er nr) (dictOf ea na) (W.listOf #[] nc))) (ok : Ok07 v scope) (hd : dp + 8 < recursionLimit) (hu : un + 90 < cLine) (hk : scope.kind = .function) (hr : getL "http_response" ep = some none)
    {c : Int} {tq : Tok} (g1 : getL "code" ea = some (some (.int c tq))) {mv : Value} (hmv : handedIn mv = true) (g2 : getL "msg" ea = some (some mv)) (g3 : getL "info" ea = some (some (.ref v.fgi))) (p1 : 200 ≤ c) (p2 : c < 300)
    (ret : ∀ h₀' h' tk' Dt t nc' t2 , KtsTurn (frs (env :: outer)) h₀ h₀' → Fr h₀' v.L h' m → News h₀' v.L h' ((Dt, { cls := .type "tuple", data := .seq #[.str "gave" t, .ref v.xa] }) :: led07 v body scope (dictOf ep np) (dictOf er nr) (dictOf ea na) (W.listOf #[.str "info" t2] nc')) → Below (ktrAny dp un gd env outer) base (env :: outer) h₀' → KtsDicts (frs (env :: outer)) h₀' → Q (.ref Dt) { s with heap := h', toks := tk' }) :
    wpAny (model PySem.Challenge.rw_dn0254_07.row.prog w) ((ktrAny dp un gd env outer).deeper (env07 scope v.L)) (call (.ref 82) [.ref v.xp, .ref v.lq, .ref v.xa]) Q E s := by
  k_dflt (refine' lookup_same hbody ?k6 ?_; (case k6 => k_is))
  intro hbe hse
  subst hse
  subst hbe
  obtain ⟨cc, b1, b2, b3, b4, b5, b6, b7, b8, b9, b10, b11, b12, b13, b14, b15, b16, b17, b18, b19, b20, b21, b22, b23, b24, b25⟩ := ok.lab
  obtain ⟨ho1, ho2, ho3, hc1, hd1, hc2, hd2, hc3, hd3, hc4, hd4, hord, hork⟩ := ok
  obtain ⟨hor1, hor2, hor3, hor4, hor5, hor6, hor7, hor8, hor9, hor10, hor11, hor12, hor13, hor14, hor15, hor16, hor17, hor18⟩ := hord
  obtain ⟨hok1, hok2, hok3, hok4, hok5, hok6, hok7, hok8⟩ := hork
  dsimp only [led07, fnAt, List.getElem?_cons_zero, List.getElem?_cons_succ] at N
  refine wpAny_call ?_
  k_dflt (refine' code_defT ?k1 ?k2 ?k3 ?k4 ?k5 ?kx ?kA ?kF ?kK ?k6 ?k7 ?k8 ?k9 ?kB ?_ ?c2 ?c3 ?c4 ?c5; (case kA => exact rfl); (case kF => exact rfl); (case kK => exact hk); (case kx => exact D); (case k1 => k_asm); (case k2 => k_asm); (case k3 => k_asm); (case k4 => k_asm); (case k5 => k_asm); (case k6 => k_is); (case k7 => k_is); (case k8 => ktr_room); (case k9 => exact BindsTo.of_eq rfl); (case c5 => decide); (case kB => exact locs rfl); (case c2 => exact rfl); (case c3 => exact rfl); (case c4 => exact rfl); k_whole; intro g' L' h' FG' F' N' B' X' T' D'; (try dsimp only); (try k_fold))
  kwd_less
  rename Fr _ _ _ _ => F9
  rename News _ _ _ _ => N9
  (try simp only [List.push_toArray, List.nil_append, List.cons_append] at N9)
  exact ⟨_, _, _, _, by first | assumption | exact KtsTurn.refl, F9, N9, fun h₀' T F N B D => ret _ _ _ _ _ _ _ T F (news_skip2 N) B D⟩
theorem try7 {Q : Value → Shared → Prop} {p : Program} {loose : List Str} {mean : ExcName → Option Value} {mg mb : Str → Option Value} {dp un : Nat} {gd : Option (List Code)} {env : Env} {outer : List Env} {base : Heap} {body : List Stmt} {scope : Scope} {v : V07} {ep er ea : List DictEntry} {np nr na nc : Nat}
    {oc : Value} {od : Option Addr} {params : Arguments} {dV kV doc pm cdv ct : Value} {an : Option Addr} {osl : Array (Option Value)}
    (hbody : (Mine.hd.heap_39 w.params).lookup 89 = some ⟨oc, od, .func (fnOf "_law_round" "_law_round" params body scope dV kV doc pm an cdv ct), osl⟩) (B : Below (ktrAny dp un gd env outer) base (env :: outer) h₀) (F : Fr h₀ v.L s.heap m) (X : (Mine.hd.heap_39 w.params).In h₀) (T : Top p loose mean mg mb h₀) (XB : (Mine.hd.heap_39 w.params).In base) (TB : Top p loose mean mg mb base) (D : KtsDicts (frs (env :: outer)) h₀) (hC : CodeHd h₀ 88 84)
    (N : News h₀ v.L s.heap (led07 v body scope (dictOf ep np) (dictOf er nr) (dictOf ea na) (W.listOf #[] nc))) (ok : Ok07 v scope) (hd : dp + 8 < recursionLimit) (hu : un + 90 < cLine) (hk : scope.kind = .function) (hr : getL "http_response" ep = some none)
    {c : Int} {tq : Tok} (g1 : getL "code" ea = some (some (.int c tq))) {mv : Value} (hmv : handedIn mv = true) (g2 : getL "msg" ea = some (some mv)) (g3 : getL "info" ea = some (some (.ref v.fgi))) (p1 : c < 200 ∨ 300 ≤ c) (g5 : getL "parent" ep = some none)
    (ret : ∀ h₀' h' tk' Dt t nc' t2 , KtsTurn (frs (env :: outer)) h₀ h₀' → Fr h₀' v.L h' m → News h₀' v.L h' ((Dt, { cls := .type "tuple", data := .seq #[.str "AttributeError" t, .none] }) :: led07 v body scope (dictOf ep np) (dictOf er nr) (dictOf ea na) (W.listOf #[.str "info" t2] nc')) → Below (ktrAny dp un gd env outer) base (env :: outer) h₀' → KtsDicts (frs (env :: outer)) h₀' → Q (.ref Dt) { s with heap := h', toks := tk' }) :
    wpAny (model PySem.Challenge.rw_dn0254_07.row.prog w) ((ktrAny dp un gd env outer).deeper (env07 scope v.L)) (call (.ref 82) [.ref v.xp, .ref v.lq, .ref v.xa]) Q E s := by
  k_dflt (refine' lookup_same hbody ?k6 ?_; (case k6 => k_is))
  intro hbe hse
  subst hse
  subst hbe
  obtain ⟨cc, b1, b2, b3, b4, b5, b6, b7, b8, b9, b10, b11, b12, b13, b14, b15, b16, b17, b18, b19, b20, b21, b22, b23, b24, b25⟩ := ok.lab
  obtain ⟨ho1, ho2, ho3, hc1, hd1, hc2, hd2, hc3, hd3, hc4, hd4, hord, hork⟩ := ok
  obtain ⟨hor1, hor2, hor3, hor4, hor5, hor6, hor7, hor8, hor9, hor10, hor11, hor12, hor13, hor14, hor15, hor16, hor17, hor18⟩ := hord
  obtain ⟨hok1, hok2, hok3, hok4, hok5, hok6, hok7, hok8⟩ := hork
  dsimp only [led07, fnAt, List.getElem?_cons_zero, List.getElem?_cons_succ] at N
  have p3 : (c < 200 ∧ c < 200) ∨ (200 ≤ c ∧ 300 ≤ c) := by omega
  clear p1
  rcases p3 with ⟨p1, p2⟩ | ⟨p1, p2⟩
  all_goals (
    refine wpAny_call ?_
    k_dflt (refine' code_defT ?k1 ?k2 ?k3 ?k4 ?k5 ?kx ?kA ?kF ?kK ?k6 ?k7 ?k8 ?k9 ?kB ?_ ?c2 ?c3 ?c4 ?c5; (case kA => exact rfl); (case kF => exact rfl); (case kK => exact hk); (case kx => exact D); (case k1 => k_asm); (case k2 => k_asm); (case k3 => k_asm); (case k4 => k_asm); (case k5 => k_asm); (case k6 => k_is); (case k7 => k_is); (case k8 => ktr_room); (case k9 => exact BindsTo.of_eq rfl); (case c5 => decide); (case kB => exact locs rfl); (case c2 => exact rfl); (case c3 => exact rfl); (case c4 => exact rfl); k_whole; intro g' L' h' FG' F' N' B' X' T' D'; (try dsimp only); (try k_fold))
    kwd_less
    ((k_dflt (refine' heldS_take ?R ?F ?K ?XB ?TB ?D ?ex PyProof.Rows.Boot.«AttributeError» ?hn isExc_AttributeError notTuple_AttributeError ?hs ?_; (case R => assumption); (case F => assumption); (case K => assumption); (case XB => assumption); (case TB => assumption); (case D => assumption); (case ex => k_is); (case hn => decide); (case hs => (rw [isSubtype_type]; kernel_rfl))); intro h' g' T' F' N' B' X' TT' D'))
    kwd_less
    rename Fr _ _ _ _ => F9
    rename News _ _ _ _ => N9
    (try simp only [List.push_toArray, List.nil_append, List.cons_append] at N9)
    exact ⟨_, _, _, _, by first | assumption | exact KtsTurn.refl, F9, N9, fun h₀' T F N B D => ret _ _ _ _ _ _ _ T F (news_skip2 N) B D⟩)
theorem try8 {Q : Value → Shared → Prop} {p : Program} {loose : List Str} {mean : ExcName → Option Value} {mg mb : Str → Option Value} {dp un : Nat} {gd : Option (List Code)} {env : Env} {outer : List Env} {base : Heap} {body : List Stmt} {scope : Scope} {v : V07} {ep er ea : List DictEntry} {np nr na nc : Nat}
    {oc : Value} {od : Option Addr} {params : Arguments} {dV kV doc pm cdv ct : Value} {an : Option Addr} {osl : Array (Option Value)}
    (hbody : (Mine.hd.heap_39 w.params).lookup 89 = some ⟨oc, od, .func (fnOf "_law_round" "_law_round" params body scope dV kV doc pm an cdv ct), osl⟩) (B : Below (ktrAny dp un gd env outer) base (env :: outer) h₀) (F : Fr h₀ v.L s.heap m) (X : (Mine.hd.heap_39 w.params).In h₀) (T : Top p loose mean mg mb h₀) (XB : (Mine.hd.heap_39 w.params).In base) (TB : Top p loose mean mg mb base) (D : KtsDicts (frs (env :: outer)) h₀) (hC : CodeHd h₀ 88 84)
    (N : News h₀ v.L s.heap (led07 v body scope (dictOf ep np) (dictOf er nr) (dictOf ea na) (W.listOf #[] nc))) (ok : Ok07 v scope) (hd : dp + 8 < recursionLimit) (hu : un + 90 < cLine) (hk : scope.kind = .function) (hr : getL "http_response" ep = some none)
    {c : Int} {tq : Tok} (g1 : getL "code" ea = some (some (.int c tq))) {mv : Value} (hmv : handedIn mv = true) (g2 : getL "msg" ea = some (some mv)) (g3 : getL "info" ea = some (some (.ref v.fgi))) (p1 : c < 200 ∨ 300 ≤ c) (g5 : getL "parent" ep = some (some (.ref v.xr))) (g4 : getL "error" er = some none)
    (ret : ∀ h₀' h' tk' Dt t nc' t2 , KtsTurn (frs (env :: outer)) h₀ h₀' → Fr h₀' v.L h' m → News h₀' v.L h' ((Dt, { cls := .type "tuple", data := .seq #[.str "AttributeError" t, .none] }) :: led07 v body scope (dictOf ep np) (dictOf er nr) (dictOf ea na) (W.listOf #[.str "info" t2] nc')) → Below (ktrAny dp un gd env outer) base (env :: outer) h₀' → KtsDicts (frs (env :: outer)) h₀' → Q (.ref Dt) { s with heap := h', toks := tk' }) :
    wpAny (model PySem.Challenge.rw_dn0254_07.row.prog w) ((ktrAny dp un gd env outer).deeper (env07 scope v.L)) (call (.ref 82) [.ref v.xp, .ref v.lq, .ref v.xa]) Q E s := by
  k_dflt (refine' lookup_same hbody ?k6 ?_; (case k6 => k_is))
  intro hbe hse
  subst hse
  subst hbe
  obtain ⟨cc, b1, b2, b3, b4, b5, b6, b7, b8, b9, b10, b11, b12, b13, b14, b15, b16, b17, b18, b19, b20, b21, b22, b23, b24, b25⟩ := ok.lab
  obtain ⟨ho1, ho2, ho3, hc1, hd1, hc2, hd2, hc3, hd3, hc4, hd4, hord, hork⟩ := ok
  obtain ⟨hor1, hor2, hor3, hor4, hor5, hor6, hor7, hor8, hor9, hor10, hor11, hor12, hor13, hor14, hor15, hor16, hor17, hor18⟩ := hord
  obtain ⟨hok1, hok2, hok3, hok4, hok5, hok6, hok7, hok8⟩ := hork
  dsimp only [led07, fnAt, List.getElem?_cons_zero, List.getElem?_cons_succ] at N
  have p3 : (c < 200 ∧ c < 200) ∨ (200 ≤ c ∧ 300 ≤ c) := by omega
  clear p1
  rcases p3 with ⟨p1, p2⟩ | ⟨p1, p2⟩
  all_goals (
    refine wpAny_call ?_
    k_dflt (refine' code_defT ?k1 ?k2 ?k3 ?k4 ?k5 ?kx ?kA ?kF ?kK ?k6 ?k7 ?k8 ?k9 ?kB ?_ ?c2 ?c3 ?c4 ?c5; (case kA => exact rfl); (case kF => exact rfl); (case kK => exact hk); (case kx => exact D); (case k1 => k_asm); (case k2 => k_asm); (case k3 => k_asm); (case k4 => k_asm); (case k5 => k_asm); (case k6 => k_is); (case k7 => k_is); (case k8 => ktr_room); (case k9 => exact BindsTo.of_eq rfl); (case c5 => decide); (case kB => exact locs rfl); (case c2 => exact rfl); (case c3 => exact rfl); (case c4 => exact rfl); k_whole; intro g' L' h' FG' F' N' B' X' T' D'; (try dsimp only); (try k_fold))
    kwd_less
    ((k_dflt (refine' heldS_take ?R ?F ?K ?XB ?TB ?D ?ex PyProof.Rows.Boot.«AttributeError» ?hn isExc_AttributeError notTuple_AttributeError ?hs ?_; (case R => assumption); (case F => assumption); (case K => assumption); (case XB => assumption); (case TB => assumption); (case D => assumption); (case ex => k_is); (case hn => decide); (case hs => (rw [isSubtype_type]; kernel_rfl))); intro h' g' T' F' N' B' X' TT' D'))
    kwd_less
    rename Fr _ _ _ _ => F9
    rename News _ _ _ _ => N9
    (try simp only [List.push_toArray, List.nil_append, List.cons_append] at N9)
    exact ⟨_, _, _, _, by first | assumption | exact KtsTurn.refl, F9, N9, fun h₀' T F N B D => ret _ _ _ _ _ _ _ T F (news_skip2 N) B D⟩)
theorem try9 {Q : Value → Shared → Prop} {p : Program} {loose : List Str} {mean : ExcName → Option Value} {mg mb : Str → Option Value} {dp un : Nat} {gd : Option (List Code)} {env : Env} {outer : List Env} {base : Heap} {body : List Stmt} {scope : Scope} {v : V07} {ep er ea : List DictEntry} {np nr na nc : Nat}
    {oc : Value} {od : Option Addr} {params : Arguments} {dV kV doc pm cdv ct : Value} {an : Option Addr} {osl : Array (Option Value)}
    (hbody : (Mine.hd.heap_39 w.params).lookup 89 = some ⟨oc, od, .func (fnOf "_law_round" "_law_round" params body scope dV kV doc pm an cdv ct), osl⟩) (B : Below (ktrAny dp un gd env outer) base (env :: outer) h₀) (F : Fr h₀ v.L s.heap m) (X : (Mine.hd.heap_39 w.params).In h₀) (T : Top p loose mean mg mb h₀) (XB : (Mine.hd.heap_39 w.params).In base) (TB : Top p loose mean mg mb base) (D : KtsDicts (frs (env :: outer)) h₀) (hC : CodeHd h₀ 88 84)
    (N : News h₀ v.L s.heap (led07 v body scope (dictOf ep np) (dictOf er nr) (dictOf ea na) (W.listOf #[] nc))) (ok : Ok07 v scope) (hd : dp + 8 < recursionLimit) (hu : un + 90 < cLine) (hk : scope.kind = .function) (hr : getL "http_response" ep = some none)
    {c : Int} {tq : Tok} (g1 : getL "code" ea = some (some (.int c tq))) {mv : Value} (hmv : handedIn mv = true) (g2 : getL "msg" ea = some (some mv)) (g3 : getL "info" ea = some (some (.ref v.fgi))) (p1 : c < 200 ∨ 300 ≤ c) (g5 : getL "parent" ep = some (some (.ref v.xr))) (g4 : getL "error" er = some (some (.ref v.fbe)))
    (ret : ∀ h₀' h' tk' Dt t nc' t2 Dc t3 , KtsTurn (frs (env :: outer)) h₀ h₀' → Fr h₀' v.L h' m → News h₀' v.L h' ((Dt, { cls := .type "tuple", data := .seq #[.str "ValueError" t, .none] }) :: (Dc, { cls := .type "tuple", data := .seq #[.str "http" t3, .ref v.lq, .ref v.xa, .int c tq, mv, .ref v.lh] }) :: led07 v body scope (dictOf ep np) (dictOf er nr) (dictOf ea na) (W.listOf #[.str "info" t2, .ref Dc] nc')) → Below (ktrAny dp un gd env outer) base (env :: outer) h₀' → KtsDicts (frs (env :: outer)) h₀' → Q (.ref Dt) { s with heap := h', toks := tk' }) :
    wpAny (model PySem.Challenge.rw_dn0254_07.row.prog w) ((ktrAny dp un gd env outer).deeper (env07 scope v.L)) (call (.ref 82) [.ref v.xp, .ref v.lq, .ref v.xa]) Q E s := by
  k_dflt (refine' lookup_same hbody ?k6 ?_; (case k6 => k_is))
  intro hbe hse
  subst hse
  subst hbe
  obtain ⟨cc, b1, b2, b3, b4, b5, b6, b7, b8, b9, b10, b11, b12, b13, b14, b15, b16, b17, b18, b19, b20, b21, b22, b23, b24, b25⟩ := ok.lab
  obtain ⟨ho1, ho2, ho3, hc1, hd1, hc2, hd2, hc3, hd3, hc4, hd4, hord, hork⟩ := ok
  obtain ⟨hor1, hor2, hor3, hor4, hor5, hor6, hor7, hor8, hor9, hor10, hor11, hor12, hor13, hor14, hor15, hor16, hor17, hor18⟩ := hord
  obtain ⟨hok1, hok2, hok3, hok4, hok5, hok6, hok7, hok8⟩ := hork
  dsimp only [led07, fnAt, List.getElem?_cons_zero, List.getElem?_cons_succ] at N
  have p3 : (c < 200 ∧ c < 200) ∨ (200 ≤ c ∧ 300 ≤ c) := by omega
  clear p1
  rcases p3 with ⟨p1, p2⟩ | ⟨p1, p2⟩
  all_goals (
    refine wpAny_call ?_
    k_dflt (refine' code_defT ?k1 ?k2 ?k3 ?k4 ?k5 ?kx ?kA ?kF ?kK ?k6 ?k7 ?k8 ?k9 ?kB ?_ ?c2 ?c3 ?c4 ?c5; (case kA => exact rfl); (case kF => exact rfl); (case kK => exact hk); (case kx => exact D); (case k1 => k_asm); (case k2 => k_asm); (case k3 => k_asm); (case k4 => k_asm); (case k5 => k_asm); (case k6 => k_is); (case k7 => k_is); (case k8 => ktr_room); (case k9 => exact BindsTo.of_eq rfl); (case c5 => decide); (case kB => exact locs rfl); (case c2 => exact rfl); (case c3 => exact rfl); (case c4 => exact rfl); k_whole; intro g' L' h' FG' F' N' B' X' T' D'; (try dsimp only); (try k_fold))
    kwd_less
    (k_dflt (refine' heldS_skip ?R ?F ?K ?XB ?TB ?ex PyProof.Rows.Boot.«AttributeError» ?hn isExc_AttributeError notTuple_AttributeError ?hs ?_; (case R => assumption); (case F => assumption); (case K => assumption); (case XB => assumption); (case TB => assumption); (case ex => k_is); (case hn => decide); (case hs => (rw [isSubtype_type]; kernel_rfl))))
    (k_dflt (refine' heldS_skip ?R ?F ?K ?XB ?TB ?ex PyProof.Rows.Boot.«KeyError» ?hn kr_isExc_KeyError kr_notTuple_KeyError ?hs ?_; (case R => assumption); (case F => assumption); (case K => assumption); (case XB => assumption); (case TB => assumption); (case ex => k_is); (case hn => decide); (case hs => (rw [isSubtype_type]; kernel_rfl))))
    (k_dflt (refine' heldS_skip ?R ?F ?K ?XB ?TB ?ex PyProof.Rows.Boot.«TypeError» ?hn PySem.F.isExc_TypeError PySem.F.notTuple_TypeError ?hs ?_; (case R => assumption); (case F => assumption); (case K => assumption); (case XB => assumption); (case TB => assumption); (case ex => k_is); (case hn => decide); (case hs => (rw [isSubtype_type]; kernel_rfl))))
    ((k_dflt (refine' heldS_take ?R ?F ?K ?XB ?TB ?D ?ex PyProof.Rows.Boot.«ValueError» ?hn PySem.F.isExc_ValueError PySem.F.notTuple_ValueError ?hs ?_; (case R => assumption); (case F => assumption); (case K => assumption); (case XB => assumption); (case TB => assumption); (case D => assumption); (case ex => k_is); (case hn => decide); (case hs => (rw [isSubtype_type]; kernel_rfl))); intro h' g' T' F' N' B' X' TT' D'))
    kwd_less
    rename Fr _ _ _ _ => F9
    rename News _ _ _ _ => N9
    (try simp only [List.push_toArray, List.nil_append, List.cons_append] at N9)
    exact ⟨_, _, _, _, by first | assumption | exact KtsTurn.refl, F9, N9, fun h₀' T F N B D => ret _ _ _ _ _ _ _ _ _ T F (news_skip3 N) B D⟩)
theorem try10 {Q : Value → Shared → Prop} {p : Program} {loose : List Str} {mean : ExcName → Option Value} {mg mb : Str → Option Value} {dp un : Nat} {gd : Option (List Code)} {env : Env} {outer : List Env} {base : Heap} {body : List Stmt} {scope : Scope} {v : V07} {ep er ea : List DictEntry} {np nr na nc : Nat}
    {oc : Value} {od : Option Addr} {params : Arguments} {dV kV doc pm cdv ct : Value} {an : Option Addr} {osl : Array (Option Value)}
    (hbody : (Mine.hd.heap_39 w.params).lookup 89 = some ⟨oc, od, .func (fnOf "_law_round" "_law_round" params body scope dV kV doc pm an cdv ct), osl⟩) (B : Below (ktrAny dp un gd env outer) base (env :: outer) h₀) (F : Fr h₀ v.L s.heap m) (X : (Mine.hd.heap_39 w.params).In h₀) (T : Top p loose mean mg mb h₀) (XB : (Mine.hd.heap_39 w.params).In base) (TB : Top p loose mean mg mb base) (D : KtsDicts (frs (env :: outer)) h₀) (hC : CodeHd h₀ 88 84)
    (N : News h₀ v.L s.heap (led07 v body scope (dictOf ep np) (dictOf er nr) (dictOf ea na) (W.listOf #[] nc))) (ok : Ok07 v scope) (hd : dp + 8 < recursionLimit) (hu : un + 90 < cLine) (hk : scope.kind = .function) (hr : getL "http_response" ep = some none)
    {c : Int} {tq : Tok} (g1 : getL "code" ea = some (some (.int c tq))) {mv : Value} (hmv : handedIn mv = true) (g2 : getL "msg" ea = some (some mv)) (g3 : getL "info" ea = some (some (.ref v.fgi))) (p1 : c < 200 ∨ 300 ≤ c) (g5 : getL "parent" ep = some (some (.ref v.xr))) (g4 : getL "error" er = some (some (.ref v.fge)))
    (ret : ∀ h₀' h' tk' Dt t nc' t2 Dc t3 , KtsTurn (frs (env :: outer)) h₀ h₀' → Fr h₀' v.L h' m → News h₀' v.L h' ((Dt, { cls := .type "tuple", data := .seq #[.str "gave" t, .ref v.lt] }) :: (Dc, { cls := .type "tuple", data := .seq #[.str "http" t3, .ref v.lq, .ref v.xa, .int c tq, mv, .ref v.lh] }) :: led07 v body scope (dictOf ep np) (dictOf er nr) (dictOf ea na) (W.listOf #[.str "info" t2, .ref Dc] nc')) → Below (ktrAny dp un gd env outer) base (env :: outer) h₀' → KtsDicts (frs (env :: outer)) h₀' → Q (.ref Dt) { s with heap := h', toks := tk' }) :
    wpAny (model PySem.Challenge.rw_dn0254_07.row.prog w) ((ktrAny dp un gd env outer).deeper (env07 scope v.L)) (call (.ref 82) [.ref v.xp, .ref v.lq, .ref v.xa]) Q E s := by
  k_dflt (refine' lookup_same hbody ?k6 ?_; (case k6 => k_is))
  intro hbe hse
  subst hse
  subst hbe
  obtain ⟨cc, b1, b2, b3, b4, b5, b6, b7, b8, b9, b10, b11, b12, b13, b14, b15, b16, b17, b18, b19, b20, b21, b22, b23, b24, b25⟩ := ok.lab
  obtain ⟨ho1, ho2, ho3, hc1, hd1, hc2, hd2, hc3, hd3, hc4, hd4, hord, hork⟩ := ok
  obtain ⟨hor1, hor2, hor3, hor4, hor5, hor6, hor7, hor8, hor9, hor10, hor11, hor12, hor13, hor14, hor15, hor16, hor17, hor18⟩ := hord
  obtain ⟨hok1, hok2, hok3, hok4, hok5, hok6, hok7, hok8⟩ := hork
  dsimp only [led07, fnAt, List.getElem?_cons_zero, List.getElem?_cons_succ] at N
  have p3 : (c < 200 ∧ c < 200) ∨ (200 ≤ c ∧ 300 ≤ c) := by omega
  clear p1
  rcases p3 with ⟨p1, p2⟩ | ⟨p1, p2⟩
  all_goals (
    refine wpAny_call ?_
    k_dflt (refine' code_defT ?k1 ?k2 ?k3 ?k4 ?k5 ?kx ?kA ?kF ?kK ?k6 ?k7 ?k8 ?k9 ?kB ?_ ?c2 ?c3 ?c4 ?c5; (case kA => exact rfl); (case kF => exact rfl); (case kK => exact hk); (case kx => exact D); (case k1 => k_asm); (case k2 => k_asm); (case k3 => k_asm); (case k4 => k_asm); (case k5 => k_asm); (case k6 => k_is); (case k7 => k_is); (case k8 => ktr_room); (case k9 => exact BindsTo.of_eq rfl); (case c5 => decide); (case kB => exact locs rfl); (case c2 => exact rfl); (case c3 => exact rfl); (case c4 => exact rfl); k_whole; intro g' L' h' FG' F' N' B' X' T' D'; (try dsimp only); (try k_fold))
    kwd_less
    rename Fr _ _ _ _ => F9
    rename News _ _ _ _ => N9
    (try simp only [List.push_toArray, List.nil_append, List.cons_append] at N9)
    exact ⟨_, _, _, _, by first | assumption | exact KtsTurn.refl, F9, N9, fun h₀' T F N B D => ret _ _ _ _ _ _ _ _ _ T F (news_skip3 N) B D⟩)
end
end Mine


namespace Mine
theorem fill5 : PySem.Challenge.rw_dn0254_07.row.prog = PySem.Challenge.rw_dn0254_07.row.prog ∧ Mine.hd.heap_39 = Mine.hd.heap_39 := by
  w_top off
  k_fill
  exact ⟨rfl, rfl⟩
def firstF (a b : Int) (p : Bool) : Int := if inF a b 1 = true then 1 else if inF a b 2 = true then 2 else if inF a b 3 = true then 3 else if inF a b 4 = true then 4 else if inF a b 5 = true then 5 else if p = true then 0 else if inF a b 6 = true then 6 else if inF a b 7 = true then 7 else 0
section
variable {w : World} {E : Value → Shared → Prop} {s : Shared} {h₀ : Heap} {L : Addr} {m : Str → Option Value}
local macro_rules | `(tactic| keq_rows) => `(tactic| first | (k_unfold; (try dsimp only)) | walk1 | (dsimp only; walk1))
local macro_rules | `(tactic| ktr_room) => `(tactic| ((simp only [depth_mark, depth_in1, depth_deeper]); (try dsimp only [ktrAny]); omega))
local macro_rules | `(tactic| k_room) => `(tactic| ktr_room)
local macro_rules | `(tactic| walk_at "compareOp In int ref") => `(tactic| (k_here; k_dflt (refine' in_two ?a ?b ?_; (case a => k_asm); (case b => k_mem); k_whole)))
local macro_rules | `(tactic| kwd_less) => `(tactic| repeat' keq_rows)
theorem first75 {Q : Value → Shared → Prop} {p : Program} {loose : List Str} {mean : ExcName → Option Value} {mg mb : Str → Option Value} {dp un : Nat} {gd : Option (List Code)} {env : Env} {outer : List Env} {base : Heap} {body : List Stmt} {scope : Scope} {v : V07} {odp odr oda olc : Obj} {q : Bool}
    (B : Below (ktrAny dp un gd env outer) base (env :: outer) h₀) (F : Fr h₀ v.L s.heap m) (X : (Mine.hd.heap_39 w.params).In h₀) (T : Top p loose mean mg mb h₀)
    (N : News h₀ v.L s.heap (led07 v body scope odp odr oda olc)) (ok : Ok07 v scope) (hd : dp + 8 < recursionLimit) (hk : scope.kind = .function)
    (ret : ∀ h' tk' t k, k = firstF v.a v.b q → News h₀ v.L h' (led07 v body scope odp odr oda olc) → Fr h₀ v.L h' m → Q (.int k t) { s with heap := h', toks := tk' }) :
    wpAny (model PySem.Challenge.rw_dn0254_07.row.prog w) ((ktrAny dp un gd env outer).deeper (env07 scope v.L)) (call (.ref 75) [.ref v.Df, .bool q]) Q E s := by
  obtain ⟨ho1, ho2, ho3, hc1, hd1, hc2, hd2, hc3, hd3, hc4, hd4, hord, hork⟩ := ok
  obtain ⟨hor1, hor2, hor3, hor4, hor5, hor6, hor7, hor8, hor9, hor10, hor11, hor12, hor13, hor14, hor15, hor16, hor17, hor18⟩ := hord
  obtain ⟨hok1, hok2, hok3, hok4, hok5, hok6, hok7, hok8⟩ := hork
  dsimp only [led07] at N
  refine wpAny_call ?_
  k_dflt (refine' code_def ?k1 ?k2 ?k3 ?k4 ?k5 ?kA ?kF ?kK ?k6 ?k7 ?k8 ?k9 ?kB ?_ ?c2 ?c3 ?c4 ?c5; (case kA => exact rfl); (case kF => exact rfl); (case kK => exact hk); (case k1 => k_asm); (case k2 => k_asm); (case k3 => k_asm); (case k4 => k_asm); (case k5 => k_asm); (case k6 => k_is); (case k7 => k_is); (case k8 => ktr_room); (case k9 => exact BindsTo.of_eq rfl); (case c5 => decide); (case kB => exact locs rfl); (case c2 => exact rfl); (case c3 => exact rfl); (case c4 => exact rfl); k_whole; intro g' L' h' FG' F' N' B' X' T'; (try dsimp only); (try k_fold))
  kwd_less
  all_goals (rename Fr _ _ _ _ => F9; rename News _ _ _ _ => N9)
  all_goals (refine ret _ _ _ _ ?_ (news_sub N9 ?_) F9)
  all_goals first | (intro p hp; first | exact hp | exact .tail _ hp | exact .tail _ (.tail _ hp) | exact .tail _ (.tail _ (.tail _ hp)) | exact .tail _ (.tail _ (.tail _ (.tail _ hp)))) | (unfold firstF; simp only [*, if_true, if_false, Bool.false_eq_true])
end
end Mine


namespace Mine
theorem fill6 : PySem.Challenge.rw_dn0254_07.row.prog = PySem.Challenge.rw_dn0254_07.row.prog ∧ Mine.hd.heap_39 = Mine.hd.heap_39 := by
  w_top off
  k_fill
  exact ⟨rfl, rfl⟩
section
variable {w : World} {E : Value → Shared → Prop} {s : Shared} {h₀ : Heap} {m : Str → Option Value}
local macro_rules | `(tactic| k_ne) => `(tactic| (refine' neR ?a1 ?a2 ?a3; (case a1 => (with_reducible assumption)); (case a2 => (with_reducible assumption)); (case a3 => exact rfl)))
local macro_rules | `(tactic| keq_rows) => `(tactic| first | (k_unfold; (try dsimp only)) | walk1 | (dsimp only; walk1))
local macro_rules | `(tactic| ktr_room) => `(tactic| ((simp only [depth_mark, depth_in1, depth_deeper]); (try dsimp only [ktrAny]); omega))
local macro_rules | `(tactic| k_room) => `(tactic| ktr_room)
local macro_rules | `(tactic| walk_at "call ref") => `(tactic| (k_here; (first | (with_reducible show wpAny _ _ (call (Value.ref 28) _) _ _ _) | (with_reducible show wpAny _ _ (call (Value.ref 63) _) _ _ _)); refine wpAny_call ?_; k_dflt (refine' code_def ?k1 ?k2 ?k3 ?k4 ?k5 ?kA ?kF ?kK ?k6 ?k7 ?k8 ?k9 ?kB ?_ ?c2 ?c3 ?c4 ?c5; (case kA => exact rfl); (case kF => exact rfl); (case kK => exact rfl); (case k1 => k_asm); (case k2 => k_asm); (case k3 => k_asm); (case k4 => k_asm); (case k5 => k_asm); (case k6 => k_is); (case k7 => k_is); (case k8 => ktr_room); (case k9 => exact BindsTo.of_eq rfl); (case c5 => decide); (case kB => exact locs rfl); (case c2 => exact rfl); (case c3 => exact rfl); (case c4 => exact rfl); k_whole; intro g' L' h' FG' F' N' B' X' T'; (try dsimp only); (try k_fold))))
local macro_rules | `(tactic| walk_at "getMethod ref") => `(tactic| (k_here; (first | (with_reducible show wpAny _ _ (getMethod (Value.ref _) (PySem.Str.ofString "add_parent") _) _ _ _) | (with_reducible show wpAny _ _ (getMethod (Value.ref _) (PySem.Str.ofString "http_response") _) _ _ _)); k_dflt (refine' method_inst ?k1 ?k2 (InstAt.of_news (by k_asm) (by k_mem) (by k_mem)) ?k4 ?k5 ?k6 ?k7 ?_; (case k1 => k_asm); (case k2 => k_asm); (case k4 => k_is); (case k5 => k_is); (case k6 => k_is); (case k7 => assumption); k_whole)))
local macro_rules | `(tactic| walk_at "getMethod ref") => `(tactic| (k_here; (first | (with_reducible show wpAny _ _ (getMethod (Value.ref _) (PySem.Str.ofString "info") _) _ _ _) | (with_reducible show wpAny _ _ (getMethod (Value.ref _) (PySem.Str.ofString "error") _) _ _ _)); k_dflt (refine' method_usual (r := none) ?k1 (InstAt.of_news (by k_asm) (by k_mem) (by k_mem)) ?k4 ?k5 ?k6 ?k7 ?_; (case k1 => (refine' Frag.In.keeps ?x1 (Fr.keep ?x2); (case x2 => k_asm); (case x1 => k_asm))); (case k4 => k_is); (case k5 => k_is); (case k6 => k_is); (case k7 => rfl); k_whole)))
local macro_rules | `(tactic| walk_at "getAttr ref") => `(tactic| (k_here; k_dflt (first
  | (refine' get_sym ?k1 ?k2 ?k3 ?k4 ?k5 ?k6 ?k7 ?k8 ?k9 ?ka ?kb ?_; (case k1 => k_asm); (case k2 => k_asm); (case k3 => k_asm); (case k4 => k_mem); (case k5 => k_mem); (case k6 => assumption); (case k7 => k_is); (case k8 => k_is); (case k9 => k_is); (case ka => k_is); (case kb => first | rfl | assumption); k_whole)
  | (refine' get_symN ?k1 ?k2 ?k3 ?k4 ?k5 ?k6 ?k7 ?k8 ?k9 ?ka ?kb ?kc ?kd ?_; (case k1 => k_asm); (case k2 => k_asm); (case k3 => k_asm); (case k4 => k_mem); (case k5 => k_mem); (case k6 => assumption); (case k7 => rfl); (case k8 => k_is); (case k9 => k_is); (case ka => k_is); (case kb => decide); (case kc => first | exact name45 _ | exact name66 _); (case kd => decide); k_whole; intro h' tk' e' hx'))))
local macro_rules | `(tactic| walk_at "eval Name") => `(tactic| (k_here; (with_reducible show wpAny _ _ (eval (Expr.Name _ _) (envOf _ _ _ _ _)) _ _ _); name_kind "local"; k_dflt (refine' ld ?k1 ?k2 ?_; (case k1 => k_asm); (case k2 => exact rfl); k_whole)))
local macro_rules | `(tactic| walk_at "compareOp LtE int") => `(tactic| (k_here; (with_reducible show wpAny _ _ (compareOp CmpOp.LtE (Value.int _ _) (Value.str _ _)) _ _ _); k_dflt (refine' le_int_str ?k0 ?_; (case k0 => rfl); k_whole); intro h' tk' e' hx'))
theorem nm9_of {v : V07} {h₀ h : Heap} {L : Addr} {m : Str → Option Value} {tq : Tok} (_F : Fr h₀ L h m) (a1 : m "_law_bad_error" = some (.ref v.fbe)) (a2 : m "_law_good_error" = some (.ref v.fge)) (a3 : m "_law_bad_info" = some (.ref v.fbi)) (a4 : m "_law_good_info" = some (.ref v.fgi)) (a5 : m "processor" = some (.ref v.xp)) (a6 : m "parent" = some (.ref v.xr)) (a7 : m "answer" = some (.ref v.xa)) (a8 : m "request" = some (.ref v.lq)) (a9 : m "code" = some (.int v.code v.tc)) (a10 : m "m" = some (.int v.mm tq)) (a11 : m "faults" = some (.ref v.Df)) : Nm07 v m := ⟨a1, a2, a3, a4, a5, a6, a7, a8, a9, ⟨_, a10⟩, a11⟩
local macro_rules | `(tactic| ktr_rel) => `(tactic| ((simp only [units_deeper, units_in1]); (try dsimp only [ktrAny]); omega))
local macro_rules | `(tactic| walk_at "eval Name") => `(tactic| (k_here; name_kind "local"; k_dflt (refine' nameX_L ?F ?v ?_ ?a ?b; (case F => k_asm); (case a => rfl); (case b => rfl); (case v => rfl); k_whole)))
local macro_rules | `(tactic| walk_at "call builtin:list.append") => `(tactic| (k_here; (with_reducible show wpAny _ _ (call (Value.builtin _) [Value.ref _, _]) _ _ _); k_dflt (refine' append_led ?F ?N ?z ?U ?_; (case F => k_asm); (case N => k_asm); (case U => k_upd); (case z => exact Nat.le_of_ble_eq_true rfl)); intro h' F' N'))
local macro_rules | `(tactic| keq_hits) => `(tactic| first | exact EqsAt.nil | (refine EqsAt.cons ?_ ?_; (focus (first | exact SeqAt.EqAt.same _ | exact eq_str | exact eq_int | (refine eq_tup (tup_at (by k_asm) (by k_mem)) (tup_at (by k_asm) (by k_mem)) (by ktr_rel) ?_; keq_hits))); keq_hits))
local macro_rules | `(tactic| walk_at "compareOp NotEq ref ref") => `(tactic| (k_here; (with_reducible show wpAny _ _ (compareOp CmpOp.NotEq (Value.ref _) (Value.ref _)) _ _ _); k_dflt (refine' cmp_ne_list ?k1 ?k2 ?k3 ?k4 ?_; (case k1 => exact News.isList (by k_asm) (by k_mem)); (case k2 => exact News.isList (by k_asm) (by k_mem)); (case k3 => ktr_rel); (case k4 => keq_hits); k_whole)))
local macro_rules | `(tactic| kwd_less) => `(tactic| repeat' ((fail_if_success (with_reducible show wpAny _ _ (call (Value.ref 82) _) _ _ _)); (fail_if_success (with_reducible show wpAny _ _ (execs (PySem.Stmt.Assign [PySem.Expr.Attribute _ _ _] _ _ :: _) _) _ _ _)); keq_rows))
theorem mid1 {Q : Flow → Shared → Prop} {p : Program} {loose : List Str} {mean : ExcName → Option Value} {mg mb : Str → Option Value} {dp un : Nat} {gd : Option (List Code)} {env : Env} {outer : List Env} {base : Heap}
    {oc : Value} {od : Option Addr} {params : Arguments} {body : List Stmt} {scope : Scope} {dV kV doc pm cdv ct : Value} {an : Option Addr} {osl : Array (Option Value)} {v : V07} {ep er ea : List DictEntry} {np nr na nc : Nat} {q : Bool} {tf : Tok}
    (hbody : (Mine.hd.heap_39 w.params).lookup 89 = some ⟨oc, od, .func (fnOf "_law_round" "_law_round" params body scope dV kV doc pm an cdv ct), osl⟩)
    (B : Below (ktrAny dp un gd env outer) base (env :: outer) h₀) (F : Fr h₀ v.L s.heap m) (X : (Mine.hd.heap_39 w.params).In h₀) (T : Top p loose mean mg mb h₀) (XB : (Mine.hd.heap_39 w.params).In base) (TB : Top p loose mean mg mb base) (D : KtsDicts (frs (env :: outer)) h₀) (hC : CodeHd h₀ 88 84)
    (N : News h₀ v.L s.heap (led07 v body scope (dictOf ep np) (dictOf er nr) (dictOf ea na) (W.listOf #[] nc))) (ok : Ok07 v scope) (nm : Nm07 v m) (nq : m "passes" = some (.bool q)) (nf : m "first" = some (.int 1 tf)) (hd : dp + 8 < recursionLimit) (hu : un + 90 < cLine) (hr : getL "http_response" ep = some none)
    (g1 : getL "code" ea = some none)
    (next : ∀ h₀' h' tk' m' arr nc', KtsTurn (frs (env :: outer)) h₀ h₀' → Fr h₀' v.L h' m' → News h₀' v.L h' (led07 v body scope (dictOf ep np) (dictOf er nr) (dictOf ea na) (W.listOf arr nc')) → Below (ktrAny dp un gd env outer) base (env :: outer) h₀' → KtsDicts (frs (env :: outer)) h₀' → Nm07 v m' → arr.size ≤ 2 →
      wpAny (model PySem.Challenge.rw_dn0254_07.row.prog w) ((ktrAny dp un gd env outer).deeper (env07 scope v.L)) (execs (body.drop 29) (env07 scope v.L)) Q E { s with heap := h', toks := tk' }) :
    wpAny (model PySem.Challenge.rw_dn0254_07.row.prog w) ((ktrAny dp un gd env outer).deeper (env07 scope v.L)) (execs (body.drop 21) (env07 scope v.L)) Q E s := by
  have hbody' := hbody
  k_dflt (refine' lookup_same hbody' ?k6 ?_; (case k6 => k_is))
  intro hbe hse
  subst hse
  clear hbody'
  rw [show List.drop 21 body = _ from congrArg (List.drop 21) hbe]
  have ok' := ok
  obtain ⟨cc, b1, b2, b3, b4, b5, b6, b7, b8, b9, b10, b11, b12, b13, b14, b15, b16, b17, b18, b19, b20, b21, b22, b23, b24, b25⟩ := ok.lab
  obtain ⟨ho1, ho2, ho3, hc1, hd1, hc2, hd2, hc3, hd3, hc4, hd4, -, -⟩ := ok
  have nm0 := nm
  obtain ⟨m1, m2, m3, m4, m5, m6, m7, m8, m9, ⟨tq, m10⟩, m11⟩ := nm
  dsimp only [List.drop]
  have N0 := N
  replace F := fr_f13 F m1 m2 m3 m4 m5 m6 m7 m8 m9 m10 m11 nq nf
  dsimp only [led07] at N
  kwd_less
  refine try1 B F X T XB TB D hC N0 ok' hd hu rfl hr g1 ?_
  intro h₀' h' tk' Dt t nc'  T' F' N' B' D'
  have X' := XB.keeps B'.stays
  have TT' := TB.keeps B'.stays
  dsimp only [led07] at N'
  clear B F X T D hC N N0
  kwd_less
  dsimp only
  rename Fr _ _ _ _ => F9
  rename News _ _ _ _ => N9
  have nm9 := nm9_of (v := v) F9 rfl rfl rfl rfl rfl rfl rfl rfl rfl rfl rfl
  subst hbe
  first
  | exact next _ _ _ _ _ _ T' F9 (news_sub N9 (fun p hp => .tail _ (hp))) B' D' nm9 (by simp)
  | exact next _ _ _ _ _ _ T' F9 (news_sub N9 (fun p hp => .tail _ (.tail _ (hp)))) B' D' nm9 (by simp)
  | exact next _ _ _ _ _ _ T' F9 (news_sub N9 (fun p hp => .tail _ (.tail _ (.tail _ (hp))))) B' D' nm9 (by simp)
  | exact next _ _ _ _ _ _ T' F9 (news_sub N9 (fun p hp => .tail _ (.tail _ (.tail _ (.tail _ (hp)))))) B' D' nm9 (by simp)
  | exact next _ _ _ _ _ _ T' F9 (news_sub N9 (fun p hp => .tail _ (.tail _ (.tail _ (.tail _ (.tail _ (hp))))))) B' D' nm9 (by simp)
  | exact next _ _ _ _ _ _ T' F9 (news_sub N9 (fun p hp => .tail _ (.tail _ (.tail _ (.tail _ (.tail _ (.tail _ (hp)))))))) B' D' nm9 (by simp)
  | exact next _ _ _ _ _ _ T' F9 (news_sub N9 (fun p hp => .tail _ (.tail _ (.tail _ (.tail _ (.tail _ (.tail _ (.tail _ (hp))))))))) B' D' nm9 (by simp)
  | exact next _ _ _ _ _ _ T' F9 (news_sub N9 (fun p hp => .tail _ (.tail _ (.tail _ (.tail _ (.tail _ (.tail _ (.tail _ (.tail _ (hp)))))))))) B' D' nm9 (by simp)
theorem mid2 {Q : Flow → Shared → Prop} {p : Program} {loose : List Str} {mean : ExcName → Option Value} {mg mb : Str → Option Value} {dp un : Nat} {gd : Option (List Code)} {env : Env} {outer : List Env} {base : Heap}
    {oc : Value} {od : Option Addr} {params : Arguments} {body : List Stmt} {scope : Scope} {dV kV doc pm cdv ct : Value} {an : Option Addr} {osl : Array (Option Value)} {v : V07} {ep er ea : List DictEntry} {np nr na nc : Nat} {q : Bool} {tf : Tok}
    (hbody : (Mine.hd.heap_39 w.params).lookup 89 = some ⟨oc, od, .func (fnOf "_law_round" "_law_round" params body scope dV kV doc pm an cdv ct), osl⟩)
    (B : Below (ktrAny dp un gd env outer) base (env :: outer) h₀) (F : Fr h₀ v.L s.heap m) (X : (Mine.hd.heap_39 w.params).In h₀) (T : Top p loose mean mg mb h₀) (XB : (Mine.hd.heap_39 w.params).In base) (TB : Top p loose mean mg mb base) (D : KtsDicts (frs (env :: outer)) h₀) (hC : CodeHd h₀ 88 84)
    (N : News h₀ v.L s.heap (led07 v body scope (dictOf ep np) (dictOf er nr) (dictOf ea na) (W.listOf #[] nc))) (ok : Ok07 v scope) (nm : Nm07 v m) (nq : m "passes" = some (.bool q)) (nf : m "first" = some (.int 2 tf)) (hd : dp + 8 < recursionLimit) (hu : un + 90 < cLine) (hr : getL "http_response" ep = some none)
    {cv : Value} (hcv : handedIn cv = true) (g1 : getL "code" ea = some (some cv)) (g2 : getL "msg" ea = some none)
    (next : ∀ h₀' h' tk' m' arr nc', KtsTurn (frs (env :: outer)) h₀ h₀' → Fr h₀' v.L h' m' → News h₀' v.L h' (led07 v body scope (dictOf ep np) (dictOf er nr) (dictOf ea na) (W.listOf arr nc')) → Below (ktrAny dp un gd env outer) base (env :: outer) h₀' → KtsDicts (frs (env :: outer)) h₀' → Nm07 v m' → arr.size ≤ 2 →
      wpAny (model PySem.Challenge.rw_dn0254_07.row.prog w) ((ktrAny dp un gd env outer).deeper (env07 scope v.L)) (execs (body.drop 29) (env07 scope v.L)) Q E { s with heap := h', toks := tk' }) :
    wpAny (model PySem.Challenge.rw_dn0254_07.row.prog w) ((ktrAny dp un gd env outer).deeper (env07 scope v.L)) (execs (body.drop 21) (env07 scope v.L)) Q E s := by
  have hbody' := hbody
  k_dflt (refine' lookup_same hbody' ?k6 ?_; (case k6 => k_is))
  intro hbe hse
  subst hse
  clear hbody'
  rw [show List.drop 21 body = _ from congrArg (List.drop 21) hbe]
  have ok' := ok
  obtain ⟨cc, b1, b2, b3, b4, b5, b6, b7, b8, b9, b10, b11, b12, b13, b14, b15, b16, b17, b18, b19, b20, b21, b22, b23, b24, b25⟩ := ok.lab
  obtain ⟨ho1, ho2, ho3, hc1, hd1, hc2, hd2, hc3, hd3, hc4, hd4, -, -⟩ := ok
  have nm0 := nm
  obtain ⟨m1, m2, m3, m4, m5, m6, m7, m8, m9, ⟨tq, m10⟩, m11⟩ := nm
  dsimp only [List.drop]
  have N0 := N
  replace F := fr_f13 F m1 m2 m3 m4 m5 m6 m7 m8 m9 m10 m11 nq nf
  dsimp only [led07] at N
  kwd_less
  refine try2 B F X T XB TB D hC N0 ok' hd hu rfl hr hcv g1 g2 ?_
  intro h₀' h' tk' Dt t nc'  T' F' N' B' D'
  have X' := XB.keeps B'.stays
  have TT' := TB.keeps B'.stays
  dsimp only [led07] at N'
  clear B F X T D hC N N0
  kwd_less
  dsimp only
  rename Fr _ _ _ _ => F9
  rename News _ _ _ _ => N9
  have nm9 := nm9_of (v := v) F9 rfl rfl rfl rfl rfl rfl rfl rfl rfl rfl rfl
  subst hbe
  first
  | exact next _ _ _ _ _ _ T' F9 (news_sub N9 (fun p hp => .tail _ (hp))) B' D' nm9 (by simp)
  | exact next _ _ _ _ _ _ T' F9 (news_sub N9 (fun p hp => .tail _ (.tail _ (hp)))) B' D' nm9 (by simp)
  | exact next _ _ _ _ _ _ T' F9 (news_sub N9 (fun p hp => .tail _ (.tail _ (.tail _ (hp))))) B' D' nm9 (by simp)
  | exact next _ _ _ _ _ _ T' F9 (news_sub N9 (fun p hp => .tail _ (.tail _ (.tail _ (.tail _ (hp)))))) B' D' nm9 (by simp)
  | exact next _ _ _ _ _ _ T' F9 (news_sub N9 (fun p hp => .tail _ (.tail _ (.tail _ (.tail _ (.tail _ (hp))))))) B' D' nm9 (by simp)
  | exact next _ _ _ _ _ _ T' F9 (news_sub N9 (fun p hp => .tail _ (.tail _ (.tail _ (.tail _ (.tail _ (.tail _ (hp)))))))) B' D' nm9 (by simp)
  | exact next _ _ _ _ _ _ T' F9 (news_sub N9 (fun p hp => .tail _ (.tail _ (.tail _ (.tail _ (.tail _ (.tail _ (.tail _ (hp))))))))) B' D' nm9 (by simp)
  | exact next _ _ _ _ _ _ T' F9 (news_sub N9 (fun p hp => .tail _ (.tail _ (.tail _ (.tail _ (.tail _ (.tail _ (.tail _ (.tail _ (hp)))))))))) B' D' nm9 (by simp)
theorem mid3 {Q : Flow → Shared → Prop} {p : Program} {loose : List Str} {mean : ExcName → Option Value} {mg mb : Str → Option Value} {dp un : Nat} {gd : Option (List Code)} {env : Env} {outer : List Env} {base : Heap}
    {oc : Value} {od : Option Addr} {params : Arguments} {body : List Stmt} {scope : Scope} {dV kV doc pm cdv ct : Value} {an : Option Addr} {osl : Array (Option Value)} {v : V07} {ep er ea : List DictEntry} {np nr na nc : Nat} {q : Bool} {tf : Tok}
    (hbody : (Mine.hd.heap_39 w.params).lookup 89 = some ⟨oc, od, .func (fnOf "_law_round" "_law_round" params body scope dV kV doc pm an cdv ct), osl⟩)
    (B : Below (ktrAny dp un gd env outer) base (env :: outer) h₀) (F : Fr h₀ v.L s.heap m) (X : (Mine.hd.heap_39 w.params).In h₀) (T : Top p loose mean mg mb h₀) (XB : (Mine.hd.heap_39 w.params).In base) (TB : Top p loose mean mg mb base) (D : KtsDicts (frs (env :: outer)) h₀) (hC : CodeHd h₀ 88 84)
    (N : News h₀ v.L s.heap (led07 v body scope (dictOf ep np) (dictOf er nr) (dictOf ea na) (W.listOf #[] nc))) (ok : Ok07 v scope) (nm : Nm07 v m) (nq : m "passes" = some (.bool q)) (nf : m "first" = some (.int 3 tf)) (hd : dp + 8 < recursionLimit) (hu : un + 90 < cLine) (hr : getL "http_response" ep = some none)
    {cv : Value} (hcv : handedIn cv = true) (g1 : getL "code" ea = some (some cv)) {mv : Value} (hmv : handedIn mv = true) (g2 : getL "msg" ea = some (some mv)) (g3 : getL "info" ea = some none)
    (next : ∀ h₀' h' tk' m' arr nc', KtsTurn (frs (env :: outer)) h₀ h₀' → Fr h₀' v.L h' m' → News h₀' v.L h' (led07 v body scope (dictOf ep np) (dictOf er nr) (dictOf ea na) (W.listOf arr nc')) → Below (ktrAny dp un gd env outer) base (env :: outer) h₀' → KtsDicts (frs (env :: outer)) h₀' → Nm07 v m' → arr.size ≤ 2 →
      wpAny (model PySem.Challenge.rw_dn0254_07.row.prog w) ((ktrAny dp un gd env outer).deeper (env07 scope v.L)) (execs (body.drop 29) (env07 scope v.L)) Q E { s with heap := h', toks := tk' }) :
    wpAny (model PySem.Challenge.rw_dn0254_07.row.prog w) ((ktrAny dp un gd env outer).deeper (env07 scope v.L)) (execs (body.drop 21) (env07 scope v.L)) Q E s := by
  have hbody' := hbody
  k_dflt (refine' lookup_same hbody' ?k6 ?_; (case k6 => k_is))
  intro hbe hse
  subst hse
  clear hbody'
  rw [show List.drop 21 body = _ from congrArg (List.drop 21) hbe]
  have ok' := ok
  obtain ⟨cc, b1, b2, b3, b4, b5, b6, b7, b8, b9, b10, b11, b12, b13, b14, b15, b16, b17, b18, b19, b20, b21, b22, b23, b24, b25⟩ := ok.lab
  obtain ⟨ho1, ho2, ho3, hc1, hd1, hc2, hd2, hc3, hd3, hc4, hd4, -, -⟩ := ok
  have nm0 := nm
  obtain ⟨m1, m2, m3, m4, m5, m6, m7, m8, m9, ⟨tq, m10⟩, m11⟩ := nm
  dsimp only [List.drop]
  have N0 := N
  replace F := fr_f13 F m1 m2 m3 m4 m5 m6 m7 m8 m9 m10 m11 nq nf
  dsimp only [led07] at N
  kwd_less
  refine try3 B F X T XB TB D hC N0 ok' hd hu rfl hr hcv g1 hmv g2 g3 ?_
  intro h₀' h' tk' Dt t nc'  T' F' N' B' D'
  have X' := XB.keeps B'.stays
  have TT' := TB.keeps B'.stays
  dsimp only [led07] at N'
  clear B F X T D hC N N0
  kwd_less
  dsimp only
  rename Fr _ _ _ _ => F9
  rename News _ _ _ _ => N9
  have nm9 := nm9_of (v := v) F9 rfl rfl rfl rfl rfl rfl rfl rfl rfl rfl rfl
  subst hbe
  first
  | exact next _ _ _ _ _ _ T' F9 (news_sub N9 (fun p hp => .tail _ (hp))) B' D' nm9 (by simp)
  | exact next _ _ _ _ _ _ T' F9 (news_sub N9 (fun p hp => .tail _ (.tail _ (hp)))) B' D' nm9 (by simp)
  | exact next _ _ _ _ _ _ T' F9 (news_sub N9 (fun p hp => .tail _ (.tail _ (.tail _ (hp))))) B' D' nm9 (by simp)
  | exact next _ _ _ _ _ _ T' F9 (news_sub N9 (fun p hp => .tail _ (.tail _ (.tail _ (.tail _ (hp)))))) B' D' nm9 (by simp)
  | exact next _ _ _ _ _ _ T' F9 (news_sub N9 (fun p hp => .tail _ (.tail _ (.tail _ (.tail _ (.tail _ (hp))))))) B' D' nm9 (by simp)
  | exact next _ _ _ _ _ _ T' F9 (news_sub N9 (fun p hp => .tail _ (.tail _ (.tail _ (.tail _ (.tail _ (.tail _ (hp)))))))) B' D' nm9 (by simp)
  | exact next _ _ _ _ _ _ T' F9 (news_sub N9 (fun p hp => .tail _ (.tail _ (.tail _ (.tail _ (.tail _ (.tail _ (.tail _ (hp))))))))) B' D' nm9 (by simp)
  | exact next _ _ _ _ _ _ T' F9 (news_sub N9 (fun p hp => .tail _ (.tail _ (.tail _ (.tail _ (.tail _ (.tail _ (.tail _ (.tail _ (hp)))))))))) B' D' nm9 (by simp)
theorem mid4 {Q : Flow → Shared → Prop} {p : Program} {loose : List Str} {mean : ExcName → Option Value} {mg mb : Str → Option Value} {dp un : Nat} {gd : Option (List Code)} {env : Env} {outer : List Env} {base : Heap}
    {oc : Value} {od : Option Addr} {params : Arguments} {body : List Stmt} {scope : Scope} {dV kV doc pm cdv ct : Value} {an : Option Addr} {osl : Array (Option Value)} {v : V07} {ep er ea : List DictEntry} {np nr na nc : Nat} {q : Bool} {tf : Tok}
    (hbody : (Mine.hd.heap_39 w.params).lookup 89 = some ⟨oc, od, .func (fnOf "_law_round" "_law_round" params body scope dV kV doc pm an cdv ct), osl⟩)
    (B : Below (ktrAny dp un gd env outer) base (env :: outer) h₀) (F : Fr h₀ v.L s.heap m) (X : (Mine.hd.heap_39 w.params).In h₀) (T : Top p loose mean mg mb h₀) (XB : (Mine.hd.heap_39 w.params).In base) (TB : Top p loose mean mg mb base) (D : KtsDicts (frs (env :: outer)) h₀) (hC : CodeHd h₀ 88 84)
    (N : News h₀ v.L s.heap (led07 v body scope (dictOf ep np) (dictOf er nr) (dictOf ea na) (W.listOf #[] nc))) (ok : Ok07 v scope) (nm : Nm07 v m) (nq : m "passes" = some (.bool q)) (nf : m "first" = some (.int 4 tf)) (hd : dp + 8 < recursionLimit) (hu : un + 90 < cLine) (hr : getL "http_response" ep = some none)
    {cv : Value} (hcv : handedIn cv = true) (g1 : getL "code" ea = some (some cv)) {mv : Value} (hmv : handedIn mv = true) (g2 : getL "msg" ea = some (some mv)) (g3 : getL "info" ea = some (some (.ref v.fbi)))
    (next : ∀ h₀' h' tk' m' arr nc', KtsTurn (frs (env :: outer)) h₀ h₀' → Fr h₀' v.L h' m' → News h₀' v.L h' (led07 v body scope (dictOf ep np) (dictOf er nr) (dictOf ea na) (W.listOf arr nc')) → Below (ktrAny dp un gd env outer) base (env :: outer) h₀' → KtsDicts (frs (env :: outer)) h₀' → Nm07 v m' → arr.size ≤ 2 →
      wpAny (model PySem.Challenge.rw_dn0254_07.row.prog w) ((ktrAny dp un gd env outer).deeper (env07 scope v.L)) (execs (body.drop 29) (env07 scope v.L)) Q E { s with heap := h', toks := tk' }) :
    wpAny (model PySem.Challenge.rw_dn0254_07.row.prog w) ((ktrAny dp un gd env outer).deeper (env07 scope v.L)) (execs (body.drop 21) (env07 scope v.L)) Q E s := by
  have hbody' := hbody
  k_dflt (refine' lookup_same hbody' ?k6 ?_; (case k6 => k_is))
  intro hbe hse
  subst hse
  clear hbody'
  rw [show List.drop 21 body = _ from congrArg (List.drop 21) hbe]
  have ok' := ok
  obtain ⟨cc, b1, b2, b3, b4, b5, b6, b7, b8, b9, b10, b11, b12, b13, b14, b15, b16, b17, b18, b19, b20, b21, b22, b23, b24, b25⟩ := ok.lab
  obtain ⟨ho1, ho2, ho3, hc1, hd1, hc2, hd2, hc3, hd3, hc4, hd4, -, -⟩ := ok
  have nm0 := nm
  obtain ⟨m1, m2, m3, m4, m5, m6, m7, m8, m9, ⟨tq, m10⟩, m11⟩ := nm
  dsimp only [List.drop]
  have N0 := N
  replace F := fr_f13 F m1 m2 m3 m4 m5 m6 m7 m8 m9 m10 m11 nq nf
  dsimp only [led07] at N
  kwd_less
  refine try4 hbody B F X T XB TB D hC N0 ok' hd hu rfl hr hcv g1 hmv g2 g3 ?_
  intro h₀' h' tk' Dt t nc' t2 T' F' N' B' D'
  have X' := XB.keeps B'.stays
  have TT' := TB.keeps B'.stays
  dsimp only [led07] at N'
  clear B F X T D hC N N0
  kwd_less
  dsimp only
  rename Fr _ _ _ _ => F9
  rename News _ _ _ _ => N9
  have nm9 := nm9_of (v := v) F9 rfl rfl rfl rfl rfl rfl rfl rfl rfl rfl rfl
  subst hbe
  first
  | exact next _ _ _ _ _ _ T' F9 (news_sub N9 (fun p hp => .tail _ (hp))) B' D' nm9 (by simp)
  | exact next _ _ _ _ _ _ T' F9 (news_sub N9 (fun p hp => .tail _ (.tail _ (hp)))) B' D' nm9 (by simp)
  | exact next _ _ _ _ _ _ T' F9 (news_sub N9 (fun p hp => .tail _ (.tail _ (.tail _ (hp))))) B' D' nm9 (by simp)
  | exact next _ _ _ _ _ _ T' F9 (news_sub N9 (fun p hp => .tail _ (.tail _ (.tail _ (.tail _ (hp)))))) B' D' nm9 (by simp)
  | exact next _ _ _ _ _ _ T' F9 (news_sub N9 (fun p hp => .tail _ (.tail _ (.tail _ (.tail _ (.tail _ (hp))))))) B' D' nm9 (by simp)
  | exact next _ _ _ _ _ _ T' F9 (news_sub N9 (fun p hp => .tail _ (.tail _ (.tail _ (.tail _ (.tail _ (.tail _ (hp)))))))) B' D' nm9 (by simp)
  | exact next _ _ _ _ _ _ T' F9 (news_sub N9 (fun p hp => .tail _ (.tail _ (.tail _ (.tail _ (.tail _ (.tail _ (.tail _ (hp))))))))) B' D' nm9 (by simp)
  | exact next _ _ _ _ _ _ T' F9 (news_sub N9 (fun p hp => .tail _ (.tail _ (.tail _ (.tail _ (.tail _ (.tail _ (.tail _ (.tail _ (hp)))))))))) B' D' nm9 (by simp)
theorem mid5 {Q : Flow → Shared → Prop} {p : Program} {loose : List Str} {mean : ExcName → Option Value} {mg mb : Str → Option Value} {dp un : Nat} {gd : Option (List Code)} {env : Env} {outer : List Env} {base : Heap}
    {oc : Value} {od : Option Addr} {params : Arguments} {body : List Stmt} {scope : Scope} {dV kV doc pm cdv ct : Value} {an : Option Addr} {osl : Array (Option Value)} {v : V07} {ep er ea : List DictEntry} {np nr na nc : Nat} {q : Bool} {tf : Tok}
    (hbody : (Mine.hd.heap_39 w.params).lookup 89 = some ⟨oc, od, .func (fnOf "_law_round" "_law_round" params body scope dV kV doc pm an cdv ct), osl⟩)
    (B : Below (ktrAny dp un gd env outer) base (env :: outer) h₀) (F : Fr h₀ v.L s.heap m) (X : (Mine.hd.heap_39 w.params).In h₀) (T : Top p loose mean mg mb h₀) (XB : (Mine.hd.heap_39 w.params).In base) (TB : Top p loose mean mg mb base) (D : KtsDicts (frs (env :: outer)) h₀) (hC : CodeHd h₀ 88 84)
    (N : News h₀ v.L s.heap (led07 v body scope (dictOf ep np) (dictOf er nr) (dictOf ea na) (W.listOf #[] nc))) (ok : Ok07 v scope) (nm : Nm07 v m) (nq : m "passes" = some (.bool q)) (nf : m "first" = some (.int 5 tf)) (hd : dp + 8 < recursionLimit) (hu : un + 90 < cLine) (hr : getL "http_response" ep = some none)
    {tq : Tok} (g1 : getL "code" ea = some (some (.str "204" tq))) {mv : Value} (hmv : handedIn mv = true) (g2 : getL "msg" ea = some (some mv)) (g3 : getL "info" ea = some (some (.ref v.fgi)))
    (next : ∀ h₀' h' tk' m' arr nc', KtsTurn (frs (env :: outer)) h₀ h₀' → Fr h₀' v.L h' m' → News h₀' v.L h' (led07 v body scope (dictOf ep np) (dictOf er nr) (dictOf ea na) (W.listOf arr nc')) → Below (ktrAny dp un gd env outer) base (env :: outer) h₀' → KtsDicts (frs (env :: outer)) h₀' → Nm07 v m' → arr.size ≤ 2 →
      wpAny (model PySem.Challenge.rw_dn0254_07.row.prog w) ((ktrAny dp un gd env outer).deeper (env07 scope v.L)) (execs (body.drop 29) (env07 scope v.L)) Q E { s with heap := h', toks := tk' }) :
    wpAny (model PySem.Challenge.rw_dn0254_07.row.prog w) ((ktrAny dp un gd env outer).deeper (env07 scope v.L)) (execs (body.drop 21) (env07 scope v.L)) Q E s := by
  have hbody' := hbody
  k_dflt (refine' lookup_same hbody' ?k6 ?_; (case k6 => k_is))
  intro hbe hse
  subst hse
  clear hbody'
  rw [show List.drop 21 body = _ from congrArg (List.drop 21) hbe]
  have ok' := ok
  obtain ⟨cc, b1, b2, b3, b4, b5, b6, b7, b8, b9, b10, b11, b12, b13, b14, b15, b16, b17, b18, b19, b20, b21, b22, b23, b24, b25⟩ := ok.lab
  obtain ⟨ho1, ho2, ho3, hc1, hd1, hc2, hd2, hc3, hd3, hc4, hd4, -, -⟩ := ok
  have nm0 := nm
  obtain ⟨m1, m2, m3, m4, m5, m6, m7, m8, m9, ⟨tq, m10⟩, m11⟩ := nm
  dsimp only [List.drop]
  have N0 := N
  replace F := fr_f13 F m1 m2 m3 m4 m5 m6 m7 m8 m9 m10 m11 nq nf
  dsimp only [led07] at N
  kwd_less
  refine try5 hbody B F X T XB TB D hC N0 ok' hd hu rfl hr g1 hmv g2 g3 ?_
  intro h₀' h' tk' Dt t nc' t2 T' F' N' B' D'
  have X' := XB.keeps B'.stays
  have TT' := TB.keeps B'.stays
  dsimp only [led07] at N'
  clear B F X T D hC N N0
  kwd_less
  dsimp only
  rename Fr _ _ _ _ => F9
  rename News _ _ _ _ => N9
  have nm9 := nm9_of (v := v) F9 rfl rfl rfl rfl rfl rfl rfl rfl rfl rfl rfl
  subst hbe
  first
  | exact next _ _ _ _ _ _ T' F9 (news_sub N9 (fun p hp => .tail _ (hp))) B' D' nm9 (by simp)
  | exact next _ _ _ _ _ _ T' F9 (news_sub N9 (fun p hp => .tail _ (.tail _ (hp)))) B' D' nm9 (by simp)
  | exact next _ _ _ _ _ _ T' F9 (news_sub N9 (fun p hp => .tail _ (.tail _ (.tail _ (hp))))) B' D' nm9 (by simp)
  | exact next _ _ _ _ _ _ T' F9 (news_sub N9 (fun p hp => .tail _ (.tail _ (.tail _ (.tail _ (hp)))))) B' D' nm9 (by simp)
  | exact next _ _ _ _ _ _ T' F9 (news_sub N9 (fun p hp => .tail _ (.tail _ (.tail _ (.tail _ (.tail _ (hp))))))) B' D' nm9 (by simp)
  | exact next _ _ _ _ _ _ T' F9 (news_sub N9 (fun p hp => .tail _ (.tail _ (.tail _ (.tail _ (.tail _ (.tail _ (hp)))))))) B' D' nm9 (by simp)
  | exact next _ _ _ _ _ _ T' F9 (news_sub N9 (fun p hp => .tail _ (.tail _ (.tail _ (.tail _ (.tail _ (.tail _ (.tail _ (hp))))))))) B' D' nm9 (by simp)
  | exact next _ _ _ _ _ _ T' F9 (news_sub N9 (fun p hp => .tail _ (.tail _ (.tail _ (.tail _ (.tail _ (.tail _ (.tail _ (.tail _ (hp)))))))))) B' D' nm9 (by simp)
theorem mid6 {Q : Flow → Shared → Prop} {p : Program} {loose : List Str} {mean : ExcName → Option Value} {mg mb : Str → Option Value} {dp un : Nat} {gd : Option (List Code)} {env : Env} {outer : List Env} {base : Heap}
    {oc : Value} {od : Option Addr} {params : Arguments} {body : List Stmt} {scope : Scope} {dV kV doc pm cdv ct : Value} {an : Option Addr} {osl : Array (Option Value)} {v : V07} {ep er ea : List DictEntry} {np nr na nc : Nat} {q : Bool} {tf : Tok}
    (hbody : (Mine.hd.heap_39 w.params).lookup 89 = some ⟨oc, od, .func (fnOf "_law_round" "_law_round" params body scope dV kV doc pm an cdv ct), osl⟩)
    (B : Below (ktrAny dp un gd env outer) base (env :: outer) h₀) (F : Fr h₀ v.L s.heap m) (X : (Mine.hd.heap_39 w.params).In h₀) (T : Top p loose mean mg mb h₀) (XB : (Mine.hd.heap_39 w.params).In base) (TB : Top p loose mean mg mb base) (D : KtsDicts (frs (env :: outer)) h₀) (hC : CodeHd h₀ 88 84)
    (N : News h₀ v.L s.heap (led07 v body scope (dictOf ep np) (dictOf er nr) (dictOf ea na) (W.listOf #[] nc))) (ok : Ok07 v scope) (nm : Nm07 v m) (nq : m "passes" = some (.bool true)) (nf : m "first" = some (.int 0 tf)) (hd : dp + 8 < recursionLimit) (hu : un + 90 < cLine) (hr : getL "http_response" ep = some none)
    (g1 : getL "code" ea = some (some (.int v.code v.tc))) {mv : Value} (hmv : handedIn mv = true) (g2 : getL "msg" ea = some (some mv)) (g3 : getL "info" ea = some (some (.ref v.fgi))) (p1 : 200 ≤ v.code) (p2 : v.code < 300)
    (next : ∀ h₀' h' tk' m' arr nc', KtsTurn (frs (env :: outer)) h₀ h₀' → Fr h₀' v.L h' m' → News h₀' v.L h' (led07 v body scope (dictOf ep np) (dictOf er nr) (dictOf ea na) (W.listOf arr nc')) → Below (ktrAny dp un gd env outer) base (env :: outer) h₀' → KtsDicts (frs (env :: outer)) h₀' → Nm07 v m' → arr.size ≤ 2 →
      wpAny (model PySem.Challenge.rw_dn0254_07.row.prog w) ((ktrAny dp un gd env outer).deeper (env07 scope v.L)) (execs (body.drop 29) (env07 scope v.L)) Q E { s with heap := h', toks := tk' }) :
    wpAny (model PySem.Challenge.rw_dn0254_07.row.prog w) ((ktrAny dp un gd env outer).deeper (env07 scope v.L)) (execs (body.drop 21) (env07 scope v.L)) Q E s := by
  have hbody' := hbody
  k_dflt (refine' lookup_same hbody' ?k6 ?_; (case k6 => k_is))
  intro hbe hse
  subst hse
  clear hbody'
  rw [show List.drop 21 body = _ from congrArg (List.drop 21) hbe]
  have ok' := ok
  obtain ⟨cc, b1, b2, b3, b4, b5, b6, b7, b8, b9, b10, b11, b12, b13, b14, b15, b16, b17, b18, b19, b20, b21, b22, b23, b24, b25⟩ := ok.lab
  obtain ⟨ho1, ho2, ho3, hc1, hd1, hc2, hd2, hc3, hd3, hc4, hd4, -, -⟩ := ok
  have nm0 := nm
  obtain ⟨m1, m2, m3, m4, m5, m6, m7, m8, m9, ⟨tq, m10⟩, m11⟩ := nm
  dsimp only [List.drop]
  have N0 := N
  replace F := fr_f13 F m1 m2 m3 m4 m5 m6 m7 m8 m9 m10 m11 nq nf
  dsimp only [led07] at N
  kwd_less
  refine try6 hbody B F X T XB TB D hC N0 ok' hd hu rfl hr g1 hmv g2 g3 p1 p2 ?_
  intro h₀' h' tk' Dt t nc' t2 T' F' N' B' D'
  have X' := XB.keeps B'.stays
  have TT' := TB.keeps B'.stays
  dsimp only [led07] at N'
  clear B F X T D hC N N0
  kwd_less
  dsimp only
  rename Fr _ _ _ _ => F9
  rename News _ _ _ _ => N9
  have nm9 := nm9_of (v := v) F9 rfl rfl rfl rfl rfl rfl rfl rfl rfl rfl rfl
  subst hbe
  first
  | exact next _ _ _ _ _ _ T' F9 (news_sub N9 (fun p hp => .tail _ (hp))) B' D' nm9 (by simp)
  | exact next _ _ _ _ _ _ T' F9 (news_sub N9 (fun p hp => .tail _ (.tail _ (hp)))) B' D' nm9 (by simp)
  | exact next _ _ _ _ _ _ T' F9 (news_sub N9 (fun p hp => .tail _ (.tail _ (.tail _ (hp))))) B' D' nm9 (by simp)
  | exact next _ _ _ _ _ _ T' F9 (news_sub N9 (fun p hp => .tail _ (.tail _ (.tail _ (.tail _ (hp)))))) B' D' nm9 (by simp)
  | exact next _ _ _ _ _ _ T' F9 (news_sub N9 (fun p hp => .tail _ (.tail _ (.tail _ (.tail _ (.tail _ (hp))))))) B' D' nm9 (by simp)
  | exact next _ _ _ _ _ _ T' F9 (news_sub N9 (fun p hp => .tail _ (.tail _ (.tail _ (.tail _ (.tail _ (.tail _ (hp)))))))) B' D' nm9 (by simp)
  | exact next _ _ _ _ _ _ T' F9 (news_sub N9 (fun p hp => .tail _ (.tail _ (.tail _ (.tail _ (.tail _ (.tail _ (.tail _ (hp))))))))) B' D' nm9 (by simp)
  | exact next _ _ _ _ _ _ T' F9 (news_sub N9 (fun p hp => .tail _ (.tail _ (.tail _ (.tail _ (.tail _ (.tail _ (.tail _ (.tail _ (hp)))))))))) B' D' nm9 (by simp)
theorem mid78 {Q : Flow → Shared → Prop} {p : Program} {loose : List Str} {mean : ExcName → Option Value} {mg mb : Str → Option Value} {dp un : Nat} {gd : Option (List Code)} {env : Env} {outer : List Env} {base : Heap}
    {oc : Value} {od : Option Addr} {params : Arguments} {body : List Stmt} {scope : Scope} {dV kV doc pm cdv ct : Value} {an : Option Addr} {osl : Array (Option Value)} {v : V07} {ep er ea : List DictEntry} {np nr na nc : Nat} {q : Bool} {tf : Tok}
    (hbody : (Mine.hd.heap_39 w.params).lookup 89 = some ⟨oc, od, .func (fnOf "_law_round" "_law_round" params body scope dV kV doc pm an cdv ct), osl⟩)
    (B : Below (ktrAny dp un gd env outer) base (env :: outer) h₀) (F : Fr h₀ v.L s.heap m) (X : (Mine.hd.heap_39 w.params).In h₀) (T : Top p loose mean mg mb h₀) (XB : (Mine.hd.heap_39 w.params).In base) (TB : Top p loose mean mg mb base) (D : KtsDicts (frs (env :: outer)) h₀) (hC : CodeHd h₀ 88 84)
    (N : News h₀ v.L s.heap (led07 v body scope (dictOf ep np) (dictOf er nr) (dictOf ea na) (W.listOf #[] nc))) (ok : Ok07 v scope) (nm : Nm07 v m) (nq : m "passes" = some (.bool false)) (nf : m "first" = some (.int 6 tf)) (hd : dp + 8 < recursionLimit) (hu : un + 90 < cLine) (hr : getL "http_response" ep = some none)
    (g1 : getL "code" ea = some (some (.int v.code v.tc))) {mv : Value} (hmv : handedIn mv = true) (g2 : getL "msg" ea = some (some mv)) (g3 : getL "info" ea = some (some (.ref v.fgi))) (p1 : v.code < 200 ∨ 300 ≤ v.code) (g5 : getL "parent" ep = some none ∨ (getL "parent" ep = some (some (.ref v.xr)) ∧ getL "error" er = some none))
    (next : ∀ h₀' h' tk' m' arr nc', KtsTurn (frs (env :: outer)) h₀ h₀' → Fr h₀' v.L h' m' → News h₀' v.L h' (led07 v body scope (dictOf ep np) (dictOf er nr) (dictOf ea na) (W.listOf arr nc')) → Below (ktrAny dp un gd env outer) base (env :: outer) h₀' → KtsDicts (frs (env :: outer)) h₀' → Nm07 v m' → arr.size ≤ 2 →
      wpAny (model PySem.Challenge.rw_dn0254_07.row.prog w) ((ktrAny dp un gd env outer).deeper (env07 scope v.L)) (execs (body.drop 29) (env07 scope v.L)) Q E { s with heap := h', toks := tk' }) :
    wpAny (model PySem.Challenge.rw_dn0254_07.row.prog w) ((ktrAny dp un gd env outer).deeper (env07 scope v.L)) (execs (body.drop 21) (env07 scope v.L)) Q E s := by
  have hbody' := hbody
  k_dflt (refine' lookup_same hbody' ?k6 ?_; (case k6 => k_is))
  intro hbe hse
  subst hse
  clear hbody'
  rw [show List.drop 21 body = _ from congrArg (List.drop 21) hbe]
  have ok' := ok
  obtain ⟨cc, b1, b2, b3, b4, b5, b6, b7, b8, b9, b10, b11, b12, b13, b14, b15, b16, b17, b18, b19, b20, b21, b22, b23, b24, b25⟩ := ok.lab
  obtain ⟨ho1, ho2, ho3, hc1, hd1, hc2, hd2, hc3, hd3, hc4, hd4, -, -⟩ := ok
  have nm0 := nm
  obtain ⟨m1, m2, m3, m4, m5, m6, m7, m8, m9, ⟨tq, m10⟩, m11⟩ := nm
  dsimp only [List.drop]
  have N0 := N
  replace F := fr_f13 F m1 m2 m3 m4 m5 m6 m7 m8 m9 m10 m11 nq nf
  dsimp only [led07] at N
  kwd_less
  refine (fun hret => Or.elim g5 (fun g5 => try7 hbody B F X T XB TB D hC N0 ok' hd hu rfl hr g1 hmv g2 g3 p1 g5 hret) (fun g => try8 hbody B F X T XB TB D hC N0 ok' hd hu rfl hr g1 hmv g2 g3 p1 g.1 g.2 hret)) ?_
  intro h₀' h' tk' Dt t nc' t2 T' F' N' B' D'
  have X' := XB.keeps B'.stays
  have TT' := TB.keeps B'.stays
  dsimp only [led07] at N'
  clear B F X T D hC N N0
  kwd_less
  dsimp only
  rename Fr _ _ _ _ => F9
  rename News _ _ _ _ => N9
  have nm9 := nm9_of (v := v) F9 rfl rfl rfl rfl rfl rfl rfl rfl rfl rfl rfl
  subst hbe
  first
  | exact next _ _ _ _ _ _ T' F9 (news_sub N9 (fun p hp => .tail _ (hp))) B' D' nm9 (by simp)
  | exact next _ _ _ _ _ _ T' F9 (news_sub N9 (fun p hp => .tail _ (.tail _ (hp)))) B' D' nm9 (by simp)
  | exact next _ _ _ _ _ _ T' F9 (news_sub N9 (fun p hp => .tail _ (.tail _ (.tail _ (hp))))) B' D' nm9 (by simp)
  | exact next _ _ _ _ _ _ T' F9 (news_sub N9 (fun p hp => .tail _ (.tail _ (.tail _ (.tail _ (hp)))))) B' D' nm9 (by simp)
  | exact next _ _ _ _ _ _ T' F9 (news_sub N9 (fun p hp => .tail _ (.tail _ (.tail _ (.tail _ (.tail _ (hp))))))) B' D' nm9 (by simp)
  | exact next _ _ _ _ _ _ T' F9 (news_sub N9 (fun p hp => .tail _ (.tail _ (.tail _ (.tail _ (.tail _ (.tail _ (hp)))))))) B' D' nm9 (by simp)
  | exact next _ _ _ _ _ _ T' F9 (news_sub N9 (fun p hp => .tail _ (.tail _ (.tail _ (.tail _ (.tail _ (.tail _ (.tail _ (hp))))))))) B' D' nm9 (by simp)
  | exact next _ _ _ _ _ _ T' F9 (news_sub N9 (fun p hp => .tail _ (.tail _ (.tail _ (.tail _ (.tail _ (.tail _ (.tail _ (.tail _ (hp)))))))))) B' D' nm9 (by simp)
theorem mid7 {Q : Flow → Shared → Prop} {p : Program} {loose : List Str} {mean : ExcName → Option Value} {mg mb : Str → Option Value} {dp un : Nat} {gd : Option (List Code)} {env : Env} {outer : List Env} {base : Heap}
    {oc : Value} {od : Option Addr} {params : Arguments} {body : List Stmt} {scope : Scope} {dV kV doc pm cdv ct : Value} {an : Option Addr} {osl : Array (Option Value)} {v : V07} {ep er ea : List DictEntry} {np nr na nc : Nat} {q : Bool} {tf : Tok}
    (hbody : (Mine.hd.heap_39 w.params).lookup 89 = some ⟨oc, od, .func (fnOf "_law_round" "_law_round" params body scope dV kV doc pm an cdv ct), osl⟩)
    (B : Below (ktrAny dp un gd env outer) base (env :: outer) h₀) (F : Fr h₀ v.L s.heap m) (X : (Mine.hd.heap_39 w.params).In h₀) (T : Top p loose mean mg mb h₀) (XB : (Mine.hd.heap_39 w.params).In base) (TB : Top p loose mean mg mb base) (D : KtsDicts (frs (env :: outer)) h₀) (hC : CodeHd h₀ 88 84)
    (N : News h₀ v.L s.heap (led07 v body scope (dictOf ep np) (dictOf er nr) (dictOf ea na) (W.listOf #[] nc))) (ok : Ok07 v scope) (nm : Nm07 v m) (nq : m "passes" = some (.bool false)) (nf : m "first" = some (.int 6 tf)) (hd : dp + 8 < recursionLimit) (hu : un + 90 < cLine) (hr : getL "http_response" ep = some none)
    (g1 : getL "code" ea = some (some (.int v.code v.tc))) {mv : Value} (hmv : handedIn mv = true) (g2 : getL "msg" ea = some (some mv)) (g3 : getL "info" ea = some (some (.ref v.fgi))) (p1 : v.code < 200 ∨ 300 ≤ v.code) (g5 : getL "parent" ep = some none)
    (next : ∀ h₀' h' tk' m' arr nc', KtsTurn (frs (env :: outer)) h₀ h₀' → Fr h₀' v.L h' m' → News h₀' v.L h' (led07 v body scope (dictOf ep np) (dictOf er nr) (dictOf ea na) (W.listOf arr nc')) → Below (ktrAny dp un gd env outer) base (env :: outer) h₀' → KtsDicts (frs (env :: outer)) h₀' → Nm07 v m' → arr.size ≤ 2 →
      wpAny (model PySem.Challenge.rw_dn0254_07.row.prog w) ((ktrAny dp un gd env outer).deeper (env07 scope v.L)) (execs (body.drop 29) (env07 scope v.L)) Q E { s with heap := h', toks := tk' }) :
    wpAny (model PySem.Challenge.rw_dn0254_07.row.prog w) ((ktrAny dp un gd env outer).deeper (env07 scope v.L)) (execs (body.drop 21) (env07 scope v.L)) Q E s :=
  mid78 (q := q) hbody B F X T XB TB D hC N ok nm nq nf hd hu hr g1 hmv g2 g3 p1 (.inl g5) next
theorem mid8 {Q : Flow → Shared → Prop} {p : Program} {loose : List Str} {mean : ExcName → Option Value} {mg mb : Str → Option Value} {dp un : Nat} {gd : Option (List Code)} {env : Env} {outer : List Env} {base : Heap}
    {oc : Value} {od : Option Addr} {params : Arguments} {body : List Stmt} {scope : Scope} {dV kV doc pm cdv ct : Value} {an : Option Addr} {osl : Array (Option Value)} {v : V07} {ep er ea : List DictEntry} {np nr na nc : Nat} {q : Bool} {tf : Tok}
    (hbody : (Mine.hd.heap_39 w.params).lookup 89 = some ⟨oc, od, .func (fnOf "_law_round" "_law_round" params body scope dV kV doc pm an cdv ct), osl⟩)
    (B : Below (ktrAny dp un gd env outer) base (env :: outer) h₀) (F : Fr h₀ v.L s.heap m) (X : (Mine.hd.heap_39 w.params).In h₀) (T : Top p loose mean mg mb h₀) (XB : (Mine.hd.heap_39 w.params).In base) (TB : Top p loose mean mg mb base) (D : KtsDicts (frs (env :: outer)) h₀) (hC : CodeHd h₀ 88 84)
    (N : News h₀ v.L s.heap (led07 v body scope (dictOf ep np) (dictOf er nr) (dictOf ea na) (W.listOf #[] nc))) (ok : Ok07 v scope) (nm : Nm07 v m) (nq : m "passes" = some (.bool false)) (nf : m "first" = some (.int 6 tf)) (hd : dp + 8 < recursionLimit) (hu : un + 90 < cLine) (hr : getL "http_response" ep = some none)
    (g1 : getL "code" ea = some (some (.int v.code v.tc))) {mv : Value} (hmv : handedIn mv = true) (g2 : getL "msg" ea = some (some mv)) (g3 : getL "info" ea = some (some (.ref v.fgi))) (p1 : v.code < 200 ∨ 300 ≤ v.code) (g5 : getL "parent" ep = some (some (.ref v.xr))) (g4 : getL "error" er = some none)
    (next : ∀ h₀' h' tk' m' arr nc', KtsTurn (frs (env :: outer)) h₀ h₀' → Fr h₀' v.L h' m' → News h₀' v.L h' (led07 v body scope (dictOf ep np) (dictOf er nr) (dictOf ea na) (W.listOf arr nc')) → Below (ktrAny dp un gd env outer) base (env :: outer) h₀' → KtsDicts (frs (env :: outer)) h₀' → Nm07 v m' → arr.size ≤ 2 →
      wpAny (model PySem.Challenge.rw_dn0254_07.row.prog w) ((ktrAny dp un gd env outer).deeper (env07 scope v.L)) (execs (body.drop 29) (env07 scope v.L)) Q E { s with heap := h', toks := tk' }) :
    wpAny (model PySem.Challenge.rw_dn0254_07.row.prog w) ((ktrAny dp un gd env outer).deeper (env07 scope v.L)) (execs (body.drop 21) (env07 scope v.L)) Q E s :=
  mid78 (q := q) hbody B F X T XB TB D hC N ok nm nq nf hd hu hr g1 hmv g2 g3 p1 (.inr ⟨g5, g4⟩) next
theorem mid9 {Q : Flow → Shared → Prop} {p : Program} {loose : List Str} {mean : ExcName → Option Value} {mg mb : Str → Option Value} {dp un : Nat} {gd : Option (List Code)} {env : Env} {outer : List Env} {base : Heap}
    {oc : Value} {od : Option Addr} {params : Arguments} {body : List Stmt} {scope : Scope} {dV kV doc pm cdv ct : Value} {an : Option Addr} {osl : Array (Option Value)} {v : V07} {ep er ea : List DictEntry} {np nr na nc : Nat} {q : Bool} {tf : Tok}
    (hbody : (Mine.hd.heap_39 w.params).lookup 89 = some ⟨oc, od, .func (fnOf "_law_round" "_law_round" params body scope dV kV doc pm an cdv ct), osl⟩)
    (B : Below (ktrAny dp un gd env outer) base (env :: outer) h₀) (F : Fr h₀ v.L s.heap m) (X : (Mine.hd.heap_39 w.params).In h₀) (T : Top p loose mean mg mb h₀) (XB : (Mine.hd.heap_39 w.params).In base) (TB : Top p loose mean mg mb base) (D : KtsDicts (frs (env :: outer)) h₀) (hC : CodeHd h₀ 88 84)
    (N : News h₀ v.L s.heap (led07 v body scope (dictOf ep np) (dictOf er nr) (dictOf ea na) (W.listOf #[] nc))) (ok : Ok07 v scope) (nm : Nm07 v m) (nq : m "passes" = some (.bool false)) (nf : m "first" = some (.int 7 tf)) (hd : dp + 8 < recursionLimit) (hu : un + 90 < cLine) (hr : getL "http_response" ep = some none)
    (g1 : getL "code" ea = some (some (.int v.code v.tc))) {tw : Tok} (g2 : getL "msg" ea = some (some (.str "word" tw))) (g3 : getL "info" ea = some (some (.ref v.fgi))) (p1 : v.code < 200 ∨ 300 ≤ v.code) (g5 : getL "parent" ep = some (some (.ref v.xr))) (g4 : getL "error" er = some (some (.ref v.fbe)))
    (next : ∀ h₀' h' tk' m' arr nc', KtsTurn (frs (env :: outer)) h₀ h₀' → Fr h₀' v.L h' m' → News h₀' v.L h' (led07 v body scope (dictOf ep np) (dictOf er nr) (dictOf ea na) (W.listOf arr nc')) → Below (ktrAny dp un gd env outer) base (env :: outer) h₀' → KtsDicts (frs (env :: outer)) h₀' → Nm07 v m' → arr.size ≤ 2 →
      wpAny (model PySem.Challenge.rw_dn0254_07.row.prog w) ((ktrAny dp un gd env outer).deeper (env07 scope v.L)) (execs (body.drop 29) (env07 scope v.L)) Q E { s with heap := h', toks := tk' }) :
    wpAny (model PySem.Challenge.rw_dn0254_07.row.prog w) ((ktrAny dp un gd env outer).deeper (env07 scope v.L)) (execs (body.drop 21) (env07 scope v.L)) Q E s := by
  have hbody' := hbody
  k_dflt (refine' lookup_same hbody' ?k6 ?_; (case k6 => k_is))
  intro hbe hse
  subst hse
  clear hbody'
  rw [show List.drop 21 body = _ from congrArg (List.drop 21) hbe]
  have ok' := ok
  obtain ⟨cc, b1, b2, b3, b4, b5, b6, b7, b8, b9, b10, b11, b12, b13, b14, b15, b16, b17, b18, b19, b20, b21, b22, b23, b24, b25⟩ := ok.lab
  obtain ⟨ho1, ho2, ho3, hc1, hd1, hc2, hd2, hc3, hd3, hc4, hd4, -, -⟩ := ok
  have nm0 := nm
  obtain ⟨m1, m2, m3, m4, m5, m6, m7, m8, m9, ⟨tq, m10⟩, m11⟩ := nm
  dsimp only [List.drop]
  have N0 := N
  replace F := fr_f13 F m1 m2 m3 m4 m5 m6 m7 m8 m9 m10 m11 nq nf
  dsimp only [led07] at N
  kwd_less
  refine try9 hbody B F X T XB TB D hC N0 ok' hd hu rfl hr g1 rfl g2 g3 p1 g5 g4 ?_
  intro h₀' h' tk' Dt t nc' t2 Dc t3 T' F' N' B' D'
  have X' := XB.keeps B'.stays
  have TT' := TB.keeps B'.stays
  dsimp only [led07] at N'
  clear B F X T D hC N N0
  kwd_less
  dsimp only
  rename Fr _ _ _ _ => F9
  rename News _ _ _ _ => N9
  have nm9 := nm9_of (v := v) F9 rfl rfl rfl rfl rfl rfl rfl rfl rfl rfl rfl
  subst hbe
  first
  | exact next _ _ _ _ _ _ T' F9 (news_sub N9 (fun p hp => .tail _ (hp))) B' D' nm9 (by simp)
  | exact next _ _ _ _ _ _ T' F9 (news_sub N9 (fun p hp => .tail _ (.tail _ (hp)))) B' D' nm9 (by simp)
  | exact next _ _ _ _ _ _ T' F9 (news_sub N9 (fun p hp => .tail _ (.tail _ (.tail _ (hp))))) B' D' nm9 (by simp)
  | exact next _ _ _ _ _ _ T' F9 (news_sub N9 (fun p hp => .tail _ (.tail _ (.tail _ (.tail _ (hp)))))) B' D' nm9 (by simp)
  | exact next _ _ _ _ _ _ T' F9 (news_sub N9 (fun p hp => .tail _ (.tail _ (.tail _ (.tail _ (.tail _ (hp))))))) B' D' nm9 (by simp)
  | exact next _ _ _ _ _ _ T' F9 (news_sub N9 (fun p hp => .tail _ (.tail _ (.tail _ (.tail _ (.tail _ (.tail _ (hp)))))))) B' D' nm9 (by simp)
  | exact next _ _ _ _ _ _ T' F9 (news_sub N9 (fun p hp => .tail _ (.tail _ (.tail _ (.tail _ (.tail _ (.tail _ (.tail _ (hp))))))))) B' D' nm9 (by simp)
  | exact next _ _ _ _ _ _ T' F9 (news_sub N9 (fun p hp => .tail _ (.tail _ (.tail _ (.tail _ (.tail _ (.tail _ (.tail _ (.tail _ (hp)))))))))) B' D' nm9 (by simp)
theorem mid10 {Q : Flow → Shared → Prop} {p : Program} {loose : List Str} {mean : ExcName → Option Value} {mg mb : Str → Option Value} {dp un : Nat} {gd : Option (List Code)} {env : Env} {outer : List Env} {base : Heap}
    {oc : Value} {od : Option Addr} {params : Arguments} {body : List Stmt} {scope : Scope} {dV kV doc pm cdv ct : Value} {an : Option Addr} {osl : Array (Option Value)} {v : V07} {ep er ea : List DictEntry} {np nr na nc : Nat} {q : Bool} {tf : Tok}
    (hbody : (Mine.hd.heap_39 w.params).lookup 89 = some ⟨oc, od, .func (fnOf "_law_round" "_law_round" params body scope dV kV doc pm an cdv ct), osl⟩)
    (B : Below (ktrAny dp un gd env outer) base (env :: outer) h₀) (F : Fr h₀ v.L s.heap m) (X : (Mine.hd.heap_39 w.params).In h₀) (T : Top p loose mean mg mb h₀) (XB : (Mine.hd.heap_39 w.params).In base) (TB : Top p loose mean mg mb base) (D : KtsDicts (frs (env :: outer)) h₀) (hC : CodeHd h₀ 88 84)
    (N : News h₀ v.L s.heap (led07 v body scope (dictOf ep np) (dictOf er nr) (dictOf ea na) (W.listOf #[] nc))) (ok : Ok07 v scope) (nm : Nm07 v m) (nq : m "passes" = some (.bool false)) (nf : m "first" = some (.int 0 tf)) (hd : dp + 8 < recursionLimit) (hu : un + 90 < cLine) (hr : getL "http_response" ep = some none)
    (g1 : getL "code" ea = some (some (.int v.code v.tc))) {tw : Tok} (g2 : getL "msg" ea = some (some (.str "word" tw))) (g3 : getL "info" ea = some (some (.ref v.fgi))) (p1 : v.code < 200 ∨ 300 ≤ v.code) (g5 : getL "parent" ep = some (some (.ref v.xr))) (g4 : getL "error" er = some (some (.ref v.fge)))
    (next : ∀ h₀' h' tk' m' arr nc', KtsTurn (frs (env :: outer)) h₀ h₀' → Fr h₀' v.L h' m' → News h₀' v.L h' (led07 v body scope (dictOf ep np) (dictOf er nr) (dictOf ea na) (W.listOf arr nc')) → Below (ktrAny dp un gd env outer) base (env :: outer) h₀' → KtsDicts (frs (env :: outer)) h₀' → Nm07 v m' → arr.size ≤ 2 →
      wpAny (model PySem.Challenge.rw_dn0254_07.row.prog w) ((ktrAny dp un gd env outer).deeper (env07 scope v.L)) (execs (body.drop 29) (env07 scope v.L)) Q E { s with heap := h', toks := tk' }) :
    wpAny (model PySem.Challenge.rw_dn0254_07.row.prog w) ((ktrAny dp un gd env outer).deeper (env07 scope v.L)) (execs (body.drop 21) (env07 scope v.L)) Q E s := by
  have hbody' := hbody
  k_dflt (refine' lookup_same hbody' ?k6 ?_; (case k6 => k_is))
  intro hbe hse
  subst hse
  clear hbody'
  rw [show List.drop 21 body = _ from congrArg (List.drop 21) hbe]
  have ok' := ok
  obtain ⟨cc, b1, b2, b3, b4, b5, b6, b7, b8, b9, b10, b11, b12, b13, b14, b15, b16, b17, b18, b19, b20, b21, b22, b23, b24, b25⟩ := ok.lab
  obtain ⟨ho1, ho2, ho3, hc1, hd1, hc2, hd2, hc3, hd3, hc4, hd4, -, -⟩ := ok
  have nm0 := nm
  obtain ⟨m1, m2, m3, m4, m5, m6, m7, m8, m9, ⟨tq, m10⟩, m11⟩ := nm
  dsimp only [List.drop]
  have N0 := N
  replace F := fr_f13 F m1 m2 m3 m4 m5 m6 m7 m8 m9 m10 m11 nq nf
  dsimp only [led07] at N
  kwd_less
  refine try10 hbody B F X T XB TB D hC N0 ok' hd hu rfl hr g1 rfl g2 g3 p1 g5 g4 ?_
  intro h₀' h' tk' Dt t nc' t2 Dc t3 T' F' N' B' D'
  have X' := XB.keeps B'.stays
  have TT' := TB.keeps B'.stays
  dsimp only [led07] at N'
  clear B F X T D hC N N0
  kwd_less
  dsimp only
  rename Fr _ _ _ _ => F9
  rename News _ _ _ _ => N9
  have nm9 := nm9_of (v := v) F9 rfl rfl rfl rfl rfl rfl rfl rfl rfl rfl rfl
  subst hbe
  first
  | exact next _ _ _ _ _ _ T' F9 (news_sub N9 (fun p hp => .tail _ (hp))) B' D' nm9 (by simp)
  | exact next _ _ _ _ _ _ T' F9 (news_sub N9 (fun p hp => .tail _ (.tail _ (hp)))) B' D' nm9 (by simp)
  | exact next _ _ _ _ _ _ T' F9 (news_sub N9 (fun p hp => .tail _ (.tail _ (.tail _ (hp))))) B' D' nm9 (by simp)
  | exact next _ _ _ _ _ _ T' F9 (news_sub N9 (fun p hp => .tail _ (.tail _ (.tail _ (.tail _ (hp)))))) B' D' nm9 (by simp)
  | exact next _ _ _ _ _ _ T' F9 (news_sub N9 (fun p hp => .tail _ (.tail _ (.tail _ (.tail _ (.tail _ (hp))))))) B' D' nm9 (by simp)
  | exact next _ _ _ _ _ _ T' F9 (news_sub N9 (fun p hp => .tail _ (.tail _ (.tail _ (.tail _ (.tail _ (.tail _ (hp)))))))) B' D' nm9 (by simp)
  | exact next _ _ _ _ _ _ T' F9 (news_sub N9 (fun p hp => .tail _ (.tail _ (.tail _ (.tail _ (.tail _ (.tail _ (.tail _ (hp))))))))) B' D' nm9 (by simp)
  | exact next _ _ _ _ _ _ T' F9 (news_sub N9 (fun p hp => .tail _ (.tail _ (.tail _ (.tail _ (.tail _ (.tail _ (.tail _ (.tail _ (hp)))))))))) B' D' nm9 (by simp)

theorem passes_is {c : Int} : (c.fdiv 100 = 2) ↔ (200 ≤ c ∧ c < 300) := by
  rw [Int.fdiv_eq_ediv_of_nonneg c (by decide)]
  omega
theorem choose {Q : Flow → Shared → Prop} {p : Program} {loose : List Str} {mean : ExcName → Option Value} {mg mb : Str → Option Value} {dp un : Nat} {gd : Option (List Code)} {env : Env} {outer : List Env} {base : Heap}
    {oc : Value} {od : Option Addr} {params : Arguments} {body : List Stmt} {scope : Scope} {dV kV doc pm cdv ct : Value} {an : Option Addr} {osl : Array (Option Value)} {v : V07} {ep er ea : List DictEntry} {np nr na nc : Nat} {q : Bool} {k : Int} {tf : Tok}
    (hbody : (Mine.hd.heap_39 w.params).lookup 89 = some ⟨oc, od, .func (fnOf "_law_round" "_law_round" params body scope dV kV doc pm an cdv ct), osl⟩)
    (B : Below (ktrAny dp un gd env outer) base (env :: outer) h₀) (F : Fr h₀ v.L s.heap m) (X : (Mine.hd.heap_39 w.params).In h₀) (T : Top p loose mean mg mb h₀) (XB : (Mine.hd.heap_39 w.params).In base) (TB : Top p loose mean mg mb base) (D : KtsDicts (frs (env :: outer)) h₀) (hC : CodeHd h₀ 88 84)
    (N : News h₀ v.L s.heap (led07 v body scope (dictOf ep np) (dictOf er nr) (dictOf ea na) (W.listOf #[] nc))) (ok : Ok07 v scope) (nm : Nm07 v m) (nq : m "passes" = some (.bool q)) (hq : q = decide (v.code.fdiv 100 = 2)) (nf : m "first" = some (.int k tf)) (hk : k = firstF v.a v.b q) (hd : dp + 8 < recursionLimit) (hu : un + 90 < cLine) (sa : Ans07 v ea) (sr : Par07 v er) (sp : Pro07 v ep)
    (next : ∀ h₀' h' tk' m' arr nc', KtsTurn (frs (env :: outer)) h₀ h₀' → Fr h₀' v.L h' m' → News h₀' v.L h' (led07 v body scope (dictOf ep np) (dictOf er nr) (dictOf ea na) (W.listOf arr nc')) → Below (ktrAny dp un gd env outer) base (env :: outer) h₀' → KtsDicts (frs (env :: outer)) h₀' → Nm07 v m' → arr.size ≤ 2 →
      wpAny (model PySem.Challenge.rw_dn0254_07.row.prog w) ((ktrAny dp un gd env outer).deeper (env07 scope v.L)) (execs (body.drop 29) (env07 scope v.L)) Q E { s with heap := h', toks := tk' }) :
    wpAny (model PySem.Challenge.rw_dn0254_07.row.prog w) ((ktrAny dp un gd env outer).deeper (env07 scope v.L)) (execs (body.drop 21) (env07 scope v.L)) Q E s := by
  obtain ⟨sa1, sa2, sa3, sa4⟩ := sa
  obtain ⟨sr1, sr2⟩ := sr
  obtain ⟨sp1, sp2, sp3, sp4⟩ := sp
  unfold firstF at hk
  rcases sa1 with ⟨b1, g1⟩ | ⟨b1, v1, g1, p1⟩
  · rw [if_pos b1] at hk; subst hk
    exact mid1 hbody B F X T XB TB D hC N ok nm nq nf hd hu sp3 g1 next
  rw [if_neg (by rw [b1]; decide)] at hk
  have hv1 : handedIn v1 = true := by rcases p1 with ⟨-, t, rfl⟩ | ⟨-, rfl⟩ <;> rfl
  rcases sa2 with ⟨b2, g2⟩ | ⟨b2, v2, g2, t2, rfl⟩
  · rw [if_pos b2] at hk; subst hk
    exact mid2 hbody B F X T XB TB D hC N ok nm nq nf hd hu sp3 hv1 g1 g2 next
  rw [if_neg (by rw [b2]; decide)] at hk
  rcases sa3 with ⟨b3, g3⟩ | ⟨b3, v3, g3, p3⟩
  · rw [if_pos b3] at hk; subst hk
    exact mid3 hbody B F X T XB TB D hC N ok nm nq nf hd hu sp3 hv1 g1 rfl g2 g3 next
  rw [if_neg (by rw [b3]; decide)] at hk
  rcases p3 with ⟨b4, rfl⟩ | ⟨b4, rfl⟩
  · rw [if_pos b4] at hk; subst hk
    exact mid4 hbody B F X T XB TB D hC N ok nm nq nf hd hu sp3 hv1 g1 rfl g2 g3 next
  rw [if_neg (by rw [b4]; decide)] at hk
  rcases p1 with ⟨b5, t5, rfl⟩ | ⟨b5, rfl⟩
  · rw [if_pos b5] at hk; subst hk
    exact mid5 hbody B F X T XB TB D hC N ok nm nq nf hd hu sp3 g1 rfl g2 g3 next
  rw [if_neg (by rw [b5]; decide)] at hk
  by_cases hp : v.code.fdiv 100 = 2
  · obtain rfl : q = true := by rw [hq]; exact decide_eq_true hp
    rw [if_pos rfl] at hk; subst hk
    have hp' := passes_is.mp hp
    exact mid6 (q := true) hbody B F X T XB TB D hC N ok nm nq nf hd hu sp3 g1 rfl g2 g3 hp'.1 hp'.2 next
  obtain rfl : q = false := by rw [hq]; exact decide_eq_false hp
  have hp' : v.code < 200 ∨ 300 ≤ v.code := by
    have := mt passes_is.mpr hp
    omega
  rw [if_neg (by decide)] at hk
  rcases sr1 with ⟨b6, g6⟩ | ⟨b6, v6, g6, p6⟩
  · rw [if_pos b6] at hk; subst hk
    rcases sp1 with ⟨b8, g8⟩ | ⟨b8, v8, g8, rfl⟩
    · exact mid7 (q := true) hbody B F X T XB TB D hC N ok nm nq nf hd hu sp3 g1 rfl g2 g3 hp' g8 next
    · exact mid8 (q := true) hbody B F X T XB TB D hC N ok nm nq nf hd hu sp3 g1 rfl g2 g3 hp' g8 g6 next
  rw [if_neg (by rw [b6]; decide)] at hk
  rcases sp1 with ⟨b8, g8⟩ | ⟨b8, v8, g8, rfl⟩
  · rw [b6] at b8; exact nomatch b8
  rcases p6 with ⟨b7, rfl⟩ | ⟨b7, rfl⟩
  · rw [if_pos b7] at hk; subst hk
    exact mid9 (q := true) hbody B F X T XB TB D hC N ok nm nq nf hd hu sp3 g1 g2 g3 hp' g8 g6 next
  rw [if_neg (by rw [b7]; decide)] at hk; subst hk
  exact mid10 (q := true) hbody B F X T XB TB D hC N ok nm nq nf hd hu sp3 g1 g2 g3 hp' g8 g6 next
local macro_rules | `(tactic| kwd_less) => `(tactic| repeat' ((fail_if_success (with_reducible show wpAny _ _ (call (Value.ref 75) _) _ _ _)); (fail_if_success (with_reducible show wpAny _ _ (execs (PySem.Stmt.Assign [PySem.Expr.Tuple _ _ _] _ _ :: _) _) _ _ _)); keq_rows))
theorem rest2 {Q : Flow → Shared → Prop} {p : Program} {loose : List Str} {mean : ExcName → Option Value} {mg mb : Str → Option Value} {dp un : Nat} {gd : Option (List Code)} {env : Env} {outer : List Env} {base : Heap}
    {oc : Value} {od : Option Addr} {params : Arguments} {body : List Stmt} {scope : Scope} {dV kV doc pm cdv ct : Value} {an : Option Addr} {osl : Array (Option Value)} {v : V07} {ep er ea : List DictEntry} {np nr na nc : Nat}
    (hbody : (Mine.hd.heap_39 w.params).lookup 89 = some ⟨oc, od, .func (fnOf "_law_round" "_law_round" params body scope dV kV doc pm an cdv ct), osl⟩)
    (B : Below (ktrAny dp un gd env outer) base (env :: outer) h₀) (F : Fr h₀ v.L s.heap m) (X : (Mine.hd.heap_39 w.params).In h₀) (T : Top p loose mean mg mb h₀) (XB : (Mine.hd.heap_39 w.params).In base) (TB : Top p loose mean mg mb base) (D : KtsDicts (frs (env :: outer)) h₀) (hC : CodeHd h₀ 88 84)
    (N : News h₀ v.L s.heap (led07 v body scope (dictOf ep np) (dictOf er nr) (dictOf ea na) (W.listOf #[] nc))) (ok : Ok07 v scope) (nm : Nm07 v m) (hd : dp + 8 < recursionLimit) (hu : un + 90 < cLine) (sa : Ans07 v ea) (sr : Par07 v er) (sp : Pro07 v ep)
    (next : ∀ h₀' h' tk' m' arr nc', KtsTurn (frs (env :: outer)) h₀ h₀' → Fr h₀' v.L h' m' → News h₀' v.L h' (led07 v body scope (dictOf ep np) (dictOf er nr) (dictOf ea na) (W.listOf arr nc')) → Below (ktrAny dp un gd env outer) base (env :: outer) h₀' → KtsDicts (frs (env :: outer)) h₀' → Nm07 v m' → arr.size ≤ 2 →
      wpAny (model PySem.Challenge.rw_dn0254_07.row.prog w) ((ktrAny dp un gd env outer).deeper (env07 scope v.L)) (execs (body.drop 29) (env07 scope v.L)) Q E { s with heap := h', toks := tk' }) :
    wpAny (model PySem.Challenge.rw_dn0254_07.row.prog w) ((ktrAny dp un gd env outer).deeper (env07 scope v.L)) (execs (body.drop 19) (env07 scope v.L)) Q E s := by
  have hbody' := hbody
  k_dflt (refine' lookup_same hbody' ?k6 ?_; (case k6 => k_is))
  intro hbe hse
  subst hse
  subst hbe
  clear hbody'
  have ok' := ok
  obtain ⟨cc, b1, b2, b3, b4, b5, b6, b7, b8, b9, b10, b11, b12, b13, b14, b15, b16, b17, b18, b19, b20, b21, b22, b23, b24, b25⟩ := ok.lab
  obtain ⟨ho1, ho2, ho3, hc1, hd1, hc2, hd2, hc3, hd3, hc4, hd4, hord, hork⟩ := ok
  obtain ⟨hor1, hor2, hor3, hor4, hor5, hor6, hor7, hor8, hor9, hor10, hor11, hor12, hor13, hor14, hor15, hor16, hor17, hor18⟩ := hord
  obtain ⟨hok1, hok2, hok3, hok4, hok5, hok6, hok7, hok8⟩ := hork
  have nm0 := nm
  obtain ⟨m1, m2, m3, m4, m5, m6, m7, m8, m9, ⟨tq, m10⟩, m11⟩ := nm
  dsimp only [List.drop]
  have N0 := N
  replace F := fr_f11 F m1 m2 m3 m4 m5 m6 m7 m8 m9 m10 m11
  dsimp only [led07, fnAt, List.getElem?_cons_zero, List.getElem?_cons_succ] at N
  kwd_less
  rename Fr _ _ _ _ => F5
  rename News _ _ _ _ => N5
  refine first75 B F5 X T N5 ok' hd rfl ?_
  intro h' tk' t k hk N' F'
  kwd_less
  rename Fr _ _ _ _ => F9
  rename News _ _ _ _ => N9
  have nm9 := nm9_of (v := v) F9 rfl rfl rfl rfl rfl rfl rfl rfl rfl rfl rfl
  refine choose hbody B F9 X T XB TB D hC N9 ok' nm9 rfl ?_ rfl hk hd hu sa sr sp next
  rw [Bool.eq_iff_iff]; simp
local macro_rules | `(tactic| walk_at "setAttr ref") => `(tactic| (k_here; k_dflt (refine' set_sym ?k1 ?k2 ?k3 ?k4 ?k5 ?k6 ?k7 ?k8 ?k9 ?ka ?kb ?kc ?_; (case k1 => k_asm); (case k2 => k_asm); (case k3 => k_asm); (case k4 => k_mem); (case k5 => k_mem); (case k6 => k_is); (case k7 => k_is); (case k8 => k_is); (case k9 => k_is); (case ka => first | exact some_of (by assumption) | exact slot_some (by assumption) | exact slot_some (slot_other (by assumption) (by assumption) (by decide)) | exact slot_some (slot_other (by assumption) (slot_other (by assumption) (by assumption) (by decide)) (by decide))); (case kb => omega); (case kc => (intro es' n'; k_upd))); intro h' tk' es' n' hg' ho' hle' F' N'))
local macro_rules | `(tactic| walk_at "call builtin:list.clear") => `(tactic| (k_here; (with_reducible show wpAny _ _ (call (Value.builtin _) [Value.ref _]) _ _ _); k_dflt (refine' clear_led ?F ?N ?z ?U ?_; (case F => k_asm); (case N => k_asm); (case U => (intro n'; k_upd)); (case z => omega)); intro h' n' F' N'))
local macro_rules | `(tactic| walk_at "compareOp Eq ref ref") => `(tactic| (k_here; (with_reducible show wpAny _ _ (compareOp CmpOp.Eq (Value.ref _) (Value.ref _)) _ _ _); k_dflt (refine' cmp_eq_list ?k1 ?k2 ?k3 ?k4 ?_; (case k1 => exact News.isList (by k_asm) (by k_mem)); (case k2 => exact News.isList (by k_asm) (by k_mem)); (case k3 => ktr_rel); (case k4 => keq_hits); k_whole)))
local macro_rules | `(tactic| kwd_less) => `(tactic| repeat' ((fail_if_success (with_reducible show wpAny _ _ (call (Value.ref 82) _) _ _ _)); keq_rows))
theorem rest3 {Q : Flow → Shared → Prop} {p : Program} {loose : List Str} {mean : ExcName → Option Value} {mg mb : Str → Option Value} {dp un : Nat} {gd : Option (List Code)} {env : Env} {outer : List Env} {base : Heap}
    {oc : Value} {od : Option Addr} {params : Arguments} {body : List Stmt} {scope : Scope} {dV kV doc pm cdv ct : Value} {an : Option Addr} {osl : Array (Option Value)} {v : V07} {ep er ea : List DictEntry} {np nr na nc : Nat} {arr : Array Value}
    (hbody : (Mine.hd.heap_39 w.params).lookup 89 = some ⟨oc, od, .func (fnOf "_law_round" "_law_round" params body scope dV kV doc pm an cdv ct), osl⟩)
    (B : Below (ktrAny dp un gd env outer) base (env :: outer) h₀) (F : Fr h₀ v.L s.heap m) (X : (Mine.hd.heap_39 w.params).In h₀) (T : Top p loose mean mg mb h₀) (XB : (Mine.hd.heap_39 w.params).In base) (TB : Top p loose mean mg mb base) (D : KtsDicts (frs (env :: outer)) h₀) (hC : CodeHd h₀ 88 84)
    (N : News h₀ v.L s.heap (led07 v body scope (dictOf ep np) (dictOf er nr) (dictOf ea na) (W.listOf arr nc))) (ok : Ok07 v scope) (nm : Nm07 v m) (hd : dp + 8 < recursionLimit) (hu : un + 90 < cLine) (sa : Ans07 v ea) (sr : Par07 v er) (sp : Pro07 v ep) (sz : arr.size ≤ 2)
    (next : ∀ h₀' h' tk' m' ea na er nr ep np olc, KtsTurn (frs (env :: outer)) h₀ h₀' → Fr h₀' v.L h' m' → News h₀' v.L h' (led07 v body scope (dictOf ep np) (dictOf er nr) (dictOf ea na) olc) → Q (.ret (.bool true)) { s with heap := h', toks := tk' }) :
    wpAny (model PySem.Challenge.rw_dn0254_07.row.prog w) ((ktrAny dp un gd env outer).deeper (env07 scope v.L)) (execs (body.drop 29) (env07 scope v.L)) Q E s := by
  have hbody' := hbody
  k_dflt (refine' lookup_same hbody' ?k6 ?_; (case k6 => k_is))
  intro hbe hse
  subst hse
  clear hbody'
  rw [show List.drop 29 body = _ from congrArg (List.drop 29) hbe]
  have ok' := ok
  obtain ⟨cc, b1, b2, b3, b4, b5, b6, b7, b8, b9, b10, b11, b12, b13, b14, b15, b16, b17, b18, b19, b20, b21, b22, b23, b24, b25⟩ := ok.lab
  obtain ⟨ho1, ho2, ho3, hc1, hd1, hc2, hd2, hc3, hd3, hc4, hd4, hord, hork⟩ := ok
  obtain ⟨hor1, hor2, hor3, hor4, hor5, hor6, hor7, hor8, hor9, hor10, hor11, hor12, hor13, hor14, hor15, hor16, hor17, hor18⟩ := hord
  obtain ⟨hok1, hok2, hok3, hok4, hok5, hok6, hok7, hok8⟩ := hork
  have nm0 := nm
  obtain ⟨m1, m2, m3, m4, m5, m6, m7, m8, m9, ⟨tq, m10⟩, m11⟩ := nm
  obtain ⟨sa1, sa2, sa3, sa4⟩ := sa
  obtain ⟨sr1, sr2⟩ := sr
  obtain ⟨sp1, sp2, sp3, sp4⟩ := sp
  dsimp only [List.drop]
  replace F := fr_f11 F m1 m2 m3 m4 m5 m6 m7 m8 m9 m10 m11
  dsimp only [led07] at N
  kwd_less
  rename Fr _ _ _ _ => F5
  rename News _ _ _ _ => N5
  rename Others "code" _ _ => o1
  rename Others "msg" _ _ => o2
  rename Others "info" _ _ => o3
  rename Others "parent" _ _ => o5
  rename getL "code" _ = some (some _) => c1
  rename getL "msg" _ = some (some _) => c2
  rename getL "info" _ = some (some _) => c3
  rename getL "error" _ = some (some _) => c4
  rename getL "parent" _ = some (some _) => c5
  refine try10 hbody B F5 X T XB TB D hC N5 ok' hd hu rfl (others_none o5 sp3 (by decide)) (others_none o3 (others_none o2 c1 (by decide)) (by decide)) rfl (others_none o3 c2 (by decide)) c3 (.inr (by decide)) c5 c4 ?_
  intro h₀' h' tk' Dt t nc' t2 Dc t3 T' F' N' B' D'
  have X' := XB.keeps B'.stays
  have TT' := TB.keeps B'.stays
  dsimp only [led07] at N'
  clear B F F5 X T D hC N N5
  kwd_less
  rename Fr _ _ _ _ => F9
  rename News _ _ _ _ => N9
  subst hbe
  first
  | exact next _ _ _ _ _ _ _ _ _ _ _ T' F9 (news_sub N9 (fun p hp => .tail _ (hp)))
  | exact next _ _ _ _ _ _ _ _ _ _ _ T' F9 (news_sub N9 (fun p hp => .tail _ (.tail _ (hp))))
  | exact next _ _ _ _ _ _ _ _ _ _ _ T' F9 (news_sub N9 (fun p hp => .tail _ (.tail _ (.tail _ (hp)))))
  | exact next _ _ _ _ _ _ _ _ _ _ _ T' F9 (news_sub N9 (fun p hp => .tail _ (.tail _ (.tail _ (.tail _ (hp))))))
  | exact next _ _ _ _ _ _ _ _ _ _ _ T' F9 (news_sub N9 (fun p hp => .tail _ (.tail _ (.tail _ (.tail _ (.tail _ (hp)))))))
  | exact next _ _ _ _ _ _ _ _ _ _ _ T' F9 (news_sub N9 (fun p hp => .tail _ (.tail _ (.tail _ (.tail _ (.tail _ (.tail _ (hp))))))))
  | exact next _ _ _ _ _ _ _ _ _ _ _ T' F9 (news_sub N9 (fun p hp => .tail _ (.tail _ (.tail _ (.tail _ (.tail _ (.tail _ (.tail _ (hp)))))))))
  | exact next _ _ _ _ _ _ _ _ _ _ _ T' F9 (news_sub N9 (fun p hp => .tail _ (.tail _ (.tail _ (.tail _ (.tail _ (.tail _ (.tail _ (.tail _ (hp))))))))))
end
end Mine


namespace Mine
theorem fill9 : PySem.Challenge.rw_dn0254_07.row.prog = PySem.Challenge.rw_dn0254_07.row.prog ∧ Mine.hd.heap_39 = Mine.hd.heap_39 := by
  w_top off
  k_fill
  exact ⟨rfl, rfl⟩
theorem drop19 {h₀ h : Heap} {L : Addr} {x0 x1 x2 x3 x4 x5 x6 x7 x8 x9 x10 x11 x12 x13 x14 x15 x16 x17 x18 x19 x20 x21 x22 x23 y : Addr × Obj} (N : News h₀ L h [x0, x1, x2, x3, x4, x5, x6, x7, x8, x9, x10, x11, x12, x13, x14, x15, x16, x17, y, x18, x19, x20, x21, x22, x23]) : News h₀ L h [x0, x1, x2, x3, x4, x5, x6, x7, x8, x9, x10, x11, x12, x13, x14, x15, x16, x17, x18, x19, x20, x21, x22, x23] := news_idx [0, 1, 2, 3, 4, 5, 6, 7, 8, 9, 10, 11, 12, 13, 14, 15, 16, 17, 19, 20, 21, 22, 23, 24] rfl N
theorem perm24 {h₀ h : Heap} {L : Addr} {f4 f3 f2 f1 i0 i1 i2 i3 i4 i5 i6 i7 i8 i9 y df c3 c2 c1 k4 k3 k2 k1 tb ga : Addr × Obj} (N : News h₀ L h [f4, f3, f2, f1, i0, i1, i2, i3, i4, i5, i6, i7, i8, i9, y, df, c3, c2, c1, k4, k3, k2, k1, tb, ga]) : News h₀ L h [f4, k4, f3, k3, f2, k2, f1, k1, i0, i1, i2, i3, i4, i5, i6, i7, i8, i9, df, c3, c2, c1, tb, ga] := news_idx [0, 19, 1, 20, 2, 21, 3, 22, 4, 5, 6, 7, 8, 9, 10, 11, 12, 13, 15, 16, 17, 18, 23, 24] rfl N
theorem pick {o : Obj} {v : Array Value} {q : Str} {t : Tok} (h1 : o.data = .fields v) (h2 : v[1]? = some (.str q t)) : ∃ v t, o.data = .fields v ∧ v[1]? = some (.str q t) := ⟨v, t, h1, h2⟩
theorem pickNews {h₀ h : Heap} {L : Addr} {f4 k4 f3 k3 f2 k2 f1 k1 i0 i1 i2 i3 i4 i5 i6 i7 i8 i9 df c3 c2 c1 tb ga : Addr × Obj} (N : News h₀ L h [f4, k4, f3, k3, f2, k2, f1, k1, i0, i1, i2, i3, i4, i5, i6, i7, i8, i9, df, c3, c2, c1, tb, ga]) : News h₀ L h [k4, k3, k2, k1, tb, ga] := news_idx [1, 3, 5, 7, 22, 23] rfl N
theorem rest07 {w : World} {E : Value → Shared → Prop} {s : Shared} {h₀ : Heap} {m : Str → Option Value} {Q : Flow → Shared → Prop} {p : Program} {loose : List Str} {mean : ExcName → Option Value} {mg mb : Str → Option Value} {dp un : Nat} {gd : Option (List Code)} {env : Env} {outer : List Env} {base : Heap} {oc : Value} {od : Option Addr} {params : Arguments} {body : List Stmt} {scope : Scope} {dV kV doc pm cdv ct : Value} {an : Option Addr} {osl : Array (Option Value)}
    (hbody : (Mine.hd.heap_39 w.params).lookup 89 = some ⟨oc, od, .func (fnOf "_law_round" "_law_round" params body scope dV kV doc pm an cdv ct), osl⟩) (v : V07)
    (B : Below (ktrAny dp un gd env outer) base (env :: outer) h₀) (F : Fr h₀ v.L s.heap m) (X : (Mine.hd.heap_39 w.params).In h₀) (T : Top p loose mean mg mb h₀) (XB : (Mine.hd.heap_39 w.params).In base) (TB : Top p loose mean mg mb base) (D : KtsDicts (frs (env :: outer)) h₀) (HC : CodeHd base 88 84)
    (N : News h₀ v.L s.heap (led07 v body scope (dictOf [] 0) (dictOf [] 0) (dictOf [] 0) (W.listOf #[] 0))) (ok : Ok07 v scope) (nm : Nm07 v m) (hd : dp + 8 < recursionLimit) (hu : un + 90 < cLine)
    (ret : ∀ h₀' h' tk' m' ea na er nr ep np olc, KtsTurn (frs (env :: outer)) h₀ h₀' → Fr h₀' v.L h' m' → News h₀' v.L h' (led07 v body scope (dictOf ep np) (dictOf er nr) (dictOf ea na) olc) → Q (.ret (.bool true)) { s with heap := h', toks := tk' }) :
    wpAny (model PySem.Challenge.rw_dn0254_07.row.prog w) ((ktrAny dp un gd env outer).deeper (env07 scope v.L)) (execs (body.drop 14) (env07 scope v.L)) Q E s :=
  rest1 hbody v B F X T (HC.keeps B.stays) N ok nm hd hu fun _ _ _ _ _ _ _ _ _ F' N' nm' sa sr sp =>
    rest2 hbody B F' X T XB TB D (HC.keeps B.stays) N' ok nm' hd hu sa sr sp fun _ _ _ _ _ _ T2 F2 N2 B2 D2 nm2 sz =>
      rest3 hbody B2 F2 (XB.keeps B2.stays) (TB.keeps B2.stays) XB TB D2 (HC.keeps B2.stays) N2 ok nm2 hd hu sa sr sp sz fun _ _ _ _ _ _ _ _ _ _ _ T3 F3 N3 =>
        ret _ _ _ _ _ _ _ _ _ _ _ (T2.trans T3) F3 N3
abbrev tab07 (k1 k2 k3 k4 : Nat) : Array Value := #[rawInt 57, rawInt 4, .ref k1, rawInt 61, rawInt 4, .ref k2, rawInt 65, rawInt 4, .ref k3, rawInt 69, rawInt 4, .ref k4]
/-- what a round leaves: the code objects of its defs -/
def Full07 (h₀ : Heap) (L : Addr) (h : Heap) (ga : Nat) (go : Obj) : Prop := ∃ (k1 k2 k3 k4 : Nat) (o1 o2 o3 o4 : Obj) (v1 v2 v3 v4 : Array Value) (t1 t2 t3 t4 : Tok),
  News h₀ L h [(k4, o4), (k3, o3), (k2, o2), (k1, o1), (84, tabObj (tab07 k1 k2 k3 k4)), (ga, go)] ∧ (o1.data = .fields v1 ∧ v1[1]? = some (.str "_law_round.<locals>._law_good_info" t1)) ∧ (o2.data = .fields v2 ∧ v2[1]? = some (.str "_law_round.<locals>._law_bad_info" t2)) ∧
  (o3.data = .fields v3 ∧ v3[1]? = some (.str "_law_round.<locals>._law_good_error" t3)) ∧ (o4.data = .fields v4 ∧ v4[1]? = some (.str "_law_round.<locals>._law_bad_error" t4)) ∧ (k1 ≠ 84 ∧ k2 ≠ 84 ∧ k3 ≠ 84 ∧ k4 ≠ 84) ∧ (@LT.lt Nat _ L k1 ∧ @LT.lt Nat _ L k2 ∧ @LT.lt Nat _ L k3 ∧ @LT.lt Nat _ L k4)
section
variable {w : World} {E : Value → Shared → Prop} {s : Shared} {L : Addr} {h₀ : Heap} {m : Str → Option Value} {ga : Nat} {go : Obj}
local macro_rules | `(tactic| k_lt $h:ident) => `(tactic| replace $h:ident := allLt_of $h)
local macro_rules | `(tactic| k_ne) => `(tactic| ((repeat (rename AllLt _ _ => q9; have q8 := q9; clear q9; simp only [AllLt, and_true] at q8)); refine neN ?_; (try dsimp only); omega))
local macro_rules | `(tactic| k_ne) => `(tactic| (refine' Ne.symm ?_; first | (refine' neA0 ?h ?m; (case h => (with_reducible assumption)); (case m => k_mem)) | (refine' neA1 ?h ?m; (case h => (with_reducible assumption)); (case m => k_mem)) | (refine' neA2 ?h ?m; (case h => (with_reducible assumption)); (case m => k_mem)) | (refine' neA3 ?h ?m; (case h => (with_reducible assumption)); (case m => k_mem)) | (refine' neB1 ?h; (case h => (with_reducible assumption))) | (refine' neB0 ?g ?h ?m; (case g => (with_reducible assumption)); (case h => (with_reducible assumption)); (case m => k_mem))))
local macro_rules | `(tactic| k_ne) => `(tactic| (first | (refine' neA0 ?h ?m; (case h => (with_reducible assumption)); (case m => k_mem)) | (refine' neA1 ?h ?m; (case h => (with_reducible assumption)); (case m => k_mem)) | (refine' neA2 ?h ?m; (case h => (with_reducible assumption)); (case m => k_mem)) | (refine' neA3 ?h ?m; (case h => (with_reducible assumption)); (case m => k_mem)) | (refine' neB1 ?h; (case h => (with_reducible assumption))) | (refine' neB0 ?g ?h ?m; (case g => (with_reducible assumption)); (case h => (with_reducible assumption)); (case m => k_mem))))
local macro_rules | `(tactic| keq_rows) => `(tactic| first | (k_unfold; (try dsimp only)) | walk1 | (dsimp only; walk1))
local macro_rules | `(tactic| keq_hits) => `(tactic| repeat' ((fail_if_success (with_reducible show wpAny _ _ (execs (PySem.Stmt.If _ _ _ _ :: _) _) _ _ _)); keq_rows))
local macro_rules | `(tactic| kwd_less) => `(tactic| repeat' ((fail_if_success (with_reducible show wpAny _ _ (subscriptTail _ _ _ _) _ _ _)); (fail_if_success (with_reducible show wpAny _ _ (execs (PySem.Stmt.If _ _ _ _ :: _) _) _ _ _)); keq_rows))
local macro_rules | `(tactic| k_all) => `(tactic| assumption)
theorem roundA {Q : Value → Shared → Prop} {p : Program} {loose : List Str} {mean : ExcName → Option Value} {mg mb : Str → Option Value} {dp un : Nat} {gd : Option (List Code)} {env : Env} {outer : List Env} {base : Heap} {A₀ : Around} {n : Int} {t : Tok} 
    (hbody : (Mine.hd.heap_39 w.params).lookup 89 = some ⟨oc, od, .func (fnOf "_law_round" "_law_round" params body scope dV kV doc pm an cdv ct), osl⟩)
    (B : Below A₀ base outer h₀) (F : Fr h₀ L s.heap m) (X : (Mine.hd.heap_39 w.params).In h₀) (XB : (Mine.hd.heap_39 w.params).In base) (TB : Top p loose mean mg mb base) (D : KtsDicts (frs outer) h₀) (N : News h₀ L s.heap [(84, tabObj #[]), (ga, go)]) (T : Top p loose mean mg mb h₀) (HC : CodeHd base 88 84) (hf : env.frame = some L) (hke : env.scope.kind = .function) (hd : dp + 10 < recursionLimit) (hu : un + 100 < cLine) (hga : @LT.lt Nat _ 84 ga) 
    (ret : ∀ h₀' h' tk', KtsTurn (frs outer) h₀ h₀' → Fr h₀' L h' m → Full07 h₀' L h' ga go → Q (.bool true) { s with heap := h', toks := tk' }) :
    wpAny (model PySem.Challenge.rw_dn0254_07.row.prog w) (ktrAny dp un gd env outer) (call (.ref 89) [.int n t]) Q E s := by
  have hbody' := hbody
  k_dflt (refine' lookup_same hbody' ?k6 ?_; (case k6 => k_is))
  intro hbe hse
  subst hse
  subst hbe
  clear hbody'
  have hC := HC.keeps B.stays
  refine wpAny_call ?_
  k_dflt (refine' code_defCT ?k1 ?k2 ?k3 ?k4 ?k5 ?kx ?kA ?kF ?kK ?k6 ?k7 ?k8 ?k9 ?kB ?kD ?_ ?c2 ?c3 ?c4; (case kA => exact rfl); (case kF => assumption); (case kK => assumption); (case kx => exact D); (case k1 => k_asm); (case k2 => k_asm); (case k3 => k_asm); (case k4 => k_asm); (case k5 => k_asm); (case k6 => k_is); (case k7 => k_is); (case k8 => (show dp < recursionLimit; omega)); (case k9 => exact BindsTo.of_eq rfl); (case kB => rfl); (case kD => decide +kernel); (case c2 => exact rfl); (case c3 => exact rfl); (case c4 => exact rfl); k_whole)
  intro g' L' h' tk' cells' FG' F' N' Y' B' X' T' D' l1
  k_lt l1
  have hLL : @LT.lt Nat _ L L' := Nat.lt_of_lt_of_le FG'.ns.lt F'.above
  k_cells Y'
  (try simp only [List.cons_append, List.nil_append] at N')
  (try dsimp only)
  (try k_lift B')
  (try k_fold)
  have hC' := hC.keeps FG'.keep
  kwd_less
  rename News _ _ _ _ => N1
  k_dflt (refine item_tup5g N1 (.head _) (by first | assumption | exact Int.fmod_nonneg_of_pos _ (by decide)) (by first | assumption | exact Int.fmod_lt_of_pos _ (by decide)) ?_)
  intro code tc
  kwd_less
  repeat (rename AllLt _ _ => q9; have q8 := q9; clear q9; simp only [AllLt, and_true] at q8)
  rename Fr _ _ _ _ => F9
  rename News _ _ _ _ => N9
  (try dsimp only)
  rename ((_ : Array Value)[1]? = some (Value.str (qualnameIn _ "_law_good_info" _) _)) => q1
  obtain ⟨v1, t1, e1, f1⟩ := pick (by assumption) q1
  rename ((_ : Array Value)[1]? = some (Value.str (qualnameIn _ "_law_bad_info" _) _)) => q2
  obtain ⟨v2, t2, e2, f2⟩ := pick (by assumption) q2
  rename ((_ : Array Value)[1]? = some (Value.str (qualnameIn _ "_law_good_error" _) _)) => q3
  obtain ⟨v3, t3, e3, f3⟩ := pick (by assumption) q3
  rename ((_ : Array Value)[1]? = some (Value.str (qualnameIn _ "_law_bad_error" _) _)) => q4
  obtain ⟨v4, t4, e4, f4⟩ := pick (by assumption) q4
  have N8 := drop19 N9
  clear N9
  refine rest07 (v := ⟨_, _, _, _, _, _, _, _, _, _, _, _, _, _, _, _, _, _, _, _, _, _, _, _, _, _, _, _, _, _, _, _, _, _, _, _, _, _, _, _, _, _, _, _, _, _, _, _, v4, v3, v2, v1, t4, t3, t2, t1, _⟩) hbody B' F9 X' T' XB TB D' HC N8 ?ok ?nm (by omega) (by omega) ?ret
  case ok =>
    clear F9 N8
    refine ⟨?_, ?_, ?_, e4, ?_, e3, ?_, e2, ?_, e1, ?_, ?_, ?_⟩
    · assumption
    · assumption
    · assumption
    · exact f4
    · exact f3
    · exact f2
    · exact f1
    · dsimp only; omega
    · dsimp only; omega
  case nm => exact ⟨rfl, rfl, rfl, rfl, rfl, rfl, rfl, rfl, rfl, ⟨_, rfl⟩, rfl⟩
  case ret =>
    intro h₀' h2 tk2 m' ea na er nr ep np olc T2 F2 N2
    dsimp only [led07] at N2
    have g1 : _ ∧ v1[1]? = some (.str "_law_round.<locals>._law_good_info" t1) := ⟨e1, f1.trans (congrArg (fun q => some (Value.str q _)) (by kernel_rfl))⟩
    have g2 : _ ∧ v2[1]? = some (.str "_law_round.<locals>._law_bad_info" t2) := ⟨e2, f2.trans (congrArg (fun q => some (Value.str q _)) (by kernel_rfl))⟩
    have g3 : _ ∧ v3[1]? = some (.str "_law_round.<locals>._law_good_error" t3) := ⟨e3, f3.trans (congrArg (fun q => some (Value.str q _)) (by kernel_rfl))⟩
    have g4 : _ ∧ v4[1]? = some (.str "_law_round.<locals>._law_bad_error" t4) := ⟨e4, f4.trans (congrArg (fun q => some (Value.str q _)) (by kernel_rfl))⟩
    exact ⟨_, _, _, _, T2, F2, N2, fun h₃ T3 F3 N3 B3 D3 => ret _ _ _ T3 F3 ⟨_, _, _, _, _, _, _, _, _, _, _, _, _, _, _, _, pickNews N3, g1, g2, g3, g4, (by clear F2 N2 F3 N3; refine ⟨?_, ?_, ?_, ?_⟩ <;> omega), (by clear F2 N2 F3 N3; refine ⟨?_, ?_, ?_, ?_⟩ <;> omega)⟩⟩
theorem roundB {Q : Value → Shared → Prop} {p : Program} {loose : List Str} {mean : ExcName → Option Value} {mg mb : Str → Option Value} {dp un : Nat} {gd : Option (List Code)} {env : Env} {outer : List Env} {base : Heap} {A₀ : Around} {n : Int} {t : Tok} {k1 k2 k3 k4 : Nat} {o1 o2 o3 o4 : Obj} {v1 v2 v3 v4 : Array Value} {t1 t2 t3 t4 : Tok}
    (hbody : (Mine.hd.heap_39 w.params).lookup 89 = some ⟨oc, od, .func (fnOf "_law_round" "_law_round" params body scope dV kV doc pm an cdv ct), osl⟩)
    (B : Below A₀ base outer h₀) (F : Fr h₀ L s.heap m) (X : (Mine.hd.heap_39 w.params).In h₀) (XB : (Mine.hd.heap_39 w.params).In base) (TB : Top p loose mean mg mb base) (D : KtsDicts (frs outer) h₀) (N : News h₀ L s.heap [(k4, o4), (k3, o3), (k2, o2), (k1, o1), (84, tabObj (tab07 k1 k2 k3 k4)), (ga, go)]) (T : Top p loose mean mg mb h₀) (HC : CodeHd base 88 84) (hf : env.frame = some L) (hke : env.scope.kind = .function) (hd : dp + 10 < recursionLimit) (hu : un + 100 < cLine) (hga : @LT.lt Nat _ 84 ga) (c1 : o1.data = .fields v1 ∧ v1[1]? = some (.str "_law_round.<locals>._law_good_info" t1)) (c2 : o2.data = .fields v2 ∧ v2[1]? = some (.str "_law_round.<locals>._law_bad_info" t2)) (c3 : o3.data = .fields v3 ∧ v3[1]? = some (.str "_law_round.<locals>._law_good_error" t3)) (c4 : o4.data = .fields v4 ∧ v4[1]? = some (.str "_law_round.<locals>._law_bad_error" t4)) (ne : k1 ≠ 84 ∧ k2 ≠ 84 ∧ k3 ≠ 84 ∧ k4 ≠ 84) (nl : @LT.lt Nat _ L k1 ∧ @LT.lt Nat _ L k2 ∧ @LT.lt Nat _ L k3 ∧ @LT.lt Nat _ L k4)
    (ret : ∀ h₀' h' tk', KtsTurn (frs outer) h₀ h₀' → Fr h₀' L h' m → Full07 h₀' L h' ga go → Q (.bool true) { s with heap := h', toks := tk' }) :
    wpAny (model PySem.Challenge.rw_dn0254_07.row.prog w) (ktrAny dp un gd env outer) (call (.ref 89) [.int n t]) Q E s := by
  have hbody' := hbody
  k_dflt (refine' lookup_same hbody' ?k6 ?_; (case k6 => k_is))
  intro hbe hse
  subst hse
  subst hbe
  clear hbody'
  have hC := HC.keeps B.stays
  refine wpAny_call ?_
  k_dflt (refine' code_defCT ?k1 ?k2 ?k3 ?k4 ?k5 ?kx ?kA ?kF ?kK ?k6 ?k7 ?k8 ?k9 ?kB ?kD ?_ ?c2 ?c3 ?c4; (case kA => exact rfl); (case kF => assumption); (case kK => assumption); (case kx => exact D); (case k1 => k_asm); (case k2 => k_asm); (case k3 => k_asm); (case k4 => k_asm); (case k5 => k_asm); (case k6 => k_is); (case k7 => k_is); (case k8 => (show dp < recursionLimit; omega)); (case k9 => exact BindsTo.of_eq rfl); (case kB => rfl); (case kD => decide +kernel); (case c2 => exact rfl); (case c3 => exact rfl); (case c4 => exact rfl); k_whole)
  intro g' L' h' tk' cells' FG' F' N' Y' B' X' T' D' l1
  k_lt l1
  have hLL : @LT.lt Nat _ L L' := Nat.lt_of_lt_of_le FG'.ns.lt F'.above
  k_cells Y'
  (try simp only [List.cons_append, List.nil_append] at N')
  (try dsimp only)
  (try k_lift B')
  (try k_fold)
  have hC' := hC.keeps FG'.keep
  kwd_less
  rename News _ _ _ _ => N1
  k_dflt (refine item_tup5g N1 (.head _) (by first | assumption | exact Int.fmod_nonneg_of_pos _ (by decide)) (by first | assumption | exact Int.fmod_lt_of_pos _ (by decide)) ?_)
  intro code tc
  kwd_less
  repeat (rename AllLt _ _ => q9; have q8 := q9; clear q9; simp only [AllLt, and_true] at q8)
  rename Fr _ _ _ _ => F9
  rename News _ _ _ _ => N9
  (try dsimp only)
  obtain ⟨e1, f1⟩ := c1
  obtain ⟨e2, f2⟩ := c2
  obtain ⟨e3, f3⟩ := c3
  obtain ⟨e4, f4⟩ := c4
  have N8 := perm24 N9
  clear N9
  refine rest07 (v := ⟨_, _, _, _, _, _, _, _, _, _, _, _, _, _, _, _, _, _, _, _, _, _, _, _, _, _, _, _, _, _, _, _, _, _, _, _, _, _, _, _, _, _, _, _, _, _, _, _, v4, v3, v2, v1, t4, t3, t2, t1, _⟩) hbody B' F9 X' T' XB TB D' HC N8 ?ok ?nm (by omega) (by omega) ?ret
  case ok =>
    clear F9 N8
    refine ⟨?_, ?_, ?_, e4, ?_, e3, ?_, e2, ?_, e1, ?_, ?_, ?_⟩
    · assumption
    · assumption
    · assumption
    · exact f4.trans (congrArg (fun q => some (Value.str q _)) (by kernel_rfl))
    · exact f3.trans (congrArg (fun q => some (Value.str q _)) (by kernel_rfl))
    · exact f2.trans (congrArg (fun q => some (Value.str q _)) (by kernel_rfl))
    · exact f1.trans (congrArg (fun q => some (Value.str q _)) (by kernel_rfl))
    · dsimp only; omega
    · dsimp only; omega
  case nm => exact ⟨rfl, rfl, rfl, rfl, rfl, rfl, rfl, rfl, rfl, ⟨_, rfl⟩, rfl⟩
  case ret =>
    intro h₀' h2 tk2 m' ea na er nr ep np olc T2 F2 N2
    dsimp only [led07] at N2
    have g1 : _ ∧ v1[1]? = some (.str "_law_round.<locals>._law_good_info" t1) := ⟨e1, f1⟩
    have g2 : _ ∧ v2[1]? = some (.str "_law_round.<locals>._law_bad_info" t2) := ⟨e2, f2⟩
    have g3 : _ ∧ v3[1]? = some (.str "_law_round.<locals>._law_good_error" t3) := ⟨e3, f3⟩
    have g4 : _ ∧ v4[1]? = some (.str "_law_round.<locals>._law_bad_error" t4) := ⟨e4, f4⟩
    exact ⟨_, _, _, _, T2, F2, N2, fun h₃ T3 F3 N3 B3 D3 => ret _ _ _ T3 F3 ⟨_, _, _, _, _, _, _, _, _, _, _, _, _, _, _, _, pickNews N3, g1, g2, g3, g4, ne, nl⟩⟩
end
end Mine


namespace Mine
theorem fillT2 : PySem.Challenge.rw_dn0254_07.row.prog = PySem.Challenge.rw_dn0254_07.row.prog ∧ Mine.hd.heap_39 = Mine.hd.heap_39 := by
  w_top off
  k_fill
  exact ⟨rfl, rfl⟩
/-- the code table is full -/
def FullJ (C : Nat) (h : Heap) : Prop := ∃ (k1 k2 k3 k4 : Nat) (o1 o2 o3 o4 : Obj) (v1 v2 v3 v4 : Array Value) (t1 t2 t3 t4 : Tok),
  (h.get? k4 = some o4 ∧ h.get? k3 = some o3 ∧ h.get? k2 = some o2 ∧ h.get? k1 = some o1 ∧ h.get? 84 = some (tabObj (tab07 k1 k2 k3 k4))) ∧ (o1.data = .fields v1 ∧ v1[1]? = some (.str "_law_round.<locals>._law_good_info" t1)) ∧ (o2.data = .fields v2 ∧ v2[1]? = some (.str "_law_round.<locals>._law_bad_info" t2)) ∧
  (o3.data = .fields v3 ∧ v3[1]? = some (.str "_law_round.<locals>._law_good_error" t3)) ∧ (o4.data = .fields v4 ∧ v4[1]? = some (.str "_law_round.<locals>._law_bad_error" t4)) ∧ (k1 ≠ 84 ∧ k2 ≠ 84 ∧ k3 ≠ 84 ∧ k4 ≠ 84) ∧ (C < k1 ∧ C < k2 ∧ C < k3 ∧ C < k4)
def J07 (C L : Nat) (oL : Obj) (h : Heap) : Prop := (∃ sl, h.get? L = some { oL with slots := sl }) ∧ (h.get? 84 = some (tabObj #[]) ∨ FullJ C h)
theorem J07.keep {C L I : Nat} {oL : Obj} (hL : L < C) (hLI : L ≠ I) (h8 : 84 < C) (h8I : 84 ≠ I) (hIC : I < C) : ∀ h h', J07 C L oL h → (∀ b o, b ≠ C → b ≠ I → h.get? b = some o → h'.get? b = some o) → J07 C L oL h' := by
  rintro h h' ⟨⟨sl, a⟩, c⟩ k
  refine ⟨⟨sl, k _ _ (Nat.ne_of_lt hL) hLI a⟩, ?_⟩
  rcases c with c | ⟨k1, k2, k3, k4, o1, o2, o3, o4, v1, v2, v3, v4, t1, t2, t3, t4, ⟨a4, a3, a2, a1, a0⟩, c1, c2, c3, c4, ne, lt⟩
  · exact .inl (k _ _ (Nat.ne_of_lt h8) h8I c)
  · obtain ⟨l1, l2, l3, l4⟩ := lt
    exact .inr ⟨k1, k2, k3, k4, o1, o2, o3, o4, v1, v2, v3, v4, t1, t2, t3, t4, ⟨k _ _ (Nat.ne_of_gt l4) (Nat.ne_of_gt (Nat.lt_trans hIC l4)) a4, k _ _ (Nat.ne_of_gt l3) (Nat.ne_of_gt (Nat.lt_trans hIC l3)) a3, k _ _ (Nat.ne_of_gt l2) (Nat.ne_of_gt (Nat.lt_trans hIC l2)) a2, k _ _ (Nat.ne_of_gt l1) (Nat.ne_of_gt (Nat.lt_trans hIC l1)) a1, k _ _ (Nat.ne_of_lt h8) h8I a0⟩, c1, c2, c3, c4, ne, ⟨l1, l2, l3, l4⟩⟩
section
variable {w : World} {p : Program} {loose : List Str} {mean : ExcName → Option Value} {mg mb : Str → Option Value}
theorem elem07 {A₀ : Around} {cenv lenv : Env} {L C I : Nat} {base h₄ h₅ : Heap} {vs : List Value} {ns : List Int} {dp un : Nat} {gd : Option (List Code)} {p1 p2 p3 : Pos} {oL go : Obj} {es : Array DictEntry} {ep : Nat}
    {oc : Value} {od : Option Addr} {params : Arguments} {body : List Stmt} {scope : Scope} {dV kV doc pm cdv ct : Value} {an : Option Addr} {osl : Array (Option Value)}
    (hbody : (Mine.hd.heap_39 w.params).lookup 89 = some ⟨oc, od, .func (fnOf "_law_round" "_law_round" params body scope dV kV doc pm an cdv ct), osl⟩)
    (B : Below A₀ base [lenv] (hideAll h₄ [84])) (XB : (Mine.hd.heap_39 w.params).In base) (TB : Top p loose mean mg mb base) (HC : CodeHd base 88 84) (h84b : base.get? 84 = none) (hLb : base.get? L = none) (hIb : base.get? I = none)
    (hlf : lenv.frame = some L) (hL : h₄.get? L = some oL) (hLd : oL.data = .dict es ep) (hcf : cenv.frame = some C) (hcl : cenv.locals = C) (hck : cenv.scope.kind = .function) (hcg : cenv.globals = mainGlobals)
    (hx : cenv.kindOf "n" = some .local) (hx2 : cenv.kindOf "_law_round" = some .globalImplicit) (hCs : h₄.objs.size = C) (h45 : ∀ b o, h₄.get? b = some o → h₅.get? b = some o) (ga : h₅.get? (C + 1) = some go)
    (hI : IntsAre vs ns) (hd : dp + 10 < recursionLimit) (hu : un + 100 < cLine) (hLC : L < C) (h84 : 84 < C) (hLI : L ≠ I) (h8I : 84 ≠ I) (hIC : I < C) (hL8 : L ≠ 84) :
    EltJ PySem.Challenge.rw_dn0254_07.row.prog w (ktrAny dp un gd cenv [lenv]) cenv "n" (.Call (.Name "_law_round" p1) [.Name "n" p2] [] p3) vs C (C + 1) (fun b => b = 84 ∨ b = L) I (J07 C L oL) h₅ := by
  intro E i v s m hv hn hm hkp hj
  obtain ⟨n, t, rfl, -⟩ := IntsAre.at hI i v hv
  obtain ⟨⟨sl, hsl⟩, hj⟩ := hj
  have hg : ∀ b o, @LT.lt Nat _ b C → b ≠ 84 → s.heap.get? b = some o → (hideAll (cutH s.heap C) [84]).get? b = some o := fun b o lt ne e => hideAll_get _ ((cutH_lt lt).trans e) (fun q => ne (List.mem_singleton.mp q))
  have hgk : ∀ b o, (hideAll (cutH s.heap C) [84]).get? b = some o → s.heap.get? b = some o := fun b o e => of_cutH (of_hideAll _ e)
  have hge : ∀ b, @LE.le Nat _ C b → (hideAll (cutH s.heap C) [84]).get? b = none := fun b le => by
    cases q : (hideAll (cutH s.heap C) [84]).get? b with
    | none => rfl
    | some o => have := of_hideAll _ q; rw [cutH_ge le] at this; cases this
  have h48 : (hideAll (cutH s.heap C) [84]).get? 84 = none := hideAll_none _ (.head _)
  have F : Fr (hideAll (cutH s.heap C) [84]) C s.heap m := ⟨hn, hgk, by rw [hideAll_size]; exact cutH_size⟩
  have h4s : ∀ b o, h₄.get? b = some o → b ≠ 84 → b ≠ L → b ≠ I → s.heap.get? b = some o := fun b o e n1 n2 n3 => hkp b o (.inl (by have := Heap.lt_size e; rw [hCs] at this; exact this)) (fun q => by rcases q with q | q <;> contradiction) n3 (h45 _ _ e)
  generalize hG : hideAll (cutH s.heap C) [84] = G at hg hgk hge h48 F
  have hGs : G.get? L = some { oL with slots := sl } := hg _ _ hLC hL8 hsl
  have st : base.StaysIn G := fun b o e => by
    have e4 := B.stays b o e
    have n8 : b ≠ 84 := fun q => by rw [q, h84b] at e; cases e
    have nL : b ≠ L := fun q => by rw [q, hLb] at e; cases e
    have nI : b ≠ I := fun q => by rw [q, hIb] at e; cases e
    have e4' := of_hideAll _ e4
    exact hg _ _ (by have := Heap.lt_size e4'; rw [hCs] at this; exact this) n8 (h4s _ _ e4' n8 nL nI)
  have B' : Below A₀ base [lenv] G := ⟨B.stack, st, by
    obtain ⟨hk, ⟨L', o, hf, hn', ho, hdt⟩, hr⟩ := B.frames
    obtain rfl : L = L' := Option.some.inj (hlf.symm.trans hf)
    refine ⟨hk, ⟨L, _, hf, hn', hGs, ?_⟩, trivial⟩
    intro vs q
    rw [hLd] at q; cases q⟩
  have D : KtsDicts (frs [lenv]) G := fun b hb => by
    obtain ⟨e, he, hb2⟩ := List.mem_filterMap.mp hb
    rcases List.mem_singleton.mp he with rfl
    obtain rfl : L = b := Option.some.inj (hlf.symm.trans hb2)
    exact ⟨_, _, _, hGs, hLd⟩
  have XG : (Mine.hd.heap_39 w.params).In G := XB.keeps st
  have TG : Top p loose mean mg mb G := TB.keeps st
  have TR := topRead_of TG
  have hnP : ¬ (C + 1 = 84 ∨ C + 1 = L) := by omega
  have hnI : C + 1 ≠ I := by omega
  have fin : ∀ (h₀' h' : Heap) (tk' : Nat), KtsTurn (frs [lenv]) G h₀' → Fr h₀' C h' m → Full07 h₀' C h' (C + 1) go →
      (Value.bool true = .bool true ∧ ∃ h tk, ({ s with heap := h', toks := tk' } : Shared) = { s with heap := h, toks := tk } ∧ (∀ b o, (b < C ∨ b = C + 1) → ¬ (b = 84 ∨ b = L) → s.heap.get? b = some o → h.get? b = some o) ∧ h.Ns C m ∧ J07 C L oL h) := by
    intro h₀' h' tk' T' F' ⟨k1, k2, k3, k4, o1, o2, o3, o4, v1, v2, v3, v4, t1, t2, t3, t4, N', c1, c2, c3, c4, ne, lt⟩
    refine ⟨rfl, h', tk', rfl, fun b o hb hp e => ?_, F'.ns, ?_, .inr ⟨k1, k2, k3, k4, o1, o2, o3, o4, v1, v2, v3, v4, t1, t2, t3, t4, ⟨(N' _ (.head _)).1, (N' _ (.tail _ (.head _))).1, (N' _ (.tail _ (.tail _ (.head _)))).1, (N' _ (.tail _ (.tail _ (.tail _ (.head _))))).1, (N' _ (.tail _ (.tail _ (.tail _ (.tail _ (.head _)))))).1⟩, c1, c2, c3, c4, ne, lt⟩⟩
    · rcases hb with hb | rfl
      · refine F'.keep _ _ (T'.other _ _ (hg _ _ hb (fun q => hp (.inl q)) e) fun q => ?_)
        obtain ⟨e', he', hb'⟩ := List.mem_filterMap.mp q
        rcases List.mem_singleton.mp he' with rfl
        exact hp (.inr (Option.some.inj (hb'.symm.trans hlf)))
      · have e1 := (N' (C + 1, go) (.tail _ (.tail _ (.tail _ (.tail _ (.tail _ (.head _))))))).1
        have e2 := hkp (C + 1) go (.inr rfl) hnP hnI ga
        rw [e2] at e; cases e
        exact e1
    · obtain ⟨sl', e'⟩ := T'.up hGs
      exact ⟨sl', F'.keep _ _ e'⟩
  have ga' : s.heap.get? (C + 1) = some go := hkp (C + 1) go (.inr rfl) hnP hnI ga
  have tail : ∀ {Q : Value → Shared → Prop}, wpAny (model PySem.Challenge.rw_dn0254_07.row.prog w) (ktrAny dp un gd cenv [lenv]) (call (.ref 89) [.int n t]) Q E s → wpAny (model PySem.Challenge.rw_dn0254_07.row.prog w) (ktrAny dp un gd cenv [lenv]) (eval (.Call (.Name "_law_round" p1) [.Name "n" p2] [] p3) cenv) Q E s := fun h => by
    k_dflt (refine' call1_env F XG TR ?e ?k hcg hck hx2 (by decide) hcl hx (by decide) hm h; (case e => k_is); (case k => k_is))
  have nC1 : C + 1 ≠ C := by omega
  rcases hj with h8 | ⟨k1, k2, k3, k4, o1, o2, o3, o4, v1, v2, v3, v4, t1, t2, t3, t4, ⟨a4, a3, a2, a1, a0⟩, c1, c2, c3, c4, ne, lt⟩
  · have N : News G C s.heap [(84, tabObj #[]), (C + 1, go)] := fun q hq => by
      rcases List.mem_cons.mp hq with rfl | hq
      · exact ⟨h8, Nat.ne_of_lt h84, h48⟩
      · rcases List.mem_singleton.mp hq with rfl
        exact ⟨ga', nC1, hge _ (Nat.le_succ C)⟩
    exact tail (roundA hbody B' F XG XB TB D N TG HC hcf hck hd hu (by omega) fin)
  · have N : News G C s.heap [(k4, o4), (k3, o3), (k2, o2), (k1, o1), (84, tabObj (tab07 k1 k2 k3 k4)), (C + 1, go)] := fun q hq => by
      simp only [List.mem_cons, List.mem_nil_iff, or_false] at hq
      rcases hq with rfl | rfl | rfl | rfl | rfl | rfl
      · exact ⟨a4, Nat.ne_of_gt lt.2.2.2, hge _ (Nat.le_of_lt lt.2.2.2)⟩
      · exact ⟨a3, Nat.ne_of_gt lt.2.2.1, hge _ (Nat.le_of_lt lt.2.2.1)⟩
      · exact ⟨a2, Nat.ne_of_gt lt.2.1, hge _ (Nat.le_of_lt lt.2.1)⟩
      · exact ⟨a1, Nat.ne_of_gt lt.1, hge _ (Nat.le_of_lt lt.1)⟩
      · exact ⟨a0, Nat.ne_of_lt h84, h48⟩
      · exact ⟨ga', nC1, hge _ (Nat.le_succ C)⟩
    exact tail (roundB hbody B' F XG XB TB D N TG HC hcf hck hd hu (by omega) c1 c2 c3 c4 ne lt fin)
theorem below_law {G0 h₄ : Heap} {L : Nat} {m : Str → Option Value} {lenv : Env} {o : Obj} (s : Shared) (hB : Below callerA G0 [] G0) (F4 : Fr G0 L h₄ m) (N4 : News G0 L h₄ [(84, o)]) (hf : lenv.frame = some L) (hk : lenv.scope.kind = .function) : Below (callerA.deeper lenv) G0 [lenv] (hideAll h₄ [84]) :=
  (groundX (R := fun _ _ => True) (A := callerA.deeper lenv) (s := { s with heap := h₄ }) hB F4 N4 rfl hf hk).2.1
end
theorem ghost_bm {h₀ : Heap} {P g bm : Addr} {ps : Array Value} {mg : Str → Option Value} {ob : Obj} (hn : h₀.get? P = none) (x : BMod h₀ g mg bm ob) : BMod (regrown h₀ P ps) g mg bm ob :=
  x.keeps fun b o e => by rw [regrown_ne (fun q => by rw [q, hn] at e; cases e)]; exact e
theorem with_lookup {K : Frag} {f : Addr} {o : Obj} {P : Prop} (h : K.lookup f = some o) (k : K.lookup f = some o → P) : P := k h
theorem post_true (ns : List Int) : PySem.Challenge.rw_dn0254_07.row.claim.post [ofPy (PyData.list (List.map PyData.int ns))] (.bool true) [ofPy (PyData.list (List.map PyData.int ns))] = true := by
  first | rfl | wrow_post
end Mine


namespace Mine
theorem frEx {h₀ h : Heap} {L : Addr} {m : Str → Option Value} {x : Str} {v : Value} (F : Fr h₀ L h m) (e : m x = some v) : ∃ m', m' x = some v ∧ Fr h₀ L h m' := ⟨m, e, F⟩
theorem fillT : PySem.Challenge.rw_dn0254_07.row.prog = PySem.Challenge.rw_dn0254_07.row.prog ∧ Mine.hd.heap_39 = Mine.hd.heap_39 := by
  k_fill
  exact ⟨rfl, rfl⟩
local macro_rules | `(tactic| keq_rows) => `(tactic| first | (k_unfold; (try dsimp only)) | walk1 | (dsimp only; walk1))
local macro_rules | `(tactic| kn_posts) => `(tactic| refine kn_post2 (by assumption) (fun _ _ => rfl) ?_)
local macro_rules | `(tactic| ktr_unf) => `(tactic| repeat' ((fail_if_success (with_reducible show wpAny _ _ (eval (PySem.Expr.GeneratorExp _ _ _ _) _) _ _ _)); keq_rows))
local macro_rules | `(tactic| kwd_less) => `(tactic| repeat' ((fail_if_success (with_reducible show wpAny _ _ (call (Value.builtin "all") _) _ _ _)); keq_rows))
theorem t : PySem.Challenge.rw_dn0254_07.Holds := hd (by
  w_strict (
    k_fill
    intro w s₀ s₁ mg mb G Y fa o pm cd doc dV kV ho hd hcd hD hmg hg args vals as hpre hlay hrd hwl hlo
    have KX := km_in_of Y
    km_tabs Y
    have X := (Ground.X G).1
    have V := (Ground.X G).2
    refine Ground.open G ?_
    intro T B D TE TW
    try (refine guard_noD D (by decide +kernel) ?_; clear D)
    km_lay T hmg ho hd cd
    have hLt := tab_of (x := PySem.Str.ofString "law") (c := 95) (P := 91) T KX rfl (by kernel_rfl)
    have hLc : cd = PySem.Value.ref 95 := law_code (x := PySem.Str.ofString "law") (c := 95) (P := 91) KX (Top.g T) (by kernel_rfl) hmg ho hd
    subst hLc
    have hT9n : TabsAt [(88, 84), (95, 91)] s₁.heap := List.forall_mem_cons.mpr ⟨hT9 _ (.head _), List.forall_mem_cons.mpr ⟨hLt, fun _ h => nomatch h⟩⟩
    clear hT9 hLt
    have hT9 := hT9n
    clear hT9n
    clear hmg
    wrow_args hpre hlay hrd hwl hlo
    all_goals (
      first | refine callC_kw (enter_call ?_) | refine enter_call ?_
      w_top on
      kn_posts
      w_call any ho hd hcd hD T F
      clear hd
      kn_ghosts F T
      k_drop
      skip)
    (all_goals try k_fold)
    ktr_unf
    rename Fr _ _ _ _ => F1
    rename News _ _ _ _ => N1
    rename Top topProg _ _ _ _ _ => hTop
    rename IntsAre _ (List.take _ _) => hI
    rename Below _ _ _ _ => hB
    rename Frag.In _ _ => hX
    obtain ⟨bm, ob, hBM⟩ := bmod_of_top hTop
    have hC8 : CodeHd (ghostOf s₁.heap [(88, 84), (95, 91)]) 88 84 := by assumption
    have hC9 : CodeHd (ghostOf s₁.heap [(88, 84), (95, 91)]) 95 91 := by assumption
    have hm91 := N1 (91, tabObj #[]) (.tail _ (.tail _ (.head _)))
    have hm84 := N1 (84, tabObj #[]) (.tail _ (.head _))
    have hPs : @LT.lt Nat _ 91 (ghostOf s₁.heap [(88, 84), (95, 91)]).objs.size := by rw [hideAll_size]; omega
    obtain ⟨m1, hsc, F1⟩ := frEx (x := "script") F1 rfl
    refine gen_J (L := s₁.heap.objs.size) (m := m1) (cl := []) (ghost_based (ps := #[]) hC9 hTop hm91.2.2 hPs (by kn_triples)) (ghost_bm hm91.2.2 hBM) ?hcode ?hnf ?hh ?hco ?hclos ?hcell ?h0 ?hx ?hkind ?hroom ?h ?hs
    (case hcode => with_unfolding_all rfl)
    (case hnf => rfl)
    (case hh => with_unfolding_all rfl)
    (case hco => with_unfolding_all rfl)
    (case hclos => with_unfolding_all rfl)
    (case hcell => decide)
    (case h0 => with_unfolding_all rfl)
    (case hx => with_unfolding_all rfl)
    (case hkind => with_unfolding_all rfl)
    (case hroom => (simp only [depth_deeper, depth_caller]; decide))
    (case hs => intro _; with_unfolding_all rfl)
    case h =>
      refine ld F1 hsc ?_
      refine ⟨_, _, rfl, News.isList N1 (.head _), ghost_up F1 N1 (.tail _ (.tail _ (.head _))) hPs, hTop.nolimit.keeps F1.keep, ?_⟩
      intro c' C h₄ h₅ tk gs hgs hC4 hsC h5s ⟨go, hgo⟩ hx4 hx5 B4 F4
      have F4' := ghost_down hm91.2.2 F4
      have h4t := ghost_tab hPs F4
      have e84 : h₄.get? 84 = some (tabObj #[]) := hx4 _ _ (by decide) hm84.1
      have N4 : News (ghostOf s₁.heap [(88, 84), (95, 91)]) s₁.heap.objs.size h₄ [(84, tabObj #[])] := fun q hq => by
        rcases List.mem_singleton.mp hq with rfl
        exact ⟨e84, hm84.2⟩
      obtain ⟨oL, es, ep, hLg, hLd, hLk, hLf⟩ := F4'.ns
      have hIb : (ghostOf s₁.heap [(88, 84), (95, 91)]).get? _ = none := Heap.get?_none_of_le (Nat.le_trans F1.above (Nat.le_of_lt F1.ns.lt))
      have hLI := F1.ns.lt
      have hLb := kts_self F1
      have hDl := Heap.lt_size (N1 _ (.head _)).1
      have hDn := (N1 _ (.head _)).2.1
      have hst : @LT.lt Nat _ cStatics s₁.heap.objs.size := by
        obtain ⟨mc, ⟨oS, esS, epS, eS, -⟩, -⟩ := hTop.nolimit
        have := Heap.lt_size eS
        rw [hideAll_size] at this
        exact this
      have hsb : (ghostOf s₁.heap [(88, 84), (95, 91)]).get? cStatics ≠ none := by
        obtain ⟨mc, ⟨oS, esS, epS, eS, -⟩, -⟩ := hTop.nolimit
        rw [eS]; exact fun q => nomatch q
      have hstP : ¬ (cStatics = 84 ∨ cStatics = s₁.heap.objs.size) := fun q => by
        rcases q with q | q
        · exact hsb (by rw [q]; exact hm84.2.2)
        · exact hsb (by rw [q]; exact hLb)
      have l84 : @LT.lt Nat _ 84 s₁.heap.objs.size := by omega
      have nLI := Nat.ne_of_lt hLI
      have n8I := Nat.ne_of_lt (Nat.lt_trans l84 hLI)
      have lLC := Nat.lt_trans hLI hsC
      have l8C := Nat.lt_trans l84 lLC
      have hkeep := J07.keep (oL := oL) lLC nLI l8C n8I hsC
      have ap : ApartJ C (C + 1) (fun b => b = 84 ∨ b = s₁.heap.objs.size) _ _ := ⟨(Nat.ne_of_lt hDl).symm, Nat.lt_succ_self C, Nat.lt_trans hDl hsC, hsC, fun q => by
        rcases q with q | q
        · have q2 : @Eq Nat _ 84 := q
          omega
        · exact hDn q, fun q => by
        rcases q with q | q
        · exact n8I q.symm
        · exact nLI q.symm, fun b q => by
        rcases q with rfl | rfl
        · exact l8C
        · exact lLC⟩
      k_dflt (refine' with_lookup (K := hd.heap_39 w.params) (f := 89) ?k6 ?_; (case k6 => k_is))
      intro hbody
      refine ⟨fun b => b = 84 ∨ b = s₁.heap.objs.size, J07 C s₁.heap.objs.size oL, ap, hkeep, ⟨⟨oL.slots, hx5 _ _ hLg⟩, .inl (hx5 _ _ e84)⟩, ?elt, ?gen⟩
      case elt =>
        exact elem07 hbody (below_law s₁ hB F4' N4 rfl rfl) hX hTop hC8 hm84.2.2 hLb hIb rfl hLg hLd rfl rfl rfl rfl rfl rfl hC4 hx5 hgo hI (Nat.le_of_ble_eq_true rfl) (Nat.le_of_ble_eq_true rfl) lLC l8C nLI n8I hsC (Nat.ne_of_gt l84)
      case gen =>
        intro hgen
        refine spliced_none ?_
        refine call_all_J rfl ?hr ap (Nat.lt_trans hst lLC) hstP (fun q => hsb (by rw [q]; exact hIb)) (fun h h' j k => hkeep h h' j fun b o _ _ e => k b o e) hgen ?_
        case hr => (simp only [depth_in1, depth_deeper, depth_caller]; decide)
        intro s' ⟨hk, hj, hb, hos⟩
        obtain ⟨⟨sl, hsl⟩, h8⟩ := hj
        have F9 : Fr (ghostOf s₁.heap [(88, 84), (95, 91)]) s₁.heap.objs.size s'.heap m1 := ⟨⟨_, es, ep, hsl, hLd, hLk, hLf⟩, fun b o e => by
          have e4 := F4'.keep _ _ e
          refine hk _ _ (.inl (by have := Heap.lt_size e4; rw [hC4] at this; exact this)) (fun q => ?_) (fun q => ?_) (hx5 _ _ e4)
          · rcases q with rfl | rfl
            · rw [hm84.2.2] at e; cases e
            · rw [hLb] at e; cases e
          · exact (nomatch (show (none : Option Obj) = some o from by rw [← hIb, ← q]; exact e)), F4'.above⟩
        have g84 : GrownAt 84 s'.heap := by
          rcases h8 with h8 | ⟨k1, k2, k3, k4, o1, o2, o3, o4, v1, v2, v3, v4, t1, t2, t3, t4, ⟨-, -, -, -, h8⟩, -⟩ <;> exact ⟨_, h8⟩
        have g91 : GrownAt 91 s'.heap := ⟨_, hk _ _ (.inl (by have := Heap.lt_size h4t; rw [hC4] at this; exact this)) (fun q => by
          rcases q with q | q
          · exact absurd q (by decide)
          · have q2 : @Eq Nat 91 _ := q
            omega) (fun q => by
          have q2 : @Eq Nat 91 _ := q
          have h2 : @LT.lt Nat _ s₁.heap.objs.size _ := hLI
          rw [← q2] at h2
          omega) (hx5 _ _ h4t)⟩
        have hb2 := hb (AllBare.push (bare_nil (by assumption)) hgs)
        clear hb hk h8 hgen ap hkeep F4 B4 hx4 hx5
        obtain ⟨h9, g9, d9, t9, o9⟩ := s'
        dsimp only at hos F9 g84 g91 hb2 ⊢
        subst hos
        refine ⟨⟨?gw, ⟨g84, g91, trivial⟩⟩, hb2⟩
        refine goodW_bool F9 rfl (raisesW_false ?_) ?_
        · wrow_none_raised
        · exact post_true _
    ))
end Mine


theorem PySem.Challenge.cw_dn0254_07_holds : PySem.Challenge.rw_dn0254_07.Holds :=
  Mine.t
