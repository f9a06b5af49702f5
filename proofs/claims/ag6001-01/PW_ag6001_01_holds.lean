import PyProof.Rows.All
import Wide.All
import OpenK.AllK
import Wide.FinOn
import Lean
import PySem.Challenge.RW_ag6001_01
open PySem PySem.W PyProof.Rows
set_option Elab.async false
set_option maxRecDepth 100000
set_option maxHeartbeats 8000000
namespace Mine
open_top hd for PySem.Challenge.rw_ag6001_01
end Mine

namespace Mine

/-- a list of bytes values, whatever their tokens -/
inductive BA : List Value → List (Array UInt8) → Prop
  | nil : BA [] []
  | cons {b : Array UInt8} {t : Tok} {vs : List Value} {bs : List (Array UInt8)} : BA vs bs → BA (.bytes b t :: vs) (b :: bs)

theorem BA.length {vs : List Value} {bs : List (Array UInt8)} (h : BA vs bs) : vs.length = bs.length := by
  induction h with
  | nil => rfl
  | cons _ ih => rw [List.length_cons, List.length_cons, ih]
theorem BA.append {vs ws : List Value} {bs cs : List (Array UInt8)} (h : BA vs bs) (k : BA ws cs) : BA (vs ++ ws) (bs ++ cs) := by
  induction h with
  | nil => exact k
  | cons _ ih => exact .cons ih

def lastDef : Option Stmt → Scope
  | some (.FunctionDef _ _ _ _ _ _ c _ _ _) => c
  | _ => default
/-- the law's scope, taken out of the row -/
def lawScope : Scope := lastDef PySem.Challenge.pw_ag6001_01.main.body.getLast?
abbrev lawEnv (L fa : Addr) (cd : Value) : Env := envOf (Str.ofString "law") lawScope L fa cd
abbrev lawA (L fa : Addr) (cd : Value) : Around := callerA.deeper (lawEnv L fa cd)
end Mine

namespace Mine
open PySem.Calls
open Builtin

theorem slot_join : Slot "bytes" "join" "bytes.join" :=
  .of (owner := "bytes") (n := "join") (by rw [typeLookup_type, builtinLookup_eq_fast]; kernel_rfl) (by decide +kernel) (by decide +kernel) (by decide +kernel)
    (by first | exact .inl (by decide +kernel) | exact .inr (by decide +kernel)) (by rw [isSubtype_type]; kernel_rfl)
theorem entry_join : entryFor table "bytes.join" = some Builtin.«bytes.join» := entryFor_of_tree (by kernel_rfl)
theorem args_join (a b : Value) : argsOk "bytes.join" ⟨[a, b], []⟩ := by
  unfold argsOk; rw [signature?_of (id := "bytes.join") (n := ['n', 'i', 'o', 'j']) (o := ['s', 'e', 't', 'y', 'b']) (by kernel_rfl) FB.owner_bytes]; kernel_rfl
theorem type_join : typeOf (.builtin "bytes.join") = pure (.type "method_descriptor") := by show builtinType _ = _; rw [builtinType_eq_fast]; kernel_rfl

/-- what b''.join gives -/
def joinB (bs : List (Array UInt8)) : Array UInt8 := Bytes.joined #[] bs

theorem buffer_full {id : String} {b : Array UInt8} {t : Tok} {full : Bool} : Bytes.buffer? id (.bytes b t) full = pure (some b) := by
  unfold Bytes.buffer?
  rw [KBy.special_eq KBy.look_buffer, KBy.own_buffer, KBy.own_release]
  kernel_rfl
theorem take_eq {id : String} {b : Array UInt8} {t : Tok} : Bytes.takeBuffer? id (.bytes b t) 0 = pure (some (b, none)) := by
  unfold Bytes.takeBuffer?
  rw [KBy.special_eq KBy.look_buffer, KBy.own_buffer]
  simp only [buffer_full]
  kernel_rfl
theorem takeQ_eq {id : String} {b : Array UInt8} {t : Tok} : Bytes.takeBufferQuiet? id (.bytes b t) 0 = pure (some (b, none)) := by
  unfold Bytes.takeBufferQuiet?
  rw [take_eq]
  rfl

theorem ba_get {vs : List Value} {bs : List (Array UInt8)} (h : BA vs bs) : ∀ (i : Nat), i < vs.length → ∃ b t, vs[i]? = some (.bytes b t) ∧ bs[i]? = some b := by
  induction h with
  | nil => intro i hi; exact absurd hi (Nat.not_lt_zero _)
  | @cons b t vs bs _ ih =>
    intro i hi
    cases i with
    | zero => exact ⟨b, t, rfl, rfl⟩
    | succ i => exact ih i (Nat.lt_of_succ_lt_succ hi)

theorem tree_eq {M : Model} {A : Around} {E : Value → Shared → Prop} {s : Shared} {α : Type} {t u : Sem α} {Q : α → Shared → Prop} (h : t = u) (hq : wpAny M A u Q E s) : wpAny M A t Q E s := by rw [h]; exact hq
theorem letGo_join {M : Model} {A : Around} {E : Value → Shared → Prop} {s : Shared} {keep : List Value} {Q : Unit → Shared → Prop} : ∀ (taken : List (Value × Option Value)), (∀ p ∈ taken, p.2 = none) → Q () s → wpAny M A (Bytes.joinLetGo taken keep) Q E s
  | [], _, h => wpAny_pure h
  | (x, w) :: rest, hn, h => by
    have e : w = none := hn (x, w) (.head _)
    subst e
    unfold Bytes.joinLetGo
    refine wpAny_bind (wpAny_letGo ?_)
    exact letGo_join rest (fun p hp => hn p (.tail _ hp)) h



def joinInv (s : Shared) (vs : List Value) (bs : List (Array UInt8)) (rest : List Nat) (st : Array (Array UInt8) × List (Value × Option Value)) (s' : Shared) : Prop :=
  s' = s ∧ (∃ i, rest = List.range' i (vs.length - i) ∧ i ≤ vs.length ∧ st.1.toList = bs.take i) ∧ ∀ p ∈ st.2, p.2 = none ∧ p.1.onHeap = false

theorem meets_join {a : Addr} {t : Tok} {vs : List Value} {n : Nat} {bs : List (Array UInt8)} (hb : BA vs bs) (hz0 : ((bs.map (·.size)).sum) ≤ 16777216) :
    Meets («bytes.join» ⟨[.bytes #[] t, .ref a], []⟩) (fun _ R s => s.heap.get? a = some (listOf vs.toArray n) ∧ (joinB bs).size ≤ sizeLine ∧ (∀ t' k, R (.ok (.ret (.bytes (joinB bs) t'))) { s with toks := k })) := by
  refine .of_wp fun prog w A R s hS => ?_
  obtain ⟨ho, hsz, h⟩ := hS
  have hT : s.TypeIs (.ref a) "list" := ⟨_, ho, rfl⟩
  show wpAny _ _ (selfAndOne _ _ >>= fun r => _) _ _ s
  refine wpAny_bind (wpAny_of_eq (a := (Value.bytes #[] t, Value.ref a)) rfl ?_)
  dsimp only
  refine wpAny_bind ?_
  show wpAny _ _ (Bytes.joinItems (.ref a)) _ _ s
  unfold Bytes.joinItems
  refine wpAny_bind (wpAny_typeOf hT ?_)
  refine wpAny_ite (KBc.ite_yes (by decide) ?_)
  refine wpAny_pure ?_
  refine wpAny_bind ?_
  unfold seqItems?
  dsimp only
  refine wpAny_bind (wpAny_load ho ?_)
  refine wpAny_pure ?_
  dsimp only
  refine wpAny_ite (KBc.ite_yes (by decide) ?_)
  have key : ∀ (vs : List Value) (h1 : ∀ v, vs ≠ [v]) (X : Value → Sem Fin) (Y : Sem Fin), (match vs.toArray with | #[x] => X x | _ => Y) = Y := by
    intro vs h1 X Y
    match vs, h1 with
    | [], _ => rfl
    | [v], h1 => exact absurd rfl (h1 v)
    | _ :: _ :: _, _ => rfl
  have fin : ∀ (s' : Shared) (st : Array (Array UInt8) × List (Value × Option Value)), joinInv s vs bs [] st s' → st.1.toList = bs ∧ s' = s ∧ ∀ p ∈ st.2, p.2 = none := by
    rintro s' st ⟨rfl, ⟨i, h1, h2, h3⟩, h4⟩
    refine ⟨?_, rfl, fun p hp => (h4 p hp).1⟩
    have h5 : vs.length - i = 0 := by
      have := congrArg List.length h1
      rw [List.length_range', List.length_nil] at this
      exact this.symm
    rw [h3, List.take_of_length_le]
    rw [← hb.length]; omega
  by_cases h1 : ∃ v, vs = [v]
  · obtain ⟨v, rfl⟩ := h1
    cases hb with
    | cons r =>
      cases r
      rename_i b t1
      show wpAny _ _ (typeOf (.bytes b t1) >>= _) _ _ _
      refine wpAny_bind (wpAny_typeOf (typeIs_bytes _ _ _) ?_)
      refine wpAny_ite (KBc.ite_yes (by decide) ?_)
      refine wpAny_bind (wpAny_rule ?_)
      have e : joinB [b] = b := by
        show #[] ++ b = b
        simp
      rw [e] at h
      exact wpAny_pure ⟨_, rfl, h _ _⟩
  · refine tree_eq (key vs (fun v hv => h1 ⟨v, hv⟩) _ _) ?_
    refine wpAny_bind ?_
    rw [Std.Legacy.Range.forIn_eq_forIn_range']
    refine wpAny_forIn_list (M := model prog w) (A := A.in1) _ (joinInv s vs bs) _ ?turn ?fin _ (#[], []) ?hzero
    case hzero =>
      refine ⟨rfl, ⟨0, ?_, Nat.zero_le _, rfl⟩, fun _ hp => nomatch hp⟩
      simp [Std.Legacy.Range.size]
    case fin =>
      intro st s' hI
      obtain ⟨e1, rfl, e3⟩ := fin _ _ hI
      refine wpAny_bind (wpAny_of_eq (a := (#[] : Array UInt8)) rfl ?_)
      have hsum : ∀ (l : List (Array UInt8)) (k : Nat), l.foldl (fun x1 x2 => x1 + x2.size) k = k + (l.map (·.size)).sum := by
        intro l
        induction l with
        | nil => intro k; rfl
        | cons b l ih => intro k; rw [List.foldl_cons, ih, List.map_cons, List.sum_cons]; omega
      have hlong : Bytes.tooLong (st.1.foldl (fun x1 x2 => x1 + x2.size) ((#[] : Array UInt8).size * (st.1.size - 1))) = false := by
        refine KBy.tooLong_not ?_
        rw [← Array.foldl_toList, hsum, e1]
        show 0 * _ + _ ≤ _
        omega
      refine wpAny_ite (KBy.ite_no ?_ ?_)
      · rw [hlong]; exact Bool.false_ne_true
      refine wpAny_bind ?_
      show wpAny _ _ (mkBytes (Bytes.joined #[] st.1.toList)) _ _ _
      rw [e1]
      refine wpAny_mkBytes ?_ hsz
      refine wpAny_bind (wpAny_holding (wpAny_point ?_))
      refine wpAny_bind (letGo_join _ e3 ?_)
      exact wpAny_pure ⟨_, rfl, h _ _⟩
    case turn =>
      rintro x rest st s' ⟨rfl, ⟨i, h1, h2, h3⟩, h4⟩
      have hi : i < vs.length := by
        rcases Nat.lt_or_ge i vs.length with q | q
        · exact q
        · have : vs.length - i = 0 := by omega
          rw [this] at h1
          cases h1
      have hs : vs.length - i = (vs.length - (i + 1)) + 1 := by omega
      rw [hs, List.range'_succ] at h1
      injection h1 with hx hr
      subst hx
      obtain ⟨b, t1, hv, hbi⟩ := ba_get hb x hi
      have hg : vs.toArray.getD x Value.none = .bytes b t1 := by
        simp [Array.getD, hi]
        rw [List.getElem?_eq_getElem hi] at hv
        exact Option.some.inj hv
      refine wpAny_bind (wpAny_bind (wpAny_load ho (wpAny_pure ?_)))
      dsimp only
      rw [hg]
      refine wpAny_ite (KBy.ite_no ?_ ?_)
      · intro q
        rw [Bool.or_eq_true] at q
        rcases q with q | q
        · revert q; decide
        · obtain ⟨p, hp, hq⟩ := List.any_eq_true.mp q
          rw [(h4 p hp).2] at hq
          cases hq
      refine wpAny_bind (wpAny_holding (wpAny_of_eq takeQ_eq ?_))
      dsimp only
      refine wpAny_bind (wpAny_bind (wpAny_load ho (wpAny_pure ?_)))
      dsimp only
      refine wpAny_ite (KBy.ite_no ?_ ?_)
      · simp
      refine wpAny_pure ?_
      refine ⟨rfl, ⟨x + 1, hr, hi, ?_⟩, ?_⟩
      · rw [List.take_add_one, hbi]
        show (st.1.push b).toList = _
        rw [Array.toList_push, h3]
        rfl
      · intro p hp
        rcases List.mem_append.mp hp with hp | hp
        · exact h4 p hp
        · rw [List.mem_singleton.mp hp]
          exact ⟨rfl, rfl⟩
end Mine

namespace Mine
open PySem.Calls
open Builtin

theorem joinB_size (bs : List (Array UInt8)) : (joinB bs).size = (bs.map (·.size)).sum := by
  have go : ∀ (l : List (Array UInt8)) (k : Nat) (x : Array UInt8), ((l.zipIdx k).foldl (fun (out : Array UInt8) (p : Array UInt8 × Nat) => (if p.2 > 0 then out ++ #[] else out) ++ p.1) x).size = x.size + (l.map (·.size)).sum := by
    intro l
    induction l with
    | nil => intro k x; rfl
    | cons b l ih =>
      intro k x
      rw [List.zipIdx_cons, List.foldl_cons, ih, List.map_cons, List.sum_cons]
      have : (if (b, k).2 > 0 then x ++ #[] else x) = x := by split <;> simp
      rw [this, Array.size_append]
      show x.size + b.size + _ = x.size + (b.size + _)
      omega
  have := go bs 0 #[]
  simp only [List.size_toArray, List.length_nil, Nat.zero_add] at this
  exact this

theorem sum_le {bs : List (Array UInt8)} (h : ∀ b ∈ bs, b.size ≤ 5) : (bs.map (·.size)).sum ≤ 5 * bs.length := by
  induction bs with
  | nil => exact Nat.le_refl _
  | cons b bs ih =>
    have h1 := h b (.head _)
    have h2 := ih fun c hc => h c (.tail _ hc)
    rw [List.map_cons, List.sum_cons, List.length_cons]
    omega

section
variable {prog : Program} {w : World} {A : Around} {E : Value → Shared → Prop} {s : Shared} {h₀ h : Heap} {L D a : Addr} {m : Str → Option Value} {news news' : List (Addr × Obj)} {n k : Nat} {vs us : List Value} {bs : List (Array UInt8)} {t u : Tok} {b : Array UInt8}

theorem join_K {Q : Value → Shared → Prop} (N : News h₀ L s.heap news) (ha : (a, listOf vs.toArray n) ∈ news) (hb : BA vs bs) (hz : ∀ b ∈ bs, b.size ≤ 5) (hl : vs.length ≤ 200)
    (h : ∀ t' k, Q (.bytes (joinB bs) t') { s with toks := k }) : wpAny (model prog w) A (call (.builtin "bytes.join") [.bytes #[] t, .ref a]) Q E s := by
  have hs : (bs.map (·.size)).sum ≤ 1000 := Nat.le_trans (sum_le hz) (by rw [← hb.length]; omega)
  refine call_meets slot_join (typeIs_bytes _ _ _) entry_join (args_join _ _) (meets_join (n := n) hb (by omega)) ⟨N.get ha, ?_, h⟩
  rw [joinB_size, sizeLine_eq]; omega

theorem join_method {M : Model} {pl : Sem Bool} {Q : Value × List Value → Shared → Prop} (h : Q (.builtin "bytes.join", [.bytes b t]) s) : wpAny M A (getMethod (.bytes b t) (Str.ofString "join") pl) Q E s := by
  exact KBd.method_of (.bytes b t) (typeIs_bytes _ _ _) slot_join type_join KBd.noRef h

theorem append_S {x : Value} {Q : Value → Shared → Prop} (F : Fr h₀ L s.heap m) (N : News h₀ L s.heap news) (U : Upd D (listOf us.toArray n) (listOf (us ++ [x]).toArray (n + 1)) news news')
    (hsz : us.length ≤ 200) (h : ∀ h', Fr h₀ L h' m → News h₀ L h' news' → Q .none { s with heap := h' }) : wpAny (model prog w) A (call (.builtin "list.append") [.ref D, x]) Q E s := by
  refine append_K F N (its := us.toArray) (n := n) (news' := news') ?_ h ?_
  · rw [List.push_toArray]; exact U
  · rw [List.size_toArray, sizeLine_eq]; omega

theorem pop0_S {y : Value} {u : Tok} {Q : Value → Shared → Prop} (F : Fr h₀ L s.heap m) (N : News h₀ L s.heap news) (U : Upd D (listOf (y :: us).toArray n) (listOf us.toArray (n + 1)) news news')
    (hsz : us.length ≤ 200) (h : ∀ h', Fr h₀ L h' m → News h₀ L h' news' → Q y { s with heap := h' }) : wpAny (model prog w) A (call (.builtin "list.pop") [.ref D, .int 0 u]) Q E s := by
  refine kl_popAt (its := (y :: us).toArray) (k := 0) (p := []) (q := us) (y := y) F N rfl ?_ rfl U ?_ h
  · simp [seqIndex?]
  · show us.length + 1 ≤ _
    rw [sizeLine_eq]; omega

theorem insert0_S {y : Value} {u : Tok} {Q : Value → Shared → Prop} (F : Fr h₀ L s.heap m) (N : News h₀ L s.heap news) (U : Upd D (listOf us.toArray n) (listOf (y :: us).toArray (n + 1)) news news')
    (hsz : us.length ≤ 200) (h : ∀ h', Fr h₀ L h' m → News h₀ L h' news' → Q .none { s with heap := h' }) : wpAny (model prog w) A (call (.builtin "list.insert") [.ref D, .int 0 u, y]) Q E s := by
  refine kl_insert (its := us.toArray) F N rfl ?_ U ?_ h
  · unfold kl_ins
    simp
  · show us.length ≤ _
    rw [sizeLine_eq]; omega

theorem truthy_S {Q : Bool → Shared → Prop} (N : News h₀ L s.heap news) (ha : (a, listOf us.toArray n) ∈ news) (hsz : us.length ≤ 200) (h : ∀ k, Q (!us.isEmpty) { s with toks := k }) : wpAny (model prog w) A (truthy (.ref a)) Q E s := by
  refine wpAny_truthy_list (items := us.toArray) ⟨_, N.get ha, rfl, _, rfl⟩ (by rw [List.size_toArray]; omega) ?_
  have e : us.toArray.isEmpty = us.isEmpty := by
    cases us <;> simp
  rw [e]
  exact h _

theorem truthy_cons {y : Value} {Q : Bool → Shared → Prop} (N : News h₀ L s.heap news) (ha : (a, listOf (y :: us).toArray n) ∈ news) (hsz : us.length ≤ 190) (h : ∀ k, Q true { s with toks := k }) : wpAny (model prog w) A (truthy (.ref a)) Q E s :=
  truthy_S N ha (by rw [List.length_cons]; omega) fun k => h k
theorem truthy_nil {Q : Bool → Shared → Prop} (N : News h₀ L s.heap news) (ha : (a, listOf #[] n) ∈ news) (h : ∀ k, Q false { s with toks := k }) : wpAny (model prog w) A (truthy (.ref a)) Q E s :=
  truthy_S (us := []) N ha (Nat.zero_le _) fun k => h k

theorem len_S {Q : Value → Shared → Prop} (hz : b.size ≤ 200) (h : ∀ t' k, Q (.int b.size t') { s with toks := k }) : wpAny (model prog w) A (call (.builtin "len") [.bytes b t]) Q E s :=
  len_bytes (by omega) (h _ _)

theorem slice_S {value slice : PySem.Expr} {l u : Value} {lo hi : Option Int} {Q : Value → Shared → Prop} (hF : Fr h₀ L s.heap m) (hN : News h₀ L s.heap news) (hl : IsPart l lo) (hu : IsPart u hi) (hz : b.size ≤ 200)
    (h : ∀ h' t' k, Fr h₀ L h' m → News h₀ L h' news → Q (.bytes (KBy.picked b lo hi) t') { s with heap := h', toks := k })
    (hs : subscripted slice false (.bytes b t) (.ref s.heap.objs.size) = operate [.ref s.heap.objs.size, .bytes b t] (getItem (.bytes b t) (.ref s.heap.objs.size)) := by with_unfolding_all rfl)
    (ht : ∀ r, letTemporaryGo value (.bytes b t) r = pure () := by intro _; with_unfolding_all rfl) :
    wpAny (model prog w) A (subscriptTail value slice (.bytes b t) (.ref s.heap.objs.size)) Q E { s with heap := s.heap.push { cls := .type "slice", data := .fields #[l, u, .none] } } :=
  KBc.slice_K hF hN rfl hl hu (by rw [KBw.ints_length]; omega) (fun h' t' k F' N' _ => h h' t' k F' N') hs ht
end
end Mine

namespace Mine
open PySem.Calls
open Builtin PySem.SeqAt PySem.MeetsSeq

theorem eqGives_bytes (b c : Array UInt8) (t u : Tok) : EqGives (.bytes b t) (.bytes c u) (decide (b = c)) := by
  intro prog w A E s Q h
  unfold eqBool
  refine wpAny_holding ?_
  refine wpAny_ite_split (fun hab => ?_) (fun hab => ?_)
  · have e : b = c := by have := eq_of_beq hab; injection this
    subst e
    exact wpAny_bind (wpAny_rule (wpAny_pure (by simpa using h)))
  · have e : decide (b = c) = (b.toList == c.toList) := by
      by_cases q : b = c
      · subst q; simp
      · have q' : ¬ b.toList = c.toList := fun x => q (Array.toList_inj.mp x)
        rw [decide_eq_false q]
        exact (beq_eq_false_iff_ne.mpr q').symm
    rw [e] at h
    exact wpAny_bind (show wpAny _ _ (compareOp .Eq _ _) _ _ _ from eq_bytes (wpAny_truthy_bool h))

theorem ba_all : ∀ {vs ws : List Value} {bs cs : List (Array UInt8)}, BA vs bs → BA ws cs → vs.length = ws.length →
    (List.range vs.length).all (fun j => decide (bs[j]? = cs[j]?)) = decide (bs = cs) := by
  intro vs ws bs cs h1 h2 hl
  have l1 := h1.length
  have l2 := h2.length
  by_cases q : bs = cs
  · subst q
    rw [decide_eq_true rfl, List.all_eq_true]
    intro j _
    exact decide_eq_true rfl
  · rw [decide_eq_false q, Bool.eq_false_iff]
    intro hall
    refine q (List.ext_getElem? fun j => ?_)
    rcases Nat.lt_or_ge j vs.length with hj | hj
    · exact of_decide_eq_true (List.all_eq_true.mp hall j (List.mem_range.mpr hj))
    · rw [List.getElem?_eq_none (by omega), List.getElem?_eq_none (by omega)]

section
variable {prog : Program} {w : World} {A : Around} {E : Value → Shared → Prop} {s : Shared} {h₀ : Heap} {L a c : Addr} {news : List (Addr × Obj)} {n k : Nat} {vs ws : List Value} {bs cs : List (Array UInt8)} {Q : Value → Shared → Prop}

theorem ba_eqAt (hb : BA vs bs) (hc : BA ws cs) (j : Nat) (h1 : j < vs.toArray.size) (h2 : j < ws.toArray.size) (A : Around) (s : Shared) : EqAt A s (vs.toArray[j]) (ws.toArray[j]) (decide (bs[j]? = cs[j]?)) := by
  have h1' : j < vs.length := by simpa using h1
  have h2' : j < ws.length := by simpa using h2
  obtain ⟨b, t, e1, e2⟩ := ba_get hb j h1'
  obtain ⟨d, u, e3, e4⟩ := ba_get hc j h2'
  have f1 : vs.toArray[j] = .bytes b t := by
    rw [List.getElem?_eq_getElem h1'] at e1
    simpa using Option.some.inj e1
  have f2 : ws.toArray[j] = .bytes d u := by
    rw [List.getElem?_eq_getElem h2'] at e3
    simpa using Option.some.inj e3
  rw [f1, f2, e2, e4]
  have e : decide (some b = some d) = decide (b = d) := by simp
  rw [e]
  exact (eqGives_bytes b d t u).at A s

theorem eq_BA (N : News h₀ L s.heap news) (ma : (a, listOf vs.toArray n) ∈ news) (mb : (c, listOf ws.toArray k) ∈ news) (hb : BA vs bs) (hc : BA ws cs) (hu : A.units + 64 < cLine) (h : Q (.bool (decide (bs = cs))) s) :
    wpAny (model prog w) A (compareOp .Eq (.ref a) (.ref c)) Q E s := by
  have hl : s.heap.IsList a vs.toArray := ⟨_, N.get ma, rfl, _, rfl⟩
  have hl2 : s.heap.IsList c ws.toArray := ⟨_, N.get mb, rfl, _, rfl⟩
  have l1 := hb.length
  have l2 := hc.length
  by_cases hs : vs.length = ws.length
  · refine eq_listAt (e := fun j => decide (bs[j]? = cs[j]?)) hl hl2 (by simpa using hs) (by omega) (fun j h1 h2 => ba_eqAt hb hc j h1 h2 _ _) ?_
    rw [List.size_toArray, ba_all hb hc hs]
    exact h
  · have q : ¬ bs = cs := fun e => hs (by rw [l1, l2, e])
    refine eq_list_lengthsAt hl hl2 (by simpa using hs) (by omega) ?_
    rw [decide_eq_false q] at h
    exact h

theorem ne_BA (N : News h₀ L s.heap news) (ma : (a, listOf vs.toArray n) ∈ news) (mb : (c, listOf ws.toArray k) ∈ news) (hb : BA vs bs) (hc : BA ws cs) (hu : A.units + 64 < cLine) (h : Q (.bool (!decide (bs = cs))) s) :
    wpAny (model prog w) A (compareOp .NotEq (.ref a) (.ref c)) Q E s := by
  have hl : s.heap.IsList a vs.toArray := ⟨_, N.get ma, rfl, _, rfl⟩
  have hl2 : s.heap.IsList c ws.toArray := ⟨_, N.get mb, rfl, _, rfl⟩
  have l1 := hb.length
  have l2 := hc.length
  by_cases hs : vs.length = ws.length
  · refine RcNeAt.lists (e := fun j => decide (bs[j]? = cs[j]?)) hl hl2 (by simpa using hs) (by omega) (fun j h1 h2 => ba_eqAt hb hc j h1 h2 _ _) prog w E Q ?_
    rw [List.size_toArray, ba_all hb hc hs]
    exact h
  · have q : ¬ bs = cs := fun e => hs (by rw [l1, l2, e])
    refine RcNeAt.lists_lengths hl hl2 (by simpa using hs) (by omega) prog w E Q ?_
    rw [decide_eq_false q] at h
    exact h
theorem eq_BAt (N : News h₀ L s.heap news) (ma : (a, listOf vs.toArray n) ∈ news) (mb : (c, listOf ws.toArray k) ∈ news) (hb : BA vs bs) (hc : BA ws bs) (hu : A.units + 64 < cLine) (h : Q (.bool true) s) :
    wpAny (model prog w) A (compareOp .Eq (.ref a) (.ref c)) Q E s := eq_BA N ma mb hb hc hu (by rw [decide_eq_true rfl]; exact h)
theorem ne_BAt (N : News h₀ L s.heap news) (ma : (a, listOf vs.toArray n) ∈ news) (mb : (c, listOf ws.toArray k) ∈ news) (hb : BA vs bs) (hc : BA ws bs) (hu : A.units + 64 < cLine) (h : Q (.bool false) s) :
    wpAny (model prog w) A (compareOp .NotEq (.ref a) (.ref c)) Q E s := ne_BA N ma mb hb hc hu (by rw [decide_eq_true rfl]; exact h)
theorem eq_BAn {b : Array UInt8} {y : Value} (N : News h₀ L s.heap news) (ma : (a, listOf (y :: vs).toArray n) ∈ news) (mb : (c, listOf #[] k) ∈ news) (hb : BA (y :: vs) (b :: bs)) (hu : A.units + 64 < cLine) (h : Q (.bool false) s) :
    wpAny (model prog w) A (compareOp .Eq (.ref a) (.ref c)) Q E s := eq_BA (ws := []) N ma mb hb .nil hu (by rw [decide_eq_false (List.cons_ne_nil _ _)]; exact h)
end
end Mine

namespace Mine
open PySem.Calls
open Builtin

theorem pick1 (y : Value) (us : List Value) : (slicePick (y :: us).toArray (some 1) none none).toList = us := by
  have e : sliceBounds (some 1) none none (y :: us).toArray.size = (((1 : Nat) : Int), (((y :: us).length : Nat) : Int), 1) := by
    simp [sliceBounds]
    omega
  rw [kmk_pick_nat _ e]
  simp

section
variable {prog : Program} {w : World} {A : Around} {E : Value → Shared → Prop} {s : Shared} {h₀ : Heap} {L a c D : Addr} {m : Str → Option Value} {news news' : List (Addr × Obj)} {n k : Nat} {vs ws us : List Value} {Q : Value → Shared → Prop}

theorem slice1_S {value slice : PySem.Expr} {y : Value} {t : Tok} (F : Fr h₀ L s.heap m) (N : News h₀ L s.heap news) (ha : (a, listOf (y :: us).toArray n) ∈ news) (hz : us.length ≤ 200)
    (h : ∀ D h', Fr h₀ L h' m → News h₀ L h' ((D, listOf us.toArray 0) :: news) → (∀ p ∈ news, p.1 < D) → Q (.ref D) { s with heap := h' })
    (hs : subscripted slice false (.ref a) (.ref s.heap.objs.size) = operate [.ref s.heap.objs.size, .ref a] (getItem (.ref a) (.ref s.heap.objs.size))) (ht : ∀ r, letTemporaryGo value (.ref a) r = pure ()) :
    wpAny (model prog w) A (subscriptTail value slice (.ref a) (.ref s.heap.objs.size)) Q E { s with heap := s.heap.push { cls := .type "slice", data := .fields #[.int 1 t, .none, .none] } } :=
  kmk_slice_lit F N ⟨_, N.get ha, rfl, _, rfl⟩ (.int 1 t) .none (pick1 y us) h hs ht (by rw [List.size_toArray, List.length_cons, sizeLine_eq]; omega)

theorem cat_S (F : Fr h₀ L s.heap m) (N : News h₀ L s.heap news) (ha : (a, listOf vs.toArray n) ∈ news) (hb : (c, listOf ws.toArray k) ∈ news) (hz : vs.length ≤ 200) (hz2 : ws.length ≤ 200)
    (h : ∀ D h', Fr h₀ L h' m → News h₀ L h' ((D, listOf (vs ++ ws).toArray 0) :: news) → (∀ p ∈ news, p.1 < D) → Q (.ref D) { s with heap := h' }) : wpAny (model prog w) A (binaryOp .Add (.ref a) (.ref c)) Q E s :=
  kmk_add_lit F N ⟨_, N.get ha, rfl, _, rfl⟩ ⟨_, N.get hb, rfl, _, rfl⟩ rfl h (by rw [sizeLine_eq]; show vs.length + ws.length ≤ _; omega)

theorem item_S {value slice : PySem.Expr} {k : Int} {u : Tok} {v : Value} (N : News h₀ L s.heap news) (ha : (a, listOf vs.toArray n) ∈ news) (h0 : 0 ≤ k) (hhi : k ≤ 1000) (hx : vs[k.toNat]? = some v) (h : Q v s)
    (hs : subscripted slice false (.ref a) (.int k u) = operate [.ref a, .int k u] (getItem (.ref a) (.int k u)) := by with_unfolding_all rfl) :
    wpAny (model prog w) A (subscriptTail value slice (.ref a) (.int k u)) Q E s :=
  item_litK ⟨_, N.get ha, rfl, _, rfl⟩ h0 (by omega) hx h hs
end
end Mine

namespace Mine

/-- what read gives, and what it leaves, of a row of parts -/
def toldB (bs : List (Array UInt8)) (size : Int) : Array UInt8 :=
  if size < 0 then joinB bs else match bs with
    | [] => #[]
    | b :: _ => KBy.picked b none (some size)
def stayB (bs : List (Array UInt8)) (size : Int) : List (Array UInt8) :=
  if size < 0 then [] else match bs with
    | [] => []
    | b :: r => if size < (b.size : Int) then KBy.picked b (some size) none :: r else r
theorem allLt_to {d : Addr} : ∀ {l : List (Addr × Obj)}, AllLt d l → ∀ p ∈ l, @LT.lt Nat _ p.1 d
  | [], _, _, h => nomatch h
  | _ :: _, h, _, hp => (List.mem_cons.mp hp).elim (fun e => e ▸ h.1) fun hp => allLt_to h.2 _ hp
local macro_rules | `(tactic| walk_at "getMethod bytes") => `(tactic| (k_here; (with_reducible show wpAny _ _ (getMethod (Value.bytes _ _) (PySem.Str.ofString "join") _) _ _ _); refine join_method ?_))
local macro_rules | `(tactic| walk_at "call builtin:bytes.join") => `(tactic| (k_here; k_dflt (refine' join_K ?N ?a ?b ?z ?l ?_; (case N => k_asm); (case a => k_mem); (case b => k_asm); (case z => k_asm); (case l => first | assumption | omega); k_whole); intro _ _))
local macro_rules | `(tactic| walk_at "call builtin:list.append") => `(tactic| (k_here; (with_reducible show wpAny _ _ (call (Value.builtin _) [Value.ref _, _]) _ _ _); k_dflt (refine' append_S ?k1 ?k2 ?k3 ?z ?_; (case k1 => k_asm); (case k2 => k_asm); (case k3 => k_upd); (case z => first | assumption | omega); k_whole); intro h' F' N'; (try k_sweep)))
local macro_rules | `(tactic| walk_at "call builtin:list.pop") => `(tactic| (k_here; (with_reducible show wpAny _ _ (call (Value.builtin _) [Value.ref _, Value.int 0 _]) _ _ _); k_dflt (refine' pop0_S ?k1 ?k2 ?k3 ?z ?_; (case k1 => k_asm); (case k2 => k_asm); (case k3 => k_upd); (case z => first | assumption | omega); k_whole); intro h' F' N'; (try k_sweep)))
local macro_rules | `(tactic| walk_at "call builtin:list.insert") => `(tactic| (k_here; (with_reducible show wpAny _ _ (call (Value.builtin _) [Value.ref _, Value.int 0 _, _]) _ _ _); k_dflt (refine' insert0_S ?k1 ?k2 ?k3 ?z ?_; (case k1 => k_asm); (case k2 => k_asm); (case k3 => k_upd); (case z => first | assumption | omega); k_whole); intro h' F' N'; (try k_sweep)))
local macro_rules | `(tactic| walk_at "truthy ref") => `(tactic| (k_here; k_dflt (first
  | (refine' truthy_cons ?N ?a ?l ?_; (case N => k_asm); (case a => k_mem); (case l => first | assumption | omega); k_whole)
  | (refine' truthy_nil ?N ?a ?_; (case N => k_asm); (case a => k_mem); k_whole)); intro _))
local macro_rules | `(tactic| walk_at "call builtin:len") => `(tactic| (k_here; (with_reducible show wpAny _ _ (call (Value.builtin "len") [Value.bytes _ _]) _ _ _); refine' len_S ?z ?_; (case z => first | assumption | omega); intro _ _))
local macro_rules | `(tactic| walk_at "subscriptTail") => `(tactic| (k_here; (with_reducible show wpAny _ _ (subscriptTail _ (Expr.Slice _ _ none _) (Value.bytes _ _) (Value.ref _)) _ _ _); (with_reducible rename Fr _ _ _ _ => F'); (with_reducible rename News _ _ _ _ => N'); (refine slice_S (s := ⟨_, _, _, _, _⟩) F' N' (by constructor) (by constructor) (by first | assumption | omega) ?_); intro _ _ _ F' N'; (try k_sweep)))
local macro_rules | `(tactic| k_ne) => `(tactic| ((try dsimp only); first | with_reducible assumption | exact Ne.symm (by with_reducible assumption)))
theorem read_neg : ∀ (w : World) (s₀ s : Shared) (mg mb : Str → Option Value) (h₀ : Heap) (L fa w9 : Addr) (w8 : Obj) (cd : Value) (m : Str → Option Value)
  (x d P Aq : Addr) (k1 k2 n k : Nat) (vs us : List Value) (rest : List (Addr × Obj)) (size : Int) (t : Tok) (bs : List (Array UInt8)) (R : Result → Shared → Prop),
  Below callerA h₀ [] h₀ → (hd.heap_39 w.params).In h₀ → Top hd.view_39 (looseW hd.view_39 []) (ExcName.means s₀.heap) mg mb h₀ →
  Glob 0 mg mb (List.map itemOf (recsOf hd.view_39)) (scalarsOf [] ++ constsW hd.view_39) [] (namesW hd.view_39 []) h₀ →
  BMod h₀ mainGlobals mg w9 w8 →
  Fr h₀ L s.heap m →
  News h₀ L s.heap ((x, instObj 46 d) :: (d, dictOf [{ hash := PyData.keyHash w.params (Str.ofString "parts"), key := Value.str (Str.ofString "parts") k1, val := Value.ref P }, { hash := PyData.keyHash w.params (Str.ofString "asked"), key := Value.str (Str.ofString "asked") k2, val := Value.ref Aq }] 2) :: (P, listOf vs.toArray n) :: (Aq, listOf us.toArray k) :: rest) →
  OwnOff rest [x, d, P, Aq] → x ≠ d → x ≠ P → x ≠ Aq → d ≠ P → d ≠ Aq → P ≠ Aq → BA vs bs → us.length ≤ 100 → vs.length ≤ 100 → (∀ b ∈ bs, b.size ≤ 5) →
  (∀ h' tk tt P' n' k' vs', Fr h₀ L h' m → News h₀ L h' ((x, instObj 46 d) :: (d, dictOf [{ hash := PyData.keyHash w.params (Str.ofString "parts"), key := Value.str (Str.ofString "parts") k1, val := Value.ref P' }, { hash := PyData.keyHash w.params (Str.ofString "asked"), key := Value.str (Str.ofString "asked") k2, val := Value.ref Aq }] 2) :: (P', listOf vs'.toArray n') :: (Aq, listOf (us ++ [Value.int size t]).toArray k') :: rest) →
    BA vs' (stayB bs size) → (P' = P ∨ AllLt P' ((x, instObj 46 d) :: (d, instObj 46 d) :: (P, instObj 46 d) :: (Aq, instObj 46 d) :: rest)) →
    R (Except.ok (Flow.ret (Value.bytes (toldB bs size) tt))) { heap := h', gens := s.gens, drawn := s.drawn, toks := tk, os := s.os }) →
  size < 0 →
  codeAny (model PySem.Challenge.rw_ag6001_01.row.prog w) (lawA L fa cd) (.call (.ref 36) ⟨[.ref x, .int size t], []⟩) R s := by
  w_top off
  k_fill
  intro w s₀ s mg mb h₀ L fa w9 w8 cd m x d P Aq k1 k2 n k vs us rest size t bs R B' X' T' GL M F' N' hoff n1 n2 n3 n4 n5 n6 hb hu hv hz hR hs
  have e1 : toldB bs size = joinB bs := if_pos hs
  have e2 : stayB bs size = [] := if_pos hs
  rw [e1, e2] at hR
  k_enter
  k_steps
  refine' hR _ _ _ ?P9 ?n9 ?k9 [] ?a9 ?b9 ?c9 ?d9
  (case a9 => assumption)
  (case b9 => exact kst_newsOf (by assumption) (by kqd_sub))
  (case c9 => exact .nil)
  (case d9 => right; assumption)
theorem read_nil : ∀ (w : World) (s₀ s : Shared) (mg mb : Str → Option Value) (h₀ : Heap) (L fa w9 : Addr) (w8 : Obj) (cd : Value) (m : Str → Option Value)
  (x d P Aq : Addr) (k1 k2 n k : Nat) (vs us : List Value) (rest : List (Addr × Obj)) (size : Int) (t : Tok) (bs : List (Array UInt8)) (R : Result → Shared → Prop),
  Below callerA h₀ [] h₀ → (hd.heap_39 w.params).In h₀ → Top hd.view_39 (looseW hd.view_39 []) (ExcName.means s₀.heap) mg mb h₀ →
  Glob 0 mg mb (List.map itemOf (recsOf hd.view_39)) (scalarsOf [] ++ constsW hd.view_39) [] (namesW hd.view_39 []) h₀ →
  BMod h₀ mainGlobals mg w9 w8 →
  Fr h₀ L s.heap m →
  News h₀ L s.heap ((x, instObj 46 d) :: (d, dictOf [{ hash := PyData.keyHash w.params (Str.ofString "parts"), key := Value.str (Str.ofString "parts") k1, val := Value.ref P }, { hash := PyData.keyHash w.params (Str.ofString "asked"), key := Value.str (Str.ofString "asked") k2, val := Value.ref Aq }] 2) :: (P, listOf vs.toArray n) :: (Aq, listOf us.toArray k) :: rest) →
  OwnOff rest [x, d, P, Aq] → x ≠ d → x ≠ P → x ≠ Aq → d ≠ P → d ≠ Aq → P ≠ Aq → BA vs bs → us.length ≤ 100 → vs.length ≤ 100 → (∀ b ∈ bs, b.size ≤ 5) →
  (∀ h' tk tt P' n' k' vs', Fr h₀ L h' m → News h₀ L h' ((x, instObj 46 d) :: (d, dictOf [{ hash := PyData.keyHash w.params (Str.ofString "parts"), key := Value.str (Str.ofString "parts") k1, val := Value.ref P' }, { hash := PyData.keyHash w.params (Str.ofString "asked"), key := Value.str (Str.ofString "asked") k2, val := Value.ref Aq }] 2) :: (P', listOf vs'.toArray n') :: (Aq, listOf (us ++ [Value.int size t]).toArray k') :: rest) →
    BA vs' (stayB bs size) → (P' = P ∨ AllLt P' ((x, instObj 46 d) :: (d, instObj 46 d) :: (P, instObj 46 d) :: (Aq, instObj 46 d) :: rest)) →
    R (Except.ok (Flow.ret (Value.bytes (toldB bs size) tt))) { heap := h', gens := s.gens, drawn := s.drawn, toks := tk, os := s.os }) →
  (0 ≤ size ∧ vs = [] ∧ bs = []) →
  codeAny (model PySem.Challenge.rw_ag6001_01.row.prog w) (lawA L fa cd) (.call (.ref 36) ⟨[.ref x, .int size t], []⟩) R s := by
  w_top off
  k_fill
  intro w s₀ s mg mb h₀ L fa w9 w8 cd m x d P Aq k1 k2 n k vs us rest size t bs R B' X' T' GL M F' N' hoff n1 n2 n3 n4 n5 n6 hb hu hv hz hR hs
  obtain ⟨hs, rfl, rfl⟩ := hs
  have e3 : KBy.picked #[] none (some size) = #[] := by
    rw [KBc.picked_eq]
    simp
  have e1 : toldB [] size = KBy.picked #[] none (some size) := by unfold toldB; rw [if_neg (by omega), e3]
  have e2 : stayB [] size = [] := by unfold stayB; rw [if_neg (by omega)]
  rw [e1, e2] at hR
  have hz0 : (#[] : Array UInt8).size ≤ 5 := Nat.zero_le _
  have hsl : ¬ (((#[] : Array UInt8).size : Int) > size) := by
    show ¬ ((0 : Nat) : Int) > size
    omega
  k_enter
  k_steps
  refine' hR _ _ _ ?P9 ?n9 ?k9 [] ?a9 ?b9 ?c9 ?d9
  (case a9 => assumption)
  (case b9 => exact kst_newsOf (by assumption) (by kqd_sub))
  (case c9 => exact .nil)
  (case d9 => left; rfl)
theorem read_big : ∀ (w : World) (s₀ s : Shared) (mg mb : Str → Option Value) (h₀ : Heap) (L fa w9 : Addr) (w8 : Obj) (cd : Value) (m : Str → Option Value)
  (x d P Aq : Addr) (k1 k2 n k : Nat) (vs us : List Value) (rest : List (Addr × Obj)) (size : Int) (t : Tok) (bs : List (Array UInt8)) (R : Result → Shared → Prop),
  Below callerA h₀ [] h₀ → (hd.heap_39 w.params).In h₀ → Top hd.view_39 (looseW hd.view_39 []) (ExcName.means s₀.heap) mg mb h₀ →
  Glob 0 mg mb (List.map itemOf (recsOf hd.view_39)) (scalarsOf [] ++ constsW hd.view_39) [] (namesW hd.view_39 []) h₀ →
  BMod h₀ mainGlobals mg w9 w8 →
  Fr h₀ L s.heap m →
  News h₀ L s.heap ((x, instObj 46 d) :: (d, dictOf [{ hash := PyData.keyHash w.params (Str.ofString "parts"), key := Value.str (Str.ofString "parts") k1, val := Value.ref P }, { hash := PyData.keyHash w.params (Str.ofString "asked"), key := Value.str (Str.ofString "asked") k2, val := Value.ref Aq }] 2) :: (P, listOf vs.toArray n) :: (Aq, listOf us.toArray k) :: rest) →
  OwnOff rest [x, d, P, Aq] → x ≠ d → x ≠ P → x ≠ Aq → d ≠ P → d ≠ Aq → P ≠ Aq → BA vs bs → us.length ≤ 100 → vs.length ≤ 100 → (∀ b ∈ bs, b.size ≤ 5) →
  (∀ h' tk tt P' n' k' vs', Fr h₀ L h' m → News h₀ L h' ((x, instObj 46 d) :: (d, dictOf [{ hash := PyData.keyHash w.params (Str.ofString "parts"), key := Value.str (Str.ofString "parts") k1, val := Value.ref P' }, { hash := PyData.keyHash w.params (Str.ofString "asked"), key := Value.str (Str.ofString "asked") k2, val := Value.ref Aq }] 2) :: (P', listOf vs'.toArray n') :: (Aq, listOf (us ++ [Value.int size t]).toArray k') :: rest) →
    BA vs' (stayB bs size) → (P' = P ∨ AllLt P' ((x, instObj 46 d) :: (d, instObj 46 d) :: (P, instObj 46 d) :: (Aq, instObj 46 d) :: rest)) →
    R (Except.ok (Flow.ret (Value.bytes (toldB bs size) tt))) { heap := h', gens := s.gens, drawn := s.drawn, toks := tk, os := s.os }) →
  ∀ (b : Array UInt8) (t1 : Tok) (vr : List Value) (br : List (Array UInt8)), (0 ≤ size ∧ size < (b.size : Int) ∧ vs = .bytes b t1 :: vr ∧ bs = b :: br) →
  codeAny (model PySem.Challenge.rw_ag6001_01.row.prog w) (lawA L fa cd) (.call (.ref 36) ⟨[.ref x, .int size t], []⟩) R s := by
  w_top off
  k_fill
  intro w s₀ s mg mb h₀ L fa w9 w8 cd m x d P Aq k1 k2 n k vs us rest size t bs R B' X' T' GL M F' N' hoff n1 n2 n3 n4 n5 n6 hb hu hv hz hR b t1 vr br hs
  obtain ⟨hs, hsl, rfl, rfl⟩ := hs
  have e1 : toldB (b :: br) size = KBy.picked b none (some size) := by unfold toldB; rw [if_neg (by omega)]
  have e2 : stayB (b :: br) size = KBy.picked b (some size) none :: br := by unfold stayB; rw [if_neg (by omega)]; exact if_pos hsl
  rw [e1, e2] at hR
  have hz0 : b.size ≤ 5 := hz b (.head _)
  cases hb with
  | cons hbr => 
  rw [List.length_cons] at hv
  k_enter
  k_steps
  refine' hR _ _ _ ?P9 ?n9 ?k9 ?v9 ?a9 ?b9 ?c9 ?d9
  (case a9 => assumption)
  (case b9 => exact kst_newsOf (by assumption) (by kqd_sub))
  (case c9 => exact .cons hbr)
  (case d9 => left; rfl)
theorem read_small : ∀ (w : World) (s₀ s : Shared) (mg mb : Str → Option Value) (h₀ : Heap) (L fa w9 : Addr) (w8 : Obj) (cd : Value) (m : Str → Option Value)
  (x d P Aq : Addr) (k1 k2 n k : Nat) (vs us : List Value) (rest : List (Addr × Obj)) (size : Int) (t : Tok) (bs : List (Array UInt8)) (R : Result → Shared → Prop),
  Below callerA h₀ [] h₀ → (hd.heap_39 w.params).In h₀ → Top hd.view_39 (looseW hd.view_39 []) (ExcName.means s₀.heap) mg mb h₀ →
  Glob 0 mg mb (List.map itemOf (recsOf hd.view_39)) (scalarsOf [] ++ constsW hd.view_39) [] (namesW hd.view_39 []) h₀ →
  BMod h₀ mainGlobals mg w9 w8 →
  Fr h₀ L s.heap m →
  News h₀ L s.heap ((x, instObj 46 d) :: (d, dictOf [{ hash := PyData.keyHash w.params (Str.ofString "parts"), key := Value.str (Str.ofString "parts") k1, val := Value.ref P }, { hash := PyData.keyHash w.params (Str.ofString "asked"), key := Value.str (Str.ofString "asked") k2, val := Value.ref Aq }] 2) :: (P, listOf vs.toArray n) :: (Aq, listOf us.toArray k) :: rest) →
  OwnOff rest [x, d, P, Aq] → x ≠ d → x ≠ P → x ≠ Aq → d ≠ P → d ≠ Aq → P ≠ Aq → BA vs bs → us.length ≤ 100 → vs.length ≤ 100 → (∀ b ∈ bs, b.size ≤ 5) →
  (∀ h' tk tt P' n' k' vs', Fr h₀ L h' m → News h₀ L h' ((x, instObj 46 d) :: (d, dictOf [{ hash := PyData.keyHash w.params (Str.ofString "parts"), key := Value.str (Str.ofString "parts") k1, val := Value.ref P' }, { hash := PyData.keyHash w.params (Str.ofString "asked"), key := Value.str (Str.ofString "asked") k2, val := Value.ref Aq }] 2) :: (P', listOf vs'.toArray n') :: (Aq, listOf (us ++ [Value.int size t]).toArray k') :: rest) →
    BA vs' (stayB bs size) → (P' = P ∨ AllLt P' ((x, instObj 46 d) :: (d, instObj 46 d) :: (P, instObj 46 d) :: (Aq, instObj 46 d) :: rest)) →
    R (Except.ok (Flow.ret (Value.bytes (toldB bs size) tt))) { heap := h', gens := s.gens, drawn := s.drawn, toks := tk, os := s.os }) →
  ∀ (b : Array UInt8) (t1 : Tok) (vr : List Value) (br : List (Array UInt8)), (0 ≤ size ∧ (b.size : Int) ≤ size ∧ vs = .bytes b t1 :: vr ∧ bs = b :: br) →
  codeAny (model PySem.Challenge.rw_ag6001_01.row.prog w) (lawA L fa cd) (.call (.ref 36) ⟨[.ref x, .int size t], []⟩) R s := by
  w_top off
  k_fill
  intro w s₀ s mg mb h₀ L fa w9 w8 cd m x d P Aq k1 k2 n k vs us rest size t bs R B' X' T' GL M F' N' hoff n1 n2 n3 n4 n5 n6 hb hu hv hz hR b t1 vr br hs
  obtain ⟨hs, hsl, rfl, rfl⟩ := hs
  have e1 : toldB (b :: br) size = KBy.picked b none (some size) := by unfold toldB; rw [if_neg (by omega)]
  have e2 : stayB (b :: br) size = br := by unfold stayB; rw [if_neg (by omega)]; exact if_neg (by omega)
  rw [e1, e2] at hR
  have hz0 : b.size ≤ 5 := hz b (.head _)
  cases hb with
  | cons hbr => 
  rw [List.length_cons] at hv
  k_enter
  k_steps
  refine' hR _ _ _ ?P9 ?n9 ?k9 ?v9 ?a9 ?b9 ?c9 ?d9
  (case a9 => assumption)
  (case b9 => exact kst_newsOf (by assumption) (by kqd_sub))
  (case c9 => exact hbr)
  (case d9 => left; rfl)
theorem read_dflt : ∀ (w : World) (s₀ s : Shared) (mg mb : Str → Option Value) (h₀ : Heap) (L fa w9 : Addr) (w8 : Obj) (cd : Value) (m : Str → Option Value)
  (x d P Aq : Addr) (k1 k2 n k : Nat) (vs us : List Value) (rest : List (Addr × Obj)) (bs : List (Array UInt8)) (R : Result → Shared → Prop),
  Below callerA h₀ [] h₀ → (hd.heap_39 w.params).In h₀ → Top hd.view_39 (looseW hd.view_39 []) (ExcName.means s₀.heap) mg mb h₀ →
  Glob 0 mg mb (List.map itemOf (recsOf hd.view_39)) (scalarsOf [] ++ constsW hd.view_39) [] (namesW hd.view_39 []) h₀ →
  BMod h₀ mainGlobals mg w9 w8 →
  Fr h₀ L s.heap m →
  News h₀ L s.heap ((x, instObj 46 d) :: (d, dictOf [{ hash := PyData.keyHash w.params (Str.ofString "parts"), key := Value.str (Str.ofString "parts") k1, val := Value.ref P }, { hash := PyData.keyHash w.params (Str.ofString "asked"), key := Value.str (Str.ofString "asked") k2, val := Value.ref Aq }] 2) :: (P, listOf vs.toArray n) :: (Aq, listOf us.toArray k) :: rest) →
  OwnOff rest [x, d, P, Aq] → x ≠ d → x ≠ P → x ≠ Aq → d ≠ P → d ≠ Aq → P ≠ Aq → BA vs bs → us.length ≤ 100 → vs.length ≤ 100 → (∀ b ∈ bs, b.size ≤ 5) →
  (∀ h' tk tt P' n' k' vs', Fr h₀ L h' m → News h₀ L h' ((x, instObj 46 d) :: (d, dictOf [{ hash := PyData.keyHash w.params (Str.ofString "parts"), key := Value.str (Str.ofString "parts") k1, val := Value.ref P' }, { hash := PyData.keyHash w.params (Str.ofString "asked"), key := Value.str (Str.ofString "asked") k2, val := Value.ref Aq }] 2) :: (P', listOf vs'.toArray n') :: (Aq, listOf (us ++ [Value.int (-1) 210]).toArray k') :: rest) →
    BA vs' (stayB bs (-1)) → (P' = P ∨ AllLt P' ((x, instObj 46 d) :: (d, instObj 46 d) :: (P, instObj 46 d) :: (Aq, instObj 46 d) :: rest)) →
    R (Except.ok (Flow.ret (Value.bytes (toldB bs (-1)) tt))) { heap := h', gens := s.gens, drawn := s.drawn, toks := tk, os := s.os }) →
  codeAny (model PySem.Challenge.rw_ag6001_01.row.prog w) (lawA L fa cd) (.call (.ref 36) ⟨[.ref x], []⟩) R s := by
  w_top off
  k_fill
  intro w s₀ s mg mb h₀ L fa w9 w8 cd m x d P Aq k1 k2 n k vs us rest bs R B' X' T' GL M F' N' hoff n1 n2 n3 n4 n5 n6 hb hu hv hz hR
  have e1 : toldB bs (-1) = joinB bs := if_pos (by decide)
  have e2 : stayB bs (-1) = [] := if_pos (by decide)
  rw [e1, e2] at hR
  k_enter
  k_steps
  refine' hR _ _ _ ?P9 ?n9 ?k9 [] ?a9 ?b9 ?c9 ?d9
  (case a9 => assumption)
  (case b9 => exact kst_newsOf (by assumption) (by kqd_sub))
  (case c9 => exact .nil)
  (case d9 => right; assumption)
theorem read_all : ∀ (w : World) (s₀ s : Shared) (mg mb : Str → Option Value) (h₀ : Heap) (L fa w9 : Addr) (w8 : Obj) (cd : Value) (m : Str → Option Value)
  (x d P Aq : Addr) (k1 k2 n k : Nat) (vs us : List Value) (rest : List (Addr × Obj)) (size : Int) (t : Tok) (bs : List (Array UInt8)) (R : Result → Shared → Prop),
  Below callerA h₀ [] h₀ → (hd.heap_39 w.params).In h₀ → Top hd.view_39 (looseW hd.view_39 []) (ExcName.means s₀.heap) mg mb h₀ →
  Glob 0 mg mb (List.map itemOf (recsOf hd.view_39)) (scalarsOf [] ++ constsW hd.view_39) [] (namesW hd.view_39 []) h₀ →
  BMod h₀ mainGlobals mg w9 w8 →
  Fr h₀ L s.heap m →
  News h₀ L s.heap ((x, instObj 46 d) :: (d, dictOf [{ hash := PyData.keyHash w.params (Str.ofString "parts"), key := Value.str (Str.ofString "parts") k1, val := Value.ref P }, { hash := PyData.keyHash w.params (Str.ofString "asked"), key := Value.str (Str.ofString "asked") k2, val := Value.ref Aq }] 2) :: (P, listOf vs.toArray n) :: (Aq, listOf us.toArray k) :: rest) →
  OwnOff rest [x, d, P, Aq] → x ≠ d → x ≠ P → x ≠ Aq → d ≠ P → d ≠ Aq → P ≠ Aq → BA vs bs → us.length ≤ 100 → vs.length ≤ 100 → (∀ b ∈ bs, b.size ≤ 5) →
  (∀ h' tk tt P' n' k' vs', Fr h₀ L h' m → News h₀ L h' ((x, instObj 46 d) :: (d, dictOf [{ hash := PyData.keyHash w.params (Str.ofString "parts"), key := Value.str (Str.ofString "parts") k1, val := Value.ref P' }, { hash := PyData.keyHash w.params (Str.ofString "asked"), key := Value.str (Str.ofString "asked") k2, val := Value.ref Aq }] 2) :: (P', listOf vs'.toArray n') :: (Aq, listOf (us ++ [Value.int size t]).toArray k') :: rest) →
    BA vs' (stayB bs size) → (P' = P ∨ AllLt P' ((x, instObj 46 d) :: (d, instObj 46 d) :: (P, instObj 46 d) :: (Aq, instObj 46 d) :: rest)) →
    R (Except.ok (Flow.ret (Value.bytes (toldB bs size) tt))) { heap := h', gens := s.gens, drawn := s.drawn, toks := tk, os := s.os }) →
  codeAny (model PySem.Challenge.rw_ag6001_01.row.prog w) (lawA L fa cd) (.call (.ref 36) ⟨[.ref x, .int size t], []⟩) R s := by
  intro w s₀ s mg mb h₀ L fa w9 w8 cd m x d P Aq k1 k2 n k vs us rest size t bs R B' X' T' GL M F' N' hoff n1 n2 n3 n4 n5 n6 hb hu hv hz hR
  rcases Int.lt_or_le size 0 with hs | hs
  · exact read_neg w s₀ s mg mb h₀ L fa w9 w8 cd m x d P Aq k1 k2 n k vs us rest size t bs R B' X' T' GL M F' N' hoff n1 n2 n3 n4 n5 n6 hb hu hv hz hR hs
  · cases hb with
    | nil => exact read_nil w s₀ s mg mb h₀ L fa w9 w8 cd m x d P Aq k1 k2 n k [] us rest size t [] R B' X' T' GL M F' N' hoff n1 n2 n3 n4 n5 n6 .nil hu hv hz hR ⟨hs, rfl, rfl⟩
    | @cons b t1 vr br hbr =>
      rcases Int.lt_or_le size (b.size : Int) with hl | hl
      · exact read_big w s₀ s mg mb h₀ L fa w9 w8 cd m x d P Aq k1 k2 n k _ us rest size t _ R B' X' T' GL M F' N' hoff n1 n2 n3 n4 n5 n6 (.cons hbr) hu hv hz hR b t1 vr br ⟨hs, hl, rfl, rfl⟩
      · exact read_small w s₀ s mg mb h₀ L fa w9 w8 cd m x d P Aq k1 k2 n k _ us rest size t _ R B' X' T' GL M F' N' hoff n1 n2 n3 n4 n5 n6 (.cons hbr) hu hv hz hR b t1 vr br ⟨hs, hl, rfl, rfl⟩
end Mine

namespace Mine
theorem picked_all {b : Array UInt8} {size : Int} (h : (b.size : Int) ≤ size) : KBy.picked b none (some size) = b := by
  rw [KBc.picked_eq]
  have e : clipAt b.size size = b.size := by
    obtain ⟨k, rfl⟩ := Int.eq_ofNat_of_zero_le (show 0 ≤ size by omega)
    rw [clipAt_nat]
    exact Nat.min_eq_right (by omega)
  show ((b.toList.drop 0).take (clipAt b.size size - 0)).toArray = b
  rw [e, List.drop_zero, Nat.sub_zero, List.take_of_length_le (by simp), Array.toArray_toList]
local macro_rules | `(tactic| walk_at "getMethod bytes") => `(tactic| (k_here; (with_reducible show wpAny _ _ (getMethod (Value.bytes _ _) (PySem.Str.ofString "join") _) _ _ _); refine join_method ?_))
local macro_rules | `(tactic| walk_at "call builtin:bytes.join") => `(tactic| (k_here; k_dflt (refine' join_K ?N ?a ?b ?z ?l ?_; (case N => k_asm); (case a => k_mem); (case b => k_asm); (case z => k_asm); (case l => first | assumption | omega); k_whole); intro _ _))
local macro_rules | `(tactic| walk_at "call builtin:list.append") => `(tactic| (k_here; (with_reducible show wpAny _ _ (call (Value.builtin _) [Value.ref _, _]) _ _ _); k_dflt (refine' append_S ?k1 ?k2 ?k3 ?z ?_; (case k1 => k_asm); (case k2 => k_asm); (case k3 => k_upd); (case z => first | assumption | omega); k_whole); intro h' F' N'; (try k_sweep)))
local macro_rules | `(tactic| walk_at "call builtin:list.pop") => `(tactic| (k_here; (with_reducible show wpAny _ _ (call (Value.builtin _) [Value.ref _, Value.int 0 _]) _ _ _); k_dflt (refine' pop0_S ?k1 ?k2 ?k3 ?z ?_; (case k1 => k_asm); (case k2 => k_asm); (case k3 => k_upd); (case z => first | assumption | omega); k_whole); intro h' F' N'; (try k_sweep)))
local macro_rules | `(tactic| walk_at "call builtin:list.insert") => `(tactic| (k_here; (with_reducible show wpAny _ _ (call (Value.builtin _) [Value.ref _, Value.int 0 _, _]) _ _ _); k_dflt (refine' insert0_S ?k1 ?k2 ?k3 ?z ?_; (case k1 => k_asm); (case k2 => k_asm); (case k3 => k_upd); (case z => first | assumption | omega); k_whole); intro h' F' N'; (try k_sweep)))
local macro_rules | `(tactic| walk_at "truthy ref") => `(tactic| (k_here; k_dflt (first
  | (refine' truthy_cons ?N ?a ?l ?_; (case N => k_asm); (case a => k_mem); (case l => first | assumption | omega); k_whole)
  | (refine' truthy_nil ?N ?a ?_; (case N => k_asm); (case a => k_mem); k_whole)); intro _))
local macro_rules | `(tactic| walk_at "call builtin:len") => `(tactic| (k_here; (with_reducible show wpAny _ _ (call (Value.builtin "len") [Value.bytes _ _]) _ _ _); refine' len_S ?z ?_; (case z => first | assumption | omega); intro _ _))
local macro_rules | `(tactic| walk_at "subscriptTail") => `(tactic| (k_here; (with_reducible show wpAny _ _ (subscriptTail _ (Expr.Slice _ _ none _) (Value.bytes _ _) (Value.ref _)) _ _ _); (with_reducible rename Fr _ _ _ _ => F'); (with_reducible rename News _ _ _ _ => N'); (refine slice_S (s := ⟨_, _, _, _, _⟩) F' N' (by constructor) (by constructor) (by first | assumption | omega) ?_); intro _ _ _ F' N'; (try k_sweep)))
local macro_rules | `(tactic| k_ne) => `(tactic| ((try dsimp only); first | with_reducible assumption | exact Ne.symm (by with_reducible assumption)))
local macro_rules | `(tactic| walk_at "compareOp Eq ref ref") => `(tactic| (k_here; (with_reducible show wpAny _ _ (compareOp CmpOp.Eq (Value.ref _) (Value.ref _)) _ _ _); k_dflt (first
  | (refine' eq_BAn ?N ?a ?b ?c ?u ?_; (case N => k_asm); (case a => k_mem); (case b => k_mem); (case c => with_reducible assumption); (case u => ke_room); k_whole)
  | (refine' eq_BAt ?N ?a ?b ?c ?d ?u ?_; (case N => k_asm); (case a => k_mem); (case b => k_mem); (case c => first | with_reducible assumption | exact BA.nil); (case d => first | with_reducible assumption | exact BA.nil); (case u => ke_room); k_whole))))
local macro_rules | `(tactic| walk_at "compareOp NotEq ref ref") => `(tactic| (k_here; (with_reducible show wpAny _ _ (compareOp CmpOp.NotEq (Value.ref _) (Value.ref _)) _ _ _); k_dflt (first
  | (refine' ne_BAt ?N ?a ?b ?c ?d ?u ?_; (case N => k_asm); (case a => k_mem); (case b => k_mem); (case c => with_reducible assumption); (case d => with_reducible assumption); (case u => ke_room); k_whole))))
local macro_rules | `(tactic| walk_at "subscriptTail Name Slice ref ref") => `(tactic| (k_here; (with_reducible show wpAny _ _ (subscriptTail _ (PySem.Expr.Slice _ _ none _) (Value.ref _) (Value.ref _)) _ _ _); k_dflt (refine' slice1_S ?F ?N ?l ?z ?_ ?s ?t; (case F => k_asm); (case N => k_asm); (case l => k_mem); (case z => first | assumption | omega); (case s => with_unfolding_all rfl); (case t => kmk_pure)); intro D' h' F' N' l1; (try k_lt l1); (try k_sweep)))
local macro_rules | `(tactic| walk_at "binaryOp Add ref ref") => `(tactic| (k_here; (with_reducible show wpAny _ _ (binaryOp _ (Value.ref _) (Value.ref _)) _ _ _); k_dflt (refine' cat_S ?F ?N ?a ?b ?z ?z2 ?_; (case F => k_asm); (case N => k_asm); (case a => k_mem); (case b => k_mem); (case z => first | assumption | exact Nat.le_of_ble_eq_true rfl | omega); (case z2 => first | assumption | exact Nat.le_of_ble_eq_true rfl | omega)); intro D' h' F' N' l1; (try k_lt l1); (try k_sweep)))
theorem due_neg : ∀ (w : World) (s₀ s : Shared) (mg mb : Str → Option Value) (h₀ : Heap) (L fa w9 : Addr) (w8 : Obj) (cd : Value) (m : Str → Option Value)
  (H : Addr) (n : Nat) (vs : List Value) (rest : List (Addr × Obj)) (size : Int) (t : Tok) (bs : List (Array UInt8)) (R : Result → Shared → Prop),
  Below callerA h₀ [] h₀ → (hd.heap_39 w.params).In h₀ → Top hd.view_39 (looseW hd.view_39 []) (ExcName.means s₀.heap) mg mb h₀ →
  Glob 0 mg mb (List.map itemOf (recsOf hd.view_39)) (scalarsOf [] ++ constsW hd.view_39) [] (namesW hd.view_39 []) h₀ →
  BMod h₀ mainGlobals mg w9 w8 →
  Fr h₀ L s.heap m →
  News h₀ L s.heap ((H, listOf vs.toArray n) :: rest) →
  BA vs bs → vs.length ≤ 100 → (∀ b ∈ bs, b.size ≤ 5) →
  (∀ h' tk tt T S n' ws, Fr h₀ L h' m → News h₀ L h' ((T, { cls := Value.type "tuple", data := Data.seq #[Value.bytes (toldB bs size) tt, Value.ref S] }) :: (S, listOf ws.toArray n') :: (H, listOf vs.toArray n) :: rest) →
    BA ws (stayB bs size) → AllLt S ((H, listOf vs.toArray n) :: rest) → AllLt T ((H, listOf vs.toArray n) :: rest) → @LT.lt Nat _ S T →
    R (Except.ok (Flow.ret (Value.ref T))) { heap := h', gens := s.gens, drawn := s.drawn, toks := tk, os := s.os }) →
  size < 0 →
  codeAny (model PySem.Challenge.rw_ag6001_01.row.prog w) (lawA L fa cd) (.call (.ref 57) ⟨[.ref H, .int size t], []⟩) R s := by
  w_top off
  k_fill
  intro w s₀ s mg mb h₀ L fa w9 w8 cd m H n vs rest size t bs R B' X' T' GL M F' N' hb hv hz hR hs
  have e1 : toldB bs size = joinB bs := if_pos hs
  have e2 : stayB bs size = [] := if_pos hs
  rw [e1, e2] at hR
  k_enter
  k_steps
  refine' hR _ _ ?t9 ?T9 ?S9 ?n9 ?w9 ?a9 ?b9 ?c9 ?d9 ?e9 ?f9
  (case a9 => assumption)
  (case b9 => exact kst_newsOf (by assumption) (by kqd_sub))
  (case c9 => exact .nil)
  (case d9 => first | assumption | exact And.right (by assumption) | exact And.right (And.right (by assumption)) | exact And.right (And.right (And.right (by assumption))) | exact And.right (And.right (And.right (And.right (by assumption)))))
  (case e9 => first | assumption | exact And.right (by assumption) | exact And.right (And.right (by assumption)) | exact And.right (And.right (And.right (by assumption))) | exact And.right (And.right (And.right (And.right (by assumption)))))
  (case f9 => first | exact And.left (by assumption) | exact And.left (And.right (by assumption)))
theorem due_nil : ∀ (w : World) (s₀ s : Shared) (mg mb : Str → Option Value) (h₀ : Heap) (L fa w9 : Addr) (w8 : Obj) (cd : Value) (m : Str → Option Value)
  (H : Addr) (n : Nat) (vs : List Value) (rest : List (Addr × Obj)) (size : Int) (t : Tok) (bs : List (Array UInt8)) (R : Result → Shared → Prop),
  Below callerA h₀ [] h₀ → (hd.heap_39 w.params).In h₀ → Top hd.view_39 (looseW hd.view_39 []) (ExcName.means s₀.heap) mg mb h₀ →
  Glob 0 mg mb (List.map itemOf (recsOf hd.view_39)) (scalarsOf [] ++ constsW hd.view_39) [] (namesW hd.view_39 []) h₀ →
  BMod h₀ mainGlobals mg w9 w8 →
  Fr h₀ L s.heap m →
  News h₀ L s.heap ((H, listOf vs.toArray n) :: rest) →
  BA vs bs → vs.length ≤ 100 → (∀ b ∈ bs, b.size ≤ 5) →
  (∀ h' tk tt T S n' ws, Fr h₀ L h' m → News h₀ L h' ((T, { cls := Value.type "tuple", data := Data.seq #[Value.bytes (toldB bs size) tt, Value.ref S] }) :: (S, listOf ws.toArray n') :: (H, listOf vs.toArray n) :: rest) →
    BA ws (stayB bs size) → AllLt S ((H, listOf vs.toArray n) :: rest) → AllLt T ((H, listOf vs.toArray n) :: rest) → @LT.lt Nat _ S T →
    R (Except.ok (Flow.ret (Value.ref T))) { heap := h', gens := s.gens, drawn := s.drawn, toks := tk, os := s.os }) →
  (0 ≤ size ∧ vs = [] ∧ bs = []) →
  codeAny (model PySem.Challenge.rw_ag6001_01.row.prog w) (lawA L fa cd) (.call (.ref 57) ⟨[.ref H, .int size t], []⟩) R s := by
  w_top off
  k_fill
  intro w s₀ s mg mb h₀ L fa w9 w8 cd m H n vs rest size t bs R B' X' T' GL M F' N' hb hv hz hR hs
  obtain ⟨hs, rfl, rfl⟩ := hs
  have e1 : toldB [] size = #[] := by unfold toldB; rw [if_neg (by omega)]
  have e2 : stayB [] size = [] := by unfold stayB; rw [if_neg (by omega)]
  rw [e1, e2] at hR
  k_enter
  k_steps
  refine' hR _ _ ?t9 ?T9 ?S9 ?n9 ?w9 ?a9 ?b9 ?c9 ?d9 ?e9 ?f9
  (case a9 => assumption)
  (case b9 => exact kst_newsOf (by assumption) (by kqd_sub))
  (case c9 => exact .nil)
  (case d9 => first | assumption | exact And.right (by assumption) | exact And.right (And.right (by assumption)) | exact And.right (And.right (And.right (by assumption))) | exact And.right (And.right (And.right (And.right (by assumption)))))
  (case e9 => first | assumption | exact And.right (by assumption) | exact And.right (And.right (by assumption)) | exact And.right (And.right (And.right (by assumption))) | exact And.right (And.right (And.right (And.right (by assumption)))))
  (case f9 => first | exact And.left (by assumption) | exact And.left (And.right (by assumption)))
theorem due_big : ∀ (w : World) (s₀ s : Shared) (mg mb : Str → Option Value) (h₀ : Heap) (L fa w9 : Addr) (w8 : Obj) (cd : Value) (m : Str → Option Value)
  (H : Addr) (n : Nat) (vs : List Value) (rest : List (Addr × Obj)) (size : Int) (t : Tok) (bs : List (Array UInt8)) (R : Result → Shared → Prop),
  Below callerA h₀ [] h₀ → (hd.heap_39 w.params).In h₀ → Top hd.view_39 (looseW hd.view_39 []) (ExcName.means s₀.heap) mg mb h₀ →
  Glob 0 mg mb (List.map itemOf (recsOf hd.view_39)) (scalarsOf [] ++ constsW hd.view_39) [] (namesW hd.view_39 []) h₀ →
  BMod h₀ mainGlobals mg w9 w8 →
  Fr h₀ L s.heap m →
  News h₀ L s.heap ((H, listOf vs.toArray n) :: rest) →
  BA vs bs → vs.length ≤ 100 → (∀ b ∈ bs, b.size ≤ 5) →
  (∀ h' tk tt T S n' ws, Fr h₀ L h' m → News h₀ L h' ((T, { cls := Value.type "tuple", data := Data.seq #[Value.bytes (toldB bs size) tt, Value.ref S] }) :: (S, listOf ws.toArray n') :: (H, listOf vs.toArray n) :: rest) →
    BA ws (stayB bs size) → AllLt S ((H, listOf vs.toArray n) :: rest) → AllLt T ((H, listOf vs.toArray n) :: rest) → @LT.lt Nat _ S T →
    R (Except.ok (Flow.ret (Value.ref T))) { heap := h', gens := s.gens, drawn := s.drawn, toks := tk, os := s.os }) →
  ∀ (b : Array UInt8) (t1 : Tok) (vr : List Value) (br : List (Array UInt8)), (0 ≤ size ∧ size < (b.size : Int) ∧ vs = .bytes b t1 :: vr ∧ bs = b :: br) →
  codeAny (model PySem.Challenge.rw_ag6001_01.row.prog w) (lawA L fa cd) (.call (.ref 57) ⟨[.ref H, .int size t], []⟩) R s := by
  w_top off
  k_fill
  intro w s₀ s mg mb h₀ L fa w9 w8 cd m H n vs rest size t bs R B' X' T' GL M F' N' hb hv hz hR b t1 vr br hs
  obtain ⟨hs, hsl, rfl, rfl⟩ := hs
  have e1 : toldB (b :: br) size = KBy.picked b none (some size) := by unfold toldB; rw [if_neg (by omega)]
  have e2 : stayB (b :: br) size = KBy.picked b (some size) none :: br := by unfold stayB; rw [if_neg (by omega)]; exact if_pos hsl
  rw [e1, e2] at hR
  have hz0 : b.size ≤ 5 := hz b (.head _)
  have hbr : BA vr br := by cases hb with | cons hbr => exact hbr
  rw [List.length_cons] at hv
  k_enter
  k_steps
  refine' hR _ _ ?t9 ?T9 ?S9 ?n9 ?w9 ?a9 ?b9 ?c9 ?d9 ?e9 ?f9
  (case a9 => assumption)
  (case b9 => exact kst_newsOf (by assumption) (by kqd_sub))
  (case c9 => exact .cons hbr)
  (case d9 => first | assumption | exact And.right (by assumption) | exact And.right (And.right (by assumption)) | exact And.right (And.right (And.right (by assumption))) | exact And.right (And.right (And.right (And.right (by assumption)))))
  (case e9 => first | assumption | exact And.right (by assumption) | exact And.right (And.right (by assumption)) | exact And.right (And.right (And.right (by assumption))) | exact And.right (And.right (And.right (And.right (by assumption)))))
  (case f9 => first | exact And.left (by assumption) | exact And.left (And.right (by assumption)))
theorem due_small : ∀ (w : World) (s₀ s : Shared) (mg mb : Str → Option Value) (h₀ : Heap) (L fa w9 : Addr) (w8 : Obj) (cd : Value) (m : Str → Option Value)
  (H : Addr) (n : Nat) (vs : List Value) (rest : List (Addr × Obj)) (size : Int) (t : Tok) (bs : List (Array UInt8)) (R : Result → Shared → Prop),
  Below callerA h₀ [] h₀ → (hd.heap_39 w.params).In h₀ → Top hd.view_39 (looseW hd.view_39 []) (ExcName.means s₀.heap) mg mb h₀ →
  Glob 0 mg mb (List.map itemOf (recsOf hd.view_39)) (scalarsOf [] ++ constsW hd.view_39) [] (namesW hd.view_39 []) h₀ →
  BMod h₀ mainGlobals mg w9 w8 →
  Fr h₀ L s.heap m →
  News h₀ L s.heap ((H, listOf vs.toArray n) :: rest) →
  BA vs bs → vs.length ≤ 100 → (∀ b ∈ bs, b.size ≤ 5) →
  (∀ h' tk tt T S n' ws, Fr h₀ L h' m → News h₀ L h' ((T, { cls := Value.type "tuple", data := Data.seq #[Value.bytes (toldB bs size) tt, Value.ref S] }) :: (S, listOf ws.toArray n') :: (H, listOf vs.toArray n) :: rest) →
    BA ws (stayB bs size) → AllLt S ((H, listOf vs.toArray n) :: rest) → AllLt T ((H, listOf vs.toArray n) :: rest) → @LT.lt Nat _ S T →
    R (Except.ok (Flow.ret (Value.ref T))) { heap := h', gens := s.gens, drawn := s.drawn, toks := tk, os := s.os }) →
  ∀ (b : Array UInt8) (t1 : Tok) (vr : List Value) (br : List (Array UInt8)), (0 ≤ size ∧ (b.size : Int) ≤ size ∧ vs = .bytes b t1 :: vr ∧ bs = b :: br) →
  codeAny (model PySem.Challenge.rw_ag6001_01.row.prog w) (lawA L fa cd) (.call (.ref 57) ⟨[.ref H, .int size t], []⟩) R s := by
  w_top off
  k_fill
  intro w s₀ s mg mb h₀ L fa w9 w8 cd m H n vs rest size t bs R B' X' T' GL M F' N' hb hv hz hR b t1 vr br hs
  obtain ⟨hs, hsl, rfl, rfl⟩ := hs
  have e1 : toldB (b :: br) size = b := by unfold toldB; rw [if_neg (by omega)]; exact picked_all hsl
  have e2 : stayB (b :: br) size = br := by unfold stayB; rw [if_neg (by omega)]; exact if_neg (by omega)
  rw [e1, e2] at hR
  have hz0 : b.size ≤ 5 := hz b (.head _)
  have hbr : BA vr br := by cases hb with | cons hbr => exact hbr
  rw [List.length_cons] at hv
  k_enter
  k_steps
  refine' hR _ _ ?t9 ?T9 ?S9 ?n9 ?w9 ?a9 ?b9 ?c9 ?d9 ?e9 ?f9
  (case a9 => assumption)
  (case b9 => exact kst_newsOf (by assumption) (by kqd_sub))
  (case c9 => exact hbr)
  (case d9 => first | assumption | exact And.right (by assumption) | exact And.right (And.right (by assumption)) | exact And.right (And.right (And.right (by assumption))) | exact And.right (And.right (And.right (And.right (by assumption)))))
  (case e9 => first | assumption | exact And.right (by assumption) | exact And.right (And.right (by assumption)) | exact And.right (And.right (And.right (by assumption))) | exact And.right (And.right (And.right (And.right (by assumption)))))
  (case f9 => first | exact And.left (by assumption) | exact And.left (And.right (by assumption)))
theorem due_all : ∀ (w : World) (s₀ s : Shared) (mg mb : Str → Option Value) (h₀ : Heap) (L fa w9 : Addr) (w8 : Obj) (cd : Value) (m : Str → Option Value)
  (H : Addr) (n : Nat) (vs : List Value) (rest : List (Addr × Obj)) (size : Int) (t : Tok) (bs : List (Array UInt8)) (R : Result → Shared → Prop),
  Below callerA h₀ [] h₀ → (hd.heap_39 w.params).In h₀ → Top hd.view_39 (looseW hd.view_39 []) (ExcName.means s₀.heap) mg mb h₀ →
  Glob 0 mg mb (List.map itemOf (recsOf hd.view_39)) (scalarsOf [] ++ constsW hd.view_39) [] (namesW hd.view_39 []) h₀ →
  BMod h₀ mainGlobals mg w9 w8 →
  Fr h₀ L s.heap m →
  News h₀ L s.heap ((H, listOf vs.toArray n) :: rest) →
  BA vs bs → vs.length ≤ 100 → (∀ b ∈ bs, b.size ≤ 5) →
  (∀ h' tk tt T S n' ws, Fr h₀ L h' m → News h₀ L h' ((T, { cls := Value.type "tuple", data := Data.seq #[Value.bytes (toldB bs size) tt, Value.ref S] }) :: (S, listOf ws.toArray n') :: (H, listOf vs.toArray n) :: rest) →
    BA ws (stayB bs size) → AllLt S ((H, listOf vs.toArray n) :: rest) → AllLt T ((H, listOf vs.toArray n) :: rest) → @LT.lt Nat _ S T →
    R (Except.ok (Flow.ret (Value.ref T))) { heap := h', gens := s.gens, drawn := s.drawn, toks := tk, os := s.os }) →
  codeAny (model PySem.Challenge.rw_ag6001_01.row.prog w) (lawA L fa cd) (.call (.ref 57) ⟨[.ref H, .int size t], []⟩) R s := by
  intro w s₀ s mg mb h₀ L fa w9 w8 cd m H n vs rest size t bs R B' X' T' GL M F' N' hb hv hz hR
  rcases Int.lt_or_le size 0 with hs | hs
  · exact due_neg w s₀ s mg mb h₀ L fa w9 w8 cd m H n vs rest size t bs R B' X' T' GL M F' N' hb hv hz hR hs
  · cases hb with
    | nil => exact due_nil w s₀ s mg mb h₀ L fa w9 w8 cd m H n _ rest size t _ R B' X' T' GL M F' N' .nil hv hz hR ⟨hs, rfl, rfl⟩
    | @cons b t1 vr br hbr =>
      rcases Int.lt_or_le size (b.size : Int) with hl | hl
      · exact due_big w s₀ s mg mb h₀ L fa w9 w8 cd m H n _ rest size t _ R B' X' T' GL M F' N' (.cons hbr) hv hz hR b t1 vr br ⟨hs, hl, rfl, rfl⟩
      · exact due_small w s₀ s mg mb h₀ L fa w9 w8 cd m H n _ rest size t _ R B' X' T' GL M F' N' (.cons hbr) hv hz hR b t1 vr br ⟨hs, hl, rfl, rfl⟩
end Mine

namespace Mine

theorem part_size (r : Int) (f : Int → Int) : (byteArr (List.map f (rangeKs 0 (r.fmod 6 - 0).toNat))).size ≤ 5 := by
  rw [byteArr_size, List.length_map, rangeKs_length]
  have h1 := Int.fmod_lt_of_pos r (show (0 : Int) < 6 by decide)
  omega

theorem part_all : ∀ (w : World) (s₀ s : Shared) (mg mb : Str → Option Value) (h₀ : Heap) (L fa w9 : Addr) (w8 : Obj) (cd : Value) (m : Str → Option Value)
  (rest : List (Addr × Obj)) (r : Int) (t : Tok) (R : Result → Shared → Prop),
  Below callerA h₀ [] h₀ → (hd.heap_39 w.params).In h₀ → Top hd.view_39 (looseW hd.view_39 []) (ExcName.means s₀.heap) mg mb h₀ →
  Glob 0 mg mb (List.map itemOf (recsOf hd.view_39)) (scalarsOf [] ++ constsW hd.view_39) [] (namesW hd.view_39 []) h₀ →
  BMod h₀ mainGlobals mg w9 w8 →
  Fr h₀ L s.heap m →
  News h₀ L s.heap rest →
  (∀ h' tk tt (b : Array UInt8), b.size ≤ 5 → Fr h₀ L h' m → News h₀ L h' rest → R (Except.ok (Flow.ret (Value.bytes b tt))) { heap := h', gens := s.gens, drawn := s.drawn, toks := tk, os := s.os }) →
  codeAny (model PySem.Challenge.rw_ag6001_01.row.prog w) (lawA L fa cd) (.call (.ref 62) ⟨[.int r t], []⟩) R s := by
  w_top off
  k_fill
  intro w s₀ s mg mb h₀ L fa w9 w8 cd m rest r t R B' X' T' GL M F' N' hR
  k_enter
  k_steps
  exact hR _ _ _ _ (part_size r _) (by assumption) (kst_newsOf (by assumption) fun p hp => .tail _ (.tail _ hp))
end Mine

namespace Mine
open PySem.Calls

/-- what the walk in the law's frame knows -/
structure Known (w : World) (s₀ : Shared) (mg mb : Str → Option Value) (h₀ : Heap) (w9 : Addr) (w8 : Obj) : Prop where
  B : Below callerA h₀ [] h₀
  X : (hd.heap_39 w.params).In h₀
  T : Top hd.view_39 (looseW hd.view_39 []) (ExcName.means s₀.heap) mg mb h₀
  G : Glob 0 mg mb (List.map itemOf (recsOf hd.view_39)) (scalarsOf [] ++ constsW hd.view_39) [] (namesW hd.view_39 []) h₀
  M : BMod h₀ mainGlobals mg w9 w8

abbrev pDict (w : World) (k1 k2 : Nat) (P Aq : Addr) : Obj := dictOf [{ hash := PyData.keyHash w.params (Str.ofString "parts"), key := Value.str (Str.ofString "parts") k1, val := Value.ref P }, { hash := PyData.keyHash w.params (Str.ofString "asked"), key := Value.str (Str.ofString "asked") k2, val := Value.ref Aq }] 2

section
variable {w : World} {s₀ s : Shared} {mg mb : Str → Option Value} {h₀ : Heap} {L fa w9 : Addr} {w8 : Obj} {cd : Value} {m : Str → Option Value} {E : Value → Shared → Prop} {Q : Value → Shared → Prop}
  {x d P Aq H D : Addr} {k1 k2 n k : Nat} {vs us hl : List Value} {rest news news' : List (Addr × Obj)} {p : Addr × Obj} {size r : Int} {t : Tok} {bs : List (Array UInt8)}

theorem part_use (K : Known w s₀ mg mb h₀ w9 w8) (F : Fr h₀ L s.heap m) (N : News h₀ L s.heap news)
    (h : ∀ h' tk tt (b : Array UInt8), b.size ≤ 5 → Fr h₀ L h' m → News h₀ L h' news → Q (.bytes b tt) { s with heap := h', toks := tk }) :
    wpAny (model PySem.Challenge.rw_ag6001_01.row.prog w) (lawA L fa cd) (call (.ref 62) [.int r t] []) Q E s :=
  wpAny_call (part_all w s₀ s mg mb h₀ L fa w9 w8 cd m news r t _ K.B K.X K.T K.G K.M F N h)

theorem due_use (K : Known w s₀ mg mb h₀ w9 w8) (F : Fr h₀ L s.heap m) (N : News h₀ L s.heap news) (hm : (H, listOf vs.toArray n) ∈ news) (hb : BA vs bs) (hv : vs.length ≤ 100) (hz : ∀ b ∈ bs, b.size ≤ 5)
    (h : ∀ h' tk tt T S n' ws, Fr h₀ L h' m → News h₀ L h' ((T, { cls := Value.type "tuple", data := Data.seq #[Value.bytes (toldB bs size) tt, Value.ref S] }) :: (S, listOf ws.toArray n') :: news) → BA ws (stayB bs size) → AllLt S news → AllLt T news → @LT.lt Nat _ S T →
      Q (.ref T) { s with heap := h', toks := tk }) :
    wpAny (model PySem.Challenge.rw_ag6001_01.row.prog w) (lawA L fa cd) (call (.ref 57) [.ref H, .int size t] []) Q E s := by
  refine wpAny_call (due_all w s₀ s mg mb h₀ L fa w9 w8 cd m H n vs news size t bs _ K.B K.X K.T K.G K.M F (kst_newsOf N (List.forall_mem_cons.mpr ⟨hm, fun _ q => q⟩)) hb hv hz ?_)
  intro h' tk tt T S n' ws F' N' hw l1 l2 l3
  exact h h' tk tt T S n' ws F' (kst_newsOf N' (List.forall_mem_cons.mpr ⟨.head _, List.forall_mem_cons.mpr ⟨.tail _ (.head _), fun _ q => .tail _ (.tail _ (.tail _ q))⟩⟩)) hw l1.2 l2.2 l3

theorem read_use (K : Known w s₀ mg mb h₀ w9 w8) (F : Fr h₀ L s.heap m) (N : News h₀ L s.heap (p :: (x, instObj 46 d) :: (d, pDict w k1 k2 P Aq) :: (P, listOf vs.toArray n) :: (Aq, listOf us.toArray k) :: rest))
    (off : OwnOff rest [x, d, P, Aq]) (n1 : x ≠ d) (n2 : x ≠ P) (n3 : x ≠ Aq) (n4 : d ≠ P) (n5 : d ≠ Aq) (n6 : P ≠ Aq)
    (hb : BA vs bs) (hu : us.length ≤ 100) (hv : vs.length ≤ 100) (hz : ∀ b ∈ bs, b.size ≤ 5)
    (h : ∀ h' tk tt P' n' k' vs', Fr h₀ L h' m → News h₀ L h' ((x, instObj 46 d) :: (d, pDict w k1 k2 P' Aq) :: (P', listOf vs'.toArray n') :: (Aq, listOf (us ++ [Value.int size t]).toArray k') :: rest) →
      BA vs' (stayB bs size) → (P' = P ∨ AllLt P' ((x, instObj 46 d) :: (d, instObj 46 d) :: (P, instObj 46 d) :: (Aq, instObj 46 d) :: rest)) → Q (.bytes (toldB bs size) tt) { s with heap := h', toks := tk }) :
    wpAny (model PySem.Challenge.rw_ag6001_01.row.prog w) (lawA L fa cd) (call (.ref 36) [.ref x, .int size t] []) Q E s :=
  wpAny_call (read_all w s₀ s mg mb h₀ L fa w9 w8 cd m x d P Aq k1 k2 n k vs us rest size t bs _ K.B K.X K.T K.G K.M F (kst_newsOf N fun _ q => .tail _ q) off n1 n2 n3 n4 n5 n6 hb hu hv hz h)

theorem readd_use (K : Known w s₀ mg mb h₀ w9 w8) (F : Fr h₀ L s.heap m) (N : News h₀ L s.heap (p :: (x, instObj 46 d) :: (d, pDict w k1 k2 P Aq) :: (P, listOf vs.toArray n) :: (Aq, listOf us.toArray k) :: rest))
    (off : OwnOff rest [x, d, P, Aq]) (n1 : x ≠ d) (n2 : x ≠ P) (n3 : x ≠ Aq) (n4 : d ≠ P) (n5 : d ≠ Aq) (n6 : P ≠ Aq)
    (hb : BA vs bs) (hu : us.length ≤ 100) (hv : vs.length ≤ 100) (hz : ∀ b ∈ bs, b.size ≤ 5)
    (h : ∀ h' tk tt P' n' k' vs', Fr h₀ L h' m → News h₀ L h' ((x, instObj 46 d) :: (d, pDict w k1 k2 P' Aq) :: (P', listOf vs'.toArray n') :: (Aq, listOf (us ++ [Value.int (-1) 210]).toArray k') :: rest) →
      BA vs' (stayB bs (-1)) → (P' = P ∨ AllLt P' ((x, instObj 46 d) :: (d, instObj 46 d) :: (P, instObj 46 d) :: (Aq, instObj 46 d) :: rest)) → Q (.bytes (toldB bs (-1)) tt) { s with heap := h', toks := tk }) :
    wpAny (model PySem.Challenge.rw_ag6001_01.row.prog w) (lawA L fa cd) (call (.ref 36) [.ref x] []) Q E s :=
  wpAny_call (read_dflt w s₀ s mg mb h₀ L fa w9 w8 cd m x d P Aq k1 k2 n k vs us rest bs _ K.B K.X K.T K.G K.M F (kst_newsOf N fun _ q => .tail _ q) off n1 n2 n3 n4 n5 n6 hb hu hv hz h)
end

section
variable {prog : Program} {w : World} {A : Around} {E : Value → Shared → Prop} {s : Shared} {h₀ : Heap} {L D : Addr} {m : Str → Option Value} {news news' : List (Addr × Obj)} {vs : List Value} {n : Nat} {k : Int} {t u : Tok}
theorem set_S {y : Value} {Q : Unit → Shared → Prop} (F : Fr h₀ L s.heap m) (N : News h₀ L s.heap news) (U : Upd D (listOf vs.toArray n) (listOf (vs.set k.toNat y).toArray n) news news') (h0 : 0 ≤ k) (h1 : k < vs.length) (h2 : k ≤ 1000)
    (h : ∀ h', Fr h₀ L h' m → News h₀ L h' news' → Q () { s with heap := h' }) :
    wpAny (model prog w) A (setItem (.ref D) (.int k t) y) Q E s := by
  obtain ⟨pre, post, rfl, rfl, a, b⟩ := U.split
  have z := N (D, listOf vs.toArray n) (List.mem_append.mpr (.inr (.head _)))
  refine ki_setAt z.1 h0 (by omega) (by rw [List.size_toArray]; omega) (h _ (F.change (Heap.SameBut.update ..) z.2.1 z.2.2) (ki_turn _ N a b ?_ ?_))
  · show vs.toArray.setIfInBounds k.toNat y = (vs.set k.toNat y).toArray
    apply Array.toList_inj.mp
    simp
  · simp
theorem mod_lit {a b c : Int} {Q : Value → Shared → Prop} (hb : b ≠ 0) (e : a.fmod b = c) (h : ∀ t k, Q (.int c t) { s with toks := k }) : wpAny (model prog w) A (binaryOp .Mod (.int a t) (.int b u)) Q E s :=
  mod_int' hb (by rw [e]; exact h _ _)
theorem ne_same {b : Array UInt8} {Q : Value → Shared → Prop} (h : Q (.bool false) s) : wpAny (model prog w) A (compareOp .NotEq (.bytes b t) (.bytes b u)) Q E s :=
  ne_bytes (by rw [show (b.toList != b.toList) = false by simp]; exact h)
end

theorem stay_len (bs : List (Array UInt8)) (size : Int) : (stayB bs size).length ≤ bs.length := by
  unfold stayB
  split
  · exact Nat.zero_le _
  · cases bs with
    | nil => exact Nat.le_refl _
    | cons b r =>
      dsimp only
      split
      · exact Nat.le_refl _
      · exact Nat.le_succ _
theorem stay_size {bs : List (Array UInt8)} (h : ∀ b ∈ bs, b.size ≤ 5) (size : Int) : ∀ b ∈ stayB bs size, b.size ≤ 5 := by
  intro b hb
  unfold stayB at hb
  split at hb
  · cases hb
  · cases bs with
    | nil => cases hb
    | cons c r =>
      dsimp only at hb
      split at hb
      · rcases List.mem_cons.mp hb with rfl | hb
        · exact Nat.le_trans (KBc.size_picked_le _ _ _) (h c (.head _))
        · exact h b (.tail _ hb)
      · exact h b (.tail _ hb)
def forBody : Option Stmt → List Stmt
  | some (.For _ _ c _ _) => c
  | _ => []
def defBody : Option Stmt → List Stmt
  | some (.FunctionDef _ _ b _ _ _ _ _ _ _) => b
  | _ => []
/-- the loop's body, taken out of the row -/
def loopBody : List Stmt := forBody ((defBody PySem.Challenge.pw_ag6001_01.main.body.getLast?)[11]?)
end Mine

namespace Mine

theorem set_get {vs : List Value} {k : Nat} {y : Value} (h : k < vs.length) : (vs.set k y)[k]? = some y := by
  rw [List.getElem?_set_self h]

abbrev others (FL HL AL H aq : Addr) (fl hl al hs as : List Value) (cF cH cA nh na : Nat) (rest : List (Addr × Obj)) : List (Addr × Obj) :=
  (FL, listOf fl.toArray cF) :: (HL, listOf hl.toArray cH) :: (AL, listOf al.toArray cA) :: (H, listOf hs.toArray nh) :: (aq, listOf as.toArray na) :: rest

/-- the distances that a path asks for, of the address of the parts -/
structure Away (P x d Aq FL HL AL H aq : Addr) (rest : List (Addr × Obj)) : Prop where
  a1 : x ≠ P
  a2 : d ≠ P
  a3 : P ≠ Aq
  a4 : P ≠ FL
  a5 : P ≠ HL
  a6 : P ≠ AL
  a7 : P ≠ H
  a8 : P ≠ aq
  a9 : OwnOff rest [P]

theorem app_size {bs : List (Array UInt8)} {c : Array UInt8} (h : ∀ b ∈ bs, b.size ≤ 5) (hc : c.size ≤ 5) : ∀ b ∈ bs ++ [c], b.size ≤ 5 := by
  intro b hb
  rcases List.mem_append.mp hb with hb | hb
  · exact h b hb
  · rw [List.mem_singleton.mp hb]; exact hc
theorem lt_ne {a b : Addr} (h : @LT.lt Nat _ a b) : a ≠ b := Nat.ne_of_lt h
theorem fresh_off {P P' x d Aq FL HL AL H aq : Addr} {o1 o2 o3 o4 o5 o6 o7 o8 o9 : Obj} {rest : List (Addr × Obj)} (A : Away P x d Aq FL HL AL H aq rest)
    (h : P' = P ∨ AllLt P' ((x, o1) :: (d, o2) :: (P, o3) :: (Aq, o4) :: (FL, o5) :: (HL, o6) :: (AL, o7) :: (H, o8) :: (aq, o9) :: rest)) : Away P' x d Aq FL HL AL H aq rest := by
  rcases h with rfl | h
  · exact A
  · obtain ⟨l1, l2, l3, l4, l5, l6, l7, l8, l9, l10⟩ := h
    refine ⟨lt_ne l1, lt_ne l2, (lt_ne l4).symm, (lt_ne l5).symm, (lt_ne l6).symm, (lt_ne l7).symm, (lt_ne l8).symm, (lt_ne l9).symm, fun p hp b hb => ?_⟩
    rw [List.mem_singleton.mp hb]
    exact lt_ne (allLt_to l10 p hp)
local macro_rules | `(tactic| walk_at "getMethod bytes") => `(tactic| (k_here; (with_reducible show wpAny _ _ (getMethod (Value.bytes _ _) (PySem.Str.ofString "join") _) _ _ _); refine join_method ?_))
local macro_rules | `(tactic| walk_at "call builtin:bytes.join") => `(tactic| (k_here; k_dflt (refine' join_K ?N ?a ?b ?z ?l ?_; (case N => k_asm); (case a => k_mem); (case b => k_asm); (case z => k_asm); (case l => first | assumption | omega); k_whole); intro _ _))
local macro_rules | `(tactic| walk_at "call builtin:list.append") => `(tactic| (k_here; (with_reducible show wpAny _ _ (call (Value.builtin _) [Value.ref _, _]) _ _ _); k_dflt (refine' append_S ?k1 ?k2 ?k3 ?z ?_; (case k1 => k_asm); (case k2 => k_asm); (case k3 => k_upd); (case z => first | assumption | omega); k_whole); intro h' F' N'; (try k_sweep)))
local macro_rules | `(tactic| walk_at "call builtin:list.pop") => `(tactic| (k_here; (with_reducible show wpAny _ _ (call (Value.builtin _) [Value.ref _, Value.int 0 _]) _ _ _); k_dflt (refine' pop0_S ?k1 ?k2 ?k3 ?z ?_; (case k1 => k_asm); (case k2 => k_asm); (case k3 => k_upd); (case z => first | assumption | omega); k_whole); intro h' F' N'; (try k_sweep)))
local macro_rules | `(tactic| walk_at "call builtin:list.insert") => `(tactic| (k_here; (with_reducible show wpAny _ _ (call (Value.builtin _) [Value.ref _, Value.int 0 _, _]) _ _ _); k_dflt (refine' insert0_S ?k1 ?k2 ?k3 ?z ?_; (case k1 => k_asm); (case k2 => k_asm); (case k3 => k_upd); (case z => first | assumption | omega); k_whole); intro h' F' N'; (try k_sweep)))
local macro_rules | `(tactic| walk_at "truthy ref") => `(tactic| (k_here; k_dflt (first
  | (refine' truthy_cons ?N ?a ?l ?_; (case N => k_asm); (case a => k_mem); (case l => first | assumption | omega); k_whole)
  | (refine' truthy_nil ?N ?a ?_; (case N => k_asm); (case a => k_mem); k_whole)); intro _))
local macro_rules | `(tactic| walk_at "call builtin:len") => `(tactic| (k_here; (with_reducible show wpAny _ _ (call (Value.builtin "len") [Value.bytes _ _]) _ _ _); refine' len_S ?z ?_; (case z => first | assumption | omega); intro _ _))
local macro_rules | `(tactic| walk_at "subscriptTail") => `(tactic| (k_here; (with_reducible show wpAny _ _ (subscriptTail _ (Expr.Slice _ _ none _) (Value.bytes _ _) (Value.ref _)) _ _ _); (with_reducible rename Fr _ _ _ _ => F'); (with_reducible rename News _ _ _ _ => N'); (refine slice_S (s := ⟨_, _, _, _, _⟩) F' N' (by constructor) (by constructor) (by first | assumption | omega) ?_); intro _ _ _ F' N'; (try k_sweep)))
local macro_rules | `(tactic| k_ne) => `(tactic| ((try dsimp only); first | with_reducible assumption | exact Ne.symm (by with_reducible assumption)))
local macro_rules | `(tactic| walk_at "compareOp Eq ref ref") => `(tactic| (k_here; (with_reducible show wpAny _ _ (compareOp CmpOp.Eq (Value.ref _) (Value.ref _)) _ _ _); k_dflt (first
  | (refine' eq_BAn ?N ?a ?b ?c ?u ?_; (case N => k_asm); (case a => k_mem); (case b => k_mem); (case c => with_reducible assumption); (case u => ke_room); k_whole)
  | (refine' eq_BAt ?N ?a ?b ?c ?d ?u ?_; (case N => k_asm); (case a => k_mem); (case b => k_mem); (case c => first | with_reducible assumption | exact BA.nil); (case d => first | with_reducible assumption | exact BA.nil); (case u => ke_room); k_whole))))
local macro_rules | `(tactic| walk_at "compareOp NotEq ref ref") => `(tactic| (k_here; (with_reducible show wpAny _ _ (compareOp CmpOp.NotEq (Value.ref _) (Value.ref _)) _ _ _); k_dflt (first
  | (refine' ne_BAt ?N ?a ?b ?c ?d ?u ?_; (case N => k_asm); (case a => k_mem); (case b => k_mem); (case c => first | with_reducible assumption | assumption | exact BA.append (by with_reducible assumption) (.cons .nil)); (case d => first | with_reducible assumption | assumption | exact BA.append (by with_reducible assumption) (.cons .nil)); (case u => ke_room); k_whole))))
local macro_rules | `(tactic| walk_at "subscriptTail Name Slice ref ref") => `(tactic| (k_here; (with_reducible show wpAny _ _ (subscriptTail _ (PySem.Expr.Slice _ _ none _) (Value.ref _) (Value.ref _)) _ _ _); k_dflt (refine' slice1_S ?F ?N ?l ?z ?_ ?s ?t; (case F => k_asm); (case N => k_asm); (case l => k_mem); (case z => first | assumption | omega); (case s => with_unfolding_all rfl); (case t => kmk_pure)); intro D' h' F' N' l1; (try k_lt l1); (try k_sweep)))
local macro_rules | `(tactic| walk_at "binaryOp Add ref ref") => `(tactic| (k_here; (with_reducible show wpAny _ _ (binaryOp _ (Value.ref _) (Value.ref _)) _ _ _); k_dflt (refine' cat_S ?F ?N ?a ?b ?z ?z2 ?_; (case F => k_asm); (case N => k_asm); (case a => k_mem); (case b => k_mem); (case z => first | assumption | exact Nat.le_of_ble_eq_true rfl | omega); (case z2 => first | assumption | exact Nat.le_of_ble_eq_true rfl | omega)); intro D' h' F' N' l1; (try k_lt l1); (try k_sweep)))
local macro_rules | `(tactic| walk_at "binaryOp Mod int int") => `(tactic| (k_here; (with_reducible refine' mod_lit ?e9 ?h9 ?_); (case e9 => decide); (case h9 => with_reducible assumption); intro _ _))
local macro_rules | `(tactic| walk_at "compareOp NotEq bytes bytes") => `(tactic| (k_here; (with_reducible show wpAny _ _ (compareOp CmpOp.NotEq (Value.bytes _ _) (Value.bytes _ _)) _ _ _); (refine' ne_same ?_)))
local macro_rules | `(tactic| walk_at "subscriptTail") => `(tactic| (k_here; (with_reducible show wpAny _ _ (subscriptTail _ _ (Value.ref _) (Value.int _ _)) _ _ _); k_dflt (refine' item_S ?N ?a ?p ?q ?x ?_ ?s; (case N => k_asm); (case a => k_mem); (case x => first | with_reducible assumption | exact set_get (by with_reducible assumption)); (case p => with_reducible assumption); (case q => with_reducible assumption); (case s => with_unfolding_all rfl); k_whole)))
local macro_rules | `(tactic| walk_at "setItem ref int") => `(tactic| (k_here; (with_reducible show wpAny _ _ (setItem (Value.ref _) (Value.int _ _) (Value.ref _)) _ _ _); k_dflt (refine' set_S ?F ?N ?U ?a ?b ?c ?_; (case F => k_asm); (case N => k_asm); (case U => k_upd); (case a => with_reducible assumption); (case b => with_reducible assumption); (case c => with_reducible assumption); k_whole); intro h' F' N'; (try k_sweep)))
local macro_rules | `(tactic| walk_at "call ref") => `(tactic| (k_here; (with_reducible show wpAny _ _ (PySem.call (Value.ref 62) [Value.int _ _] []) _ _ _); k_dflt (refine' part_use ?K ?F ?N ?_; (case K => with_reducible assumption); (case F => k_asm); (case N => k_asm); k_whole); intro h' tk' tt' b' hb' F' N'; (try k_sweep)))
local macro_rules | `(tactic| walk_at "call ref") => `(tactic| (k_here; (with_reducible show wpAny _ _ (PySem.call (Value.ref 57) [Value.ref _, Value.int _ _] []) _ _ _); k_dflt (refine' due_use ?K ?F ?N ?a ?b ?v ?z ?_; (case K => with_reducible assumption); (case F => k_asm); (case N => k_asm); (case a => k_mem); (case b => with_reducible assumption); (case v => with_reducible assumption); (case z => with_reducible assumption); k_whole); intro h' tk' tt' T9 S9 n9 ws9 F' N' hw9 l1 l2 l3; (simp only [AllLt, and_true] at l1 l2); (try k_sweep)))
local macro_rules | `(tactic| walk_at "call ref") => `(tactic| (k_here; (with_reducible show wpAny _ _ (PySem.call (Value.ref 36) [Value.ref _, Value.int _ _] []) _ _ _); k_dflt (refine' read_use ?K ?F ?N ?o ?n1 ?n2 ?n3 ?n4 ?n5 ?n6 ?b ?u ?v ?z ?_; (case K => with_reducible assumption); (case F => k_asm); (case N => k_asm); (case o => with_reducible assumption); (case n1 => k_ne); (case n2 => k_ne); (case n3 => k_ne); (case n4 => k_ne); (case n5 => k_ne); (case n6 => k_ne); (case b => with_reducible assumption); (case u => with_reducible assumption); (case v => with_reducible assumption); (case z => with_reducible assumption); k_whole); intro h' tk' tt' P9 n9 k9 vs9 F' N' hw9 l9; (have p9 := fresh_off (by with_reducible assumption) l9); (have q9 := p9); (obtain ⟨pn1, pn2, pn3, pn4, pn5, pn6, pn7, pn8, pn9⟩ := q9); (try k_sweep)))
local macro_rules | `(tactic| walk_at "call ref") => `(tactic| (k_here; (with_reducible show wpAny _ _ (PySem.call (Value.ref 36) ([Value.ref _] ++ []) []) _ _ _); k_dflt (refine' readd_use ?K ?F ?N ?o ?n1 ?n2 ?n3 ?n4 ?n5 ?n6 ?b ?u ?v ?z ?_; (case K => with_reducible assumption); (case F => k_asm); (case N => k_asm); (case o => with_reducible assumption); (case n1 => k_ne); (case n2 => k_ne); (case n3 => k_ne); (case n4 => k_ne); (case n5 => k_ne); (case n6 => k_ne); (case b => with_reducible assumption); (case u => with_reducible assumption); (case v => with_reducible assumption); (case z => with_reducible assumption); k_whole); intro h' tk' tt' P9 n9 k9 vs9 F' N' hw9 l9; (have p9 := fresh_off (by with_reducible assumption) l9); (have q9 := p9); (obtain ⟨pn1, pn2, pn3, pn4, pn5, pn6, pn7, pn8, pn9⟩ := q9); (try k_sweep)))
local macro_rules | `(tactic| k_all) => `(tactic| first | exact OwnOff.ne (adr := [_]) (by with_reducible assumption) (.head _) | exact OwnOff.ne (adr := [_, _, _, _, _, _, _, _, _]) (by with_reducible assumption) (by k_memK))
theorem turn_w0 : ∀ (w : World) (s₀ s : Shared) (mg mb : Str → Option Value) (h₀ : Heap) (L fa w9 : Addr) (w8 : Obj) (cd : Value) (u : Str → Option Value)
  (x d P Aq FL HL AL H aq : Addr) (k1 k2 n k nh na cF cH cA : Nat) (vs us hs as fl hl al : List Value) (rest : List (Addr × Obj)) (number wh : Int) (t : Tok) (bs : List (Array UInt8)) (is : List Int) (E : Value → Shared → Prop) (Q : Flow → Shared → Prop),
  Known w s₀ mg mb h₀ w9 w8 → (hd.heap_39 w.params).In h₀ →
  Fr h₀ L s.heap (fun y => if y = Str.ofString "number" then some (Value.int number t) else if y = Str.ofString "files" then some (Value.ref FL) else if y = Str.ofString "holdings" then some (Value.ref HL) else if y = Str.ofString "asked" then some (Value.ref AL) else u y) →
  News h₀ L s.heap ((x, instObj 46 d) :: (d, pDict w k1 k2 P Aq) :: (P, listOf vs.toArray n) :: (Aq, listOf us.toArray k) :: (FL, listOf fl.toArray cF) :: (HL, listOf hl.toArray cH) :: (AL, listOf al.toArray cA) :: (H, listOf hs.toArray nh) :: (aq, listOf as.toArray na) :: rest) →
  OwnOff rest [x, d, P, Aq, FL, HL, AL, H, aq] →
  OwnOff ((FL, listOf fl.toArray cF) :: (HL, listOf hl.toArray cH) :: (AL, listOf al.toArray cA) :: (H, listOf hs.toArray nh) :: (aq, listOf as.toArray na) :: rest) [x, d, P, Aq] →
  Away P x d Aq FL HL AL H aq rest →
  x ≠ d → x ≠ P → x ≠ Aq → x ≠ FL → x ≠ HL → x ≠ AL → x ≠ H → x ≠ aq → d ≠ P → d ≠ Aq → d ≠ FL → d ≠ HL → d ≠ AL → d ≠ H → d ≠ aq → P ≠ Aq → P ≠ FL → P ≠ HL → P ≠ AL → P ≠ H → P ≠ aq → Aq ≠ FL → Aq ≠ HL → Aq ≠ AL → Aq ≠ H → Aq ≠ aq → FL ≠ HL → FL ≠ AL → FL ≠ H → FL ≠ aq → HL ≠ AL → HL ≠ H → HL ≠ aq → AL ≠ H → AL ≠ aq → H ≠ aq →
  BA vs bs → BA hs bs → IntsAre us is → IntsAre as is → us.length ≤ 100 → as.length ≤ 100 → vs.length ≤ 100 → hs.length ≤ 100 → (∀ b ∈ bs, b.size ≤ 5) →
  number.fmod 2 = wh → 0 ≤ wh → wh ≤ 1000 → wh < hl.length → wh.toNat < hl.length → fl[wh.toNat]? = some (Value.ref x) → hl[wh.toNat]? = some (Value.ref H) → al[wh.toNat]? = some (Value.ref aq) →
  (∀ h' tk m' P' H' n' k' nh' na' vs' hs' us' as' is' bs', Fr h₀ L h' m' → m' (Str.ofString "files") = some (Value.ref FL) → m' (Str.ofString "holdings") = some (Value.ref HL) → m' (Str.ofString "asked") = some (Value.ref AL) →
    News h₀ L h' ((x, instObj 46 d) :: (d, pDict w k1 k2 P' Aq) :: (P', listOf vs'.toArray n') :: (Aq, listOf us'.toArray k') :: (FL, listOf fl.toArray cF) :: (HL, listOf (hl.set wh.toNat (Value.ref H')).toArray cH) :: (AL, listOf al.toArray cA) :: (H', listOf hs'.toArray nh') :: (aq, listOf as'.toArray na') :: rest) →
    BA vs' bs' → BA hs' bs' → IntsAre us' is' → IntsAre as' is' → bs'.length ≤ bs.length + 1 → (∀ b ∈ bs', b.size ≤ 5) → is'.length ≤ is.length + 1 →
    Away P' x d Aq FL HL AL H aq rest → AllLt H' ((x, instObj 46 d) :: (d, instObj 46 d) :: (P', instObj 46 d) :: (Aq, instObj 46 d) :: (FL, instObj 46 d) :: (HL, instObj 46 d) :: (AL, instObj 46 d) :: (H, instObj 46 d) :: (aq, instObj 46 d) :: rest) →
    Q .next { heap := h', gens := s.gens, drawn := s.drawn, toks := tk, os := s.os }) →
  (number.fdiv 2).fmod 4 = 0 →
  wpAny (model PySem.Challenge.rw_ag6001_01.row.prog w) (lawA L fa cd) (execs loopBody (lawEnv L fa cd)) Q E s := by
  w_top off
  k_fill
  intro w s₀ s mg mb h₀ L fa w9 w8 cd u x d P Aq FL HL AL H aq k1 k2 n k nh na cF cH cA vs us hs as fl hl al rest number wh t bs is E Q K X' F' N' hoff hoff4 hA nxd nxP nxAq nxFL nxHL nxAL nxH nxaq ndP ndAq ndFL ndHL ndAL ndH ndaq nPAq nPFL nPHL nPAL nPH nPaq nAqFL nAqHL nAqAL nAqH nAqaq nFLHL nFLAL nFLH nFLaq nHLAL nHLH nHLaq nALH nALaq nHaq hb hbh hi hia hu9 has9 hv9 hh9 hz hwh w0 w1 w2 w3 hfl hhl hal done hcond
  have B' := K.B
  have T' := K.T
  have GL := K.G
  have M := K.M
  have e : loopBody = ?body9 := by
    conv => lhs; whnf
  rw [e]
  clear e
  k_steps
  refine' done _ _ _ ?P9 ?H9 ?n9 ?k9 ?nh9 ?na9 ?vs9 ?hs9 ?us9 ?as9 ?is9 ?bs9 ?a9 ?r1 ?r2 ?r3 ?b9 ?c9 ?d9 ?e9 ?f9 ?g9 ?h9 ?i9 ?j9 ?l9
  (case a9 => assumption)
  (case r1 => rfl)
  (case r2 => rfl)
  (case r3 => rfl)
  (case b9 => exact kst_newsOf (by assumption) (by kqd_sub))
  (case c9 => first | assumption | exact BA.append hb (.cons .nil))
  (case d9 => first | assumption | exact BA.append hbh (.cons .nil))
  (case e9 => first | assumption | exact IntsAre.append hi (.cons _ _ .nil))
  (case f9 => first | assumption | exact IntsAre.append hia (.cons _ _ .nil))
  (case g9 => first | exact Nat.le_succ_of_le (stay_len _ _) | (rw [List.length_append]; exact Nat.le_refl _))
  (case h9 => first | exact stay_size hz _ | exact app_size hz (by assumption))
  (case i9 => first | exact Nat.le_succ _ | (rw [List.length_append]; exact Nat.le_refl _))
  (case j9 => assumption)
  (case l9 => first | assumption | exact And.right (by assumption))
theorem turn_w1 : ∀ (w : World) (s₀ s : Shared) (mg mb : Str → Option Value) (h₀ : Heap) (L fa w9 : Addr) (w8 : Obj) (cd : Value) (u : Str → Option Value)
  (x d P Aq FL HL AL H aq : Addr) (k1 k2 n k nh na cF cH cA : Nat) (vs us hs as fl hl al : List Value) (rest : List (Addr × Obj)) (number wh : Int) (t : Tok) (bs : List (Array UInt8)) (is : List Int) (E : Value → Shared → Prop) (Q : Flow → Shared → Prop),
  Known w s₀ mg mb h₀ w9 w8 → (hd.heap_39 w.params).In h₀ →
  Fr h₀ L s.heap (fun y => if y = Str.ofString "number" then some (Value.int number t) else if y = Str.ofString "files" then some (Value.ref FL) else if y = Str.ofString "holdings" then some (Value.ref HL) else if y = Str.ofString "asked" then some (Value.ref AL) else u y) →
  News h₀ L s.heap ((x, instObj 46 d) :: (d, pDict w k1 k2 P Aq) :: (P, listOf vs.toArray n) :: (Aq, listOf us.toArray k) :: (FL, listOf fl.toArray cF) :: (HL, listOf hl.toArray cH) :: (AL, listOf al.toArray cA) :: (H, listOf hs.toArray nh) :: (aq, listOf as.toArray na) :: rest) →
  OwnOff rest [x, d, P, Aq, FL, HL, AL, H, aq] →
  OwnOff ((FL, listOf fl.toArray cF) :: (HL, listOf hl.toArray cH) :: (AL, listOf al.toArray cA) :: (H, listOf hs.toArray nh) :: (aq, listOf as.toArray na) :: rest) [x, d, P, Aq] →
  Away P x d Aq FL HL AL H aq rest →
  x ≠ d → x ≠ P → x ≠ Aq → x ≠ FL → x ≠ HL → x ≠ AL → x ≠ H → x ≠ aq → d ≠ P → d ≠ Aq → d ≠ FL → d ≠ HL → d ≠ AL → d ≠ H → d ≠ aq → P ≠ Aq → P ≠ FL → P ≠ HL → P ≠ AL → P ≠ H → P ≠ aq → Aq ≠ FL → Aq ≠ HL → Aq ≠ AL → Aq ≠ H → Aq ≠ aq → FL ≠ HL → FL ≠ AL → FL ≠ H → FL ≠ aq → HL ≠ AL → HL ≠ H → HL ≠ aq → AL ≠ H → AL ≠ aq → H ≠ aq →
  BA vs bs → BA hs bs → IntsAre us is → IntsAre as is → us.length ≤ 100 → as.length ≤ 100 → vs.length ≤ 100 → hs.length ≤ 100 → (∀ b ∈ bs, b.size ≤ 5) →
  number.fmod 2 = wh → 0 ≤ wh → wh ≤ 1000 → wh < hl.length → wh.toNat < hl.length → fl[wh.toNat]? = some (Value.ref x) → hl[wh.toNat]? = some (Value.ref H) → al[wh.toNat]? = some (Value.ref aq) →
  (∀ h' tk m' P' H' n' k' nh' na' vs' hs' us' as' is' bs', Fr h₀ L h' m' → m' (Str.ofString "files") = some (Value.ref FL) → m' (Str.ofString "holdings") = some (Value.ref HL) → m' (Str.ofString "asked") = some (Value.ref AL) →
    News h₀ L h' ((x, instObj 46 d) :: (d, pDict w k1 k2 P' Aq) :: (P', listOf vs'.toArray n') :: (Aq, listOf us'.toArray k') :: (FL, listOf fl.toArray cF) :: (HL, listOf (hl.set wh.toNat (Value.ref H')).toArray cH) :: (AL, listOf al.toArray cA) :: (H', listOf hs'.toArray nh') :: (aq, listOf as'.toArray na') :: rest) →
    BA vs' bs' → BA hs' bs' → IntsAre us' is' → IntsAre as' is' → bs'.length ≤ bs.length + 1 → (∀ b ∈ bs', b.size ≤ 5) → is'.length ≤ is.length + 1 →
    Away P' x d Aq FL HL AL H aq rest → AllLt H' ((x, instObj 46 d) :: (d, instObj 46 d) :: (P', instObj 46 d) :: (Aq, instObj 46 d) :: (FL, instObj 46 d) :: (HL, instObj 46 d) :: (AL, instObj 46 d) :: (H, instObj 46 d) :: (aq, instObj 46 d) :: rest) →
    Q .next { heap := h', gens := s.gens, drawn := s.drawn, toks := tk, os := s.os }) →
  (number.fdiv 2).fmod 4 = 1 →
  wpAny (model PySem.Challenge.rw_ag6001_01.row.prog w) (lawA L fa cd) (execs loopBody (lawEnv L fa cd)) Q E s := by
  w_top off
  k_fill
  intro w s₀ s mg mb h₀ L fa w9 w8 cd u x d P Aq FL HL AL H aq k1 k2 n k nh na cF cH cA vs us hs as fl hl al rest number wh t bs is E Q K X' F' N' hoff hoff4 hA nxd nxP nxAq nxFL nxHL nxAL nxH nxaq ndP ndAq ndFL ndHL ndAL ndH ndaq nPAq nPFL nPHL nPAL nPH nPaq nAqFL nAqHL nAqAL nAqH nAqaq nFLHL nFLAL nFLH nFLaq nHLAL nHLH nHLaq nALH nALaq nHaq hb hbh hi hia hu9 has9 hv9 hh9 hz hwh w0 w1 w2 w3 hfl hhl hal done hcond
  have B' := K.B
  have T' := K.T
  have GL := K.G
  have M := K.M
  have e : loopBody = ?body9 := by
    conv => lhs; whnf
  rw [e]
  clear e
  k_steps
  refine' done _ _ _ ?P9 ?H9 ?n9 ?k9 ?nh9 ?na9 ?vs9 ?hs9 ?us9 ?as9 ?is9 ?bs9 ?a9 ?r1 ?r2 ?r3 ?b9 ?c9 ?d9 ?e9 ?f9 ?g9 ?h9 ?i9 ?j9 ?l9
  (case a9 => assumption)
  (case r1 => rfl)
  (case r2 => rfl)
  (case r3 => rfl)
  (case b9 => exact kst_newsOf (by assumption) (by kqd_sub))
  (case c9 => first | assumption | exact BA.append hb (.cons .nil))
  (case d9 => first | assumption | exact BA.append hbh (.cons .nil))
  (case e9 => first | assumption | exact IntsAre.append hi (.cons _ _ .nil))
  (case f9 => first | assumption | exact IntsAre.append hia (.cons _ _ .nil))
  (case g9 => first | exact Nat.le_succ_of_le (stay_len _ _) | (rw [List.length_append]; exact Nat.le_refl _))
  (case h9 => first | exact stay_size hz _ | exact app_size hz (by assumption))
  (case i9 => first | exact Nat.le_succ _ | (rw [List.length_append]; exact Nat.le_refl _))
  (case j9 => assumption)
  (case l9 => first | assumption | exact And.right (by assumption))
theorem turn_w2 : ∀ (w : World) (s₀ s : Shared) (mg mb : Str → Option Value) (h₀ : Heap) (L fa w9 : Addr) (w8 : Obj) (cd : Value) (u : Str → Option Value)
  (x d P Aq FL HL AL H aq : Addr) (k1 k2 n k nh na cF cH cA : Nat) (vs us hs as fl hl al : List Value) (rest : List (Addr × Obj)) (number wh : Int) (t : Tok) (bs : List (Array UInt8)) (is : List Int) (E : Value → Shared → Prop) (Q : Flow → Shared → Prop),
  Known w s₀ mg mb h₀ w9 w8 → (hd.heap_39 w.params).In h₀ →
  Fr h₀ L s.heap (fun y => if y = Str.ofString "number" then some (Value.int number t) else if y = Str.ofString "files" then some (Value.ref FL) else if y = Str.ofString "holdings" then some (Value.ref HL) else if y = Str.ofString "asked" then some (Value.ref AL) else u y) →
  News h₀ L s.heap ((x, instObj 46 d) :: (d, pDict w k1 k2 P Aq) :: (P, listOf vs.toArray n) :: (Aq, listOf us.toArray k) :: (FL, listOf fl.toArray cF) :: (HL, listOf hl.toArray cH) :: (AL, listOf al.toArray cA) :: (H, listOf hs.toArray nh) :: (aq, listOf as.toArray na) :: rest) →
  OwnOff rest [x, d, P, Aq, FL, HL, AL, H, aq] →
  OwnOff ((FL, listOf fl.toArray cF) :: (HL, listOf hl.toArray cH) :: (AL, listOf al.toArray cA) :: (H, listOf hs.toArray nh) :: (aq, listOf as.toArray na) :: rest) [x, d, P, Aq] →
  Away P x d Aq FL HL AL H aq rest →
  x ≠ d → x ≠ P → x ≠ Aq → x ≠ FL → x ≠ HL → x ≠ AL → x ≠ H → x ≠ aq → d ≠ P → d ≠ Aq → d ≠ FL → d ≠ HL → d ≠ AL → d ≠ H → d ≠ aq → P ≠ Aq → P ≠ FL → P ≠ HL → P ≠ AL → P ≠ H → P ≠ aq → Aq ≠ FL → Aq ≠ HL → Aq ≠ AL → Aq ≠ H → Aq ≠ aq → FL ≠ HL → FL ≠ AL → FL ≠ H → FL ≠ aq → HL ≠ AL → HL ≠ H → HL ≠ aq → AL ≠ H → AL ≠ aq → H ≠ aq →
  BA vs bs → BA hs bs → IntsAre us is → IntsAre as is → us.length ≤ 100 → as.length ≤ 100 → vs.length ≤ 100 → hs.length ≤ 100 → (∀ b ∈ bs, b.size ≤ 5) →
  number.fmod 2 = wh → 0 ≤ wh → wh ≤ 1000 → wh < hl.length → wh.toNat < hl.length → fl[wh.toNat]? = some (Value.ref x) → hl[wh.toNat]? = some (Value.ref H) → al[wh.toNat]? = some (Value.ref aq) →
  (∀ h' tk m' P' H' n' k' nh' na' vs' hs' us' as' is' bs', Fr h₀ L h' m' → m' (Str.ofString "files") = some (Value.ref FL) → m' (Str.ofString "holdings") = some (Value.ref HL) → m' (Str.ofString "asked") = some (Value.ref AL) →
    News h₀ L h' ((x, instObj 46 d) :: (d, pDict w k1 k2 P' Aq) :: (P', listOf vs'.toArray n') :: (Aq, listOf us'.toArray k') :: (FL, listOf fl.toArray cF) :: (HL, listOf (hl.set wh.toNat (Value.ref H')).toArray cH) :: (AL, listOf al.toArray cA) :: (H', listOf hs'.toArray nh') :: (aq, listOf as'.toArray na') :: rest) →
    BA vs' bs' → BA hs' bs' → IntsAre us' is' → IntsAre as' is' → bs'.length ≤ bs.length + 1 → (∀ b ∈ bs', b.size ≤ 5) → is'.length ≤ is.length + 1 →
    Away P' x d Aq FL HL AL H aq rest → AllLt H' ((x, instObj 46 d) :: (d, instObj 46 d) :: (P', instObj 46 d) :: (Aq, instObj 46 d) :: (FL, instObj 46 d) :: (HL, instObj 46 d) :: (AL, instObj 46 d) :: (H, instObj 46 d) :: (aq, instObj 46 d) :: rest) →
    Q .next { heap := h', gens := s.gens, drawn := s.drawn, toks := tk, os := s.os }) →
  (number.fdiv 2).fmod 4 = 2 →
  wpAny (model PySem.Challenge.rw_ag6001_01.row.prog w) (lawA L fa cd) (execs loopBody (lawEnv L fa cd)) Q E s := by
  w_top off
  k_fill
  intro w s₀ s mg mb h₀ L fa w9 w8 cd u x d P Aq FL HL AL H aq k1 k2 n k nh na cF cH cA vs us hs as fl hl al rest number wh t bs is E Q K X' F' N' hoff hoff4 hA nxd nxP nxAq nxFL nxHL nxAL nxH nxaq ndP ndAq ndFL ndHL ndAL ndH ndaq nPAq nPFL nPHL nPAL nPH nPaq nAqFL nAqHL nAqAL nAqH nAqaq nFLHL nFLAL nFLH nFLaq nHLAL nHLH nHLaq nALH nALaq nHaq hb hbh hi hia hu9 has9 hv9 hh9 hz hwh w0 w1 w2 w3 hfl hhl hal done hcond
  have B' := K.B
  have T' := K.T
  have GL := K.G
  have M := K.M
  have e : loopBody = ?body9 := by
    conv => lhs; whnf
  rw [e]
  clear e
  k_steps
  refine' done _ _ _ ?P9 ?H9 ?n9 ?k9 ?nh9 ?na9 ?vs9 ?hs9 ?us9 ?as9 ?is9 ?bs9 ?a9 ?r1 ?r2 ?r3 ?b9 ?c9 ?d9 ?e9 ?f9 ?g9 ?h9 ?i9 ?j9 ?l9
  (case a9 => assumption)
  (case r1 => rfl)
  (case r2 => rfl)
  (case r3 => rfl)
  (case b9 => exact kst_newsOf (by assumption) (by kqd_sub))
  (case c9 => first | assumption | exact BA.append hb (.cons .nil))
  (case d9 => first | assumption | exact BA.append hbh (.cons .nil))
  (case e9 => first | assumption | exact IntsAre.append hi (.cons _ _ .nil))
  (case f9 => first | assumption | exact IntsAre.append hia (.cons _ _ .nil))
  (case g9 => first | exact Nat.le_succ_of_le (stay_len _ _) | (rw [List.length_append]; exact Nat.le_refl _))
  (case h9 => first | exact stay_size hz _ | exact app_size hz (by assumption))
  (case i9 => first | exact Nat.le_succ _ | (rw [List.length_append]; exact Nat.le_refl _))
  (case j9 => assumption)
  (case l9 => first | assumption | exact And.right (by assumption))
theorem turn_w30 : ∀ (w : World) (s₀ s : Shared) (mg mb : Str → Option Value) (h₀ : Heap) (L fa w9 : Addr) (w8 : Obj) (cd : Value) (u : Str → Option Value)
  (x d P Aq FL HL AL H aq : Addr) (k1 k2 n k nh na cF cH cA : Nat) (vs us hs as fl hl al : List Value) (rest : List (Addr × Obj)) (number wh : Int) (t : Tok) (bs : List (Array UInt8)) (is : List Int) (E : Value → Shared → Prop) (Q : Flow → Shared → Prop),
  Known w s₀ mg mb h₀ w9 w8 → (hd.heap_39 w.params).In h₀ →
  Fr h₀ L s.heap (fun y => if y = Str.ofString "number" then some (Value.int number t) else if y = Str.ofString "files" then some (Value.ref FL) else if y = Str.ofString "holdings" then some (Value.ref HL) else if y = Str.ofString "asked" then some (Value.ref AL) else u y) →
  News h₀ L s.heap ((x, instObj 46 d) :: (d, pDict w k1 k2 P Aq) :: (P, listOf vs.toArray n) :: (Aq, listOf us.toArray k) :: (FL, listOf fl.toArray cF) :: (HL, listOf hl.toArray cH) :: (AL, listOf al.toArray cA) :: (H, listOf hs.toArray nh) :: (aq, listOf as.toArray na) :: rest) →
  OwnOff rest [x, d, P, Aq, FL, HL, AL, H, aq] →
  OwnOff ((FL, listOf fl.toArray cF) :: (HL, listOf hl.toArray cH) :: (AL, listOf al.toArray cA) :: (H, listOf hs.toArray nh) :: (aq, listOf as.toArray na) :: rest) [x, d, P, Aq] →
  Away P x d Aq FL HL AL H aq rest →
  x ≠ d → x ≠ P → x ≠ Aq → x ≠ FL → x ≠ HL → x ≠ AL → x ≠ H → x ≠ aq → d ≠ P → d ≠ Aq → d ≠ FL → d ≠ HL → d ≠ AL → d ≠ H → d ≠ aq → P ≠ Aq → P ≠ FL → P ≠ HL → P ≠ AL → P ≠ H → P ≠ aq → Aq ≠ FL → Aq ≠ HL → Aq ≠ AL → Aq ≠ H → Aq ≠ aq → FL ≠ HL → FL ≠ AL → FL ≠ H → FL ≠ aq → HL ≠ AL → HL ≠ H → HL ≠ aq → AL ≠ H → AL ≠ aq → H ≠ aq →
  BA vs bs → BA hs bs → IntsAre us is → IntsAre as is → us.length ≤ 100 → as.length ≤ 100 → vs.length ≤ 100 → hs.length ≤ 100 → (∀ b ∈ bs, b.size ≤ 5) →
  number.fmod 2 = wh → 0 ≤ wh → wh ≤ 1000 → wh < hl.length → wh.toNat < hl.length → fl[wh.toNat]? = some (Value.ref x) → hl[wh.toNat]? = some (Value.ref H) → al[wh.toNat]? = some (Value.ref aq) →
  (∀ h' tk m' P' H' n' k' nh' na' vs' hs' us' as' is' bs', Fr h₀ L h' m' → m' (Str.ofString "files") = some (Value.ref FL) → m' (Str.ofString "holdings") = some (Value.ref HL) → m' (Str.ofString "asked") = some (Value.ref AL) →
    News h₀ L h' ((x, instObj 46 d) :: (d, pDict w k1 k2 P' Aq) :: (P', listOf vs'.toArray n') :: (Aq, listOf us'.toArray k') :: (FL, listOf fl.toArray cF) :: (HL, listOf (hl.set wh.toNat (Value.ref H')).toArray cH) :: (AL, listOf al.toArray cA) :: (H', listOf hs'.toArray nh') :: (aq, listOf as'.toArray na') :: rest) →
    BA vs' bs' → BA hs' bs' → IntsAre us' is' → IntsAre as' is' → bs'.length ≤ bs.length + 1 → (∀ b ∈ bs', b.size ≤ 5) → is'.length ≤ is.length + 1 →
    Away P' x d Aq FL HL AL H aq rest → AllLt H' ((x, instObj 46 d) :: (d, instObj 46 d) :: (P', instObj 46 d) :: (Aq, instObj 46 d) :: (FL, instObj 46 d) :: (HL, instObj 46 d) :: (AL, instObj 46 d) :: (H, instObj 46 d) :: (aq, instObj 46 d) :: rest) →
    Q .next { heap := h', gens := s.gens, drawn := s.drawn, toks := tk, os := s.os }) →
  ((number.fdiv 2).fmod 4 = 3 ∧ (number.fdiv 8).fmod 2 = 0) →
  wpAny (model PySem.Challenge.rw_ag6001_01.row.prog w) (lawA L fa cd) (execs loopBody (lawEnv L fa cd)) Q E s := by
  w_top off
  k_fill
  intro w s₀ s mg mb h₀ L fa w9 w8 cd u x d P Aq FL HL AL H aq k1 k2 n k nh na cF cH cA vs us hs as fl hl al rest number wh t bs is E Q K X' F' N' hoff hoff4 hA nxd nxP nxAq nxFL nxHL nxAL nxH nxaq ndP ndAq ndFL ndHL ndAL ndH ndaq nPAq nPFL nPHL nPAL nPH nPaq nAqFL nAqHL nAqAL nAqH nAqaq nFLHL nFLAL nFLH nFLaq nHLAL nHLH nHLaq nALH nALaq nHaq hb hbh hi hia hu9 has9 hv9 hh9 hz hwh w0 w1 w2 w3 hfl hhl hal done hcond
  have B' := K.B
  have T' := K.T
  have GL := K.G
  have M := K.M
  have e : loopBody = ?body9 := by
    conv => lhs; whnf
  rw [e]
  clear e
  obtain ⟨hc1, hc2⟩ := hcond
  k_steps
  refine' done _ _ _ ?P9 ?H9 ?n9 ?k9 ?nh9 ?na9 ?vs9 ?hs9 ?us9 ?as9 ?is9 ?bs9 ?a9 ?r1 ?r2 ?r3 ?b9 ?c9 ?d9 ?e9 ?f9 ?g9 ?h9 ?i9 ?j9 ?l9
  (case a9 => assumption)
  (case r1 => rfl)
  (case r2 => rfl)
  (case r3 => rfl)
  (case b9 => exact kst_newsOf (by assumption) (by kqd_sub))
  (case c9 => first | assumption | exact BA.append hb (.cons .nil))
  (case d9 => first | assumption | exact BA.append hbh (.cons .nil))
  (case e9 => first | assumption | exact IntsAre.append hi (.cons _ _ .nil))
  (case f9 => first | assumption | exact IntsAre.append hia (.cons _ _ .nil))
  (case g9 => first | exact Nat.le_succ_of_le (stay_len _ _) | (rw [List.length_append]; exact Nat.le_refl _))
  (case h9 => first | exact stay_size hz _ | exact app_size hz (by assumption))
  (case i9 => first | exact Nat.le_succ _ | (rw [List.length_append]; exact Nat.le_refl _))
  (case j9 => assumption)
  (case l9 => first | assumption | exact And.right (by assumption))
theorem turn_w31 : ∀ (w : World) (s₀ s : Shared) (mg mb : Str → Option Value) (h₀ : Heap) (L fa w9 : Addr) (w8 : Obj) (cd : Value) (u : Str → Option Value)
  (x d P Aq FL HL AL H aq : Addr) (k1 k2 n k nh na cF cH cA : Nat) (vs us hs as fl hl al : List Value) (rest : List (Addr × Obj)) (number wh : Int) (t : Tok) (bs : List (Array UInt8)) (is : List Int) (E : Value → Shared → Prop) (Q : Flow → Shared → Prop),
  Known w s₀ mg mb h₀ w9 w8 → (hd.heap_39 w.params).In h₀ →
  Fr h₀ L s.heap (fun y => if y = Str.ofString "number" then some (Value.int number t) else if y = Str.ofString "files" then some (Value.ref FL) else if y = Str.ofString "holdings" then some (Value.ref HL) else if y = Str.ofString "asked" then some (Value.ref AL) else u y) →
  News h₀ L s.heap ((x, instObj 46 d) :: (d, pDict w k1 k2 P Aq) :: (P, listOf vs.toArray n) :: (Aq, listOf us.toArray k) :: (FL, listOf fl.toArray cF) :: (HL, listOf hl.toArray cH) :: (AL, listOf al.toArray cA) :: (H, listOf hs.toArray nh) :: (aq, listOf as.toArray na) :: rest) →
  OwnOff rest [x, d, P, Aq, FL, HL, AL, H, aq] →
  OwnOff ((FL, listOf fl.toArray cF) :: (HL, listOf hl.toArray cH) :: (AL, listOf al.toArray cA) :: (H, listOf hs.toArray nh) :: (aq, listOf as.toArray na) :: rest) [x, d, P, Aq] →
  Away P x d Aq FL HL AL H aq rest →
  x ≠ d → x ≠ P → x ≠ Aq → x ≠ FL → x ≠ HL → x ≠ AL → x ≠ H → x ≠ aq → d ≠ P → d ≠ Aq → d ≠ FL → d ≠ HL → d ≠ AL → d ≠ H → d ≠ aq → P ≠ Aq → P ≠ FL → P ≠ HL → P ≠ AL → P ≠ H → P ≠ aq → Aq ≠ FL → Aq ≠ HL → Aq ≠ AL → Aq ≠ H → Aq ≠ aq → FL ≠ HL → FL ≠ AL → FL ≠ H → FL ≠ aq → HL ≠ AL → HL ≠ H → HL ≠ aq → AL ≠ H → AL ≠ aq → H ≠ aq →
  BA vs bs → BA hs bs → IntsAre us is → IntsAre as is → us.length ≤ 100 → as.length ≤ 100 → vs.length ≤ 100 → hs.length ≤ 100 → (∀ b ∈ bs, b.size ≤ 5) →
  number.fmod 2 = wh → 0 ≤ wh → wh ≤ 1000 → wh < hl.length → wh.toNat < hl.length → fl[wh.toNat]? = some (Value.ref x) → hl[wh.toNat]? = some (Value.ref H) → al[wh.toNat]? = some (Value.ref aq) →
  (∀ h' tk m' P' H' n' k' nh' na' vs' hs' us' as' is' bs', Fr h₀ L h' m' → m' (Str.ofString "files") = some (Value.ref FL) → m' (Str.ofString "holdings") = some (Value.ref HL) → m' (Str.ofString "asked") = some (Value.ref AL) →
    News h₀ L h' ((x, instObj 46 d) :: (d, pDict w k1 k2 P' Aq) :: (P', listOf vs'.toArray n') :: (Aq, listOf us'.toArray k') :: (FL, listOf fl.toArray cF) :: (HL, listOf (hl.set wh.toNat (Value.ref H')).toArray cH) :: (AL, listOf al.toArray cA) :: (H', listOf hs'.toArray nh') :: (aq, listOf as'.toArray na') :: rest) →
    BA vs' bs' → BA hs' bs' → IntsAre us' is' → IntsAre as' is' → bs'.length ≤ bs.length + 1 → (∀ b ∈ bs', b.size ≤ 5) → is'.length ≤ is.length + 1 →
    Away P' x d Aq FL HL AL H aq rest → AllLt H' ((x, instObj 46 d) :: (d, instObj 46 d) :: (P', instObj 46 d) :: (Aq, instObj 46 d) :: (FL, instObj 46 d) :: (HL, instObj 46 d) :: (AL, instObj 46 d) :: (H, instObj 46 d) :: (aq, instObj 46 d) :: rest) →
    Q .next { heap := h', gens := s.gens, drawn := s.drawn, toks := tk, os := s.os }) →
  ((number.fdiv 2).fmod 4 = 3 ∧ (number.fdiv 8).fmod 2 = 1) →
  wpAny (model PySem.Challenge.rw_ag6001_01.row.prog w) (lawA L fa cd) (execs loopBody (lawEnv L fa cd)) Q E s := by
  w_top off
  k_fill
  intro w s₀ s mg mb h₀ L fa w9 w8 cd u x d P Aq FL HL AL H aq k1 k2 n k nh na cF cH cA vs us hs as fl hl al rest number wh t bs is E Q K X' F' N' hoff hoff4 hA nxd nxP nxAq nxFL nxHL nxAL nxH nxaq ndP ndAq ndFL ndHL ndAL ndH ndaq nPAq nPFL nPHL nPAL nPH nPaq nAqFL nAqHL nAqAL nAqH nAqaq nFLHL nFLAL nFLH nFLaq nHLAL nHLH nHLaq nALH nALaq nHaq hb hbh hi hia hu9 has9 hv9 hh9 hz hwh w0 w1 w2 w3 hfl hhl hal done hcond
  have B' := K.B
  have T' := K.T
  have GL := K.G
  have M := K.M
  have e : loopBody = ?body9 := by
    conv => lhs; whnf
  rw [e]
  clear e
  obtain ⟨hc1, hc2⟩ := hcond
  k_steps
  refine' done _ _ _ ?P9 ?H9 ?n9 ?k9 ?nh9 ?na9 ?vs9 ?hs9 ?us9 ?as9 ?is9 ?bs9 ?a9 ?r1 ?r2 ?r3 ?b9 ?c9 ?d9 ?e9 ?f9 ?g9 ?h9 ?i9 ?j9 ?l9
  (case a9 => assumption)
  (case r1 => rfl)
  (case r2 => rfl)
  (case r3 => rfl)
  (case b9 => exact kst_newsOf (by assumption) (by kqd_sub))
  (case c9 => first | assumption | exact BA.append hb (.cons .nil))
  (case d9 => first | assumption | exact BA.append hbh (.cons .nil))
  (case e9 => first | assumption | exact IntsAre.append hi (.cons _ _ .nil))
  (case f9 => first | assumption | exact IntsAre.append hia (.cons _ _ .nil))
  (case g9 => first | exact Nat.le_succ_of_le (stay_len _ _) | (rw [List.length_append]; exact Nat.le_refl _))
  (case h9 => first | exact stay_size hz _ | exact app_size hz (by assumption))
  (case i9 => first | exact Nat.le_succ _ | (rw [List.length_append]; exact Nat.le_refl _))
  (case j9 => assumption)
  (case l9 => first | assumption | exact And.right (by assumption))
theorem turn_all : ∀ (w : World) (s₀ s : Shared) (mg mb : Str → Option Value) (h₀ : Heap) (L fa w9 : Addr) (w8 : Obj) (cd : Value) (u : Str → Option Value)
  (x d P Aq FL HL AL H aq : Addr) (k1 k2 n k nh na cF cH cA : Nat) (vs us hs as fl hl al : List Value) (rest : List (Addr × Obj)) (number wh : Int) (t : Tok) (bs : List (Array UInt8)) (is : List Int) (E : Value → Shared → Prop) (Q : Flow → Shared → Prop),
  Known w s₀ mg mb h₀ w9 w8 → (hd.heap_39 w.params).In h₀ →
  Fr h₀ L s.heap (fun y => if y = Str.ofString "number" then some (Value.int number t) else if y = Str.ofString "files" then some (Value.ref FL) else if y = Str.ofString "holdings" then some (Value.ref HL) else if y = Str.ofString "asked" then some (Value.ref AL) else u y) →
  News h₀ L s.heap ((x, instObj 46 d) :: (d, pDict w k1 k2 P Aq) :: (P, listOf vs.toArray n) :: (Aq, listOf us.toArray k) :: (FL, listOf fl.toArray cF) :: (HL, listOf hl.toArray cH) :: (AL, listOf al.toArray cA) :: (H, listOf hs.toArray nh) :: (aq, listOf as.toArray na) :: rest) →
  OwnOff rest [x, d, P, Aq, FL, HL, AL, H, aq] →
  OwnOff ((FL, listOf fl.toArray cF) :: (HL, listOf hl.toArray cH) :: (AL, listOf al.toArray cA) :: (H, listOf hs.toArray nh) :: (aq, listOf as.toArray na) :: rest) [x, d, P, Aq] →
  Away P x d Aq FL HL AL H aq rest →
  x ≠ d → x ≠ P → x ≠ Aq → x ≠ FL → x ≠ HL → x ≠ AL → x ≠ H → x ≠ aq → d ≠ P → d ≠ Aq → d ≠ FL → d ≠ HL → d ≠ AL → d ≠ H → d ≠ aq → P ≠ Aq → P ≠ FL → P ≠ HL → P ≠ AL → P ≠ H → P ≠ aq → Aq ≠ FL → Aq ≠ HL → Aq ≠ AL → Aq ≠ H → Aq ≠ aq → FL ≠ HL → FL ≠ AL → FL ≠ H → FL ≠ aq → HL ≠ AL → HL ≠ H → HL ≠ aq → AL ≠ H → AL ≠ aq → H ≠ aq →
  BA vs bs → BA hs bs → IntsAre us is → IntsAre as is → us.length ≤ 100 → as.length ≤ 100 → vs.length ≤ 100 → hs.length ≤ 100 → (∀ b ∈ bs, b.size ≤ 5) →
  number.fmod 2 = wh → 0 ≤ wh → wh ≤ 1000 → wh < hl.length → wh.toNat < hl.length → fl[wh.toNat]? = some (Value.ref x) → hl[wh.toNat]? = some (Value.ref H) → al[wh.toNat]? = some (Value.ref aq) →
  (∀ h' tk m' P' H' n' k' nh' na' vs' hs' us' as' is' bs', Fr h₀ L h' m' → m' (Str.ofString "files") = some (Value.ref FL) → m' (Str.ofString "holdings") = some (Value.ref HL) → m' (Str.ofString "asked") = some (Value.ref AL) →
    News h₀ L h' ((x, instObj 46 d) :: (d, pDict w k1 k2 P' Aq) :: (P', listOf vs'.toArray n') :: (Aq, listOf us'.toArray k') :: (FL, listOf fl.toArray cF) :: (HL, listOf (hl.set wh.toNat (Value.ref H')).toArray cH) :: (AL, listOf al.toArray cA) :: (H', listOf hs'.toArray nh') :: (aq, listOf as'.toArray na') :: rest) →
    BA vs' bs' → BA hs' bs' → IntsAre us' is' → IntsAre as' is' → bs'.length ≤ bs.length + 1 → (∀ b ∈ bs', b.size ≤ 5) → is'.length ≤ is.length + 1 →
    Away P' x d Aq FL HL AL H aq rest → AllLt H' ((x, instObj 46 d) :: (d, instObj 46 d) :: (P', instObj 46 d) :: (Aq, instObj 46 d) :: (FL, instObj 46 d) :: (HL, instObj 46 d) :: (AL, instObj 46 d) :: (H, instObj 46 d) :: (aq, instObj 46 d) :: rest) →
    Q .next { heap := h', gens := s.gens, drawn := s.drawn, toks := tk, os := s.os }) →
  wpAny (model PySem.Challenge.rw_ag6001_01.row.prog w) (lawA L fa cd) (execs loopBody (lawEnv L fa cd)) Q E s := by
  intro w s₀ s mg mb h₀ L fa w9 w8 cd u x d P Aq FL HL AL H aq k1 k2 n k nh na cF cH cA vs us hs as fl hl al rest number wh t bs is E Q K X F N hoff hoff4 hA nxd nxP nxAq nxFL nxHL nxAL nxH nxaq ndP ndAq ndFL ndHL ndAL ndH ndaq nPAq nPFL nPHL nPAL nPH nPaq nAqFL nAqHL nAqAL nAqH nAqaq nFLHL nFLAL nFLH nFLaq nHLAL nHLH nHLaq nALH nALaq nHaq hb hbh hi hia hu9 has9 hv9 hh9 hz hwh w0 w1 w2 w3 hfl hhl hal done
  have h1 := Int.fmod_nonneg_of_pos (number.fdiv 2) (show (0 : Int) < 4 by decide)
  have h2 := Int.fmod_lt_of_pos (number.fdiv 2) (show (0 : Int) < 4 by decide)
  have h3 := Int.fmod_nonneg_of_pos (number.fdiv 8) (show (0 : Int) < 2 by decide)
  have h4 := Int.fmod_lt_of_pos (number.fdiv 8) (show (0 : Int) < 2 by decide)
  have hc : (number.fdiv 2).fmod 4 = 0 ∨ (number.fdiv 2).fmod 4 = 1 ∨ (number.fdiv 2).fmod 4 = 2 ∨ ((number.fdiv 2).fmod 4 = 3 ∧ (number.fdiv 8).fmod 2 = 0) ∨ ((number.fdiv 2).fmod 4 = 3 ∧ (number.fdiv 8).fmod 2 = 1) := by omega
  rcases hc with hc | hc | hc | hc | hc
  · exact turn_w0 w s₀ s mg mb h₀ L fa w9 w8 cd u x d P Aq FL HL AL H aq k1 k2 n k nh na cF cH cA vs us hs as fl hl al rest number wh t bs is E Q K X F N hoff hoff4 hA nxd nxP nxAq nxFL nxHL nxAL nxH nxaq ndP ndAq ndFL ndHL ndAL ndH ndaq nPAq nPFL nPHL nPAL nPH nPaq nAqFL nAqHL nAqAL nAqH nAqaq nFLHL nFLAL nFLH nFLaq nHLAL nHLH nHLaq nALH nALaq nHaq hb hbh hi hia hu9 has9 hv9 hh9 hz hwh w0 w1 w2 w3 hfl hhl hal done hc
  · exact turn_w1 w s₀ s mg mb h₀ L fa w9 w8 cd u x d P Aq FL HL AL H aq k1 k2 n k nh na cF cH cA vs us hs as fl hl al rest number wh t bs is E Q K X F N hoff hoff4 hA nxd nxP nxAq nxFL nxHL nxAL nxH nxaq ndP ndAq ndFL ndHL ndAL ndH ndaq nPAq nPFL nPHL nPAL nPH nPaq nAqFL nAqHL nAqAL nAqH nAqaq nFLHL nFLAL nFLH nFLaq nHLAL nHLH nHLaq nALH nALaq nHaq hb hbh hi hia hu9 has9 hv9 hh9 hz hwh w0 w1 w2 w3 hfl hhl hal done hc
  · exact turn_w2 w s₀ s mg mb h₀ L fa w9 w8 cd u x d P Aq FL HL AL H aq k1 k2 n k nh na cF cH cA vs us hs as fl hl al rest number wh t bs is E Q K X F N hoff hoff4 hA nxd nxP nxAq nxFL nxHL nxAL nxH nxaq ndP ndAq ndFL ndHL ndAL ndH ndaq nPAq nPFL nPHL nPAL nPH nPaq nAqFL nAqHL nAqAL nAqH nAqaq nFLHL nFLAL nFLH nFLaq nHLAL nHLH nHLaq nALH nALaq nHaq hb hbh hi hia hu9 has9 hv9 hh9 hz hwh w0 w1 w2 w3 hfl hhl hal done hc
  · exact turn_w30 w s₀ s mg mb h₀ L fa w9 w8 cd u x d P Aq FL HL AL H aq k1 k2 n k nh na cF cH cA vs us hs as fl hl al rest number wh t bs is E Q K X F N hoff hoff4 hA nxd nxP nxAq nxFL nxHL nxAL nxH nxaq ndP ndAq ndFL ndHL ndAL ndH ndaq nPAq nPFL nPHL nPAL nPH nPaq nAqFL nAqHL nAqAL nAqH nAqaq nFLHL nFLAL nFLH nFLaq nHLAL nHLH nHLaq nALH nALaq nHaq hb hbh hi hia hu9 has9 hv9 hh9 hz hwh w0 w1 w2 w3 hfl hhl hal done hc
  · exact turn_w31 w s₀ s mg mb h₀ L fa w9 w8 cd u x d P Aq FL HL AL H aq k1 k2 n k nh na cF cH cA vs us hs as fl hl al rest number wh t bs is E Q K X F N hoff hoff4 hA nxd nxP nxAq nxFL nxHL nxAL nxH nxaq ndP ndAq ndFL ndHL ndAL ndH ndaq nPAq nPFL nPHL nPAL nPH nPaq nAqFL nAqHL nAqAL nAqH nAqaq nFLHL nFLAL nFLH nFLaq nHLAL nHLH nHLaq nALH nALaq nHaq hb hbh hi hia hu9 has9 hv9 hh9 hz hwh w0 w1 w2 w3 hfl hhl hal done hc
end Mine

namespace Mine
structure Apart (DL FL HL AL x0 d0 P0 A0 H0 a0 x1 d1 P1 A1 H1 a1 : Addr) : Prop where
  e0_1 : DL ≠ FL
  e0_2 : DL ≠ HL
  e0_3 : DL ≠ AL
  e0_4 : DL ≠ x0
  e0_5 : DL ≠ d0
  e0_6 : DL ≠ P0
  e0_7 : DL ≠ A0
  e0_8 : DL ≠ H0
  e0_9 : DL ≠ a0
  e0_10 : DL ≠ x1
  e0_11 : DL ≠ d1
  e0_12 : DL ≠ P1
  e0_13 : DL ≠ A1
  e0_14 : DL ≠ H1
  e0_15 : DL ≠ a1
  e1_2 : FL ≠ HL
  e1_3 : FL ≠ AL
  e1_4 : FL ≠ x0
  e1_5 : FL ≠ d0
  e1_6 : FL ≠ P0
  e1_7 : FL ≠ A0
  e1_8 : FL ≠ H0
  e1_9 : FL ≠ a0
  e1_10 : FL ≠ x1
  e1_11 : FL ≠ d1
  e1_12 : FL ≠ P1
  e1_13 : FL ≠ A1
  e1_14 : FL ≠ H1
  e1_15 : FL ≠ a1
  e2_3 : HL ≠ AL
  e2_4 : HL ≠ x0
  e2_5 : HL ≠ d0
  e2_6 : HL ≠ P0
  e2_7 : HL ≠ A0
  e2_8 : HL ≠ H0
  e2_9 : HL ≠ a0
  e2_10 : HL ≠ x1
  e2_11 : HL ≠ d1
  e2_12 : HL ≠ P1
  e2_13 : HL ≠ A1
  e2_14 : HL ≠ H1
  e2_15 : HL ≠ a1
  e3_4 : AL ≠ x0
  e3_5 : AL ≠ d0
  e3_6 : AL ≠ P0
  e3_7 : AL ≠ A0
  e3_8 : AL ≠ H0
  e3_9 : AL ≠ a0
  e3_10 : AL ≠ x1
  e3_11 : AL ≠ d1
  e3_12 : AL ≠ P1
  e3_13 : AL ≠ A1
  e3_14 : AL ≠ H1
  e3_15 : AL ≠ a1
  e4_5 : x0 ≠ d0
  e4_6 : x0 ≠ P0
  e4_7 : x0 ≠ A0
  e4_8 : x0 ≠ H0
  e4_9 : x0 ≠ a0
  e4_10 : x0 ≠ x1
  e4_11 : x0 ≠ d1
  e4_12 : x0 ≠ P1
  e4_13 : x0 ≠ A1
  e4_14 : x0 ≠ H1
  e4_15 : x0 ≠ a1
  e5_6 : d0 ≠ P0
  e5_7 : d0 ≠ A0
  e5_8 : d0 ≠ H0
  e5_9 : d0 ≠ a0
  e5_10 : d0 ≠ x1
  e5_11 : d0 ≠ d1
  e5_12 : d0 ≠ P1
  e5_13 : d0 ≠ A1
  e5_14 : d0 ≠ H1
  e5_15 : d0 ≠ a1
  e6_7 : P0 ≠ A0
  e6_8 : P0 ≠ H0
  e6_9 : P0 ≠ a0
  e6_10 : P0 ≠ x1
  e6_11 : P0 ≠ d1
  e6_12 : P0 ≠ P1
  e6_13 : P0 ≠ A1
  e6_14 : P0 ≠ H1
  e6_15 : P0 ≠ a1
  e7_8 : A0 ≠ H0
  e7_9 : A0 ≠ a0
  e7_10 : A0 ≠ x1
  e7_11 : A0 ≠ d1
  e7_12 : A0 ≠ P1
  e7_13 : A0 ≠ A1
  e7_14 : A0 ≠ H1
  e7_15 : A0 ≠ a1
  e8_9 : H0 ≠ a0
  e8_10 : H0 ≠ x1
  e8_11 : H0 ≠ d1
  e8_12 : H0 ≠ P1
  e8_13 : H0 ≠ A1
  e8_14 : H0 ≠ H1
  e8_15 : H0 ≠ a1
  e9_10 : a0 ≠ x1
  e9_11 : a0 ≠ d1
  e9_12 : a0 ≠ P1
  e9_13 : a0 ≠ A1
  e9_14 : a0 ≠ H1
  e9_15 : a0 ≠ a1
  e10_11 : x1 ≠ d1
  e10_12 : x1 ≠ P1
  e10_13 : x1 ≠ A1
  e10_14 : x1 ≠ H1
  e10_15 : x1 ≠ a1
  e11_12 : d1 ≠ P1
  e11_13 : d1 ≠ A1
  e11_14 : d1 ≠ H1
  e11_15 : d1 ≠ a1
  e12_13 : P1 ≠ A1
  e12_14 : P1 ≠ H1
  e12_15 : P1 ≠ a1
  e13_14 : A1 ≠ H1
  e13_15 : A1 ≠ a1
  e14_15 : H1 ≠ a1

/-- what the loop keeps -/
structure Keep (w : World) (DL FL HL AL x0 d0 A0 a0 x1 d1 A1 a1 : Addr) (j0 l0 j1 l1 : Nat) (ws : List Value) (P0 H0 P1 H1 : Addr) (n0 k0 nh0 na0 n1 k1 nh1 na1 : Nat) (vs0 hs0 us0 as0 vs1 hs1 us1 as1 : List Value) (bs0 bs1 : List (Array UInt8)) (is0 is1 : List Int) (i : Nat) (m : Str → Option Value) : Prop where
  ap : Apart DL FL HL AL x0 d0 P0 A0 H0 a0 x1 d1 P1 A1 H1 a1
  v0 : BA vs0 bs0
  h0 : BA hs0 bs0
  u0 : IntsAre us0 is0
  q0 : IntsAre as0 is0
  v1 : BA vs1 bs1
  h1 : BA hs1 bs1
  u1 : IntsAre us1 is1
  q1 : IntsAre as1 is1
  c0 : bs0.length ≤ 3 + i
  c1 : bs1.length ≤ 3 + i
  r0 : is0.length ≤ 1 + i
  r1 : is1.length ≤ 1 + i
  z0 : ∀ b ∈ bs0, b.size ≤ 5
  z1 : ∀ b ∈ bs1, b.size ≤ 5
  mf : m (Str.ofString "files") = some (Value.ref FL)
  mh : m (Str.ofString "holdings") = some (Value.ref HL)
  ma : m (Str.ofString "asked") = some (Value.ref AL)
def LoopJ (w : World) (DL FL HL AL x0 d0 A0 a0 x1 d1 A1 a1 : Addr) (j0 l0 j1 l1 : Nat) (ws : List Value) (i : Nat) (m : Str → Option Value) (nx : List (Addr × Obj)) : Prop :=
  ∃ (P0 H0 P1 H1 : Addr) (n0 k0 nh0 na0 n1 k1 nh1 na1 : Nat) (vs0 hs0 us0 as0 vs1 hs1 us1 as1 : List Value) (bs0 bs1 : List (Array UInt8)) (is0 is1 : List Int), nx = (DL, listOf ws.toArray 0) :: (FL, listOf [Value.ref x0, Value.ref x1].toArray 0) :: (HL, listOf [Value.ref H0, Value.ref H1].toArray 0) :: (AL, listOf [Value.ref a0, Value.ref a1].toArray 0) :: (x0, instObj 46 d0) :: (d0, pDict w j0 l0 P0 A0) :: (P0, listOf vs0.toArray n0) :: (A0, listOf us0.toArray k0) :: (H0, listOf hs0.toArray nh0) :: (a0, listOf as0.toArray na0) :: (x1, instObj 46 d1) :: (d1, pDict w j1 l1 P1 A1) :: (P1, listOf vs1.toArray n1) :: (A1, listOf us1.toArray k1) :: (H1, listOf hs1.toArray nh1) :: (a1, listOf as1.toArray na1) :: [] ∧ Keep w DL FL HL AL x0 d0 A0 a0 x1 d1 A1 a1 j0 l0 j1 l1 ws P0 H0 P1 H1 n0 k0 nh0 na0 n1 k1 nh1 na1 vs0 hs0 us0 as0 vs1 hs1 us1 as1 bs0 bs1 is0 is1 i m

theorem off_of {rest : List (Addr × Obj)} {l : List Addr} (h : ∀ b ∈ l, ∀ p ∈ rest, p.1 ≠ b) : OwnOff rest l := fun p hp b hb => h b hb p hp
theorem fr_three {h₀ h : Heap} {L FL HL AL : Addr} {m : Str → Option Value} (F : Fr h₀ L h m) (mf : m (Str.ofString "files") = some (Value.ref FL)) (mh : m (Str.ofString "holdings") = some (Value.ref HL)) (ma : m (Str.ofString "asked") = some (Value.ref AL)) :
    Fr h₀ L h (fun y => if y = Str.ofString "files" then some (Value.ref FL) else if y = Str.ofString "holdings" then some (Value.ref HL) else if y = Str.ofString "asked" then some (Value.ref AL) else m y) := by
  have e : (fun y => if y = Str.ofString "files" then some (Value.ref FL) else if y = Str.ofString "holdings" then some (Value.ref HL) else if y = Str.ofString "asked" then some (Value.ref AL) else m y) = m := by
    funext y
    by_cases q1 : y = Str.ofString "files"
    · rw [if_pos q1, q1, mf]
    · rw [if_neg q1]
      by_cases q2 : y = Str.ofString "holdings"
      · rw [if_pos q2, q2, mh]
      · rw [if_neg q2]
        by_cases q3 : y = Str.ofString "asked"
        · rw [if_pos q3, q3, ma]
        · rw [if_neg q3]
  rw [e]
  exact F
theorem fr_four {h₀ h : Heap} {L FL HL AL : Addr} {m : Str → Option Value} {v : Value} (F : Fr h₀ L h (fun y => if y = Str.ofString "number" then some v else m y)) (mf : m (Str.ofString "files") = some (Value.ref FL)) (mh : m (Str.ofString "holdings") = some (Value.ref HL)) (ma : m (Str.ofString "asked") = some (Value.ref AL)) :
    Fr h₀ L h (fun y => if y = Str.ofString "number" then some v else if y = Str.ofString "files" then some (Value.ref FL) else if y = Str.ofString "holdings" then some (Value.ref HL) else if y = Str.ofString "asked" then some (Value.ref AL) else m y) := by
  have e : (fun y => if y = Str.ofString "number" then some v else if y = Str.ofString "files" then some (Value.ref FL) else if y = Str.ofString "holdings" then some (Value.ref HL) else if y = Str.ofString "asked" then some (Value.ref AL) else m y) = fun y => if y = Str.ofString "number" then some v else m y := by
    funext y
    by_cases q0 : y = Str.ofString "number"
    · rw [if_pos q0, if_pos q0]
    · rw [if_neg q0, if_neg q0]
      by_cases q1 : y = Str.ofString "files"
      · rw [if_pos q1, q1, mf]
      · rw [if_neg q1]
        by_cases q2 : y = Str.ofString "holdings"
        · rw [if_pos q2, q2, mh]
        · rw [if_neg q2]
          by_cases q3 : y = Str.ofString "asked"
          · rw [if_pos q3, q3, ma]
          · rw [if_neg q3]
  rw [e]
  exact F
theorem apart_chain {DL FL HL AL x0 d0 P0 A0 H0 a0 x1 d1 P1 A1 H1 a1 : Nat} (g0 : H1 < HL) (g1 : HL < d0) (g2 : d0 < x0) (g3 : x0 < P0) (g4 : P0 < A0) (g5 : A0 < d1) (g6 : d1 < x1) (g7 : x1 < P1) (g8 : P1 < A1) (g9 : A1 < FL) (g10 : FL < a0) (g11 : a0 < a1) (g12 : a1 < AL) (g13 : AL < H0) (g14 : H0 < DL) : Apart DL FL HL AL x0 d0 P0 A0 H0 a0 x1 d1 P1 A1 H1 a1 := by
  constructor <;> (refine neN ?_; omega)
theorem mem_led {α : Type} {l l' own : List α} (h : ∀ p ∈ l, p ∈ l') : ∀ p ∈ l ++ own, p ∈ l' ++ own := fun p hp => (List.mem_append.mp hp).elim (fun q => List.mem_append.mpr (.inl (h p q))) fun q => List.mem_append.mpr (.inr q)

theorem my_loop {w : World} {s₀ s : Shared} {mg mb : Str → Option Value} {h₀ : Heap} {L fa w9 : Addr} {w8 : Obj} {cd : Value} {E : Value → Shared → Prop} {Q : Flow → Shared → Prop} {m₀ : Str → Option Value} {news : List (Addr × Obj)} {ns : List Int} {DL FL HL AL x0 d0 A0 a0 x1 d1 A1 a1 : Addr} {j0 l0 j1 l1 : Nat} {ws : List Value} {P0 H0 P1 H1 : Addr} {n0 k0 nh0 na0 n1 k1 nh1 na1 : Nat} {vs0 hs0 us0 as0 vs1 hs1 us1 as1 : List Value} {bs0 bs1 : List (Array UInt8)} {is0 is1 : List Int}
    (K : Known w s₀ mg mb h₀ w9 w8) (X : (hd.heap_39 w.params).In h₀) (F : Fr h₀ L s.heap m₀) (N : News h₀ L s.heap news) (hsub : ∀ p ∈ (DL, listOf ws.toArray 0) :: (FL, listOf [Value.ref x0, Value.ref x1].toArray 0) :: (HL, listOf [Value.ref H0, Value.ref H1].toArray 0) :: (AL, listOf [Value.ref a0, Value.ref a1].toArray 0) :: (x0, instObj 46 d0) :: (d0, pDict w j0 l0 P0 A0) :: (P0, listOf vs0.toArray n0) :: (A0, listOf us0.toArray k0) :: (H0, listOf hs0.toArray nh0) :: (a0, listOf as0.toArray na0) :: (x1, instObj 46 d1) :: (d1, pDict w j1 l1 P1 A1) :: (P1, listOf vs1.toArray n1) :: (A1, listOf us1.toArray k1) :: (H1, listOf hs1.toArray nh1) :: (a1, listOf as1.toArray na1) :: [], p ∈ news) (hi : IntsAre ws ns) (hlen : ns.length ≤ 40)
    (mf : m₀ (Str.ofString "files") = some (Value.ref FL)) (mh : m₀ (Str.ofString "holdings") = some (Value.ref HL)) (ma : m₀ (Str.ofString "asked") = some (Value.ref AL))
    (ap : Apart DL FL HL AL x0 d0 P0 A0 H0 a0 x1 d1 P1 A1 H1 a1) (v0 : BA vs0 bs0) (h0 : BA hs0 bs0) (u0 : IntsAre us0 is0) (q0 : IntsAre as0 is0) (v1 : BA vs1 bs1) (h1 : BA hs1 bs1) (u1 : IntsAre us1 is1) (q1 : IntsAre as1 is1)
    (c0 : bs0.length ≤ 3) (c1 : bs1.length ≤ 3) (r0 : is0.length ≤ 1) (r1 : is1.length ≤ 1) (z0 : ∀ b ∈ bs0, b.size ≤ 5) (z1 : ∀ b ∈ bs1, b.size ≤ 5)
    (fin : ∀ h' tk u (P0 H0 P1 H1 : Addr) (n0 k0 nh0 na0 n1 k1 nh1 na1 : Nat) (vs0 hs0 us0 as0 vs1 hs1 us1 as1 : List Value) (bs0 bs1 : List (Array UInt8)) (is0 is1 : List Int), Keep w DL FL HL AL x0 d0 A0 a0 x1 d1 A1 a1 j0 l0 j1 l1 ws P0 H0 P1 H1 n0 k0 nh0 na0 n1 k1 nh1 na1 vs0 hs0 us0 as0 vs1 hs1 us1 as1 bs0 bs1 is0 is1 ns.length u → Fr h₀ L h' (fun y => if y = Str.ofString "files" then some (Value.ref FL) else if y = Str.ofString "holdings" then some (Value.ref HL) else if y = Str.ofString "asked" then some (Value.ref AL) else u y) →
      News h₀ L h' ((DL, listOf ws.toArray 0) :: (FL, listOf [Value.ref x0, Value.ref x1].toArray 0) :: (HL, listOf [Value.ref H0, Value.ref H1].toArray 0) :: (AL, listOf [Value.ref a0, Value.ref a1].toArray 0) :: (x0, instObj 46 d0) :: (d0, pDict w j0 l0 P0 A0) :: (P0, listOf vs0.toArray n0) :: (A0, listOf us0.toArray k0) :: (H0, listOf hs0.toArray nh0) :: (a0, listOf as0.toArray na0) :: (x1, instObj 46 d1) :: (d1, pDict w j1 l1 P1 A1) :: (P1, listOf vs1.toArray n1) :: (A1, listOf us1.toArray k1) :: (H1, listOf hs1.toArray nh1) :: (a1, listOf as1.toArray na1) :: []) → Q .next { s with heap := h', toks := tk }) :
    wpAny (model PySem.Challenge.rw_ag6001_01.row.prog w) (lawA L fa cd) (pyIter (.ref DL)) (fun it s₂ => LoopAtV PySem.Challenge.rw_ag6001_01.row.prog w (lawA L fa cd) h₀ (lawEnv L fa cd) (Str.ofString "number") loopBody Q E it s₂) E s := by
  refine kdl_iter (l := DL) (vs := ws) (nn := 0) (m₀ := m₀) (news := (DL, listOf ws.toArray 0) :: (FL, listOf [Value.ref x0, Value.ref x1].toArray 0) :: (HL, listOf [Value.ref H0, Value.ref H1].toArray 0) :: (AL, listOf [Value.ref a0, Value.ref a1].toArray 0) :: (x0, instObj 46 d0) :: (d0, pDict w j0 l0 P0 A0) :: (P0, listOf vs0.toArray n0) :: (A0, listOf us0.toArray k0) :: (H0, listOf hs0.toArray nh0) :: (a0, listOf as0.toArray na0) :: (x1, instObj 46 d1) :: (d1, pDict w j1 l1 P1 A1) :: (P1, listOf vs1.toArray n1) :: (A1, listOf us1.toArray k1) :: (H1, listOf hs1.toArray nh1) :: (a1, listOf as1.toArray na1) :: []) (LoopJ w DL FL HL AL x0 d0 A0 a0 x1 d1 A1 a1 j0 l0 j1 l1 ws) rfl (.head _) F (kst_newsOf N hsub) ⟨P0, H0, P1, H1, n0, k0, nh0, na0, n1, k1, nh1, na1, vs0, hs0, us0, as0, vs1, hs1, us1, as1, bs0, bs1, is0, is1, rfl, ⟨ap, v0, h0, u0, q0, v1, h1, u1, q1, c0, c1, r0, r1, z0, z1, mf, mh, ma⟩⟩ ?turn ?done
  case done =>
    rintro m₁ nx h tk ⟨P0, H0, P1, H1, n0, k0, nh0, na0, n1, k1, nh1, na1, vs0, hs0, us0, as0, vs1, hs1, us1, as1, bs0, bs1, is0, is1, rfl, K0⟩ F₁ N₁
    rw [hi.length] at K0
    exact fin h tk m₁ P0 H0 P1 H1 n0 k0 nh0 na0 n1 k1 nh1 na1 vs0 hs0 us0 as0 vs1 hs1 us1 as1 bs0 bs1 is0 is1 K0 (fr_three F₁ K0.mf K0.mh K0.ma) N₁
  rintro i v m₁ nx h tk own hv oo _ ⟨P0, H0, P1, H1, n0, k0, nh0, na0, n1, k1, nh1, na1, vs0, hs0, us0, as0, vs1, hs1, us1, as1, bs0, bs1, is0, is1, rfl, K0⟩ F₁ N₁
  have hil : i < ns.length := by
    rw [← hi.length]
    exact (List.getElem?_eq_some_iff.mp hv).1
  obtain ⟨number, t, rfl, hn⟩ := IntsAre.at hi i v hv
  have ap := K0.ap
  replace oo : ∀ b ∈ [DL, FL, HL, AL, x0, d0, P0, A0, H0, a0, x1, d1, P1, A1, H1, a1], ∀ p ∈ own, p.1 ≠ b := fun b hb p hp => oo p hp b hb
  have hw2 : number.fmod 2 = 0 ∨ number.fmod 2 = 1 := by
    have h1 := Int.fmod_nonneg_of_pos number (show (0 : Int) < 2 by decide)
    have h2 := Int.fmod_lt_of_pos number (show (0 : Int) < 2 by decide)
    omega
  rcases hw2 with hw | hw
  · refine turn_all w s₀ { s with heap := h, toks := tk } mg mb h₀ L fa w9 w8 cd m₁ x0 d0 P0 A0 FL HL AL H0 a0 j0 l0 n0 k0 nh0 na0 0 0 0 vs0 us0 hs0 as0 [Value.ref x0, Value.ref x1] [Value.ref H0, Value.ref H1] [Value.ref a0, Value.ref a1] ((DL, listOf ws.toArray 0) :: (x1, instObj 46 d1) :: (d1, pDict w j1 l1 P1 A1) :: (P1, listOf vs1.toArray n1) :: (A1, listOf us1.toArray k1) :: (H1, listOf hs1.toArray nh1) :: (a1, listOf as1.toArray na1) :: own) number 0 t bs0 is0 E _ K X (fr_four F₁ K0.mf K0.mh K0.ma) (kst_newsOf N₁ ?sub) (off_of (by
      intro b hb
      simp only [List.mem_cons, List.not_mem_nil, or_false] at hb
      rcases hb with rfl | rfl | rfl | rfl | rfl | rfl | rfl | rfl | rfl
      · exact List.forall_mem_cons.mpr ⟨ap.e0_4, List.forall_mem_cons.mpr ⟨ap.e4_10.symm, List.forall_mem_cons.mpr ⟨ap.e4_11.symm, List.forall_mem_cons.mpr ⟨ap.e4_12.symm, List.forall_mem_cons.mpr ⟨ap.e4_13.symm, List.forall_mem_cons.mpr ⟨ap.e4_14.symm, List.forall_mem_cons.mpr ⟨ap.e4_15.symm, oo _ (.tail _ (.tail _ (.tail _ (.tail _ (.head _)))))⟩⟩⟩⟩⟩⟩⟩
      · exact List.forall_mem_cons.mpr ⟨ap.e0_5, List.forall_mem_cons.mpr ⟨ap.e5_10.symm, List.forall_mem_cons.mpr ⟨ap.e5_11.symm, List.forall_mem_cons.mpr ⟨ap.e5_12.symm, List.forall_mem_cons.mpr ⟨ap.e5_13.symm, List.forall_mem_cons.mpr ⟨ap.e5_14.symm, List.forall_mem_cons.mpr ⟨ap.e5_15.symm, oo _ (.tail _ (.tail _ (.tail _ (.tail _ (.tail _ (.head _))))))⟩⟩⟩⟩⟩⟩⟩
      · exact List.forall_mem_cons.mpr ⟨ap.e0_6, List.forall_mem_cons.mpr ⟨ap.e6_10.symm, List.forall_mem_cons.mpr ⟨ap.e6_11.symm, List.forall_mem_cons.mpr ⟨ap.e6_12.symm, List.forall_mem_cons.mpr ⟨ap.e6_13.symm, List.forall_mem_cons.mpr ⟨ap.e6_14.symm, List.forall_mem_cons.mpr ⟨ap.e6_15.symm, oo _ (.tail _ (.tail _ (.tail _ (.tail _ (.tail _ (.tail _ (.head _)))))))⟩⟩⟩⟩⟩⟩⟩
      · exact List.forall_mem_cons.mpr ⟨ap.e0_7, List.forall_mem_cons.mpr ⟨ap.e7_10.symm, List.forall_mem_cons.mpr ⟨ap.e7_11.symm, List.forall_mem_cons.mpr ⟨ap.e7_12.symm, List.forall_mem_cons.mpr ⟨ap.e7_13.symm, List.forall_mem_cons.mpr ⟨ap.e7_14.symm, List.forall_mem_cons.mpr ⟨ap.e7_15.symm, oo _ (.tail _ (.tail _ (.tail _ (.tail _ (.tail _ (.tail _ (.tail _ (.head _))))))))⟩⟩⟩⟩⟩⟩⟩
      · exact List.forall_mem_cons.mpr ⟨ap.e0_1, List.forall_mem_cons.mpr ⟨ap.e1_10.symm, List.forall_mem_cons.mpr ⟨ap.e1_11.symm, List.forall_mem_cons.mpr ⟨ap.e1_12.symm, List.forall_mem_cons.mpr ⟨ap.e1_13.symm, List.forall_mem_cons.mpr ⟨ap.e1_14.symm, List.forall_mem_cons.mpr ⟨ap.e1_15.symm, oo _ (.tail _ (.head _))⟩⟩⟩⟩⟩⟩⟩
      · exact List.forall_mem_cons.mpr ⟨ap.e0_2, List.forall_mem_cons.mpr ⟨ap.e2_10.symm, List.forall_mem_cons.mpr ⟨ap.e2_11.symm, List.forall_mem_cons.mpr ⟨ap.e2_12.symm, List.forall_mem_cons.mpr ⟨ap.e2_13.symm, List.forall_mem_cons.mpr ⟨ap.e2_14.symm, List.forall_mem_cons.mpr ⟨ap.e2_15.symm, oo _ (.tail _ (.tail _ (.head _)))⟩⟩⟩⟩⟩⟩⟩
      · exact List.forall_mem_cons.mpr ⟨ap.e0_3, List.forall_mem_cons.mpr ⟨ap.e3_10.symm, List.forall_mem_cons.mpr ⟨ap.e3_11.symm, List.forall_mem_cons.mpr ⟨ap.e3_12.symm, List.forall_mem_cons.mpr ⟨ap.e3_13.symm, List.forall_mem_cons.mpr ⟨ap.e3_14.symm, List.forall_mem_cons.mpr ⟨ap.e3_15.symm, oo _ (.tail _ (.tail _ (.tail _ (.head _))))⟩⟩⟩⟩⟩⟩⟩
      · exact List.forall_mem_cons.mpr ⟨ap.e0_8, List.forall_mem_cons.mpr ⟨ap.e8_10.symm, List.forall_mem_cons.mpr ⟨ap.e8_11.symm, List.forall_mem_cons.mpr ⟨ap.e8_12.symm, List.forall_mem_cons.mpr ⟨ap.e8_13.symm, List.forall_mem_cons.mpr ⟨ap.e8_14.symm, List.forall_mem_cons.mpr ⟨ap.e8_15.symm, oo _ (.tail _ (.tail _ (.tail _ (.tail _ (.tail _ (.tail _ (.tail _ (.tail _ (.head _)))))))))⟩⟩⟩⟩⟩⟩⟩
      · exact List.forall_mem_cons.mpr ⟨ap.e0_9, List.forall_mem_cons.mpr ⟨ap.e9_10.symm, List.forall_mem_cons.mpr ⟨ap.e9_11.symm, List.forall_mem_cons.mpr ⟨ap.e9_12.symm, List.forall_mem_cons.mpr ⟨ap.e9_13.symm, List.forall_mem_cons.mpr ⟨ap.e9_14.symm, List.forall_mem_cons.mpr ⟨ap.e9_15.symm, oo _ (.tail _ (.tail _ (.tail _ (.tail _ (.tail _ (.tail _ (.tail _ (.tail _ (.tail _ (.head _))))))))))⟩⟩⟩⟩⟩⟩⟩
      )) (off_of (by
      intro b hb
      simp only [List.mem_cons, List.not_mem_nil, or_false] at hb
      rcases hb with rfl | rfl | rfl | rfl
      · exact List.forall_mem_cons.mpr ⟨ap.e1_4, List.forall_mem_cons.mpr ⟨ap.e2_4, List.forall_mem_cons.mpr ⟨ap.e3_4, List.forall_mem_cons.mpr ⟨ap.e4_8.symm, List.forall_mem_cons.mpr ⟨ap.e4_9.symm, List.forall_mem_cons.mpr ⟨ap.e0_4, List.forall_mem_cons.mpr ⟨ap.e4_10.symm, List.forall_mem_cons.mpr ⟨ap.e4_11.symm, List.forall_mem_cons.mpr ⟨ap.e4_12.symm, List.forall_mem_cons.mpr ⟨ap.e4_13.symm, List.forall_mem_cons.mpr ⟨ap.e4_14.symm, List.forall_mem_cons.mpr ⟨ap.e4_15.symm, oo _ (.tail _ (.tail _ (.tail _ (.tail _ (.head _)))))⟩⟩⟩⟩⟩⟩⟩⟩⟩⟩⟩⟩
      · exact List.forall_mem_cons.mpr ⟨ap.e1_5, List.forall_mem_cons.mpr ⟨ap.e2_5, List.forall_mem_cons.mpr ⟨ap.e3_5, List.forall_mem_cons.mpr ⟨ap.e5_8.symm, List.forall_mem_cons.mpr ⟨ap.e5_9.symm, List.forall_mem_cons.mpr ⟨ap.e0_5, List.forall_mem_cons.mpr ⟨ap.e5_10.symm, List.forall_mem_cons.mpr ⟨ap.e5_11.symm, List.forall_mem_cons.mpr ⟨ap.e5_12.symm, List.forall_mem_cons.mpr ⟨ap.e5_13.symm, List.forall_mem_cons.mpr ⟨ap.e5_14.symm, List.forall_mem_cons.mpr ⟨ap.e5_15.symm, oo _ (.tail _ (.tail _ (.tail _ (.tail _ (.tail _ (.head _))))))⟩⟩⟩⟩⟩⟩⟩⟩⟩⟩⟩⟩
      · exact List.forall_mem_cons.mpr ⟨ap.e1_6, List.forall_mem_cons.mpr ⟨ap.e2_6, List.forall_mem_cons.mpr ⟨ap.e3_6, List.forall_mem_cons.mpr ⟨ap.e6_8.symm, List.forall_mem_cons.mpr ⟨ap.e6_9.symm, List.forall_mem_cons.mpr ⟨ap.e0_6, List.forall_mem_cons.mpr ⟨ap.e6_10.symm, List.forall_mem_cons.mpr ⟨ap.e6_11.symm, List.forall_mem_cons.mpr ⟨ap.e6_12.symm, List.forall_mem_cons.mpr ⟨ap.e6_13.symm, List.forall_mem_cons.mpr ⟨ap.e6_14.symm, List.forall_mem_cons.mpr ⟨ap.e6_15.symm, oo _ (.tail _ (.tail _ (.tail _ (.tail _ (.tail _ (.tail _ (.head _)))))))⟩⟩⟩⟩⟩⟩⟩⟩⟩⟩⟩⟩
      · exact List.forall_mem_cons.mpr ⟨ap.e1_7, List.forall_mem_cons.mpr ⟨ap.e2_7, List.forall_mem_cons.mpr ⟨ap.e3_7, List.forall_mem_cons.mpr ⟨ap.e7_8.symm, List.forall_mem_cons.mpr ⟨ap.e7_9.symm, List.forall_mem_cons.mpr ⟨ap.e0_7, List.forall_mem_cons.mpr ⟨ap.e7_10.symm, List.forall_mem_cons.mpr ⟨ap.e7_11.symm, List.forall_mem_cons.mpr ⟨ap.e7_12.symm, List.forall_mem_cons.mpr ⟨ap.e7_13.symm, List.forall_mem_cons.mpr ⟨ap.e7_14.symm, List.forall_mem_cons.mpr ⟨ap.e7_15.symm, oo _ (.tail _ (.tail _ (.tail _ (.tail _ (.tail _ (.tail _ (.tail _ (.head _))))))))⟩⟩⟩⟩⟩⟩⟩⟩⟩⟩⟩⟩
      )) (⟨ap.e4_6, ap.e5_6, ap.e6_7, ap.e1_6.symm, ap.e2_6.symm, ap.e3_6.symm, ap.e6_8, ap.e6_9, off_of (by intro b hb; rw [List.mem_singleton.mp hb]; exact List.forall_mem_cons.mpr ⟨ap.e0_6, List.forall_mem_cons.mpr ⟨ap.e6_10.symm, List.forall_mem_cons.mpr ⟨ap.e6_11.symm, List.forall_mem_cons.mpr ⟨ap.e6_12.symm, List.forall_mem_cons.mpr ⟨ap.e6_13.symm, List.forall_mem_cons.mpr ⟨ap.e6_14.symm, List.forall_mem_cons.mpr ⟨ap.e6_15.symm, oo _ (.tail _ (.tail _ (.tail _ (.tail _ (.tail _ (.tail _ (.head _)))))))⟩⟩⟩⟩⟩⟩⟩)⟩) (ap.e4_5) (ap.e4_6) (ap.e4_7) (ap.e1_4.symm) (ap.e2_4.symm) (ap.e3_4.symm) (ap.e4_8) (ap.e4_9) (ap.e5_6) (ap.e5_7) (ap.e1_5.symm) (ap.e2_5.symm) (ap.e3_5.symm) (ap.e5_8) (ap.e5_9) (ap.e6_7) (ap.e1_6.symm) (ap.e2_6.symm) (ap.e3_6.symm) (ap.e6_8) (ap.e6_9) (ap.e1_7.symm) (ap.e2_7.symm) (ap.e3_7.symm) (ap.e7_8) (ap.e7_9) (ap.e1_2) (ap.e1_3) (ap.e1_8) (ap.e1_9) (ap.e2_3) (ap.e2_8) (ap.e2_9) (ap.e3_8) (ap.e3_9) (ap.e8_9) K0.v0 K0.h0 K0.u0 K0.q0 ?lu ?la ?lv ?lh K0.z0 hw (by decide) (by decide) (by show (0 : Int) < 2; decide) (by show (0 : Int).toNat < 2; decide) rfl rfl rfl ?done
    case sub => kqd_sub
    case lu => have := K0.r0; rw [K0.u0.length]; omega
    case la => have := K0.r0; rw [K0.q0.length]; omega
    case lv => have := K0.c0; rw [K0.v0.length]; omega
    case lh => have := K0.c0; rw [K0.h0.length]; omega
    case done =>
      intro h' tk' m' P' H' n' k' nh' na' vs' hs' us' as' is' bs' F' mf mh ma N' bv bh iu iq lb zz li aw lt
      obtain ⟨h_x0, h_d0, h_Pn, h_A0, h_FL, h_HL, h_AL, h_H0, h_a0, h_rest⟩ := lt
      have lP := h_Pn
      have hr := allLt_to h_rest
      obtain ⟨h_DL, h_x1, h_d1, h_P1, h_A1, h_H1, h_a1, h_own⟩ := h_rest
      have hro := allLt_to h_own
      refine ⟨h', tk', m', _, ((DL, listOf ws.toArray 0) :: (FL, listOf [Value.ref x0, Value.ref x1].toArray 0) :: (HL, listOf [Value.ref H', Value.ref H1].toArray 0) :: (AL, listOf [Value.ref a0, Value.ref a1].toArray 0) :: (x0, instObj 46 d0) :: (d0, pDict w j0 l0 P' A0) :: (P', listOf vs'.toArray n') :: (A0, listOf us'.toArray k') :: (H', listOf hs'.toArray nh') :: (a0, listOf as'.toArray na') :: (x1, instObj 46 d1) :: (d1, pDict w j1 l1 P1 A1) :: (P1, listOf vs1.toArray n1) :: (A1, listOf us1.toArray k1) :: (H1, listOf hs1.toArray nh1) :: (a1, listOf as1.toArray na1) :: []), rfl, F', N', ?n1, ?n2, ?n3, ?n4, P', H', P1, H1, n', k', nh', na', n1, k1, nh1, na1, vs', hs', us', as', vs1, hs1, us1, as1, bs', bs1, is', is1, rfl, ⟨⟨ap.e0_1, ap.e0_2, ap.e0_3, ap.e0_4, ap.e0_5, ((aw.a9 _ (.head _) _ (.head _)).symm).symm, ap.e0_7, lt_ne h_DL, ap.e0_9, ap.e0_10, ap.e0_11, ap.e0_12, ap.e0_13, ap.e0_14, ap.e0_15, ap.e1_2, ap.e1_3, ap.e1_4, ap.e1_5, (aw.a4).symm, ap.e1_7, lt_ne h_FL, ap.e1_9, ap.e1_10, ap.e1_11, ap.e1_12, ap.e1_13, ap.e1_14, ap.e1_15, ap.e2_3, ap.e2_4, ap.e2_5, (aw.a5).symm, ap.e2_7, lt_ne h_HL, ap.e2_9, ap.e2_10, ap.e2_11, ap.e2_12, ap.e2_13, ap.e2_14, ap.e2_15, ap.e3_4, ap.e3_5, (aw.a6).symm, ap.e3_7, lt_ne h_AL, ap.e3_9, ap.e3_10, ap.e3_11, ap.e3_12, ap.e3_13, ap.e3_14, ap.e3_15, ap.e4_5, (aw.a1.symm).symm, ap.e4_7, lt_ne h_x0, ap.e4_9, ap.e4_10, ap.e4_11, ap.e4_12, ap.e4_13, ap.e4_14, ap.e4_15, (aw.a2.symm).symm, ap.e5_7, lt_ne h_d0, ap.e5_9, ap.e5_10, ap.e5_11, ap.e5_12, ap.e5_13, ap.e5_14, ap.e5_15, aw.a3, lt_ne lP, aw.a8, (aw.a9 _ (.tail _ (.head _)) _ (.head _)).symm, (aw.a9 _ (.tail _ (.tail _ (.head _))) _ (.head _)).symm, (aw.a9 _ (.tail _ (.tail _ (.tail _ (.head _)))) _ (.head _)).symm, (aw.a9 _ (.tail _ (.tail _ (.tail _ (.tail _ (.head _))))) _ (.head _)).symm, (aw.a9 _ (.tail _ (.tail _ (.tail _ (.tail _ (.tail _ (.head _)))))) _ (.head _)).symm, (aw.a9 _ (.tail _ (.tail _ (.tail _ (.tail _ (.tail _ (.tail _ (.head _))))))) _ (.head _)).symm, lt_ne h_A0, ap.e7_9, ap.e7_10, ap.e7_11, ap.e7_12, ap.e7_13, ap.e7_14, ap.e7_15, (lt_ne h_a0).symm, (lt_ne h_x1).symm, (lt_ne h_d1).symm, (lt_ne h_P1).symm, (lt_ne h_A1).symm, (lt_ne h_H1).symm, (lt_ne h_a1).symm, ap.e9_10, ap.e9_11, ap.e9_12, ap.e9_13, ap.e9_14, ap.e9_15, ap.e10_11, ap.e10_12, ap.e10_13, ap.e10_14, ap.e10_15, ap.e11_12, ap.e11_13, ap.e11_14, ap.e11_15, ap.e12_13, ap.e12_14, ap.e12_15, ap.e13_14, ap.e13_15, ap.e14_15⟩, bv, bh, iu, iq, K0.v1, K0.h1, K0.u1, K0.q1, by have := K0.c0; omega, by have := K0.c1; omega, by have := K0.r0; omega, by have := K0.r1; omega, zz, K0.z1, mf, mh, ma⟩⟩
      case n1 => kqd_sub
      case n2 => intro p hp; exact .tail _ <| .tail _ <| .tail _ <| .tail _ <| .tail _ <| .tail _ <| .tail _ <| .tail _ <| .tail _ <| .tail _ <| .tail _ <| .tail _ <| .tail _ <| .tail _ <| .tail _ <| .tail _ <| hp
      case n3 => exact off_of (by
        intro b hb
        simp only [List.map_cons, List.map_nil, List.mem_cons, List.not_mem_nil, or_false] at hb
        rcases hb with rfl | rfl | rfl | rfl | rfl | rfl | rfl | rfl | rfl | rfl | rfl | rfl | rfl | rfl | rfl | rfl
        · exact oo _ (.head _)
        · exact oo _ (.tail _ (.head _))
        · exact oo _ (.tail _ (.tail _ (.head _)))
        · exact oo _ (.tail _ (.tail _ (.tail _ (.head _))))
        · exact oo _ (.tail _ (.tail _ (.tail _ (.tail _ (.head _)))))
        · exact oo _ (.tail _ (.tail _ (.tail _ (.tail _ (.tail _ (.head _))))))
        · exact fun p hp => (aw.a9 p (.tail _ <| .tail _ <| .tail _ <| .tail _ <| .tail _ <| .tail _ <| .tail _ <|  hp) _ (.head _))
        · exact oo _ (.tail _ (.tail _ (.tail _ (.tail _ (.tail _ (.tail _ (.tail _ (.head _))))))))
        · exact fun p hp => lt_ne (hro p hp)
        · exact oo _ (.tail _ (.tail _ (.tail _ (.tail _ (.tail _ (.tail _ (.tail _ (.tail _ (.tail _ (.head _))))))))))
        · exact oo _ (.tail _ (.tail _ (.tail _ (.tail _ (.tail _ (.tail _ (.tail _ (.tail _ (.tail _ (.tail _ (.head _)))))))))))
        · exact oo _ (.tail _ (.tail _ (.tail _ (.tail _ (.tail _ (.tail _ (.tail _ (.tail _ (.tail _ (.tail _ (.tail _ (.head _))))))))))))
        · exact oo _ (.tail _ (.tail _ (.tail _ (.tail _ (.tail _ (.tail _ (.tail _ (.tail _ (.tail _ (.tail _ (.tail _ (.tail _ (.head _)))))))))))))
        · exact oo _ (.tail _ (.tail _ (.tail _ (.tail _ (.tail _ (.tail _ (.tail _ (.tail _ (.tail _ (.tail _ (.tail _ (.tail _ (.tail _ (.head _))))))))))))))
        · exact oo _ (.tail _ (.tail _ (.tail _ (.tail _ (.tail _ (.tail _ (.tail _ (.tail _ (.tail _ (.tail _ (.tail _ (.tail _ (.tail _ (.tail _ (.head _)))))))))))))))
        · exact oo _ (.tail _ (.tail _ (.tail _ (.tail _ (.tail _ (.tail _ (.tail _ (.tail _ (.tail _ (.tail _ (.tail _ (.tail _ (.tail _ (.tail _ (.tail _ (.head _))))))))))))))))
        )
      case n4 => exact .head _
  · refine turn_all w s₀ { s with heap := h, toks := tk } mg mb h₀ L fa w9 w8 cd m₁ x1 d1 P1 A1 FL HL AL H1 a1 j1 l1 n1 k1 nh1 na1 0 0 0 vs1 us1 hs1 as1 [Value.ref x0, Value.ref x1] [Value.ref H0, Value.ref H1] [Value.ref a0, Value.ref a1] ((DL, listOf ws.toArray 0) :: (x0, instObj 46 d0) :: (d0, pDict w j0 l0 P0 A0) :: (P0, listOf vs0.toArray n0) :: (A0, listOf us0.toArray k0) :: (H0, listOf hs0.toArray nh0) :: (a0, listOf as0.toArray na0) :: own) number 1 t bs1 is1 E _ K X (fr_four F₁ K0.mf K0.mh K0.ma) (kst_newsOf N₁ ?sub) (off_of (by
      intro b hb
      simp only [List.mem_cons, List.not_mem_nil, or_false] at hb
      rcases hb with rfl | rfl | rfl | rfl | rfl | rfl | rfl | rfl | rfl
      · exact List.forall_mem_cons.mpr ⟨ap.e0_10, List.forall_mem_cons.mpr ⟨ap.e4_10, List.forall_mem_cons.mpr ⟨ap.e5_10, List.forall_mem_cons.mpr ⟨ap.e6_10, List.forall_mem_cons.mpr ⟨ap.e7_10, List.forall_mem_cons.mpr ⟨ap.e8_10, List.forall_mem_cons.mpr ⟨ap.e9_10, oo _ (.tail _ (.tail _ (.tail _ (.tail _ (.tail _ (.tail _ (.tail _ (.tail _ (.tail _ (.tail _ (.head _)))))))))))⟩⟩⟩⟩⟩⟩⟩
      · exact List.forall_mem_cons.mpr ⟨ap.e0_11, List.forall_mem_cons.mpr ⟨ap.e4_11, List.forall_mem_cons.mpr ⟨ap.e5_11, List.forall_mem_cons.mpr ⟨ap.e6_11, List.forall_mem_cons.mpr ⟨ap.e7_11, List.forall_mem_cons.mpr ⟨ap.e8_11, List.forall_mem_cons.mpr ⟨ap.e9_11, oo _ (.tail _ (.tail _ (.tail _ (.tail _ (.tail _ (.tail _ (.tail _ (.tail _ (.tail _ (.tail _ (.tail _ (.head _))))))))))))⟩⟩⟩⟩⟩⟩⟩
      · exact List.forall_mem_cons.mpr ⟨ap.e0_12, List.forall_mem_cons.mpr ⟨ap.e4_12, List.forall_mem_cons.mpr ⟨ap.e5_12, List.forall_mem_cons.mpr ⟨ap.e6_12, List.forall_mem_cons.mpr ⟨ap.e7_12, List.forall_mem_cons.mpr ⟨ap.e8_12, List.forall_mem_cons.mpr ⟨ap.e9_12, oo _ (.tail _ (.tail _ (.tail _ (.tail _ (.tail _ (.tail _ (.tail _ (.tail _ (.tail _ (.tail _ (.tail _ (.tail _ (.head _)))))))))))))⟩⟩⟩⟩⟩⟩⟩
      · exact List.forall_mem_cons.mpr ⟨ap.e0_13, List.forall_mem_cons.mpr ⟨ap.e4_13, List.forall_mem_cons.mpr ⟨ap.e5_13, List.forall_mem_cons.mpr ⟨ap.e6_13, List.forall_mem_cons.mpr ⟨ap.e7_13, List.forall_mem_cons.mpr ⟨ap.e8_13, List.forall_mem_cons.mpr ⟨ap.e9_13, oo _ (.tail _ (.tail _ (.tail _ (.tail _ (.tail _ (.tail _ (.tail _ (.tail _ (.tail _ (.tail _ (.tail _ (.tail _ (.tail _ (.head _))))))))))))))⟩⟩⟩⟩⟩⟩⟩
      · exact List.forall_mem_cons.mpr ⟨ap.e0_1, List.forall_mem_cons.mpr ⟨ap.e1_4.symm, List.forall_mem_cons.mpr ⟨ap.e1_5.symm, List.forall_mem_cons.mpr ⟨ap.e1_6.symm, List.forall_mem_cons.mpr ⟨ap.e1_7.symm, List.forall_mem_cons.mpr ⟨ap.e1_8.symm, List.forall_mem_cons.mpr ⟨ap.e1_9.symm, oo _ (.tail _ (.head _))⟩⟩⟩⟩⟩⟩⟩
      · exact List.forall_mem_cons.mpr ⟨ap.e0_2, List.forall_mem_cons.mpr ⟨ap.e2_4.symm, List.forall_mem_cons.mpr ⟨ap.e2_5.symm, List.forall_mem_cons.mpr ⟨ap.e2_6.symm, List.forall_mem_cons.mpr ⟨ap.e2_7.symm, List.forall_mem_cons.mpr ⟨ap.e2_8.symm, List.forall_mem_cons.mpr ⟨ap.e2_9.symm, oo _ (.tail _ (.tail _ (.head _)))⟩⟩⟩⟩⟩⟩⟩
      · exact List.forall_mem_cons.mpr ⟨ap.e0_3, List.forall_mem_cons.mpr ⟨ap.e3_4.symm, List.forall_mem_cons.mpr ⟨ap.e3_5.symm, List.forall_mem_cons.mpr ⟨ap.e3_6.symm, List.forall_mem_cons.mpr ⟨ap.e3_7.symm, List.forall_mem_cons.mpr ⟨ap.e3_8.symm, List.forall_mem_cons.mpr ⟨ap.e3_9.symm, oo _ (.tail _ (.tail _ (.tail _ (.head _))))⟩⟩⟩⟩⟩⟩⟩
      · exact List.forall_mem_cons.mpr ⟨ap.e0_14, List.forall_mem_cons.mpr ⟨ap.e4_14, List.forall_mem_cons.mpr ⟨ap.e5_14, List.forall_mem_cons.mpr ⟨ap.e6_14, List.forall_mem_cons.mpr ⟨ap.e7_14, List.forall_mem_cons.mpr ⟨ap.e8_14, List.forall_mem_cons.mpr ⟨ap.e9_14, oo _ (.tail _ (.tail _ (.tail _ (.tail _ (.tail _ (.tail _ (.tail _ (.tail _ (.tail _ (.tail _ (.tail _ (.tail _ (.tail _ (.tail _ (.head _)))))))))))))))⟩⟩⟩⟩⟩⟩⟩
      · exact List.forall_mem_cons.mpr ⟨ap.e0_15, List.forall_mem_cons.mpr ⟨ap.e4_15, List.forall_mem_cons.mpr ⟨ap.e5_15, List.forall_mem_cons.mpr ⟨ap.e6_15, List.forall_mem_cons.mpr ⟨ap.e7_15, List.forall_mem_cons.mpr ⟨ap.e8_15, List.forall_mem_cons.mpr ⟨ap.e9_15, oo _ (.tail _ (.tail _ (.tail _ (.tail _ (.tail _ (.tail _ (.tail _ (.tail _ (.tail _ (.tail _ (.tail _ (.tail _ (.tail _ (.tail _ (.tail _ (.head _))))))))))))))))⟩⟩⟩⟩⟩⟩⟩
      )) (off_of (by
      intro b hb
      simp only [List.mem_cons, List.not_mem_nil, or_false] at hb
      rcases hb with rfl | rfl | rfl | rfl
      · exact List.forall_mem_cons.mpr ⟨ap.e1_10, List.forall_mem_cons.mpr ⟨ap.e2_10, List.forall_mem_cons.mpr ⟨ap.e3_10, List.forall_mem_cons.mpr ⟨ap.e10_14.symm, List.forall_mem_cons.mpr ⟨ap.e10_15.symm, List.forall_mem_cons.mpr ⟨ap.e0_10, List.forall_mem_cons.mpr ⟨ap.e4_10, List.forall_mem_cons.mpr ⟨ap.e5_10, List.forall_mem_cons.mpr ⟨ap.e6_10, List.forall_mem_cons.mpr ⟨ap.e7_10, List.forall_mem_cons.mpr ⟨ap.e8_10, List.forall_mem_cons.mpr ⟨ap.e9_10, oo _ (.tail _ (.tail _ (.tail _ (.tail _ (.tail _ (.tail _ (.tail _ (.tail _ (.tail _ (.tail _ (.head _)))))))))))⟩⟩⟩⟩⟩⟩⟩⟩⟩⟩⟩⟩
      · exact List.forall_mem_cons.mpr ⟨ap.e1_11, List.forall_mem_cons.mpr ⟨ap.e2_11, List.forall_mem_cons.mpr ⟨ap.e3_11, List.forall_mem_cons.mpr ⟨ap.e11_14.symm, List.forall_mem_cons.mpr ⟨ap.e11_15.symm, List.forall_mem_cons.mpr ⟨ap.e0_11, List.forall_mem_cons.mpr ⟨ap.e4_11, List.forall_mem_cons.mpr ⟨ap.e5_11, List.forall_mem_cons.mpr ⟨ap.e6_11, List.forall_mem_cons.mpr ⟨ap.e7_11, List.forall_mem_cons.mpr ⟨ap.e8_11, List.forall_mem_cons.mpr ⟨ap.e9_11, oo _ (.tail _ (.tail _ (.tail _ (.tail _ (.tail _ (.tail _ (.tail _ (.tail _ (.tail _ (.tail _ (.tail _ (.head _))))))))))))⟩⟩⟩⟩⟩⟩⟩⟩⟩⟩⟩⟩
      · exact List.forall_mem_cons.mpr ⟨ap.e1_12, List.forall_mem_cons.mpr ⟨ap.e2_12, List.forall_mem_cons.mpr ⟨ap.e3_12, List.forall_mem_cons.mpr ⟨ap.e12_14.symm, List.forall_mem_cons.mpr ⟨ap.e12_15.symm, List.forall_mem_cons.mpr ⟨ap.e0_12, List.forall_mem_cons.mpr ⟨ap.e4_12, List.forall_mem_cons.mpr ⟨ap.e5_12, List.forall_mem_cons.mpr ⟨ap.e6_12, List.forall_mem_cons.mpr ⟨ap.e7_12, List.forall_mem_cons.mpr ⟨ap.e8_12, List.forall_mem_cons.mpr ⟨ap.e9_12, oo _ (.tail _ (.tail _ (.tail _ (.tail _ (.tail _ (.tail _ (.tail _ (.tail _ (.tail _ (.tail _ (.tail _ (.tail _ (.head _)))))))))))))⟩⟩⟩⟩⟩⟩⟩⟩⟩⟩⟩⟩
      · exact List.forall_mem_cons.mpr ⟨ap.e1_13, List.forall_mem_cons.mpr ⟨ap.e2_13, List.forall_mem_cons.mpr ⟨ap.e3_13, List.forall_mem_cons.mpr ⟨ap.e13_14.symm, List.forall_mem_cons.mpr ⟨ap.e13_15.symm, List.forall_mem_cons.mpr ⟨ap.e0_13, List.forall_mem_cons.mpr ⟨ap.e4_13, List.forall_mem_cons.mpr ⟨ap.e5_13, List.forall_mem_cons.mpr ⟨ap.e6_13, List.forall_mem_cons.mpr ⟨ap.e7_13, List.forall_mem_cons.mpr ⟨ap.e8_13, List.forall_mem_cons.mpr ⟨ap.e9_13, oo _ (.tail _ (.tail _ (.tail _ (.tail _ (.tail _ (.tail _ (.tail _ (.tail _ (.tail _ (.tail _ (.tail _ (.tail _ (.tail _ (.head _))))))))))))))⟩⟩⟩⟩⟩⟩⟩⟩⟩⟩⟩⟩
      )) (⟨ap.e10_12, ap.e11_12, ap.e12_13, ap.e1_12.symm, ap.e2_12.symm, ap.e3_12.symm, ap.e12_14, ap.e12_15, off_of (by intro b hb; rw [List.mem_singleton.mp hb]; exact List.forall_mem_cons.mpr ⟨ap.e0_12, List.forall_mem_cons.mpr ⟨ap.e4_12, List.forall_mem_cons.mpr ⟨ap.e5_12, List.forall_mem_cons.mpr ⟨ap.e6_12, List.forall_mem_cons.mpr ⟨ap.e7_12, List.forall_mem_cons.mpr ⟨ap.e8_12, List.forall_mem_cons.mpr ⟨ap.e9_12, oo _ (.tail _ (.tail _ (.tail _ (.tail _ (.tail _ (.tail _ (.tail _ (.tail _ (.tail _ (.tail _ (.tail _ (.tail _ (.head _)))))))))))))⟩⟩⟩⟩⟩⟩⟩)⟩) (ap.e10_11) (ap.e10_12) (ap.e10_13) (ap.e1_10.symm) (ap.e2_10.symm) (ap.e3_10.symm) (ap.e10_14) (ap.e10_15) (ap.e11_12) (ap.e11_13) (ap.e1_11.symm) (ap.e2_11.symm) (ap.e3_11.symm) (ap.e11_14) (ap.e11_15) (ap.e12_13) (ap.e1_12.symm) (ap.e2_12.symm) (ap.e3_12.symm) (ap.e12_14) (ap.e12_15) (ap.e1_13.symm) (ap.e2_13.symm) (ap.e3_13.symm) (ap.e13_14) (ap.e13_15) (ap.e1_2) (ap.e1_3) (ap.e1_14) (ap.e1_15) (ap.e2_3) (ap.e2_14) (ap.e2_15) (ap.e3_14) (ap.e3_15) (ap.e14_15) K0.v1 K0.h1 K0.u1 K0.q1 ?lu ?la ?lv ?lh K0.z1 hw (by decide) (by decide) (by show (1 : Int) < 2; decide) (by show (1 : Int).toNat < 2; decide) rfl rfl rfl ?done
    case sub => kqd_sub
    case lu => have := K0.r1; rw [K0.u1.length]; omega
    case la => have := K0.r1; rw [K0.q1.length]; omega
    case lv => have := K0.c1; rw [K0.v1.length]; omega
    case lh => have := K0.c1; rw [K0.h1.length]; omega
    case done =>
      intro h' tk' m' P' H' n' k' nh' na' vs' hs' us' as' is' bs' F' mf mh ma N' bv bh iu iq lb zz li aw lt
      obtain ⟨h_x1, h_d1, h_Pn, h_A1, h_FL, h_HL, h_AL, h_H1, h_a1, h_rest⟩ := lt
      have lP := h_Pn
      have hr := allLt_to h_rest
      obtain ⟨h_DL, h_x0, h_d0, h_P0, h_A0, h_H0, h_a0, h_own⟩ := h_rest
      have hro := allLt_to h_own
      refine ⟨h', tk', m', _, ((DL, listOf ws.toArray 0) :: (FL, listOf [Value.ref x0, Value.ref x1].toArray 0) :: (HL, listOf [Value.ref H0, Value.ref H'].toArray 0) :: (AL, listOf [Value.ref a0, Value.ref a1].toArray 0) :: (x0, instObj 46 d0) :: (d0, pDict w j0 l0 P0 A0) :: (P0, listOf vs0.toArray n0) :: (A0, listOf us0.toArray k0) :: (H0, listOf hs0.toArray nh0) :: (a0, listOf as0.toArray na0) :: (x1, instObj 46 d1) :: (d1, pDict w j1 l1 P' A1) :: (P', listOf vs'.toArray n') :: (A1, listOf us'.toArray k') :: (H', listOf hs'.toArray nh') :: (a1, listOf as'.toArray na') :: []), rfl, F', N', ?n1, ?n2, ?n3, ?n4, P0, H0, P', H', n0, k0, nh0, na0, n', k', nh', na', vs0, hs0, us0, as0, vs', hs', us', as', bs0, bs', is0, is', rfl, ⟨⟨ap.e0_1, ap.e0_2, ap.e0_3, ap.e0_4, ap.e0_5, ap.e0_6, ap.e0_7, ap.e0_8, ap.e0_9, ap.e0_10, ap.e0_11, ((aw.a9 _ (.head _) _ (.head _)).symm).symm, ap.e0_13, lt_ne h_DL, ap.e0_15, ap.e1_2, ap.e1_3, ap.e1_4, ap.e1_5, ap.e1_6, ap.e1_7, ap.e1_8, ap.e1_9, ap.e1_10, ap.e1_11, (aw.a4).symm, ap.e1_13, lt_ne h_FL, ap.e1_15, ap.e2_3, ap.e2_4, ap.e2_5, ap.e2_6, ap.e2_7, ap.e2_8, ap.e2_9, ap.e2_10, ap.e2_11, (aw.a5).symm, ap.e2_13, lt_ne h_HL, ap.e2_15, ap.e3_4, ap.e3_5, ap.e3_6, ap.e3_7, ap.e3_8, ap.e3_9, ap.e3_10, ap.e3_11, (aw.a6).symm, ap.e3_13, lt_ne h_AL, ap.e3_15, ap.e4_5, ap.e4_6, ap.e4_7, ap.e4_8, ap.e4_9, ap.e4_10, ap.e4_11, ((aw.a9 _ (.tail _ (.head _)) _ (.head _)).symm).symm, ap.e4_13, lt_ne h_x0, ap.e4_15, ap.e5_6, ap.e5_7, ap.e5_8, ap.e5_9, ap.e5_10, ap.e5_11, ((aw.a9 _ (.tail _ (.tail _ (.head _))) _ (.head _)).symm).symm, ap.e5_13, lt_ne h_d0, ap.e5_15, ap.e6_7, ap.e6_8, ap.e6_9, ap.e6_10, ap.e6_11, ((aw.a9 _ (.tail _ (.tail _ (.tail _ (.head _)))) _ (.head _)).symm).symm, ap.e6_13, lt_ne h_P0, ap.e6_15, ap.e7_8, ap.e7_9, ap.e7_10, ap.e7_11, ((aw.a9 _ (.tail _ (.tail _ (.tail _ (.tail _ (.head _))))) _ (.head _)).symm).symm, ap.e7_13, lt_ne h_A0, ap.e7_15, ap.e8_9, ap.e8_10, ap.e8_11, ((aw.a9 _ (.tail _ (.tail _ (.tail _ (.tail _ (.tail _ (.head _)))))) _ (.head _)).symm).symm, ap.e8_13, lt_ne h_H0, ap.e8_15, ap.e9_10, ap.e9_11, ((aw.a9 _ (.tail _ (.tail _ (.tail _ (.tail _ (.tail _ (.tail _ (.head _))))))) _ (.head _)).symm).symm, ap.e9_13, lt_ne h_a0, ap.e9_15, ap.e10_11, (aw.a1.symm).symm, ap.e10_13, lt_ne h_x1, ap.e10_15, (aw.a2.symm).symm, ap.e11_13, lt_ne h_d1, ap.e11_15, aw.a3, lt_ne lP, aw.a8, lt_ne h_A1, ap.e13_15, (lt_ne h_a1).symm⟩, K0.v0, K0.h0, K0.u0, K0.q0, bv, bh, iu, iq, by have := K0.c0; omega, by have := K0.c1; omega, by have := K0.r0; omega, by have := K0.r1; omega, K0.z0, zz, mf, mh, ma⟩⟩
      case n1 => kqd_sub
      case n2 => intro p hp; exact .tail _ <| .tail _ <| .tail _ <| .tail _ <| .tail _ <| .tail _ <| .tail _ <| .tail _ <| .tail _ <| .tail _ <| .tail _ <| .tail _ <| .tail _ <| .tail _ <| .tail _ <| .tail _ <| hp
      case n3 => exact off_of (by
        intro b hb
        simp only [List.map_cons, List.map_nil, List.mem_cons, List.not_mem_nil, or_false] at hb
        rcases hb with rfl | rfl | rfl | rfl | rfl | rfl | rfl | rfl | rfl | rfl | rfl | rfl | rfl | rfl | rfl | rfl
        · exact oo _ (.head _)
        · exact oo _ (.tail _ (.head _))
        · exact oo _ (.tail _ (.tail _ (.head _)))
        · exact oo _ (.tail _ (.tail _ (.tail _ (.head _))))
        · exact oo _ (.tail _ (.tail _ (.tail _ (.tail _ (.head _)))))
        · exact oo _ (.tail _ (.tail _ (.tail _ (.tail _ (.tail _ (.head _))))))
        · exact oo _ (.tail _ (.tail _ (.tail _ (.tail _ (.tail _ (.tail _ (.head _)))))))
        · exact oo _ (.tail _ (.tail _ (.tail _ (.tail _ (.tail _ (.tail _ (.tail _ (.head _))))))))
        · exact oo _ (.tail _ (.tail _ (.tail _ (.tail _ (.tail _ (.tail _ (.tail _ (.tail _ (.head _)))))))))
        · exact oo _ (.tail _ (.tail _ (.tail _ (.tail _ (.tail _ (.tail _ (.tail _ (.tail _ (.tail _ (.head _))))))))))
        · exact oo _ (.tail _ (.tail _ (.tail _ (.tail _ (.tail _ (.tail _ (.tail _ (.tail _ (.tail _ (.tail _ (.head _)))))))))))
        · exact oo _ (.tail _ (.tail _ (.tail _ (.tail _ (.tail _ (.tail _ (.tail _ (.tail _ (.tail _ (.tail _ (.tail _ (.head _))))))))))))
        · exact fun p hp => (aw.a9 p (.tail _ <| .tail _ <| .tail _ <| .tail _ <| .tail _ <| .tail _ <| .tail _ <|  hp) _ (.head _))
        · exact oo _ (.tail _ (.tail _ (.tail _ (.tail _ (.tail _ (.tail _ (.tail _ (.tail _ (.tail _ (.tail _ (.tail _ (.tail _ (.tail _ (.head _))))))))))))))
        · exact fun p hp => lt_ne (hro p hp)
        · exact oo _ (.tail _ (.tail _ (.tail _ (.tail _ (.tail _ (.tail _ (.tail _ (.tail _ (.tail _ (.tail _ (.tail _ (.tail _ (.tail _ (.tail _ (.tail _ (.head _))))))))))))))))
        )
      case n4 => exact .head _
end Mine

namespace Mine
def asgVal : Option Stmt → Expr
  | some (.Assign _ v _) => v
  | _ => .Constant .none 0 default
/-- the first value, taken out of the row -/
def firstExpr : Expr := asgVal ((defBody PySem.Challenge.pw_ag6001_01.main.body.getLast?)[0]?)

theorem first_K : ∀ (w : World) (s₀ s : Shared) (mg mb : Str → Option Value) (h₀ : Heap) (L fa w9 l : Addr) (w8 : Obj) (cd : Value) (vs : List Value) (ns : List Int) (E : Value → Shared → Prop) (Q : Value → Shared → Prop),
  Known w s₀ mg mb h₀ w9 w8 → (hd.heap_39 w.params).In h₀ → Fr h₀ L s.heap (fun y => List.lookup y [(Str.ofString "script", Value.ref l)].reverse) → News h₀ L s.heap [] → h₀.IsList l vs.toArray → IntsAre vs ns → ns.length ≤ 1000 →
  (∀ v t h' tk l', Fr h₀ L h' (fun y => List.lookup y [(Str.ofString "script", Value.ref l)].reverse) → News h₀ L h' [(l', listOf #[] 0)] → Q (.int v t) { heap := h', gens := s.gens, drawn := s.drawn, toks := tk, os := s.os }) →
  wpAny (model PySem.Challenge.rw_ag6001_01.row.prog w) (lawA L fa cd) (eval firstExpr (lawEnv L fa cd)) Q E s := by
  w_top off
  k_fill
  intro w s₀ s mg mb h₀ L fa w9 l w8 cd vs ns E Q K X' F' N' hl hi hlen hQ
  have B' := K.B
  have T' := K.T
  have GL := K.G
  have M := K.M
  have e : firstExpr = ?body9 := by
    conv => lhs; whnf
  rw [e]
  clear e
  cases hi with
  | nil =>
    have hi0 : IntsAre [] [] := .nil
    k_steps
    all_goals exact hQ _ _ _ _ _ (by assumption) (by assumption)
  | cons n t r =>
    have hi0 := IntsAre.cons n t r
    k_steps
    all_goals exact hQ _ _ _ _ _ (by assumption) (by assumption)
end Mine

namespace Mine
theorem eq_IA {prog : Program} {w : World} {A : Around} {E : Value → Shared → Prop} {s : Shared} {h₀ : Heap} {L a c : Addr} {news : List (Addr × Obj)} {n k : Nat} {xs ys : List Value} {ns : List Int} {Q : Value → Shared → Prop} (N : News h₀ L s.heap news) (ma : (a, listOf xs.toArray n) ∈ news) (mb : (c, listOf ys.toArray k) ∈ news) (hi : IntsAre xs ns) (hj : IntsAre ys ns) (hu : A.units + 64 < cLine) (h : Q (.bool true) s) :
    wpAny (model prog w) A (compareOp .Eq (.ref a) (.ref c)) Q E s :=
  ke_eq_ints ⟨_, N.get ma, rfl, _, rfl⟩ ⟨_, N.get mb, rfl, _, rfl⟩ hi hj hu (by rw [decide_eq_true rfl]; exact h)
local macro_rules | `(tactic| walk_at "exec For Name Subscript cons nil") => `(tactic| (k_here; (rename Fr _ _ _ _ => lF'); (with_unfolding_all refine' For_invVF lF' ?k1 ?k2 ?_; (case k1 => exact rfl); (case k2 => exact rfl); k_whole)))
local macro_rules | `(tactic| walk_at "call ref") => `(tactic| (k_here; (with_reducible show wpAny _ _ (PySem.call (Value.ref 62) [Value.int _ _] []) _ _ _); k_dflt (refine' part_use ?K ?F ?N ?_; (case K => with_reducible assumption); (case F => k_asm); (case N => k_asm); k_whole); intro h' tk' tt' b' hb' F' N'; (try k_sweep)))
local macro_rules | `(tactic| walk_at "eval IfExp") => `(tactic| (k_here; k_dflt (refine' first_K _ _ _ _ _ _ _ _ _ _ _ _ _ _ _ _ ?K ?X ?F ?N ?l ?i ?z ?_; (case K => with_reducible assumption); (case X => with_reducible assumption); (case F => k_asm); (case N => k_asm); (case l => with_reducible assumption); (case i => with_reducible assumption); (case z => with_reducible assumption); k_whole); intro v9 t9 h' tk' l' F' N'; (try k_sweep)))
local macro_rules | `(tactic| passes_own) => `(tactic| with_reducible assumption)

def lawBody : List Stmt := defBody PySem.Challenge.pw_ag6001_01.main.body.getLast?
theorem pick_ab : KBy.picked #[97, 98, 99, 100] (some 2) none = #[99, 100] := by decide +kernel

local macro_rules | `(tactic| walk_at "compareOp Eq ref ref") => `(tactic| (k_here; (with_reducible show wpAny _ _ (compareOp CmpOp.Eq (Value.ref _) (Value.ref _)) _ _ _); k_dflt (first
  | (refine' eq_IA ?N ?a ?b ?c ?d ?u ?_; (case N => k_asm); (case a => k_mem); (case b => k_mem); (case c => with_reducible assumption); (case d => with_reducible assumption); (case u => ke_room); k_whole)
  | (refine' eq_BAt ?N ?a ?b ?c ?d ?u ?_; (case N => k_asm); (case a => k_mem); (case b => k_mem); (case c => with_reducible assumption); (case d => with_reducible assumption); (case u => ke_room); k_whole))))
local macro_rules | `(tactic| walk_at "pyIter ref") => `(tactic| (k_here; (with_reducible show wpAny _ _ (pyIter (Value.ref _)) (fun it s₂ => LoopAtV _ _ _ _ _ _ _ _ _ it s₂) _ _); (with_reducible rename News _ _ _ _ => N9); (simp only [pick_ab, List.push_toArray, List.nil_append] at N9); (refine' my_loop ?zyK ?zyX ?zyF ?zyN ?zysub ?zyi ?zylen ?zymf ?zymh ?zyma ?zyap ?zyv0 ?zyh0 ?zyu0 ?zyq0 ?zyv1 ?zyh1 ?zyu1 ?zyq1 ?zyc0 ?zyc1 ?zyr0 ?zyr1 ?zyz0 ?zyz1 ?zyfin); (case zyK => with_reducible assumption); (case zyX => with_reducible assumption); (case zyF => k_asm); (case zyN => exact N9); (case zyi => with_reducible assumption); (case zylen => exact List.length_take_le 40 _); (case zymf => exact rfl); (case zymh => exact rfl); (case zyma => exact rfl); (case zysub => kqd_sub); (case zyap => (refine apart_chain ?zyg0 ?zyg1 ?zyg2 ?zyg3 ?zyg4 ?zyg5 ?zyg6 ?zyg7 ?zyg8 ?zyg9 ?zyg10 ?zyg11 ?zyg12 ?zyg13 ?zyg14) <;> omega); (case zyv0 => exact BA.cons (BA.cons (BA.cons BA.nil))); (case zyh0 => exact BA.cons (BA.cons (BA.cons BA.nil))); (case zyv1 => exact BA.cons (BA.cons BA.nil)); (case zyh1 => exact BA.cons (BA.cons BA.nil)); (case zyu0 => exact IntsAre.cons _ _ IntsAre.nil); (case zyq0 => exact IntsAre.cons _ _ IntsAre.nil); (case zyu1 => exact IntsAre.nil); (case zyq1 => exact IntsAre.nil); (case zyc0 => exact Nat.le_of_ble_eq_true rfl); (case zyc1 => exact Nat.le_of_ble_eq_true rfl); (case zyr0 => exact Nat.le_of_ble_eq_true rfl); (case zyr1 => exact Nat.le_of_ble_eq_true rfl); (case zyz0 => exact List.forall_mem_cons.mpr ⟨by decide, List.forall_mem_cons.mpr ⟨by decide, List.forall_mem_cons.mpr ⟨by assumption, List.forall_mem_nil _⟩⟩⟩); (case zyz1 => exact List.forall_mem_cons.mpr ⟨by assumption, List.forall_mem_cons.mpr ⟨by decide, List.forall_mem_nil _⟩⟩); (intro h' tk u' P0 H0 P1 H1 n0 k0 nh0 na0 n1 k1 nh1 na1 vs0 hs0 us0 as0 vs1 hs1 us1 as1 bs0 bs1 is0 is1 KQ F' N'); (have y1 := KQ.v0); (have y2 := KQ.h0); (have y3 := KQ.u0); (have y4 := KQ.q0); (have y5 := KQ.v1); (have y6 := KQ.h1); (have y7 := KQ.u1); (have y8 := KQ.q1); (clear KQ); (try k_sweep))) 

theorem law_all : ∀ (w : World) (s₀ s : Shared) (mg mb : Str → Option Value) (h₀ : Heap) (L fa w9 l : Addr) (w8 : Obj) (cd : Value) (vs : List Value) (ns : List Int) (E : Value → Shared → Prop) (Q : Flow → Shared → Prop),
  Known w s₀ mg mb h₀ w9 w8 → (hd.heap_39 w.params).In h₀ → Fr h₀ L s.heap (fun y => List.lookup y [(Str.ofString "script", Value.ref l)].reverse) → h₀.IsList l vs.toArray → IntsAre vs ns → ns.length ≤ 1000 →
  PassesOwn (model PySem.Challenge.rw_ag6001_01.row.prog w) (lawA L fa cd) (lawEnv L fa cd) E →
  (∀ h' tk m', Fr h₀ L h' m' → Q (.ret (.bool true)) { heap := h', gens := s.gens, drawn := s.drawn, toks := tk, os := s.os }) →
  wpAny (model PySem.Challenge.rw_ag6001_01.row.prog w) (lawA L fa cd) (execs lawBody (lawEnv L fa cd)) Q E s := by
  w_top off
  k_fill
  intro w s₀ s mg mb h₀ L fa w9 l w8 cd vs ns E Q K X' F' hl hi hlen hE fin
  have N' : News h₀ L s.heap [] := News.nil
  have B' := K.B
  have T' := K.T
  have GL := K.G
  have M := K.M
  have e : lawBody = ?body9 := by
    conv => lhs; whnf
  rw [e]
  clear e
  k_steps
  exact fin _ _ _ (by assumption)
end Mine

theorem Mine.whole : PySem.Challenge.rw_ag6001_01.Holds := hd (by
  w_strict (k_go0
            have K9 : Mine.Known _ _ _ _ _ _ _ := ⟨by assumption, by assumption, by assumption, by assumption, by assumption⟩
            refine' Mine.law_all _ _ _ _ _ _ _ _ _ _ _ _ _ _ _ _ K9 ?zyX ?zyF ?zyl ?zyi ?zyz ?zye ?zyfin
            (case zyX => assumption)
            (case zyF => assumption)
            (case zyl => assumption)
            (case zyi => assumption)
            (case zyz => omega)
            (case zye => passes_own)
            (intro h' tk' m' F')
            k_steps))

theorem PySem.Challenge.cw_ag6001_01_holds : PySem.Challenge.rw_ag6001_01.Holds := by
  exact Mine.whole
