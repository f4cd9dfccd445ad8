import PyProof.Rows.All
import Wide.All
import OpenK.AllK
import Wide.FinOn
import KE.KEqDat
import KE.KxDecode
import Lean
import PySem.Challenge.RW_yh0023_01
open PySem PySem.W PyProof.Rows PySem.Calls PySem.Spec
set_option Elab.async false
set_option maxRecDepth 100000
set_option rowWalk.seconds 0
set_option linter.all false
set_option compiler.extract_closed false
namespace Mine
section -- MTop
section
open Lean in
local macro_rules
  | `(tactic| refine $f:ident $xs*) => do
    if f.getId.eraseMacroScopes == `PySem.W.holds_open || f.getId.eraseMacroScopes == `PySem.W.holds_openC then
      `(tactic| (refine' $f:ident $xs*; rotate_left; w_witness2; exact And.right (a := True) (by assumption); exact And.left (b := True) (by assumption)))
    else Macro.throwUnsupported
set_option maxRecDepth 100000 in
set_option maxHeartbeats 8000000 in
set_option Elab.async false in
noncomputable def P : (W : Prop) ×' (L : Prop) ×' (L ∧ True → True ∧ W → PySem.Challenge.rw_yh0023_01.row.Holds) := by
  refine ⟨?W, ?L, fun l w => ?m⟩
  case m => k_head
end
end
section -- MBase
noncomputable abbrev LO : List Str := looseW P.view_1 ["tspecials", "_name_disallowed_re", "_value_disallowed_re", "_formatparam"]
noncomputable abbrev Led := List (Addr × Obj)

/-- what a call of a def does: in whatever frame, with the ledger `news`, the rest of the run goes on with a ledger and an answer that Post tells -/
noncomputable def Says (w : World) (mean : ExcName → Option Value) (mg mb : Str → Option Value) (D : Nat) (f : Addr) (vs : List Value) (kw : List (Str × Value)) (news : Led) (Post : Led → Value → Prop) : Prop :=
  ∀ (dp un : Nat) (gd : Option (List Code)) (cn : Str) (cs : Scope) (a : Addr) (ccd : Value) (cl : List (Str × Addr)) (outer : List Env) (A₀ : Around) (base h₀ : Heap) (L : Addr) (m : Str → Option Value) (s : Shared)
    (Q E : Value → Shared → Prop),
    Below A₀ base outer h₀ → Fr h₀ L s.heap m → (P.heap_1 w.params).In h₀ → News h₀ L s.heap news → Top P.view_1 LO mean mg mb h₀ → cs.kind = .function → dp < D + 300 → un < 10 * D →
    (∀ r news' h' tk', Fr h₀ L h' m → News h₀ L h' news' → Post news' r → Q r { s with heap := h', toks := tk' }) →
    wpAny (model PySem.Challenge.rw_yh0023_01.row.prog w) (ktrTop dp un gd cn cs L a ccd cl outer) (call (.ref f) vs kw) Q E s

theorem Says.use {w : World} {mean : ExcName → Option Value} {mg mb : Str → Option Value} {D : Nat} {f : Addr} {vs : List Value} {kw : List (Str × Value)} {news : Led} {Post : Led → Value → Prop} (C : Says w mean mg mb D f vs kw news Post)
    {dp un : Nat} {gd : Option (List Code)} {cn : Str} {cs : Scope} {a : Addr} {ccd : Value} {cl : List (Str × Addr)} {outer : List Env} {A₀ : Around} {base h₀ : Heap} {L : Addr} {m : Str → Option Value} {s : Shared}
    {Q E : Value → Shared → Prop} (B : Below A₀ base outer h₀) (F : Fr h₀ L s.heap m) (X : (P.heap_1 w.params).In h₀) (N : News h₀ L s.heap news) (T : Top P.view_1 LO mean mg mb h₀) (hk : cs.kind = .function) (hd : dp < D + 300) (hu : un < 10 * D)
    (ret : ∀ r news' h' tk', Fr h₀ L h' m → News h₀ L h' news' → Post news' r → Q r { s with heap := h', toks := tk' }) :
    wpAny (model PySem.Challenge.rw_yh0023_01.row.prog w) (ktrTop dp un gd cn cs L a ccd cl outer) (call (.ref f) vs kw) Q E s := C _ _ _ _ _ _ _ _ _ _ _ _ _ _ _ _ _ B F X N T hk hd hu ret

theorem fill : P.heap_1 = P.heap_1 ∧ PySem.Challenge.rw_yh0023_01 = PySem.Challenge.rw_yh0023_01 := ⟨rfl, rfl⟩

/-- new objects behind the old ones -/
noncomputable def After (news tl : Led) : Prop := ∀ q ∈ news, ∀ p ∈ tl, p.1 ≠ q.1
theorem After.nil {news : Led} : After news [] := fun _ _ _ h => nomatch h

/-- the headers' object at R, its dict at RD, its list at RL -/
noncomputable abbrev hdrD (w : World) (t : Tok) (RL : Addr) : Obj := dictOf [⟨PyData.keyHash w.params "_headers", .str "_headers" t, .ref RL⟩] 1
noncomputable abbrev pairD (p : Str × Str) : Dat := .tuple [.str p.1, .str p.2]

theorem m_len {prog : Program} {w : World} {A : Around} {E : Value → Shared → Prop} {s : Shared} {h₀ : Heap} {L : Addr} {news : Led} {l : Addr} {vs : List Value} {n : Nat} {Q : Value → Shared → Prop} (N : News h₀ L s.heap news) (hl : (l, listOf vs.toArray n) ∈ news)
    (hfit : vs.length < 2 ^ 63) (h : Q (.int vs.length (s.toks + 1)) { s with toks := s.toks + 1 + 1 }) : wpAny (model prog w) A (call (.builtin "len") [.ref l]) Q E s :=
  len_list (items := vs.toArray) ⟨_, (N _ hl).1, rfl, _, rfl⟩ (by simp; omega) (by simpa using h)

theorem m_join1 {prog : Program} {w : World} {A : Around} {E : Value → Shared → Prop} {s : Shared} {h₀ : Heap} {L : Addr} {news : Led} {l : Addr} {x y : Str} {t ty : Tok} {n : Nat} {Q : Value → Shared → Prop} (N : News h₀ L s.heap news) (hl : (l, listOf [.str y ty].toArray n) ∈ news)
    (hsep : x.length ≤ 64) (hy : y.length ≤ 1000000) (h : ∀ t' k, Q (.str y t') { s with toks := k }) : wpAny (model prog w) A (call (.builtin "str.join") [.str x t, .ref l]) Q E s :=
  join_listC (items := #[.str y ty]) (ys := [y]) ⟨_, (N _ hl).1, rfl, _, rfl⟩ (.cons y ty .nil) hsep (by simp; omega) (fun t' k => h t' k)
theorem After.app {news tl tl' : Led} (h : After news tl) (h' : After (news ++ tl) tl') : After news (tl ++ tl') := by
  intro q hq p hp
  rcases List.mem_append.mp hp with hp | hp
  · exact h q hq p hp
  · exact h' q (List.mem_append.mpr (.inl hq)) p hp
theorem News.sub {h₀ h : Heap} {L : Addr} {news news' : Led} (N : News h₀ L h news) (hs : ∀ p ∈ news', p ∈ news) : News h₀ L h news' := fun p hp => N p (hs p hp)

theorem m_append {prog : Program} {w : World} {A : Around} {E : Value → Shared → Prop} {s : Shared} {h₀ : Heap} {L : Addr} {m : Str → Option Value} {news : Led} {l : Addr} {vs : List Value} {n : Nat} {v : Value} {Q : Value → Shared → Prop} (keep : Led) (F : Fr h₀ L s.heap m) (N : News h₀ L s.heap news) (hl : (l, listOf vs.toArray n) ∈ news)
    (hs : ∀ p ∈ keep, p ∈ news) (hne : ∀ p ∈ keep, p.1 ≠ l) (hsz : vs.length ≤ 1000000)
    (h : ∀ h', Fr h₀ L h' m → News h₀ L h' ((l, listOf (vs ++ [v]).toArray (n + 1)) :: keep) → Q .none { s with heap := h' }) : wpAny (model prog w) A (call (.builtin "list.append") [.ref l, v]) Q E s := by
  have hN : News h₀ L s.heap ((l, listOf vs.toArray n) :: keep) := fun p hp => by
    rcases List.mem_cons.mp hp with rfl | hp
    · exact N _ hl
    · exact N p (hs p hp)
  refine append_K F hN (.head hne) (fun h' F' N' => h h' F' (by simpa using N')) ?_
  show vs.toArray.size ≤ sizeLine
  rw [List.size_toArray]
  exact Nat.le_trans hsz (by decide)

theorem allLt_mem {d : Addr} {l : Led} (h : AllLt d l) : ∀ p ∈ l, p.1 < d := by
  induction l with
  | nil => intro p hp; exact absurd hp List.not_mem_nil
  | cons q r ih =>
    intro p hp
    rcases List.mem_cons.mp hp with e | hp
    · rw [e]; exact h.1
    · exact ih h.2 p hp
theorem after_hdr {R RD RL d : Addr} {a b c o : Obj} {rest : Led} (h1 : @LT.lt Nat _ R d) (h2 : @LT.lt Nat _ RD d) (h3 : @LT.lt Nat _ RL d) (h4 : AllLt d rest) : After ((R, a) :: (RD, b) :: (RL, c) :: rest) [(d, o)] := by
  intro q hq p hp
  rw [List.mem_singleton.mp hp]
  rcases List.mem_cons.mp hq with rfl | hq
  · exact Nat.ne_of_gt h1
  rcases List.mem_cons.mp hq with rfl | hq
  · exact Nat.ne_of_gt h2
  rcases List.mem_cons.mp hq with rfl | hq
  · exact Nat.ne_of_gt h3
  · exact Nat.ne_of_gt (allLt_mem h4 q hq)
theorem subA {news tl : Led} : ∀ p ∈ news, p ∈ news ++ tl := fun _ h => List.mem_append.mpr (.inl h)
theorem subB {news tl : Led} : ∀ p ∈ tl, p ∈ news ++ tl := fun _ h => List.mem_append.mpr (.inr h)
theorem pair_in {news : Led} {a : Addr} {x y : Str} {t u : Tok} {n : Nat} (h : (a, ({ cls := .type "tuple", data := .seq #[.str x t, .str y u] n } : Obj)) ∈ news) : DatIn news (.ref a) (pairD (x, y)) :=
  DatIn.tuple (vs := [.str x t, .str y u]) h (.cons (.str x t) (.cons (.str y u) .nil))

theorem after_off {D : Addr} {o : Obj} {l : Led} (h : LCg.Off1 D l) : After l [(D, o)] := by
  intro q hq p hp
  rw [List.mem_singleton.mp hp]
  induction l with
  | nil => exact absurd hq List.not_mem_nil
  | cons r l ih =>
    rcases List.mem_cons.mp hq with e | hq
    · rw [e]; exact Ne.symm h.1
    · exact ih h.2 hq
theorem datAll_cons {news : Led} {vs : List Value} {d : Dat} {ds : List Dat} (h : DatAll news vs (d :: ds)) : ∃ v vs', vs = v :: vs' ∧ DatIn news v d ∧ DatAll news vs' ds := by
  cases h with
  | cons h1 h2 => exact ⟨_, _, rfl, h1, h2⟩
theorem datAll_nil {news : Led} {vs : List Value} (h : DatAll news vs []) : vs = [] := by
  cases h
  rfl
theorem datIn_tuple {news : Led} {v : Value} {ds : List Dat} (h : DatIn news v (.tuple ds)) : ∃ a vs n, v = .ref a ∧ (a, ({ cls := .type "tuple", data := .seq vs.toArray n } : Obj)) ∈ news ∧ DatAll news vs ds := by
  cases h with
  | tuple hm hd => exact ⟨_, _, _, rfl, hm, hd⟩
theorem datIn_str {news : Led} {v : Value} {x : Str} (h : DatIn news v (.str x)) : ∃ t, v = .str x t := by
  cases h
  exact ⟨_, rfl⟩
theorem datIn_int {news : Led} {v : Value} {x : Int} (h : DatIn news v (.int x)) : ∃ t, v = .int x t := by
  cases h
  exact ⟨_, rfl⟩
theorem pair_out {news : Led} {v : Value} {p : Str × Str} (h : DatIn news v (pairD p)) : ∃ a n t u, v = .ref a ∧ (a, ({ cls := .type "tuple", data := .seq #[.str p.1 t, .str p.2 u] n } : Obj)) ∈ news := by
  obtain ⟨a, vs, n, rfl, hm, hd⟩ := datIn_tuple h
  obtain ⟨v1, vs1, rfl, h1, hd⟩ := datAll_cons hd
  obtain ⟨v2, vs2, rfl, h2, hd⟩ := datAll_cons hd
  obtain rfl := datAll_nil hd
  obtain ⟨t1, rfl⟩ := datIn_str h1
  obtain ⟨t2, rfl⟩ := datIn_str h2
  exact ⟨_, _, _, _, rfl, hm⟩
theorem all_get {news : Led} {vs : List Value} {ds : List Dat} (h : DatAll news vs ds) {i : Nat} {v : Value} (hv : vs[i]? = some v) : ∃ d, ds[i]? = some d ∧ DatIn news v d := by
  have hi : i < ds.length := by rw [← h.length]; exact (List.getElem?_eq_some_iff.mp hv).1
  obtain ⟨v', e, hd⟩ := h.get hi
  rw [hv] at e
  cases e
  exact ⟨_, List.getElem?_eq_getElem hi, hd⟩
theorem strs_snoc {vs : List Value} {ys : List Str} {y : Str} {t : Tok} (h : StrsAre vs ys) : StrsAre (vs ++ [.str y t]) (ys ++ [y]) := kct_snoc h

theorem pick_all (vs : List Value) : slicePick vs.toArray none none none = vs.toArray := by
  rw [kmk_pick_nat (a := 0) (b := vs.length) vs.toArray (by
    unfold sliceBounds; simp)]
  simp
theorem lt_heap {h₀ h : Heap} {L : Addr} {news : Led} (N : News h₀ L h news) : ∀ q ∈ news, q.1 < h.objs.size := fun q hq => Heap.lt_size (N q hq).1
theorem after_size {h₀ h : Heap} {L : Addr} {news : Led} (N : News h₀ L h news) (k : Nat) (o : Obj) : After news [(h.objs.size + k, o)] := by
  intro q hq p hp
  rw [List.mem_singleton.mp hp]
  exact Nat.ne_of_gt (Nat.lt_of_lt_of_le (lt_heap N q hq) (Nat.le_add_right _ _))
theorem swap1 {news : Led} {q : Addr × Obj} : ∀ p ∈ news ++ [q], p ∈ q :: news := fun p hp => (List.mem_append.mp hp).elim (List.mem_cons_of_mem _) fun h => (List.mem_singleton.mp h) ▸ List.mem_cons_self

theorem ne_of_all {news l : Led} {d c : Addr} (h : ∀ p ∈ news, p.1 < d) (hs : ∀ p ∈ l, p ∈ news) (hc : @LE.le Nat _ d c) : ∀ p ∈ l, p.1 ≠ c := fun p hp => Nat.ne_of_lt (Nat.lt_of_lt_of_le (h p (hs p hp)) hc)

theorem m_tup {h₀ h : Heap} {L : Addr} {news : Led} {a : Addr} {l : List Value} {n : Nat} (N : News h₀ L h news) (hm : (a, ({ cls := .type "tuple", data := .seq l.toArray n } : Obj)) ∈ news) : IsTup h a l.toArray := ⟨_, (N _ hm).1, rfl, n, rfl⟩

theorem boot_divmod : bootBuiltins "divmod" = some (.builtin "divmod") := by decide +kernel
/-- the letters of a number to the base 16 -/
noncomputable def apF : Nat → Nat → List UInt8
  | 0, _ => []
  | f + 1, n => if n = 0 then [] else apF f (n / 16) ++ [UInt8.ofNat (65 + n % 16)]
theorem apF_more : ∀ (f n : Nat), n < 16 ^ f → apF (f + 1) n = apF f n
  | 0, n, h => by
    have : n = 0 := by simpa using h
    subst this
    simp [apF]
  | f + 1, n, h => by
    have h' : n / 16 < 16 ^ f := by rw [Nat.pow_succ] at h; omega
    rw [apF, apF_more f (n / 16) h']
    rfl
theorem apF_step {n : Nat} (h : n < 4096) (h0 : n ≠ 0) : apF 3 n = apF 3 (n / 16) ++ [UInt8.ofNat (65 + n % 16)] := by
  have e : apF 3 (n / 16) = apF 2 (n / 16) := apF_more 2 _ (by omega)
  rw [e]
  show (if n = 0 then [] else apF 2 (n / 16) ++ [UInt8.ofNat (65 + n % 16)]) = _
  rw [if_neg h0]

theorem apF_len : ∀ (f n : Nat), (apF f n).length ≤ f
  | 0, _ => Nat.le_refl _
  | f + 1, n => by
    rw [apF]
    split
    · exact Nat.zero_le _
    · rw [List.length_append, List.length_singleton]
      exact Nat.succ_le_succ (apF_len f _)

theorem apF_rest {k m : Nat} {v : Array UInt8} (h : apF 3 k ++ v.toList = apF 3 m) : v.size ≤ 3 := by
  have e := congrArg List.length h
  have e2 := apF_len 3 m
  rw [List.length_append] at e
  have e3 : v.toList.length = v.size := by simp
  omega
end
section -- MDeep
/-- as Says, of a def behind which an exception was caught: the outer frames' slots may have turned -/
noncomputable def SaysT (w : World) (mean : ExcName → Option Value) (mg mb : Str → Option Value) (D : Nat) (f : Addr) (vs : List Value) (kw : List (Str × Value)) (news : Led) (Post : Led → Value → Prop) : Prop :=
  ∀ (dp un : Nat) (gd : Option (List Code)) (cn : Str) (cs : Scope) (a : Addr) (ccd : Value) (cl : List (Str × Addr)) (outer : List Env) (A₀ : Around) (base h₀ : Heap) (L : Addr) (m : Str → Option Value) (s : Shared)
    (Q E : Value → Shared → Prop),
    Below A₀ base outer h₀ → Fr h₀ L s.heap m → (P.heap_1 w.params).In h₀ → News h₀ L s.heap news → Top P.view_1 LO mean mg mb h₀ → (P.heap_1 w.params).In base → Top P.view_1 LO mean mg mb base →
    KtsDicts (outer.filterMap (·.frame)) h₀ → cs.kind = .function → dp < D + 300 → un < 10 * D →
    (∀ r news' h' tk' h₁, KtsTurn (outer.filterMap (·.frame)) h₀ h₁ → Fr h₁ L h' m → News h₁ L h' news' → Below A₀ base outer h₁ → (P.heap_1 w.params).In h₁ → Top P.view_1 LO mean mg mb h₁ → KtsDicts (outer.filterMap (·.frame)) h₁ →
      Post news' r → Q r { s with heap := h', toks := tk' }) →
    wpAny (model PySem.Challenge.rw_yh0023_01.row.prog w) (ktrTop dp un gd cn cs L a ccd cl outer) (call (.ref f) vs kw) Q E s

section
variable {prog : Program} {w : World} {A₀ A : Around} {s : Shared} {base h₀ : Heap} {outer : List Env} {env : Env} {L : Addr} {m : Str → Option Value} {news : Led} {K : Frag} {p : Program} {loose : List Str} {mean : ExcName → Option Value} {mg mb : Str → Option Value}
    {R : Result → Shared → Prop} {name qual : Str} {params : Arguments} {body : List Stmt} {scope : Scope} {dV kV doc pm cdv ct oc : Value} {an od : Option Addr} {osl : Array (Option Value)} {f : Addr} {args : Args} {binds : List (Str × Value)}

noncomputable def LeaveT (A₀ : Around) (base : Heap) (outer : List Env) (env : Env) (K : Frag) (p : Program) (loose : List Str) (mean : ExcName → Option Value) (mg mb : Str → Option Value) (h₀ : Heap) (L : Addr) (m : Str → Option Value) (g : Heap) (R : Result → Shared → Prop) (v : Value) (s' : Shared) : Prop :=
  ∃ g' L' m' news', KtsTurn ((env :: outer).filterMap (·.frame)) g g' ∧ Fr g' L' s'.heap m' ∧ News g' L' s'.heap news' ∧ ∀ h₁, KtsTurn (outer.filterMap (·.frame)) h₀ h₁ → Fr h₁ L s'.heap m → News h₁ L s'.heap news' → Below A₀ base outer h₁ → K.In h₁ →
    Top p loose mean mg mb h₁ → KtsDicts (outer.filterMap (·.frame)) h₁ → R (.ok (.ret v)) s'

theorem mem_frames {b : Addr} (hf : env.frame = some L) (hm : b ∈ (env :: outer).filterMap (·.frame)) : b = L ∨ b ∈ outer.filterMap (·.frame) := by
  obtain ⟨e, he, hb⟩ := List.mem_filterMap.mp hm
  rcases List.mem_cons.mp he with rfl | he
  · exact .inl (Option.some.inj (hb.symm.trans hf))
  · exact .inr (List.mem_filterMap.mpr ⟨e, he, hb⟩)

theorem groundT (B : Below A₀ base outer h₀) (F : Fr h₀ L s.heap m) (X₀ : K.In h₀) (N : News h₀ L s.heap news) (T : Top p loose mean mg mb h₀) (XB : K.In base) (TB : Top p loose mean mg mb base) (D : KtsDicts (outer.filterMap (·.frame)) h₀)
    (hA : A.frames = some (env :: outer)) (hf : env.frame = some L) (hke : env.scope.kind = .function) :
    Fr h₀ L (hideAll s.heap (news.map (·.1))) m ∧ Below A base (env :: outer) (hideAll s.heap (news.map (·.1))) ∧ h₀.StaysIn (hideAll s.heap (news.map (·.1))) ∧
      KtsDicts ((env :: outer).filterMap (·.frame)) (hideAll s.heap (news.map (·.1))) ∧
      ∀ v s', LeaveT A₀ base outer env K p loose mean mg mb h₀ L m (hideAll s.heap (news.map (·.1))) R v s' → R (.ok (.ret v)) s' := by
  obtain ⟨FG, BG, st, -⟩ := groundX (R := R) B F N hA hf hke
  obtain ⟨oL, es, ep, hLg, hLd, hLk, hLf⟩ := FG.ns
  refine ⟨⟨⟨oL, es, ep, hLg, hLd, hLk, hLf⟩, st, FG.above⟩, BG, st, fun b hb => ?_, fun v s' hl => ?_⟩
  · rcases mem_frames hf hb with rfl | hb
    · exact ⟨oL, es, ep, hLg, hLd⟩
    · obtain ⟨o, es', n', ho', hd'⟩ := D b hb
      exact ⟨o, es', n', st b o ho', hd'⟩
  · have nL₀ : h₀.get? L = none := kts_self F
    obtain ⟨g', L', m', news', T', F', N', k⟩ := hl
    obtain ⟨sl, hs⟩ := T'.up hLg
    obtain ⟨T₁, S₁⟩ := kts_turn_at (h := s'.heap) (fs := outer.filterMap (·.frame)) (g := h₀)
      (fun b hb => by
        obtain ⟨_, o, ho', _⟩ := B.frames.mem hb
        exact ⟨o, ho'⟩)
      (fun b o e nmem => F'.keep b o (T'.other b o (st b o e) (fun q => by
        rcases mem_frames hf q with z | z
        · rw [z, nL₀] at e
          cases e
        · exact nmem z)))
      (fun b o e hm => by
        obtain ⟨sl', hs'⟩ := T'.up (st b o e)
        exact ⟨sl', F'.keep _ _ hs'⟩)
    have B₃ : Below A₀ base outer (ktsHeap s'.heap (outer.filterMap (·.frame)) h₀) := ⟨B.stack, fun b o e => T₁.other b o (B.stays b o e) (fun hm => by
      rw [(B.frames.mem hm).1] at e
      cases e), B.frames.of_keeps fun b o e _ => by
      obtain ⟨sl', hs'⟩ := T₁.up e
      exact ⟨_, hs', rfl⟩⟩
    refine k _ T₁ ⟨⟨_, es, ep, F'.keep _ _ hs, hLd, hLk, hLf⟩, S₁, by rw [T₁.size]; exact F.above⟩ (fun p hp => ⟨(N' p hp).1, fun q => ?_, ?_⟩) B₃ (XB.keeps B₃.stays) (TB.keeps B₃.stays) (D.turn T₁)
    · have := (N' p hp).2.2; rw [q, hs] at this; cases this
    · refine T₁.none_ _ ?_
      cases q : h₀.get? p.1 with
      | none => rfl
      | some o =>
        obtain ⟨sl', hs'⟩ := T'.up (st _ _ q)
        have := (N' p hp).2.2
        rw [hs'] at this
        cases this

theorem code_defT (B : Below A₀ base outer h₀) (F : Fr h₀ L s.heap m) (X₀ : K.In h₀) (N : News h₀ L s.heap news) (T : Top p loose mean mg mb h₀) (XB : K.In base) (TB : Top p loose mean mg mb base) (D : KtsDicts (outer.filterMap (·.frame)) h₀)
    (hA : A.frames = some (env :: outer)) (hf : env.frame = some L) (hke : env.scope.kind = .function)
    (ho : K.lookup f = some ⟨oc, od, .func (fnOf name qual params body scope dV kV doc pm an cdv ct), osl⟩) (hcd : codeIn K cdv qual = true) (hroom : A.depth < recursionLimit)
    (hbind : BindsTo s (fnOf name qual params body scope dV kV doc pm an cdv ct) args binds) (hloc : ∀ y ∈ binds, scope.names.lookup y.1 = some .local)
    (h : ∀ g L' h₁ tk, Fr h₀ L g m → Fr g L' h₁ (fun y => binds.reverse.lookup y) → News g L' h₁ news → Below A base (env :: outer) g → K.In g → Top p loose mean mg mb g → KtsDicts ((env :: outer).filterMap (·.frame)) g →
      wpAny (model prog w) (A.deeper (envOf qual scope L' f cdv)) (execs body (envOf qual scope L' f cdv))
        (fun fl s' => LeaveT A₀ base outer env K p loose mean mg mb h₀ L m g R (match fl with | .ret v => v | _ => .none) s')
        (fun e s' => wpAny (model prog w) (A.deeper (envOf qual scope L' f cdv)) (leaving (envOf qual scope L' f cdv) e) (fun _ s'' => R (.error e) s'') (fun e' s'' => R (.error e') s'') s')
        { s with heap := h₁, toks := tk })
    (hco : scope.isCoroutine = false) (hgen : scope.isGenerator = false) (hk : scope.kind = .function)
    (hcell : ∀ x ∈ scope.names, x.2 ≠ .cell) : codeAny (model prog w) A (.call (.ref f) args) R s := by
  obtain ⟨FG, BG, st, DG, lv⟩ := groundT (R := R) B F X₀ N T XB TB D hA hf hke
  refine codeAny_call_def (fd := fnOf name qual params body scope dV kV doc pm an cdv ct) (body := body) (binds := binds) hroom ((X₀.keeps F.keep) _ _ ho) rfl (T.nolimit.keeps F.keep) (codeRec_of (X₀.keeps F.keep) hcd) rfl hbind hcell hloc (fun h₁ hns hk₁ => ?_) hco hgen hk
  exact wpAny_mono (h _ s.heap.objs.size h₁ _ FG ⟨hns, fun b o e => hk₁ b o (of_hideAll _ e), Nat.le_of_eq (hideAll_size _ _)⟩
    (fun p hp => ⟨hk₁ _ _ (N p hp).1, Nat.ne_of_lt (Heap.lt_size (N p hp).1), hideAll_none _ (List.mem_map_of_mem hp)⟩) BG (X₀.keeps st) (T.keeps st) DG) (fun fl s' hl => lv _ _ hl) fun _ _ y => y

end
end
section -- MSkip
theorem z0 {n : Nat} (h : (n : Int) = 0) : n = 0 := Int.ofNat_eq_zero.mp h
theorem z1 {n : Nat} (h : (n : Int) ≠ 0) : n ≠ 0 := fun e => h (by rw [e]; rfl)
theorem dep_up {dp D D' k : Nat} (h : dp < D + 300) (hk : D + k ≤ D') : dp + k < D' + 300 := by omega
theorem uni_up {un D D' k : Nat} (h : un < 10 * D) (hk : 10 * D + k ≤ 10 * D') : un + k < 10 * D' := by omega
theorem uni_line {un D a b : Nat} (h : un < 10 * D) (hk : 10 * D + a + b ≤ 9900) : un + a + b < cLine := by rw [show cLine = 9900 from rfl]; omega
theorem room_up {dp D : Nat} (h : dp < D + 300) (hk : D + 300 ≤ 1000) : dp < recursionLimit := by rw [show recursionLimit = 1000 from rfl]; omega
theorem frX {g h : Heap} {L : Addr} {m : Str → Option Value} {C : Prop} (F : Fr g L h m) (k : ∀ m', m' = m → Fr g L h m' → C) : C := k m rfl F
theorem newsX {h₀ h : Heap} {L d b c p : Addr} {o o2 o3 o4 : Obj} {l : Led} {C : Prop} (N : News h₀ L h ((d, o) :: (b, o2) :: (c, o3) :: (p, o4) :: l)) (k : ∀ o' o4', News h₀ L h ((d, o') :: (b, o2) :: (c, o3) :: (p, o4') :: l) → C) : C := k _ _ N
theorem newsX2 {h₀ h : Heap} {L d p : Addr} {o o4 : Obj} {l : Led} {C : Prop} (N : News h₀ L h ((d, o) :: (p, o4) :: l)) (k : ∀ o' o4', News h₀ L h ((d, o') :: (p, o4') :: l) → C) : C := k _ _ N
theorem tokX {α : Type} {M : Model} {A : Around} {b : Sem α} {Q : α → Shared → Prop} {E : Value → Shared → Prop} {h : Heap} {g : Array GenState} {d : Drawn} {t : Nat} {o : OsState} (k : ∀ t', wpAny M A b Q E { heap := h, gens := g, drawn := d, toks := t', os := o }) : wpAny M A b Q E { heap := h, gens := g, drawn := d, toks := t, os := o } := k t
section
variable {prog : Program} {w : World} {A : Around} {E : Value → Shared → Prop} {s : Shared} {h₀ : Heap} {L a : Addr} {m : Str → Option Value} {cn : Str} {cs : Scope} {ccd : Value} {cl : List (Str × Addr)}
/-- a test `x == k and ..` that falls, in one step -/
theorem m_skip0 {env : Env} {x : Str} {t : Tok} {d k : Int} {kk : Nat} {p1 p2 p3 p4 p5 : Pos} {more : List Expr} {body rest : List Stmt} {Q : Flow → Shared → Prop}
    (hl : ∀ Q' : Value → Shared → Prop, Q' (.int d t) s → wpAny (model prog w) A (eval (.Name x p1) env) Q' E s) (hne : (d == k) = false)
    (h : wpAny (model prog w) A (execs rest env) Q E { s with toks := s.toks + 1 }) :
    wpAny (model prog w) A (execs (.If (.BoolOp .And (.Compare (.Name x p1) [.Eq] [.Constant (.int k) kk p2] p3 :: more) p4) body [] p5 :: rest) env) Q E s := by
  refine wpAny_execs_cons (wpAny_If (isTrue_and (wpAny_isTrue_Compare1 (hl _ ?_))))
  refine wpAny_Constant_int (eq_int (wpAny_truthy_bool ?_))
  rw [hne]
  exact wpAny_execs_nil h
/-- one that holds: what else is asked is asked -/
theorem m_enter0 {env : Env} {x : Str} {t : Tok} {d k : Int} {kk : Nat} {p1 p2 p3 p4 p5 : Pos} {more : List Expr} {body orelse : List Stmt} {Q : Flow → Shared → Prop}
    (hl : ∀ Q' : Value → Shared → Prop, Q' (.int d t) s → wpAny (model prog w) A (eval (.Name x p1) env) Q' E s) (hne : (d == k) = true)
    (h : wpAny (model prog w) A (isTrue (.BoolOp .And more p4) env (eval (.BoolOp .And (.Compare (.Name x p1) [.Eq] [.Constant (.int k) kk p2] p3 :: more) p4) env))
      (fun b s₂ => if b then wpAny (model prog w) A (execs body env) Q E s₂ else wpAny (model prog w) A (execs orelse env) Q E s₂) E { s with toks := s.toks + 1 }) :
    wpAny (model prog w) A (exec (.If (.BoolOp .And (.Compare (.Name x p1) [.Eq] [.Constant (.int k) kk p2] p3 :: more) p4) body orelse p5) env) Q E s := by
  refine wpAny_If (isTrue_and (wpAny_isTrue_Compare1 (hl _ ?_)))
  refine wpAny_Constant_int (eq_int (wpAny_truthy_bool ?_))
  rw [hne]
  exact h
theorem m_skipX {x : Str} {t : Tok} {d k : Int} {kk : Nat} {p1 p2 p3 p4 p5 : Pos} {more : List Expr} {body rest : List Stmt} {Q : Flow → Shared → Prop}
    (F : Fr h₀ L s.heap m) (hv : m x = some (.int d t)) (hne : (d == k) = false)
    (h : wpAny (model prog w) A (execs rest (envX cn cs L a ccd cl)) Q E { s with toks := s.toks + 1 })
    (hk : cs.kind = .function := by rfl) (hx : (envX cn cs L a ccd cl).kindOf x = some .local := by rfl) (hd : (x == ("__debug__" : Str)) = false := by decide) :
    wpAny (model prog w) A (execs (.If (.BoolOp .And (.Compare (.Name x p1) [.Eq] [.Constant (.int k) kk p2] p3 :: more) p4) body [] p5 :: rest) (envX cn cs L a ccd cl)) Q E s :=
  m_skip0 (fun _ hq => nameX_L F hv hq hk hx hd) hne h
theorem m_enterX {x : Str} {t : Tok} {d k : Int} {kk : Nat} {p1 p2 p3 p4 p5 : Pos} {more : List Expr} {body orelse : List Stmt} {Q : Flow → Shared → Prop}
    (F : Fr h₀ L s.heap m) (hv : m x = some (.int d t)) (hne : (d == k) = true)
    (h : wpAny (model prog w) A (isTrue (.BoolOp .And more p4) (envX cn cs L a ccd cl) (eval (.BoolOp .And (.Compare (.Name x p1) [.Eq] [.Constant (.int k) kk p2] p3 :: more) p4) (envX cn cs L a ccd cl)))
      (fun b s₂ => if b then wpAny (model prog w) A (execs body (envX cn cs L a ccd cl)) Q E s₂ else wpAny (model prog w) A (execs orelse (envX cn cs L a ccd cl)) Q E s₂) E { s with toks := s.toks + 1 })
    (hk : cs.kind = .function := by rfl) (hx : (envX cn cs L a ccd cl).kindOf x = some .local := by rfl) (hd : (x == ("__debug__" : Str)) = false := by decide) :
    wpAny (model prog w) A (exec (.If (.BoolOp .And (.Compare (.Name x p1) [.Eq] [.Constant (.int k) kk p2] p3 :: more) p4) body orelse p5) (envX cn cs L a ccd cl)) Q E s :=
  m_enter0 (fun _ hq => nameX_L F hv hq hk hx hd) hne h
theorem m_skipO {x : Str} {t : Tok} {d k : Int} {kk : Nat} {p1 p2 p3 p4 p5 : Pos} {more : List Expr} {body rest : List Stmt} {Q : Flow → Shared → Prop}
    (F : Fr h₀ L s.heap m) (hv : m x = some (.int d t)) (hne : (d == k) = false)
    (h : wpAny (model prog w) A (execs rest (envOf cn cs L a ccd)) Q E { s with toks := s.toks + 1 })
    (hk : cs.kind = .function := by rfl) (hx : (envOf cn cs L a ccd).kindOf x = some .local := by rfl) (hd : (x == ("__debug__" : Str)) = false := by decide) :
    wpAny (model prog w) A (execs (.If (.BoolOp .And (.Compare (.Name x p1) [.Eq] [.Constant (.int k) kk p2] p3 :: more) p4) body [] p5 :: rest) (envOf cn cs L a ccd)) Q E s :=
  m_skip0 (fun _ hq => ld F hv hq hk hx hd) hne h
theorem m_enterO {x : Str} {t : Tok} {d k : Int} {kk : Nat} {p1 p2 p3 p4 p5 : Pos} {more : List Expr} {body orelse : List Stmt} {Q : Flow → Shared → Prop}
    (F : Fr h₀ L s.heap m) (hv : m x = some (.int d t)) (hne : (d == k) = true)
    (h : wpAny (model prog w) A (isTrue (.BoolOp .And more p4) (envOf cn cs L a ccd) (eval (.BoolOp .And (.Compare (.Name x p1) [.Eq] [.Constant (.int k) kk p2] p3 :: more) p4) (envOf cn cs L a ccd)))
      (fun b s₂ => if b then wpAny (model prog w) A (execs body (envOf cn cs L a ccd)) Q E s₂ else wpAny (model prog w) A (execs orelse (envOf cn cs L a ccd)) Q E s₂) E { s with toks := s.toks + 1 })
    (hk : cs.kind = .function := by rfl) (hx : (envOf cn cs L a ccd).kindOf x = some .local := by rfl) (hd : (x == ("__debug__" : Str)) = false := by decide) :
    wpAny (model prog w) A (exec (.If (.BoolOp .And (.Compare (.Name x p1) [.Eq] [.Constant (.int k) kk p2] p3 :: more) p4) body orelse p5) (envOf cn cs L a ccd)) Q E s :=
  m_enter0 (fun _ hq => ld F hv hq hk hx hd) hne h
/-- the return of a tuple of five names, of two names -/
theorem m_ret5 {env : Env} {x1 x2 x3 x4 x5 : Str} {v1 v2 v3 v4 v5 : Value} {p1 p2 p3 p4 p5 p6 p7 : Pos} {k : Nat} {Q : Flow → Shared → Prop}
    (l1 : ∀ Q' : Value → Shared → Prop, Q' v1 s → wpAny (model prog w) A (eval (.Name x1 p1) env) Q' E s)
    (l2 : ∀ Q' : Value → Shared → Prop, Q' v2 s → wpAny (model prog w) A (eval (.Name x2 p2) env) Q' E s)
    (l3 : ∀ Q' : Value → Shared → Prop, Q' v3 s → wpAny (model prog w) A (eval (.Name x3 p3) env) Q' E s)
    (l4 : ∀ Q' : Value → Shared → Prop, Q' v4 s → wpAny (model prog w) A (eval (.Name x4 p4) env) Q' E s)
    (l5 : ∀ Q' : Value → Shared → Prop, Q' v5 s → wpAny (model prog w) A (eval (.Name x5 p5) env) Q' E s)
    (h : wpAny (model prog w) A (newTuple [v1, v2, v3, v4, v5]) (fun v s₁ => Q (.ret v) s₁) E s) :
    wpAny (model prog w) A (execs [.Return (some (.Tuple [.Name x1 p1, .Name x2 p2, .Name x3 p3, .Name x4 p4, .Name x5 p5] k p6)) p7] env) Q E s := by
  refine wpAny_execs_cons (wpAny_Return_some (Tuple_ ?_))
  refine args_cons (l1 _ ?_)
  refine args_cons (l2 _ ?_)
  refine args_cons (l3 _ ?_)
  refine args_cons (l4 _ ?_)
  refine args_cons (l5 _ ?_)
  exact args_nil h
theorem m_ret2 {env : Env} {x1 x2 : Str} {v1 v2 : Value} {p1 p2 p6 p7 : Pos} {k : Nat} {Q : Flow → Shared → Prop}
    (l1 : ∀ Q' : Value → Shared → Prop, Q' v1 s → wpAny (model prog w) A (eval (.Name x1 p1) env) Q' E s)
    (l2 : ∀ Q' : Value → Shared → Prop, Q' v2 s → wpAny (model prog w) A (eval (.Name x2 p2) env) Q' E s)
    (h : wpAny (model prog w) A (newTuple [v1, v2]) (fun v s₁ => Q (.ret v) s₁) E s) :
    wpAny (model prog w) A (execs [.Return (some (.Tuple [.Name x1 p1, .Name x2 p2] k p6)) p7] env) Q E s := by
  refine wpAny_execs_cons (wpAny_Return_some (Tuple_ ?_))
  refine args_cons (l1 _ ?_)
  refine args_cons (l2 _ ?_)
  exact args_nil h
theorem m_ret5X {x1 x2 x3 x4 x5 : Str} {v1 v2 v3 v4 v5 : Value} {p1 p2 p3 p4 p5 p6 p7 : Pos} {k : Nat} {Q : Flow → Shared → Prop}
    (F : Fr h₀ L s.heap m) (e1 : m x1 = some v1) (e2 : m x2 = some v2) (e3 : m x3 = some v3) (e4 : m x4 = some v4) (e5 : m x5 = some v5)
    (h : wpAny (model prog w) A (newTuple [v1, v2, v3, v4, v5]) (fun v s₁ => Q (.ret v) s₁) E s)
    (hk : cs.kind = .function := by rfl) (hx : ([x1, x2, x3, x4, x5].all fun x => (envX cn cs L a ccd cl).kindOf x == some .local && (x == ("__debug__" : Str)) == false) = true := by rfl) :
    wpAny (model prog w) A (execs [.Return (some (.Tuple [.Name x1 p1, .Name x2 p2, .Name x3 p3, .Name x4 p4, .Name x5 p5] k p6)) p7] (envX cn cs L a ccd cl)) Q E s := by
  have hx' := List.all_eq_true.mp hx
  have g : ∀ x ∈ [x1, x2, x3, x4, x5], (envX cn cs L a ccd cl).kindOf x = some .local ∧ (x == ("__debug__" : Str)) = false := fun x hm => by
    have := hx' x hm
    rw [Bool.and_eq_true] at this
    exact ⟨eq_of_beq this.1, eq_of_beq this.2⟩
  exact m_ret5 (fun _ hq => nameX_L F e1 hq hk (g x1 (.head _)).1 (g x1 (.head _)).2)
    (fun _ hq => nameX_L F e2 hq hk (g x2 (.tail _ (.head _))).1 (g x2 (.tail _ (.head _))).2)
    (fun _ hq => nameX_L F e3 hq hk (g x3 (.tail _ (.tail _ (.head _)))).1 (g x3 (.tail _ (.tail _ (.head _)))).2)
    (fun _ hq => nameX_L F e4 hq hk (g x4 (.tail _ (.tail _ (.tail _ (.head _))))).1 (g x4 (.tail _ (.tail _ (.tail _ (.head _))))).2)
    (fun _ hq => nameX_L F e5 hq hk (g x5 (.tail _ (.tail _ (.tail _ (.tail _ (.head _)))))).1 (g x5 (.tail _ (.tail _ (.tail _ (.tail _ (.head _)))))).2) h
theorem m_ret2O {x1 x2 : Str} {v1 v2 : Value} {p1 p2 p6 p7 : Pos} {k : Nat} {Q : Flow → Shared → Prop}
    (F : Fr h₀ L s.heap m) (e1 : m x1 = some v1) (e2 : m x2 = some v2)
    (h : wpAny (model prog w) A (newTuple [v1, v2]) (fun v s₁ => Q (.ret v) s₁) E s)
    (hk : cs.kind = .function := by rfl) (hx1 : (envOf cn cs L a ccd).kindOf x1 = some .local := by rfl) (hx2 : (envOf cn cs L a ccd).kindOf x2 = some .local := by rfl) (hd1 : (x1 == ("__debug__" : Str)) = false := by decide) (hd2 : (x2 == ("__debug__" : Str)) = false := by decide) :
    wpAny (model prog w) A (execs [.Return (some (.Tuple [.Name x1 p1, .Name x2 p2] k p6)) p7] (envOf cn cs L a ccd)) Q E s :=
  m_ret2 (fun _ hq => ld F e1 hq hk hx1 hd1) (fun _ hq => ld F e2 hq hk hx2 hd2) h
end
end
section -- MSearch
theorem slot_search : Slot "re.Pattern" "search" "re.Pattern.search" :=
  .of (owner := "re.Pattern") (n := "search") (by rw [typeLookup_type, builtinLookup_eq_fast]; kernel_rfl) (by decide +kernel) (by decide +kernel) (by decide +kernel)
    (by first | exact .inl (by decide +kernel) | exact .inr (by decide +kernel)) (by rw [isSubtype_type]; kernel_rfl)
theorem entry_search : entryFor table "re.Pattern.search" = some Builtin.«re.Pattern.search» := entryFor_of_fast (by kernel_rfl)
theorem args_search (a b : Value) : argsOk "re.Pattern.search" ⟨[a, b], []⟩ := by unfold argsOk; kernel_rfl
theorem pat_getattribute : typeLookup (.type "re.Pattern") "__getattribute__" = pure (some (.builtin "object.__getattribute__")) := by rw [typeLookup_type, builtinLookup_eq_fast]; kernel_rfl
theorem pat_getattr_none : typeLookup (.type "re.Pattern") "__getattr__" = pure none := by rw [typeLookup_type, builtinLookup_eq_fast]; kernel_rfl
theorem type_search : typeOf (.builtin "re.Pattern.search") = pure (.type "method_descriptor") := by show builtinType _ = _; rw [builtinType_eq_fast]; kernel_rfl
theorem canon_objga : (Manifest.canonical "object.__getattribute__" != "object.__getattribute__") = false := by decide +kernel

theorem getMethod_search {M : Model} {A : Around} {E : Value → Shared → Prop} {s : Shared} {l : Addr} {o : Obj} {pl : Sem Bool} {Q : Value × List Value → Shared → Prop} (ho : s.heap.get? l = some o) (hc : o.cls = .type "re.Pattern") (hd : o.dict = none)
    (h : Q (.builtin "re.Pattern.search", [.ref l]) s) : wpAny M A (getMethod (.ref l) "search" pl) Q E s := by
  have hT : s.TypeIs (.ref l) "re.Pattern" := ⟨o, ho, hc⟩
  unfold getMethod
  refine wpAny_bind (wpAny_specialOf hT pat_getattribute ?_)
  show wpAny M A (if (Manifest.canonical "object.__getattribute__" != "object.__getattribute__") = true then _ else _) Q E s
  rw [canon_objga, if_neg Bool.false_ne_true]
  refine wpAny_bind (wpAny_specialOf hT pat_getattr_none ?_)
  refine wpAny_bind (wpAny_specialOf hT slot_search.lookup ?_)
  refine wpAny_bind (wpAny_of_eq type_search ?_)
  refine wpAny_bind (wpAny_load ho ?_)
  rw [hd]
  exact wpAny_bind (wpAny_rule (wpAny_pure h))

/-- a printable sign of ASCII -/
noncomputable abbrev okc (c : Nat) : Prop := 32 ≤ c ∧ c < 127
noncomputable def okText (x : Str) : Prop := ∀ c ∈ x.cps.toList, okc c

theorem adm_none (m : Sre.M) (h : ∀ c seen, okc c → ∃ seen', Sre.inSet m.code c m.code.size 5 true seen = .ok (false, seen')) : ∀ fuel s seen, (∀ i, i < m.lim → okc (m.text.getD i 0)) → ∃ seen', Sre.M.admitted m fuel s seen = .ok (none, seen')
  | 0, s, seen, _ => ⟨seen, rfl⟩
  | fuel + 1, s, seen, hc => by
    unfold Sre.M.admitted
    by_cases hs : s ≥ m.lim
    · exact ⟨seen, by rw [if_pos hs]⟩
    · rw [if_neg hs]
      obtain ⟨sn, e⟩ := h _ seen (hc s (by omega))
      rw [e]
      exact adm_none m h fuel (s + 1) sn hc

noncomputable def nameCode : Array Nat := #[14, 10, 4, 1, 1, 22, 0, 31, 16, 127, 0, 13, 7, 22, 0, 31, 16, 127, 0, 1]
noncomputable def valueCode : Array Nat := #[14, 14, 4, 1, 1, 9, 4294966783, 0, 0, 2147483648, 0, 0, 0, 0, 0, 13, 11, 9, 4294966783, 0, 0, 2147483648, 0, 0, 0, 0, 0, 1]
theorem in_range {code : Array Nat} {c f i : Nat} {yes : Bool} {seen : Sre.Seen} (h : Sre.ops[code.getD i 0]? = some .RANGE) (hn : (decide (code.getD (i + 1) 0 ≤ c) && decide (c ≤ code.getD (i + 2) 0)) = false) :
    Sre.inSet code c (f + 1) i yes seen = Sre.inSet code c f (i + 3) yes (seen.add (code.getD i 0)) := by
  simp only [Sre.inSet, Nat.add_zero, h, hn, Bool.false_eq_true, if_false]
theorem in_literal {code : Array Nat} {c f i : Nat} {yes : Bool} {seen : Sre.Seen} (h : Sre.ops[code.getD i 0]? = some .LITERAL) (hn : (c == code.getD (i + 1) 0) = false) :
    Sre.inSet code c (f + 1) i yes seen = Sre.inSet code c f (i + 2) yes (seen.add (code.getD i 0)) := by
  simp only [Sre.inSet, Nat.add_zero, h, hn, Bool.false_eq_true, if_false]
theorem in_charset {code : Array Nat} {c f i : Nat} {yes : Bool} {seen : Sre.Seen} (h : Sre.ops[code.getD i 0]? = some .CHARSET) (hn : (code.getD (i + (1 + c / 32)) 0).testBit (c % 32) = false) :
    Sre.inSet code c (f + 1) i yes seen = Sre.inSet code c f (i + 9) yes (seen.add (code.getD i 0)) := by
  simp only [Sre.inSet, Nat.add_zero, h, hn, Bool.false_eq_true, if_false, Bool.and_false]
theorem in_failure {code : Array Nat} {c f i : Nat} {yes : Bool} {seen : Sre.Seen} (h : Sre.ops[code.getD i 0]? = some .FAILURE) :
    Sre.inSet code c (f + 1) i yes seen = .ok (!yes, seen.add (code.getD i 0)) := by
  simp only [Sre.inSet, Nat.add_zero, h]
theorem name_in (c : Nat) (seen : Sre.Seen) (h : okc c) : ∃ seen', Sre.inSet nameCode c nameCode.size 5 true seen = .ok (false, seen') := by
  obtain ⟨h1, h2⟩ := h
  refine ⟨_, (in_range (f := 19) (i := 5) rfl ?_).trans ((in_literal (f := 18) (i := 8) rfl ?_).trans (in_failure (f := 17) (i := 10) rfl))⟩
  · show (decide (0 ≤ c) && decide (c ≤ 31)) = false
    simp; omega
  · show (c == 127) = false
    simp; omega
theorem bits_none : ∀ c : Fin 127, 32 ≤ c.val → (valueCode.getD (5 + (1 + c.val / 32)) 0).testBit (c.val % 32) = false := by decide +kernel
theorem value_in (c : Nat) (seen : Sre.Seen) (h : okc c) : ∃ seen', Sre.inSet valueCode c valueCode.size 5 true seen = .ok (false, seen') := by
  obtain ⟨h1, h2⟩ := h
  exact ⟨_, (in_charset (f := 27) (i := 5) rfl (bits_none ⟨c, h2⟩ h1)).trans (in_failure (f := 26) (i := 14) rfl)⟩

theorem getD_ok {x : Str} (h : okText x) {i : Nat} (hi : i < x.cps.size) : okc (x.cps.getD i 0) := by
  have : x.cps.getD i 0 = x.cps[i] := by simp [Array.getD, hi]
  rw [this]
  exact h _ (by simp)

noncomputable def fails (code : Array Nat) (x : Str) : Prop := ((Sre.forSearch code x.cps 0 0 x.cps.size false).runFor Builtin.Re.reTurnSteps).outcome = some .failed
theorem said {m : Sre.M} (ho : m.outcome = none) (hfr : m.frames = []) : ((m.say false).runFor Builtin.Re.reTurnSteps).outcome = some .failed := by
  have e1 : (m.say false).outcome.isSome = false := by show m.outcome.isSome = false; rw [ho]; rfl
  have e2 : (m.say false).step.outcome = some .failed := by
    unfold Sre.M.step
    rw [if_neg (by rw [e1]; simp)]
    show (match some false, m.frames with | some yes, [] => _ | some yes, f :: rest => _ | none, _ => _ : Sre.M).outcome = _
    rw [hfr]
    rfl
  show (Sre.M.runFor (2 + 1 + 1) (m.say false)).outcome = _
  rw [Sre.M.runFor, if_neg (by rw [e1]; simp), Sre.M.runFor, if_pos (by rw [e2]; rfl), e2]
theorem from_fails {m : Sre.M} (ho : m.outcome = none) (hfr : m.frames = []) (hf : m.hasFirstSet = true) (hin : ∀ c seen, okc c → ∃ seen', Sre.inSet m.code c m.code.size 5 true seen = .ok (false, seen')) (hc : ∀ i, i < m.lim → okc (m.text.getD i 0)) :
    ((m.attemptFrom 0 true).runFor Builtin.Re.reTurnSteps).outcome = some .failed := by
  obtain ⟨sn, e⟩ := adm_none m hin (m.lim + 1 - 0) 0 m.seen hc
  unfold Sre.M.attemptFrom
  rw [hf, e]
  simp only [Bool.not_true, Bool.false_eq_true, if_false]
  exact said (m := { m with seen := sn }) ho hfr
theorem name_fails {x : Str} (h : okText x) : fails nameCode x := by
  unfold fails Sre.forSearch
  dsimp only
  split
  · exact said rfl rfl
  · exact from_fails rfl rfl rfl name_in (fun i hi => getD_ok h hi)
theorem value_fails {x : Str} (h : okText x) : fails valueCode x := by
  unfold fails Sre.forSearch
  dsimp only
  split
  · exact said rfl rfl
  · exact from_fails rfl rfl rfl value_in (fun i hi => getD_ok h hi)
end
section -- MSearch2
open Builtin.Re in
theorem named_search (v : Value) : reNamed "re.Pattern.search" "search" ["string", "pos", "endpos"] 1 [v] [] = pure [some v, none, none] := by rfl
theorem rules_loop {M : Model} {A : Around} {E : Value → Shared → Prop} (c : Nat → Bool) (f : Nat → String) : ∀ (l : List Nat) {s : Shared} {Q : PUnit → Shared → Prop}, Q PUnit.unit s →
    wpAny M A (forIn l PUnit.unit (fun i _ => if c i = true then (do rule (f i); pure (ForInStep.yield PUnit.unit)) else pure (ForInStep.yield PUnit.unit))) Q E s
  | [], s, Q, h => by
    rw [List.forIn_nil]
    exact wpAny_pure h
  | i :: l, s, Q, h => by
    rw [List.forIn_cons]
    refine wpAny_bind ?_
    split
    · exact wpAny_bind (wpAny_rule (wpAny_pure (rules_loop c f l h)))
    · exact wpAny_pure (rules_loop c f l h)
structure PatAt (h : Heap) (P : Addr) (code : Array Nat) : Prop where
  is : ∃ (oP oC : Obj) (CT n : Nat) (fs items : Array Value), h.get? P = some oP ∧ oP.cls = .type "re.Pattern" ∧ oP.dict = none ∧ oP.data = .fields fs ∧ fs.getD 5 .none = .ref CT ∧ Builtin.Re.reRawNat (fs.getD 6 .none) = 0 ∧
    h.get? CT = some oC ∧ oC.data = .seq items n ∧ (items.map Builtin.Re.reRawOf).map (·.toNat) = code ∧ Builtin.Re.reRawNat (fs.getD 2 .none) = 0
open Builtin.Re in
theorem search_meets {P : Addr} {x : Str} {t : Tok} {code : Array Nat} (hf : fails code x) (hx : x.cps.size ≤ 1000000) :
    Meets (Builtin.«re.Pattern.search» ⟨[.ref P, .str x t], []⟩) (fun _ R s => PatAt s.heap P code ∧ R (.ok (.ret .none)) s) := by
  refine Meets.of_wp fun prog w A R s hs => ?_
  obtain ⟨⟨oP, oC, CT, n, fs, items, hP, hcls, hdict, hd, h5, h6, hC, hdC, hcode, h2⟩, hR⟩ := hs
  unfold Builtin.«re.Pattern.search»
  refine wpAny_bind ?_
  unfold reTarget
  dsimp only
  rw [named_search]
  refine wpAny_bind (wpAny_pure ?_)
  dsimp only
  refine wpAny_bind (wpAny_pure (wpAny_bind (wpAny_pure (wpAny_bind (wpAny_fieldsOf hP hd ?_)))))
  refine wpAny_bind ?_
  have e1 : reTextOf (Value.str x t) = pure (x.cps, 0) := rfl
  rw [e1]
  refine wpAny_pure ?_
  dsimp only
  rw [h6]
  rw [if_neg (by simp), if_neg (by simp)]
  have e2 : reNoCollectionInside (Value.str x t) 0 = pure () := rfl
  rw [e2]
  refine wpAny_bind (wpAny_pure (wpAny_bind ?_))
  rw [h5]
  unfold reRawItems
  refine wpAny_bind (wpAny_seqItems hC hdC (wpAny_pure ?_))
  refine wpAny_pure ?_
  have e3 : min (2 ^ 63 - 1 : Int).toNat x.cps.size = x.cps.size := Nat.min_eq_right (Nat.le_trans hx (by decide))
  have e4 : min (Int.toNat 0) x.cps.size = 0 := Nat.zero_min _
  simp only [Option.getD_some, hcode, h2, e3, e4]
  unfold reAnswer reRunToEnd
  refine wpAny_bind (wpAny_bind ?_)
  show wpAny _ _ (reDrive (18446744073709551615 + 1) _) _ _ _
  unfold reDrive
  have hf' := hf
  unfold fails at hf'
  dsimp only
  rw [if_pos (by rw [hf']; rfl)]
  refine wpAny_pure (wpAny_bind ?_)
  refine rules_loop _ _ _ ?_
  rw [hf']
  exact wpAny_pure (wpAny_pure ⟨_, rfl, hR⟩)
theorem call_search {prog : Program} {w : World} {A : Around} {E : Value → Shared → Prop} {s : Shared} {P : Addr} {x : Str} {t : Tok} {code : Array Nat} {Q : Value → Shared → Prop} (hp : PatAt s.heap P code) (hf : fails code x) (hx : x.cps.size ≤ 1000000) (h : Q .none s) :
    wpAny (model prog w) A (call (.builtin "re.Pattern.search") [.ref P, .str x t]) Q E s :=
  call_meets slot_search (by obtain ⟨oP, _, _, _, _, _, hP, hcls, _⟩ := hp.is; exact ⟨oP, hP, hcls⟩) entry_search (args_search _ _) (search_meets hf hx) ⟨hp, h⟩
theorem pat_name {w : World} {h : Heap} (X : (P.heap_1 w.params).In h) : PatAt h 48 nameCode := by
  have h1 := X 48 _ rfl
  have h2 := X 47 _ rfl
  exact ⟨_, _, 47, _, _, _, h1, rfl, rfl, rfl, rfl, rfl, h2, rfl, by simp [Builtin.Re.reRawOf, nameCode], rfl⟩
theorem pat_value {w : World} {h : Heap} (X : (P.heap_1 w.params).In h) : PatAt h 53 valueCode := by
  have h1 := X 53 _ rfl
  have h2 := X 52 _ rfl
  exact ⟨_, _, 52, _, _, _, h1, rfl, rfl, rfl, rfl, rfl, h2, rfl, by simp [Builtin.Re.reRawOf, valueCode], rfl⟩
theorem PatAt.meth {M : Model} {A : Around} {E : Value → Shared → Prop} {s : Shared} {P : Addr} {code : Array Nat} {pl : Sem Bool} {Q : Value × List Value → Shared → Prop} (hp : PatAt s.heap P code)
    (h : Q (.builtin "re.Pattern.search", [.ref P]) s) : wpAny M A (getMethod (.ref P) "search" pl) Q E s :=
  let ⟨oP, _, _, _, _, _, hP, hcls, hdict, _⟩ := hp.is
  getMethod_search hP hcls hdict h
end
section -- MComp
open LCg LCp LCt
section
variable {prog : Program} {w : World} {A : Around} {h₀ : Heap} {L : Addr} {m : Str → Option Value} {env : Env} {ct elt : Expr} {x x₂ : Str} {scope : Scope} {cl : List (Str × Addr)} {s : Shared} {S : Led → Prop} {P : Nat → Value → Prop} {Fin : List Value → Led → Prop}
theorem endMono {s₁ : Shared} {I C D : Addr} {oI oC oD : Obj} {r r' : Value → Led → Prop} {y : Value} {s₂ : Shared} (hr : ∀ y n, r y n → r' y n) (h : CompEnd h₀ L m s₁ I oI C oC D oD S r y s₂) : CompEnd h₀ L m s₁ I oI C oC D oD S r' y s₂ :=
  let ⟨h', tk, nw, e, F, N, o, hS, hq⟩ := h
  ⟨h', tk, nw, e, F, N, o, hS, hr _ _ hq⟩
theorem rest_U {n : Nat} (J : Nat → List Value → Led → Prop)
    (turn : ∀ i v ys news I oI C oC D m₂ h tk (E' : Value → Shared → Prop), i < n → P i v → J i ys news → NsObj oC m₂ → m₂ x = some v → Fr h₀ L h m → News h₀ L h ((I, oI) :: (C, oC) :: (D, lst ys) :: news) → Off3 I C D news → ((@Ne Nat I C) ∧ (@Ne Nat I D) ∧ (@Ne Nat C D)) →
      wpAny (model prog w) A (eval elt (compEnvC scope cl C env)) (CompEnd h₀ L m { s with heap := h, toks := tk } I oI C oC D (lst ys) S (fun y news' => J (i + 1) (ys ++ [y]) news')) E' { s with heap := h, toks := tk })
    (fin : ∀ ys news, J n ys news → Fin ys news) : ∀ (j i : Nat) (ys : List Value) (news : Led), i + j = n → J i ys news → CompRest prog w A h₀ L m env elt x scope cl s S P Fin j i ys news := by
  intro j
  induction j with
  | zero =>
    intro i ys news hi hJ
    obtain rfl : i = n := (by omega)
    exact CompRest.zero (fin _ _ hJ)
  | succ j ih =>
    intro i ys news hi hJ
    refine CompRest.succ ?_
    intro v I oI C oC D m₂ h tk E' hv hC hx F N off ne
    exact wpAny_mono (turn i v ys news I oI C oC D m₂ h tk E' (by omega) hv hJ hC hx F N off ne) (fun y s₂ hq => endMono (fun y nw hq => ih (i + 1) _ _ (by omega) hq) hq) fun _ _ e => e
theorem rest_P {n : Nat} (J : Nat → List Value → Led → Prop)
    (turn : ∀ i v ys news, i < n → P i v → J i ys news → ∃ (t : Addr) (ot : Obj) (v₁ v₂ : Value) (nt : Nat), v = .ref t ∧ (t, ot) ∈ news ∧ ot.cls = .type "tuple" ∧ ot.data = .seq #[v₁, v₂] nt ∧
      ∀ I oI C oC D m₂ h tk (E' : Value → Shared → Prop), NsObj oC m₂ → m₂ x = some v₁ → m₂ x₂ = some v₂ → Fr h₀ L h m → News h₀ L h ((I, oI) :: (C, oC) :: (D, lst ys) :: news) → Off3 I C D news → ((@Ne Nat I C) ∧ (@Ne Nat I D) ∧ (@Ne Nat C D)) →
      wpAny (model prog w) A (eval elt (compEnvC scope cl C env)) (CompEnd h₀ L m { s with heap := h, toks := tk } I oI C oC D (lst ys) S (fun y news' => J (i + 1) (ys ++ [y]) news')) E' { s with heap := h, toks := tk })
    (fin : ∀ ys news, J n ys news → Fin ys news) : ∀ (j i : Nat) (ys : List Value) (news : Led), i + j = n → J i ys news → CompRestP prog w A h₀ L m env elt x x₂ scope cl s S P Fin j i ys news := by
  intro j
  induction j with
  | zero =>
    intro i ys news hi hJ
    obtain rfl : i = n := (by omega)
    exact CompRestP.zero (fin _ _ hJ)
  | succ j ih =>
    intro i ys news hi hJ
    refine CompRestP.succ ?_
    intro v hv
    obtain ⟨t, ot, v₁, v₂, nt, e1, e2, e3, e4, k⟩ := turn i v ys news (by omega) hv hJ
    refine ⟨t, ot, v₁, v₂, nt, e1, e2, e3, e4, ?_⟩
    intro I oI C oC D m₂ h tk E' hC hx hx₂ F N off ne
    exact wpAny_mono (k I oI C oC D m₂ h tk E' hC hx hx₂ F N off ne) (fun y s₂ hq => endMono (fun y nw hq => ih (i + 1) _ _ (by omega) hq) hq) fun _ _ e => e
theorem rest_T {n : Nat} (J : Nat → List Value → Led → Prop)
    (turn : ∀ i v ys news I oI C oC D m₂ h tk (E' : Value → Shared → Prop), i < n → P i v → J i ys news → NsObj oC m₂ → m₂ x = some v → Fr h₀ L h m → News h₀ L h ((I, oI) :: (C, oC) :: (D, lst ys) :: news) → Off3 I C D news → ((@Ne Nat I C) ∧ (@Ne Nat I D) ∧ (@Ne Nat C D)) →
      wpAny (model prog w) A (isTrue ct (compEnvC scope cl C env) (eval ct (compEnvC scope cl C env))) (fun ok s' => if ok = true then
        wpAny (model prog w) A (eval elt (compEnvC scope cl C env)) (CompEnd h₀ L m { s with heap := h, toks := tk } I oI C oC D (lst ys) S (fun y news' => J (i + 1) (ys ++ [y]) news')) E' s'
        else CompEnd h₀ L m { s with heap := h, toks := tk } I oI C oC D (lst ys) S (fun _ news' => J (i + 1) ys news') Value.none s') E' { s with heap := h, toks := tk })
    (fin : ∀ ys news, J n ys news → Fin ys news) : ∀ (j i : Nat) (ys : List Value) (news : Led), i + j = n → J i ys news → CompRestT prog w A h₀ L m env ct elt x scope cl s S P Fin j i ys news := by
  intro j
  induction j with
  | zero =>
    intro i ys news hi hJ
    obtain rfl : i = n := (by omega)
    exact CompRestT.zero (fin _ _ hJ)
  | succ j ih =>
    intro i ys news hi hJ
    refine CompRestT.succ ?_
    intro v I oI C oC D m₂ h tk E' hv hC hx F N off ne
    refine wpAny_mono (turn i v ys news I oI C oC D m₂ h tk E' (by omega) hv hJ hC hx F N off ne) (fun ok s₂ hq => ?_) fun _ _ e => e
    by_cases hk : ok = true
    · rw [if_pos hk] at hq ⊢
      exact wpAny_mono hq (fun y s₂ hq => endMono (fun y nw hq => ih (i + 1) _ _ (by omega) hq) hq) fun _ _ e => e
    · rw [if_neg hk] at hq ⊢
      exact endMono (fun y nw hq => ih (i + 1) _ _ (by omega) hq) hq

theorem own_name {M : Model} {A : Around} {E : Value → Shared → Prop} {C : Addr} {oC : Obj} {m₂ : Str → Option Value} {news : Led} {pos : Pos} {v : Value} {Q : Value → Shared → Prop} {s : Shared} (hk : scope.kind = .function) (hl : scope.names.lookup x = some .local) (hd : (x == ("__debug__" : Str)) = false)
    (N : News h₀ L s.heap news) (hm : (C, oC) ∈ news) (hC : NsObj oC m₂) (hx : m₂ x = some v) (h : Q v s) : wpAny M A (eval (.Name x pos) (compEnvC scope cl C env)) Q E s :=
  LCgL.ld_own N hm hC hx h hk (lookup_relabel_local hl) hd
theorem fst_rest {px : Pos} {vs : List Value} {ps : List (Str × Str)} {news : Led} (hk : scope.kind = .function) (hl : scope.names.lookup x = some .local) (hd : (x == ("__debug__" : Str)) = false) (D : DatAll news vs (ps.map pairD)) (hS : S news)
    (fin : ∀ ys, StrsAre ys (ps.map Prod.fst) → Fin ys news) : CompRestP prog w A h₀ L m env (.Name x px) x x₂ scope cl s S (fun i v => vs.toArray[i]? = some v) Fin vs.toArray.size 0 [] news := by
  have hlen : vs.length = ps.length := by rw [D.length, List.length_map]
  refine rest_P (n := vs.toArray.size) (fun i ys nw => nw = news ∧ StrsAre ys ((ps.take i).map Prod.fst)) ?_ ?_ _ _ _ _ (Nat.zero_add _) ⟨rfl, .nil⟩
  · rintro i v ys nw hi hv ⟨rfl, hy⟩
    have hv' : vs[i]? = some v := by simpa using hv
    obtain ⟨d, hd', hin⟩ := all_get D hv'
    rw [List.getElem?_map] at hd'
    obtain ⟨p, hp, rfl⟩ := Option.map_eq_some_iff.mp hd'
    obtain ⟨a, n, t, u, rfl, hm⟩ := pair_out hin
    refine ⟨a, _, _, _, n, rfl, hm, rfl, rfl, ?_⟩
    intro I oI C oC D m₂ h tk E' hC hx hx₂ F N off ne
    refine own_name hk hl hd N (.tail _ (.head _)) hC hx ⟨h, tk, nw, rfl, F, N, off, hS, rfl, ?_⟩
    rw [List.take_add_one, hp, List.map_append]
    exact strs_snoc hy
  · rintro ys nw ⟨rfl, hy⟩
    refine fin ys ?_
    rwa [List.size_toArray, hlen, List.take_length] at hy
theorem snd_rest {px : Pos} {vs : List Value} {ps : List (Str × Str)} {news : Led} (hk : scope.kind = .function) (hl : scope.names.lookup x₂ = some .local) (hd : (x₂ == ("__debug__" : Str)) = false) (D : DatAll news vs (ps.map pairD)) (hS : S news)
    (fin : ∀ ys, StrsAre ys (ps.map Prod.snd) → Fin ys news) : CompRestP prog w A h₀ L m env (.Name x₂ px) x x₂ scope cl s S (fun i v => vs.toArray[i]? = some v) Fin vs.toArray.size 0 [] news := by
  have hlen : vs.length = ps.length := by rw [D.length, List.length_map]
  refine rest_P (n := vs.toArray.size) (fun i ys nw => nw = news ∧ StrsAre ys ((ps.take i).map Prod.snd)) ?_ ?_ _ _ _ _ (Nat.zero_add _) ⟨rfl, .nil⟩
  · rintro i v ys nw hi hv ⟨rfl, hy⟩
    have hv' : vs[i]? = some v := by simpa using hv
    obtain ⟨d, hd', hin⟩ := all_get D hv'
    rw [List.getElem?_map] at hd'
    obtain ⟨p, hp, rfl⟩ := Option.map_eq_some_iff.mp hd'
    obtain ⟨a, n, t, u, rfl, hm⟩ := pair_out hin
    refine ⟨a, _, _, _, n, rfl, hm, rfl, rfl, ?_⟩
    intro I oI C oC D m₂ h tk E' hC hx hx₂ F N off ne
    refine own_name hk hl hd N (.tail _ (.head _)) hC hx₂ ⟨h, tk, nw, rfl, F, N, off, hS, rfl, ?_⟩
    rw [List.take_add_one, hp, List.map_append]
    exact strs_snoc hy
  · rintro ys nw ⟨rfl, hy⟩
    refine fin ys ?_
    rwa [List.size_toArray, hlen, List.take_length] at hy

theorem filt_rest {px : Pos} {vs : List Value} {ps : List (Str × Str)} {small news : Led} (hsub : ∀ p ∈ small, p ∈ news) (keepP : Str × Str → Bool) (hk : scope.kind = .function) (hl : scope.names.lookup x = some .local) (hd : (x == ("__debug__" : Str)) = false) (D : DatAll small vs (ps.map pairD)) (hS : S news)
    (turn : ∀ p a n t u I oI C oC D m₂ h tk (E' : Value → Shared → Prop) ys, p ∈ ps → (a, ({ cls := .type "tuple", data := .seq #[.str p.1 t, .str p.2 u] n } : Obj)) ∈ news → NsObj oC m₂ → m₂ x = some (.ref a) → Fr h₀ L h m → News h₀ L h ((I, oI) :: (C, oC) :: (D, lst ys) :: news) → Off3 I C D news → ((@Ne Nat I C) ∧ (@Ne Nat I D) ∧ (@Ne Nat C D)) →
      wpAny (model prog w) A (isTrue ct (compEnvC scope cl C env) (eval ct (compEnvC scope cl C env))) (fun ok s' => ok = keepP p ∧ ∃ tk', s' = { s with heap := h, toks := tk' }) E' { s with heap := h, toks := tk })
    (fin : ∀ ys, DatAll small ys ((ps.filter keepP).map pairD) → Fin ys news) : CompRestT prog w A h₀ L m env ct (.Name x px) x scope cl s S (fun i v => vs.toArray[i]? = some v) Fin vs.toArray.size 0 [] news := by
  have hlen : vs.length = ps.length := by rw [D.length, List.length_map]
  refine rest_T (n := vs.toArray.size) (fun i ys nw => nw = news ∧ DatAll small ys (((ps.take i).filter keepP).map pairD)) ?_ ?_ _ _ _ _ (Nat.zero_add _) ⟨rfl, .nil⟩
  · rintro i v ys nw I oI C oC D' m₂ h tk E' hi hv ⟨rfl, hy⟩ hC hx F N off ne
    have hv' : vs[i]? = some v := by simpa using hv
    obtain ⟨d, hd', hin⟩ := all_get D hv'
    rw [List.getElem?_map] at hd'
    obtain ⟨p, hp, rfl⟩ := Option.map_eq_some_iff.mp hd'
    obtain ⟨a, n, t, u, rfl, hm⟩ := pair_out hin
    refine wpAny_mono (turn p a n t u I oI C oC D' m₂ h tk E' ys (List.mem_of_getElem? hp) (hsub _ hm) hC hx F N off ne) (fun ok s₂ hq => ?_) fun _ _ e => e
    obtain ⟨rfl, tk', rfl⟩ := hq
    split
    · rename_i hkp
      refine own_name hk hl hd N (.tail _ (.head _)) hC hx ⟨h, tk', nw, rfl, F, N, off, hS, rfl, ?_⟩
      rw [List.take_add_one, hp, List.filter_append, List.map_append]
      simp only [Option.toList_some, List.filter_cons, hkp, if_true, List.filter_nil, List.map_cons, List.map_nil]
      exact DatAll.append hy (DatAll.one hin)
    · rename_i hkp
      refine ⟨h, tk', nw, rfl, F, N, off, hS, rfl, ?_⟩
      rw [List.take_add_one, hp, List.filter_append, List.map_append]
      rw [Bool.not_eq_true] at hkp
      simp only [Option.toList_some, List.filter_cons, hkp, Bool.false_eq_true, if_false, List.filter_nil, List.map_nil, List.append_nil]
      exact hy
  · rintro ys nw ⟨rfl, hy⟩
    refine fin ys ?_
    rwa [List.size_toArray, hlen, List.take_length] at hy
end

section
variable {prog : Program} {w : World} {A : Around} {E : Value → Shared → Prop} {Q : Flow → Shared → Prop} {s : Shared} {env : Env} {h₀ : Heap} {L : Addr} {test : PySem.Expr} {body orelse : List Stmt}
noncomputable def MStep (h₀ : Heap) (L : Addr) (s : Shared) (J : Nat → (Str → Option Value) → Led → Prop) (Q : Flow → Shared → Prop) (n : Nat) (f : Flow) (s₃ : Shared) : Prop :=
  match f with
  | .ret v => Q (.ret v) s₃
  | .brk => Q .next s₃
  | _ => ∃ h' tk m₂ news₂ n', s₃ = { s with heap := h', toks := tk } ∧ Fr h₀ L h' m₂ ∧ News h₀ L h' news₂ ∧ n' < n ∧ J n' m₂ news₂
theorem MStep.next {J : Nat → (Str → Option Value) → Led → Prop} {n n' : Nat} {h' : Heap} {m₂ : Str → Option Value} {news₂ : Led} {tk : Nat} (F : Fr h₀ L h' m₂) (N : News h₀ L h' news₂) (hn : n' < n) (hJ : J n' m₂ news₂) : MStep h₀ L s J Q n .next { s with heap := h', toks := tk } :=
  ⟨h', tk, m₂, news₂, n', rfl, F, N, hn, hJ⟩
theorem MStep.brk {J : Nat → (Str → Option Value) → Led → Prop} {n : Nat} {s₃ : Shared} (h : Q .next s₃) : MStep h₀ L s J Q n .brk s₃ := h
theorem m_while {pos : Pos} {m : Str → Option Value} {news : Led} (J : Nat → (Str → Option Value) → Led → Prop) {n₀ : Nat} (F : Fr h₀ L s.heap m) (N : News h₀ L s.heap news) (hJ : J n₀ m news)
    (turn : ∀ n m₁ news₁ h₁ tk₁, Fr h₀ L h₁ m₁ → News h₀ L h₁ news₁ → J n m₁ news₁ →
      wpAny (model prog w) A (isTrue test env (eval test env)) (fun b s₂ => WhlIf b (wpAny (model prog w) A (execs body env) (MStep h₀ L s J Q n) E s₂) (wpAny (model prog w) A (execs orelse env) Q E s₂)) E { s with heap := h₁, toks := tk₁ })
    (hE : PassesOwn (model prog w) A env E := by passes_own) : wpAny (model prog w) A (exec (.While test body orelse pos) env) Q E s := by
  refine whl_start 1 ?_
  have key : ∀ n, ∀ s', (∃ h₁ tk₁ m₁ news₁, s' = { s with heap := h₁, toks := tk₁ } ∧ Fr h₀ L h₁ m₁ ∧ News h₀ L h₁ news₁ ∧ J n m₁ news₁) → WhlRest prog w A E env test body orelse Q 1 s' := by
    intro n
    induction n using Nat.strongRecOn with
    | ind n ih =>
      rintro s' ⟨h₁, tk₁, m₁, news₁, rfl, F₁, N₁, J₁⟩
      refine whl_turn hE (wpAny_mono (turn n m₁ news₁ h₁ tk₁ F₁ N₁ J₁) (fun b s₂ h₂ => ?_) fun _ _ e => e)
      cases b with
      | false => exact h₂
      | true =>
        refine WhlIf.yes rfl (wpAny_mono (show wpAny (model prog w) A (execs body env) (MStep h₀ L s J Q n) E s₂ from h₂) (fun f s₃ h₃ => ?_) fun _ _ e => e)
        cases f with
        | ret v => exact h₃
        | brk => exact h₃
        | next =>
          obtain ⟨h', tk, m₂, news₂, n', rfl, F₂, N₂, hn, J₂⟩ := h₃
          exact ih n' hn _ ⟨h', tk, m₂, news₂, rfl, F₂, N₂, J₂⟩
        | cont =>
          obtain ⟨h', tk, m₂, news₂, n', rfl, F₂, N₂, hn, J₂⟩ := h₃
          exact ih n' hn _ ⟨h', tk, m₂, news₂, rfl, F₂, N₂, J₂⟩
  exact key n₀ s ⟨s.heap, s.toks, m, news, rfl, F, N, hJ⟩
end

theorem m_whlif {b : Bool} {T F : Prop} (t : b = true → T) (f : b = false → F) : WhlIf b T F := by
  cases b with
  | true => exact WhlIf.yes rfl (t rfl)
  | false => exact WhlIf.no rfl (f rfl)

noncomputable abbrev APb : Array UInt8 := #[65, 66, 67, 68, 69, 70, 71, 72, 73, 74, 75, 76, 77, 78, 79, 80]
theorem letters : ∀ r : Fin 16, KBy.picked APb (some (r.val : Int)) (some ((r.val : Int) + 1)) = #[UInt8.ofNat (65 + r.val)] := by decide +kernel
theorem fmod16 (k : Nat) : Int.fmod (k : Int) 16 = ((k % 16 : Nat) : Int) := by
  rw [Int.fmod_eq_emod_of_nonneg _ (by decide)]; omega
theorem fdiv16 (k : Nat) : Int.fdiv (k : Int) 16 = ((k / 16 : Nat) : Int) := by
  rw [Int.fdiv_eq_ediv_of_nonneg _ (by decide)]; omega
theorem m_letter {prog : Program} {w : World} {A : Around} {E : Value → Shared → Prop} {s : Shared} {value slice : PySem.Expr} {t t1 t2 : Tok} {h₀ : Heap} {L : Addr} {m : PySem.Str → Option Value} {news : Led} {k : Nat} {Q : Value → Shared → Prop}
    (hF : Fr h₀ L s.heap m) (hN : News h₀ L s.heap news)
    (h : ∀ h' t' k', Fr h₀ L h' m → News h₀ L h' news → Q (.bytes #[UInt8.ofNat (65 + k % 16)] t') { s with heap := h', toks := k' })
    (hs : subscripted slice false (.bytes APb t) (.ref s.heap.objs.size) = operate [.ref s.heap.objs.size, .bytes APb t] (getItem (.bytes APb t) (.ref s.heap.objs.size)) := by with_unfolding_all rfl)
    (ht : ∀ r, letTemporaryGo value (.bytes APb t) r = pure () := by intro _; with_unfolding_all rfl) :
    wpAny (model prog w) A (subscriptTail value slice (.bytes APb t) (.ref s.heap.objs.size)) Q E { s with heap := s.heap.push { cls := .type "slice", data := .fields #[.int (Int.fmod (k : Int) 16) t1, .int (Int.fmod (k : Int) 16 + 1) t2, .none] } } := by
  refine KBc.slice_K hF hN rfl (.int _ _) (.int _ _) (by decide) (fun h' t' k' F' N' _ => ?_) hs ht
  rw [fmod16]
  have e := letters ⟨k % 16, Nat.mod_lt _ (by decide)⟩
  rw [e]
  exact h h' t' k' F' N'

theorem m_addb {prog : Program} {w : World} {A : Around} {E : Value → Shared → Prop} {s : Shared} {x : UInt8} {v : Array UInt8} {t u : Tok} {Q : Value → Shared → Prop} (hz : v.size ≤ 3) (h : ∀ t' k, Q (.bytes (#[x] ++ v) t') { s with toks := k }) : wpAny (model prog w) A (binaryOp .Add (.bytes #[x] t) (.bytes v u)) Q E s :=
  KBy.add_bytes (by simp; omega) h
end
section -- MSet
noncomputable abbrev sliceAll : Obj := { cls := .type "slice", data := .fields #[.none, .none, .none] }
theorem wp_setAll {prog : Program} {w : World} {A : Around} {E : Value → Shared → Prop} {s : Shared} {l sl D : Addr} {xs ys : Array Value} {n k : Nat} {Q : Unit → Shared → Prop} (ho : s.heap.get? l = some (listOf xs n)) (hD : s.heap.get? D = some (listOf ys k))
    (hos : s.heap.get? sl = some sliceAll) (hne : l ≠ D) (hx : xs.size ≤ 1000000) (hy : ys.size ≤ 1000000)
    (h : Q () { s with heap := s.heap.update l (Obj.mapSeq fun zs => zs.extract 0 (0 : Int).toNat ++ ys ++ zs.extract (max (0 : Int) xs.size).toNat zs.size) }) : wpAny (model prog w) A (setItem (.ref l) (.ref sl) (.ref D)) Q E s := by
  have hTs : s.TypeIs (.ref sl) "slice" := ⟨_, hos, rfl⟩
  have hTl : s.TypeIs (.ref l) "list" := ⟨_, ho, rfl⟩
  have hTD : s.TypeIs (.ref D) "list" := ⟨_, hD, rfl⟩
  unfold setItem
  try with_reducible refine wpAny_holding ?_
  first | refine wpAny_bind (wpAny_pure ?_) | skip
  refine wpAny_bind (wpAny_sequenceKey hTl (by decide) ?_)
  refine wpAny_bind (wpAny_callSpecial?_slot (name := Str.ofString "__setitem__") hTl slot_list_setitem
    (wpAny_call_entry slot_list_setitem hTl entry_list_setitem ?_ (args_list_setitem _ _ _)))
  show wpAny _ _ (Builtin.List.listSubscript? (.ref sl) >>= _) _ _ s
  refine wpAny_bind ?_
  unfold Builtin.List.listSubscript?
  refine wpAny_bind (wpAny_specialOf hTs slice_no_index ?_)
  simp only [Option.isNone_none, if_true]
  refine wpAny_pure ?_
  show wpAny _ _ (typeOf (.ref sl) >>= _) _ _ s
  refine wpAny_bind (wpAny_typeOf hTs ?_)
  rw [if_neg (by decide)]
  rw [listSliceParts_eq]
  refine wpAny_bind (wpAny_bind (wpAny_field hos rfl (x := .none) rfl (wpAny_bind (wpAny_listPart .none ?_))))
  rw [if_neg (by decide)]
  refine wpAny_bind (wpAny_field hos rfl (x := .none) rfl (wpAny_bind (wpAny_listPart .none ?_)))
  refine wpAny_bind (wpAny_field hos rfl (x := .none) rfl (wpAny_bind (wpAny_listPart .none (wpAny_pure ?_))))
  have hsr : Builtin.List.listSameRef (.ref l) (.ref D) = false := by
    show (l == D) = false
    exact beq_eq_false_iff_ne.mpr hne
  rw [hsr]
  simp only [Bool.false_eq_true, if_false]
  refine wpAny_bind ?_
  unfold Builtin.List.listAllItems
  refine wpAny_bind (wpAny_typeOf hTD ?_)
  rw [if_pos (by decide)]
  unfold Builtin.List.listItems
  refine wpAny_bind (wpAny_seqItems hD rfl (wpAny_pure ?_))
  refine wpAny_bind (wpAny_bind (wpAny_seqItems ho rfl (wpAny_pure ?_)))
  have e0 : sliceIndices (rawPart none) (rawPart none) (rawPart none) xs.size = pure (sliceBounds none none none xs.size) := sliceIndices_raw none none none xs.size (by simp)
  refine wpAny_bind (wpAny_of_eq e0 ?_)
  have e1 : sliceBounds none none none xs.size = ((0 : Int), (xs.size : Int), 1) := by unfold sliceBounds; simp
  rw [e1]
  dsimp only
  rw [if_pos (by decide)]
  refine wpAny_bind (wpAny_rule ?_)
  have e2 : Builtin.List.listTooLong (xs.size + ys.size) = false := by
    unfold Builtin.List.listTooLong
    exact decide_eq_false (by rw [show sizeLine = 16777216 from rfl]; omega)
  rw [e2]
  simp only [Bool.false_eq_true, if_false]
  refine wpAny_bind ?_
  show wpAny _ _ (updateSeq l _) _ _ s
  refine wpAny_updateSeq ho rfl ?_ (Nat.le_trans hx (by decide)) ?_
  · exact wpAny_bind (wpAny_letGo (wpAny_pure ⟨_, rfl, wpAny_pure h⟩))
  · simp only [Int.toNat_zero, Array.size_append, Array.size_extract]
    rw [show sizeLine = 16777216 from rfl]
    omega
theorem m_setAll {prog : Program} {w : World} {A : Around} {E : Value → Shared → Prop} {h₀ h : Heap} {g : Array GenState} {dr : Drawn} {t : Nat} {os : OsState} {L : Addr} {m : Str → Option Value} {news : Led} {l D : Addr} {vs ws : List Value} {n k : Nat} {Q : Unit → Shared → Prop} (keep : Led)
    (F : Fr h₀ L h m) (N : News h₀ L h news) (hl : (l, listOf vs.toArray n) ∈ news) (hD : (D, listOf ws.toArray k) ∈ news) (hs : ∀ p ∈ keep, p ∈ news) (hne : ∀ p ∈ keep, p.1 ≠ l) (hlD : l ≠ D) (hv : vs.length ≤ 1000000) (hw : ws.length ≤ 1000000)
    (hq : ∀ h' n', Fr h₀ L h' m → News h₀ L h' ((l, listOf ws.toArray n') :: keep) → Q () ⟨h', g, dr, t, os⟩) :
    wpAny (model prog w) A (setItem (.ref l) (.ref h.objs.size) (.ref D)) Q E ⟨h.push sliceAll, g, dr, t, os⟩ := by
  have F1 : Fr h₀ L (h.push sliceAll) m := F.push _
  have N1 : News h₀ L (h.push sliceAll) ((l, listOf vs.toArray n) :: keep) := fun p hp => by
    have : p ∈ news := by
      rcases List.mem_cons.mp hp with rfl | hp
      · exact hl
      · exact hs p hp
    exact ⟨Heap.get?_push_of_some _ (N p this).1, (N p this).2⟩
  refine wp_setAll (xs := vs.toArray) (ys := ws.toArray) (n := n) (k := k) (Heap.get?_push_of_some _ (N _ hl).1) (Heap.get?_push_of_some _ (N _ hD).1) (Heap.get?_push_size _ rfl) hlD (by simpa using hv) (by simpa using hw) ?_
  have U := news_upd (pre := []) (post := keep) (f := Obj.mapSeq fun zs => zs.extract 0 (0 : Int).toNat ++ ws.toArray ++ zs.extract (max (0 : Int) vs.toArray.size).toNat zs.size) (o' := listOf ws.toArray (if ws.toArray.size == vs.toArray.size then n else n + 1)) F1 N1 (fun _ hp => nomatch hp) hne (by
    have e1 : max (0 : Int) (vs.toArray.size : Int) = vs.toArray.size := by omega
    simp only [Obj.mapSeq, e1, Int.toNat_natCast, Int.toNat_zero]
    simp) rfl
  exact hq _ _ U.1 U.2
end
section -- MTupC
open LCg LCt
section
variable {prog : Program} {w : World} {A : Around} {E : Value → Shared → Prop} {s : Shared} {h₀ : Heap} {L : Addr} {m : Str → Option Value} {env : Env}
noncomputable def TupSrc (ax : Addr) (its : Array Value) (nw : Led) : Prop := ∃ n, (ax, ({ cls := .type "tuple", data := .seq its n } : Obj)) ∈ nw
theorem TupSrc.at {h : Heap} {ax : Addr} {its : Array Value} {nw : Led} (x : TupSrc ax its nw) (N : News h₀ L h nw) : h.IsTuple ax its := let ⟨n, hm⟩ := x; ⟨_, (N _ hm).1, rfl, n, rfl⟩
/-- the source of a comprehension over a tuple of the ledger -/
noncomputable def SrcTT (prog : Program) (w : World) (A : Around) (h₀ : Heap) (L : Addr) (m : Str → Option Value) (env : Env) (ct elt : Expr) (x : Str) (scope : Scope) (cl : List (Str × Addr)) (Fin : Shared → List Value → Led → Prop) (xv : Value) (s₁ : Shared) : Prop :=
  ∃ ax its news, xv = .ref ax ∧ A.handled = none ∧ Fr h₀ L s₁.heap m ∧ News h₀ L s₁.heap news ∧ TupSrc ax its news ∧ its.size ≤ sizeLine ∧
    ∀ s₂ : Shared, (∃ h, s₂ = { s₁ with heap := h }) → CompRestT prog w A h₀ L m env ct elt x scope cl s₂ (TupSrc ax its) (fun i v => its[i]? = some v) (Fin s₂) its.size 0 [] news
theorem SrcTT.ledger {ct elt : Expr} {x : Str} {scope : Scope} {cl : List (Str × Addr)} {Fin : Shared → List Value → Led → Prop} {ax : Addr} {its : Array Value} {k : Nat} {news : Led} {s₁ : Shared}
    (hh : A.handled = none) (F : Fr h₀ L s₁.heap m) (N : News h₀ L s₁.heap news) (hm : (ax, ({ cls := .type "tuple", data := .seq its k } : Obj)) ∈ news) (hsz : its.size ≤ sizeLine)
    (h : ∀ g, CompRestT prog w A h₀ L m env ct elt x scope cl { s₁ with heap := g } (TupSrc ax its) (fun i v => its[i]? = some v) (Fin { s₁ with heap := g }) its.size 0 [] news) :
    SrcTT prog w A h₀ L m env ct elt x scope cl Fin (.ref ax) s₁ := ⟨ax, its, news, rfl, hh, F, N, ⟨_, hm⟩, hsz, fun _ ⟨g, e⟩ => e ▸ h g⟩
theorem ListComp_TT {ct elt iter : Expr} {x : Str} {px : Pos} {scope : Scope} {cl : List (Str × Addr)} {pos : Pos} {Q : Value → Shared → Prop} (F₀ : Fr h₀ L s.heap m)
    (hclos : closureFor scope env = pure cl) (hcell : ∀ y ∈ scope.names, y.2 ≠ .cell) (hkind : scope.kind = .function)
    (hnames : ∀ y ∈ scope.names, y.2 = .local → scope.names.lookup y.1 = some .local) (hx : scope.names.lookup x = some .local)
    (h : wpAny (model prog w) A (eval iter env) (SrcTT prog w A h₀ L m env ct elt x scope cl (fun s₂ => FinE h₀ L m s₂ Q)) E s)
    (hs : ∀ x, foldedSetIterable iter env x = pure x := by intro _; rfl) :
    wpAny (model prog w) A (eval (.ListComp elt [⟨.Name x px, iter, [ct], 0⟩] scope pos) env) Q E s := by
  rw [eval_ListComp]
  refine wpAny_comprehension_free (use := none) rfl hs hclos hkind hnames (wpAny_mono h (fun xv s₁ h₁ => ?_) fun _ _ e => e)
  obtain ⟨ax, its, news, rfl, hh, F, N, S, hsz, R⟩ := h₁
  have hl := S.at N
  have hlt : ax < s₁.heap.objs.size := by obtain ⟨_, e, _⟩ := hl; exact Heap.lt_size e
  refine wpAny_pyIter_tuple hl ?_
  have up : ∀ b o, s₁.heap.get? b = some o → (s₁.heap.push { cls := .type "tuple_iterator", data := .fields #[.ref ax, .int 0 0] }).get? b = some o := fun b o e => Heap.get?_push_of_some _ e
  refine block_T (Walks.tuple hh s₁.heap.objs.size ax (Nat.ne_of_lt hlt) its) hsz (fun i h st => by obtain ⟨o, e, _⟩ := st.1; exact ⟨o, e⟩)
    (fun i h h' o nw st e e' _ N' S' => ⟨by obtain ⟨o', q, r⟩ := st.1; rw [e] at q; cases q; exact ⟨o, e', r⟩, S'.at N'⟩) hcell hkind hx ⟨⟨_, Heap.get?_push_size _ rfl, rfl, rfl⟩, hl.push _⟩ (fun b hb => ?_)
    (F.keeps up) (N.grown up) (Nat.ne_of_lt F.ns.lt) (next_is_new F) (fun p hp => Nat.ne_of_lt (Heap.lt_size (N p hp).1)) S (R _ ⟨_, rfl⟩) ?_
  · show b < (s₁.heap.push _).objs.size
    rw [Heap.size_push]
    rcases List.mem_cons.mp hb with rfl | hb
    · exact Nat.lt_succ_self _
    · rw [List.mem_singleton.mp hb]; exact Nat.lt_succ_of_lt hlt
  · intro D C h tk m' ys news' F' N' o1 hn hC₀ hD₀ hCL hDL hCD offC fin
    refine ⟨m', hn, fun h'' hs'' => fin D h'' tk (F'.change hs'' hCL hC₀) (fun p hp => ?_) o1⟩
    refine ⟨hs''.extBut _ _ ?_ (N' p hp).1, (N' p hp).2⟩
    rcases List.mem_cons.mp hp with rfl | hp
    · exact Ne.symm hCD
    · exact offC p hp

theorem testS_rest {ct elt : Expr} {x : Str} {scope : Scope} {cl : List (Str × Addr)} {S : Led → Prop} {Fin : List Value → Led → Prop} {its : List Value} {ks : List Int} {news : Led} (keepK : Int → Bool) (g : Int → Str) (hi : IntsAre its ks) (hS : S news)
    (turn : ∀ k t I oI C oC D m₂ h tk (E' : Value → Shared → Prop) ys, k ∈ ks → NsObj oC m₂ → m₂ x = some (.int k t) → Fr h₀ L h m → News h₀ L h ((I, oI) :: (C, oC) :: (D, lst ys) :: news) → Off3 I C D news → ((@Ne Nat I C) ∧ (@Ne Nat I D) ∧ (@Ne Nat C D)) →
      wpAny (model prog w) A (isTrue ct (compEnvC scope cl C env) (eval ct (compEnvC scope cl C env))) (fun ok s' => (ok = keepK k ∧ ∃ tk', s' = { s with heap := h, toks := tk' }) ∧ (ok = true →
        wpAny (model prog w) A (eval elt (compEnvC scope cl C env)) (fun y s'' => (∃ t', y = .str (g k) t') ∧ ∃ tk', s'' = { s with heap := h, toks := tk' }) E' s')) E' { s with heap := h, toks := tk })
    (fin : ∀ ys, StrsAre ys ((ks.filter keepK).map g) → Fin ys news) : CompRestT prog w A h₀ L m env ct elt x scope cl s S (fun i v => its.toArray[i]? = some v) Fin its.toArray.size 0 [] news := by
  have hlen : its.length = ks.length := hi.length
  refine rest_T (n := its.toArray.size) (fun i ys nw => nw = news ∧ StrsAre ys (((ks.take i).filter keepK).map g)) ?_ ?_ _ _ _ _ (Nat.zero_add _) ⟨rfl, .nil⟩
  · rintro i v ys nw I oI C oC D m₂ h tk E' hi' hv ⟨rfl, hy⟩ hC hx F N off ne
    have hv' : its[i]? = some v := by simpa using hv
    obtain ⟨k, t, rfl, hk⟩ := IntsAre.at hi i v hv'
    refine wpAny_mono (turn k t I oI C oC D m₂ h tk E' ys (List.mem_of_getElem? hk) hC hx F N off ne) (fun ok s₂ hq => ?_) fun _ _ e => e
    obtain ⟨⟨rfl, tk', rfl⟩, he⟩ := hq
    split
    · rename_i hkp
      refine wpAny_mono (he hkp) (fun y s₃ hq => ?_) fun _ _ e => e
      obtain ⟨⟨t', rfl⟩, tk'', rfl⟩ := hq
      refine ⟨h, tk'', nw, rfl, F, N, off, hS, rfl, ?_⟩
      rw [List.take_add_one, hk, List.filter_append, List.map_append]
      simp only [Option.toList_some, List.filter_cons, hkp, if_true, List.filter_nil, List.map_cons, List.map_nil]
      exact strs_snoc hy
    · rename_i hkp
      refine ⟨h, tk', nw, rfl, F, N, off, hS, rfl, ?_⟩
      rw [List.take_add_one, hk, List.filter_append, List.map_append]
      rw [Bool.not_eq_true] at hkp
      simp only [Option.toList_some, List.filter_cons, hkp, Bool.false_eq_true, if_false, List.filter_nil, List.map_nil, List.append_nil]
      exact hy
  · rintro ys nw ⟨rfl, hy⟩
    refine fin ys ?_
    rwa [List.size_toArray, hlen, List.take_length] at hy
end
end
section -- MWords
noncomputable def ABs : Str := ⟨#[65, 66, 67, 68, 69, 70, 71, 72, 73, 74, 75, 76, 77, 78, 79, 80]⟩
theorem ABs_eq : (Str.ofString "ABCDEFGHIJKLMNOP") = ABs := by decide +kernel
noncomputable def wlist (n : Nat) : List Str := (([2, 1, 0] : List Int).filter fun k => decide (16 ^ k.toNat ≤ (n : Int))).map fun k => Txt.item ABs (Int.fmod (Int.fdiv (n : Int) (16 ^ k.toNat)) 16)
/-- the word of a number -/
noncomputable def word (n : Nat) : Str := ⟨((apF 3 n).map UInt8.toNat).toArray⟩
theorem wlist_ok : ∀ n : Fin 320, ((wlist n.val).map Str.length).sum + (wlist n.val).length * 64 ≤ 16777216 ∧ Txt.join ⟨#[]⟩ (wlist n.val) = word n.val := by decide +kernel
theorem word_big : ∀ n : Fin 320, (word n.val).cps.toList.all (fun c => decide (65 ≤ c) && decide (c ≤ 80)) = true := by decide +kernel
noncomputable def unword (x : Str) : Nat := x.cps.toList.foldl (fun a c => a * 16 + (c - 65)) 0
theorem unword_ok : ∀ n : Fin 320, unword (word n.val) = n.val := by decide +kernel
theorem word_len (n : Nat) : (word n).length ≤ 3 := by
  show ((apF 3 n).map UInt8.toNat).toArray.size ≤ 3
  simpa using apF_len 3 n
noncomputable def Big (x : Str) : Prop := ∀ c ∈ x.cps.toList, 65 ≤ c ∧ c ≤ 80
theorem word_Big {n : Nat} (h : n < 320) : Big (word n) := by
  intro c hc
  have := List.all_eq_true.mp (word_big ⟨n, h⟩) c hc
  simpa using this
noncomputable def low (x : Str) : Str := ⟨x.cps.map lo1⟩
noncomputable def sw1 (c : Nat) : Nat := if 65 ≤ c ∧ c ≤ 90 then c + 32 else if 97 ≤ c ∧ c ≤ 122 then c - 32 else c
theorem swapOf_ascii : ∀ c, c < 128 → (if Unicode.isUpper c then Unicode.lowerOf c else if Unicode.isLower c then Unicode.upperOf c else [c]) = [sw1 c] := by decide +kernel
theorem swap_ascii {x : Str} (hA : ∀ c ∈ x.cps.toList, c < 128) : Txt.swapcase x = ⟨x.cps.map sw1⟩ := by
  unfold Txt.swapcase
  rw [placed_single x _ sw1 fun i c hc => by
    have hc' : x.cps[i]? = some c := by simpa using hc
    have hlt := hA c (List.mem_of_getElem? hc)
    have e : Unicode.lowerAt x.cps i = Unicode.lowerOf c := by
      unfold Unicode.lowerAt
      rw [hc']
      have hne : (c == 0x3A3) = false := by rw [beq_eq_false_iff_ne]; omega
      simp only [hne, Bool.false_and, Bool.false_eq_true, if_false]
    rw [e]
    exact swapOf_ascii c hlt]
theorem map_eq {x : Str} {f g : Nat → Nat} (h : ∀ c ∈ x.cps.toList, f c = g c) : (⟨x.cps.map f⟩ : Str) = ⟨x.cps.map g⟩ := by
  congr 1
  apply Array.toList_inj.mp
  simp only [Array.toList_map]
  exact List.map_congr_left h
theorem lo1_big {c : Nat} (h : 65 ≤ c ∧ c ≤ 80) : lo1 c = c + 32 := by unfold lo1; rw [if_pos (by omega)]
theorem Big.asc {x : Str} (h : Big x) : ∀ c ∈ x.cps.toList, c < 128 := fun c hc => by have := h c hc; omega
theorem low_asc {x : Str} (h : Big x) : ∀ c ∈ (low x).cps.toList, c < 128 := by
  intro c hc
  simp only [low, Array.toList_map, List.mem_map] at hc
  obtain ⟨d, hd, rfl⟩ := hc
  have := h d hd
  unfold lo1
  split <;> omega
theorem big_lower {x : Str} (h : Big x) : Txt.lower x = low x := lower_ascii h.asc
theorem big_upper {x : Str} (h : Big x) : Txt.upper x = x := by
  rw [upper_ascii h.asc, map_eq (g := id) fun c hc => by have := h c hc; unfold up1; split <;> first | omega | rfl]
  simp
theorem low_upper {x : Str} (h : Big x) : Txt.upper (low x) = x := by
  rw [upper_ascii (low_asc h)]
  show (⟨(x.cps.map lo1).map up1⟩ : Str) = x
  rw [Array.map_map, map_eq (g := id) fun c hc => by
    have := h c hc
    show up1 (lo1 c) = c
    rw [lo1_big this]
    unfold up1
    rw [if_pos (by omega)]
    omega]
  simp
theorem low_lower {x : Str} (h : Big x) : Txt.lower (low x) = low x := by
  rw [lower_ascii (low_asc h)]
  show (⟨(x.cps.map lo1).map lo1⟩ : Str) = ⟨x.cps.map lo1⟩
  rw [Array.map_map]
  exact map_eq fun c hc => by
    have := h c hc
    show lo1 (lo1 c) = lo1 c
    rw [lo1_big this]
    unfold lo1
    rw [if_neg (by omega)]
theorem big_swap {x : Str} (h : Big x) : Txt.swapcase x = low x := by
  rw [swap_ascii h.asc]
  exact map_eq fun c hc => by
    have := h c hc
    unfold sw1 lo1
    rw [if_pos (by omega), if_pos (by omega)]
theorem low_swap {x : Str} (h : Big x) : Txt.swapcase (low x) = x := by
  rw [swap_ascii (low_asc h)]
  show (⟨(x.cps.map lo1).map sw1⟩ : Str) = x
  rw [Array.map_map, map_eq (g := id) fun c hc => by
    have := h c hc
    show sw1 (lo1 c) = c
    rw [lo1_big this]
    unfold sw1
    rw [if_neg (by omega), if_pos (by omega)]
    omega]
  simp
theorem low_inj {x y : Str} (hx : Big x) (hy : Big y) (h : low x = low y) : x = y := by rw [← low_upper hx, h, low_upper hy]
theorem word_inj {m n : Nat} (hm : m < 320) (hn : n < 320) (h : word m = word n) : m = n := by
  have e1 := unword_ok ⟨m, hm⟩
  have e2 := unword_ok ⟨n, hn⟩
  rw [h, e2] at e1
  exact e1.symm

theorem m_joinS {prog : Program} {w : World} {A : Around} {E : Value → Shared → Prop} {s : Shared} {h₀ : Heap} {L : Addr} {news : Led} {l : Addr} {x y : Str} {t : Tok} {ys : List Value} {xs : List Str} {Q : Value → Shared → Prop} (N : News h₀ L s.heap news) (hl : (l, LCg.lst ys) ∈ news) (hs : StrsAre ys xs)
    (hsep : x.length ≤ 64) (hok : (xs.map Str.length).sum + xs.length * 64 ≤ 16777216) (hy : Txt.join x xs = y) (h : ∀ t' k, Q (.str y t') { s with toks := k }) : wpAny (model prog w) A (call (.builtin "str.join") [.str x t, .ref l]) Q E s :=
  join_listC (items := ys.toArray) (ys := xs) ⟨_, (N _ hl).1, rfl, _, rfl⟩ (by simpa using hs) hsep hok (fun t' k => by rw [hy]; exact h t' k)
theorem empty_eq : (Str.ofString "") = ⟨#[]⟩ := by decide +kernel
end
section -- MLits
theorem lit0 : (PySem.Str.ofString "\"").length = 1 := by decide +kernel
theorem lit1 : (PySem.Str.ofString "\"\"").length = 2 := by decide +kernel
theorem lit2 : (PySem.Str.ofString "257 ").length = 4 := by decide +kernel
theorem lit3 : (PySem.Str.ofString "258 ").length = 4 := by decide +kernel
theorem lit4 : (PySem.Str.ofString "257-").length = 4 := by decide +kernel
theorem lit5 : (PySem.Str.ofString " \"x\" is made").length = 12 := by decide +kernel
theorem lit6 : (PySem.Str.ofString "229 (|||").length = 8 := by decide +kernel
theorem lit7 : (PySem.Str.ofString "|)").length = 2 := by decide +kernel
theorem lit8 : (PySem.Str.ofString "229 ok (!x!7!+00").length = 16 := by decide +kernel
theorem lit9 : (PySem.Str.ofString "!) (9)").length = 6 := by decide +kernel
theorem lit10 : (PySem.Str.ofString "229 a)b(/1/2/ ").length = 14 := by decide +kernel
theorem lit11 : (PySem.Str.ofString " /)").length = 3 := by decide +kernel
theorem lit12 : (PySem.Str.ofString "228 (|||").length = 8 := by decide +kernel
theorem lit13 : (PySem.Str.ofString "229 (").length = 5 := by decide +kernel
theorem lit14 : (PySem.Str.ofString "|!)").length = 3 := by decide +kernel
theorem lit15 : (PySem.Str.ofString "|").length = 1 := by decide +kernel
theorem lit16 : (PySem.Str.ofString "host").length = 4 := by decide +kernel
theorem lit17 : (PySem.Str.ofString "K").length = 1 := by decide +kernel
theorem lit18 : (PySem.Str.ofString " \"").length = 2 := by decide +kernel
theorem lit19 : (PySem.Str.ofString "").length = 0 := by decide +kernel
theorem lit20 : (PySem.Str.ofString "a").length = 1 := by decide +kernel
theorem lit21 : (PySem.Str.ofString "b").length = 1 := by decide +kernel
theorem lit22 : (PySem.Str.ofString "c").length = 1 := by decide +kernel
theorem lit23 : (PySem.Str.ofString "d").length = 1 := by decide +kernel
theorem lit24 : (PySem.Str.ofString "abcd").length = 4 := by decide +kernel

/-- the marks of an answer: two for an odd port, four for an even one -/
noncomputable def marks (n : Nat) : Str := if n % 2 = 1 then ⟨#[124, 124]⟩ else ⟨#[124, 124, 124, 124]⟩
theorem marks_len (n : Nat) : (marks n).length ≤ 4 := by
  unfold marks
  split
  · show (2 : Nat) ≤ 4; omega
  · show (4 : Nat) ≤ 4; omega
theorem fmod2 (k : Nat) : Int.fmod (k : Int) 2 = ((k % 2 : Nat) : Int) := by
  rw [Int.fmod_eq_emod_of_nonneg _ (by decide)]; omega
theorem mul2 : Txt.mul (Str.ofString "|") 2 = ⟨#[124, 124]⟩ := by decide +kernel
theorem mul4 : Txt.mul (Str.ofString "|") 4 = ⟨#[124, 124, 124, 124]⟩ := by decide +kernel
theorem m_marks {prog : Program} {w : World} {A : Around} {E : Value → Shared → Prop} {s : Shared} {n : Nat} {t u : Tok} {Q : Value → Shared → Prop} (h : ∀ t' k, (marks n).length ≤ 4 → Q (.str (marks n) t') { s with toks := k }) :
    wpAny (model prog w) A (binaryOp .Mult (.str (Str.ofString "|") t) (.int (4 - Int.fmod (n : Int) 2 * 2) u)) Q E s := by
  refine KXi.mul (n := 1) (by decide +kernel) (by decide) (by rw [fmod2]; omega) (by rw [fmod2]; omega) (fun t' k _ _ => ?_)
  have e : Txt.mul (Str.ofString "|") (4 - Int.fmod (n : Int) 2 * 2) = marks n := by
    rw [fmod2]
    unfold marks
    by_cases h : n % 2 = 1
    · rw [if_pos h, h]; exact mul2
    · have h' : n % 2 = 0 := by omega
      rw [if_neg h, h']; exact mul4
  rw [e]
  exact h t' k (marks_len n)
/-- the packet of a name -/
noncomputable def quo (x : Str) : Str := Str.ofString "\"" ++ Txt.replace x (Str.ofString "\"") (Str.ofString "\"\"") ++ Str.ofString "\""
noncomputable def pktS (x : Str) (k : Nat) : Str := ([Str.ofString "257 " ++ quo x, Str.ofString "257 " ++ quo x ++ Str.ofString " \"x\" is made", Str.ofString "257 " ++ Txt.slice (quo x) none (some (-1)), Str.ofString "258 " ++ quo x, Str.ofString "257-" ++ quo x, Str.ofString "257 " ++ x] : List Str).getD k Str.empty
/-- the answer of a number -/
noncomputable def ansS (n k : Nat) : Str :=
  let p := Str.ofString (toString (n : Int))
  ([Str.ofString "229 (|||" ++ p ++ Str.ofString "|)", Str.ofString "229 ok (!x!7!+00" ++ p ++ Str.ofString "!) (9)", Str.ofString "229 a)b(/1/2/ " ++ p ++ Str.ofString " /)",
    Str.ofString "228 (|||" ++ p ++ Str.ofString "|)", Str.ofString "229 (" ++ marks n ++ p ++ Str.ofString "|)", Str.ofString "229 (|||" ++ p ++ Str.ofString "|!)"] : List Str).getD k Str.empty

noncomputable def piece (i : Nat) : Str := ([Str.ofString "\"", Str.ofString "K", Str.ofString " \"", Str.ofString ""] : List Str).getD i Str.empty
theorem piece_len : ∀ i : Fin 4, (piece i.val).length ≤ 2 := by decide +kernel
theorem m_piece {prog : Program} {w : World} {A : Around} {E : Value → Shared → Prop} {s : Shared} {value slice : Expr} {h₀ : Heap} {L : Addr} {news : Led} {a : Addr} {t1 t2 t3 t4 : Tok} {n : Nat} {i : Int} {u : Tok} {Q : Value → Shared → Prop} (N : News h₀ L s.heap news) (hm : (a, listOf #[.str (Str.ofString "\"") t1, .str (Str.ofString "K") t2, .str (Str.ofString " \"") t3, .str (Str.ofString "") t4] n) ∈ news)
    (h0 : 0 ≤ i) (h1 : i < 4) (h : ∀ t', (piece i.toNat).length ≤ 2 → Q (.str (piece i.toNat) t') s)
    (hs : subscripted slice false (.ref a) (.int i u) = operate [.ref a, .int i u] (getItem (.ref a) (.int i u)) := by with_unfolding_all rfl) (hg : ∀ r, letTemporaryGo value (.ref a) r = pure () := by intro _; with_unfolding_all rfl) :
    wpAny (model prog w) A (subscriptTail value slice (.ref a) (.int i u)) Q E s :=
  item_strsA (l := [.str _ t1, .str _ t2, .str _ t3, .str _ t4]) (ys := [Str.ofString "\"", Str.ofString "K", Str.ofString " \"", Str.ofString ""]) ⟨_, (N _ hm).1, rfl, _, rfl⟩ (.cons _ _ (.cons _ _ (.cons _ _ (.cons _ _ .nil)))) h0 h1 (by omega)
    (fun t' => h t' (piece_len ⟨i.toNat, by omega⟩)) hs hg
/-- the name of a figure -/
noncomputable def nameS (k f : Nat) : Str := Txt.item (Str.ofString "abcd") (k : Int) ++ piece (f % 4) ++ piece (f / 4 % 4)

theorem fm4 (f : Nat) : (Int.fmod (f : Int) 4).toNat = f % 4 := by
  rw [Int.fmod_eq_emod_of_nonneg _ (by decide)]; omega
theorem fd4 (f : Nat) : Int.fdiv (f : Int) 4 = ((f / 4 : Nat) : Int) := by
  rw [Int.fdiv_eq_ediv_of_nonneg _ (by decide)]; omega
end
section -- MStr
section
variable {prog : Program} {w : World} {A : Around} {E : Value → Shared → Prop} {s : Shared} {K : Frag} {e t C : Addr} {h₀ : Heap} {L : Addr} {news : Led}

theorem bexc_check {oe : Obj} {nm q : Str} {N : Addr} {bs bm : List Value} {hdct : Bool} {sn : List Str} {sub : List Value} {ab : Bool} {col : Option Bool} {dd : Option Addr} {k0 k1 k2 k3 k5 : Option Value} {newId : String}
    (hC : s.heap.get? C = some (excClassObj nm q C N bs bm hdct sn sub ab col dd k0 k1 k2 k3 k5 newId)) (hb : bm.contains (.type "BaseException") = true) (hx : s.heap.get? e = some oe) (hc : oe.cls = .ref C) {Q : Unit → Shared → Prop} (hq : Q () s) :
    wpAny (model prog w) A (checkBuiltinCall "BaseException.__str__" ⟨[.ref e], []⟩) Q E s := by
  have hk : builtinKind "BaseException.__str__" = some .slot := by decide +kernel
  have hsplit : splitId "BaseException.__str__" = some ("BaseException", "__str__") := by decide +kernel
  have hcB : (Value.ref C :: bm).contains (.type "BaseException") = true := by rw [List.contains_cons, hb]; simp
  have ha := F.args_bexc_str (.ref e)
  simp only [checkBuiltinCall, hk, hsplit]
  obtain ⟨heap, gens, drawn, toks, os⟩ := s
  refine wpAny_bind ?_
  unfold isInstance
  repeat (first | (with_reducible refine wpAny_loadPart_at hx ?_; rw [hc]) | (with_reducible refine wpAny_isSubtype_exc hC ?_; rw [hcB]) | wp_step)
  exact hq

/-- an own exception at e, with one word -/
structure OwnExc (h : Heap) (e t C : Addr) (m : Str) (u : Tok) : Prop where
  at_ : ∃ o vs, h.get? e = some o ∧ o.cls = .ref C ∧ o.data = .fields vs ∧ vs[0]? = some (.ref t)
  tup : h.TupAt t [.str m u]

theorem bexc_str_own {m : Str} {u : Tok} {Q : Fin → Shared → Prop} (x : OwnExc s.heap e t C m u) (hq : Q (.done (.ret (.str m u))) s) :
    wpAny (model prog w) A (Builtin.«BaseException.__str__» ⟨[.ref e], []⟩) Q E s := by
  have hbA : ∀ {Q : Value × List Value → Shared → Prop}, Q (.ref t, [.str m u]) s → wpAny (model prog w) A (PySem.Builtin.BaseException.bexcArgs (.ref e)) Q E s := by
    intro Q hq
    obtain ⟨o, vs, ho, _, hd, h0⟩ := x.at_
    obtain ⟨ot, k, hto, _, htd⟩ := x.tup
    unfold PySem.Builtin.BaseException.bexcArgs
    refine wpAny_bind (wpAny_field ho hd h0 (wpAny_bind (wpAny_seqItems hto htd ?_)))
    exact wpAny_pure hq
  unfold Builtin.«BaseException.__str__»
  repeat (first | with_reducible refine hbA ?_ | wp_step)
  exact hq

theorem strOf_own {m : Str} {u : Tok} {Q : Value → Shared → Prop} (hu : A.units < cLine) (X : K.In s.heap) (hK : ktsIn K C "BaseException" = true) (hs : findIn K (.ref C) "__str__" = some (some (.builtin "BaseException.__str__"))) (x : OwnExc s.heap e t C m u)
    (hq : Q (.str m u) s) : wpAny (model prog w) A (PySem.Builtin.Str.strOf (.ref e)) Q E s := by
  obtain ⟨nm, qn, N, bs, bm, hdct, sn, sub, ab, col, dd, k0, k1, k2, k3, k5, newId, hC, hb, -⟩ := kts_cls X hK
  obtain ⟨o, vs, ho, hc, hd, h0⟩ := x.at_
  unfold PySem.Builtin.Str.strOf
  rw [show PySem.Builtin.Str.isExactStr (.ref e) = false from rfl]
  refine wpAny_bind (m := cRoomFor _ _) (wpAny_cRoomFor hu ?_)
  refine wpAny_bind (m := callSpecial? (.ref e) (Str.ofString "__str__")) ?_
  have hcall : wpAny (model prog w) A (call (.builtin "BaseException.__str__") [.ref e]) (fun v s' => v = .str m u ∧ Q v s') E s :=
    wpAny_call (codeAny_call_builtin F.excStr_Exception.str.plain F.entry_bexc_str (bexc_check hC hb ho hc (wpAny_mono (bexc_str_own x (Q := fun fin s' => ∃ v, fin = .done (.ret v) ∧ (v = .str m u ∧ Q v s')) ⟨_, rfl, rfl, hq⟩) (fun fin s' h' => by obtain ⟨v, rfl, hv⟩ := h'; exact hv) fun _ _ h' => h')))
  have hT : ∀ {R : Value → Shared → Prop}, R (.ref C) s → wpAny (model prog w) A (typeOf (.ref e)) R E s := fun hr => by
    refine wpAny_typeOf_ref ho ?_
    rw [hc]; exact hr
  refine wpAny_bind (m := specialOf (.ref e) (Str.ofString "__str__")) (wpAny_bind (hT ((looks_findIn X hs).here ?_)))
  refine wpAny_holding (wpAny_bind ?_)
  rw [F.excStr_Exception.str.bind]
  refine wpAny_pure (wpAny_bind (wpAny_mono hcall (fun v s' h' => wpAny_pure ?_) fun _ _ h' => h'))
  obtain ⟨rfl, h'⟩ := h'
  exact wpAny_pure h'

theorem str_own {m : Str} {u : Tok} {Q : Value → Shared → Prop} (hu : A.units + 2 < cLine) (X : K.In s.heap) (hK : ktsIn K C "BaseException" = true) (hs : findIn K (.ref C) "__str__" = some (some (.builtin "BaseException.__str__"))) (x : OwnExc s.heap e t C m u)
    (hq : Q (.str m u) s) : wpAny (model prog w) A (call (.type "str") [.ref e]) Q E s :=
  callType_new F.called_str (by decide) (F.typeCall_str_1 _) (F.newCall_str_1 _) (fun obj => F.args_object_init_2 obj _) F.entry_str_new
    (meets_str_new (S := fun A' R s' => A'.units + 1 < cLine ∧ K.In s'.heap ∧ OwnExc s'.heap e t C m u ∧ R (.ok (.ret (.str m u))) s')
      fun _ _ A' _ _ hq => strOf_own (A := A'.in1) hq.1 hq.2.1 hK hs hq.2.2.1 hq.2.2.2)
    ⟨(show A.units + 1 + 1 < cLine from hu), X, x, typeIs_str _ _ _, hq⟩

theorem str_caught {m : Str} {u : Tok} {Q : Value → Shared → Prop} {mm : Str → Option Value} (F : Fr h₀ L s.heap mm) (X : K.In h₀) (N : News h₀ L s.heap news) (G : Got news e t (.ref C) [.str m u]) (hK : ktsIn K C "BaseException" = true)
    (hs : findIn K (.ref C) "__str__" = some (some (.builtin "BaseException.__str__"))) (hu : A.units + 2 < cLine) (hq : Q (.str m u) s) : wpAny (model prog w) A (call (.type "str") [.ref e]) Q E s := by
  obtain ⟨oe, ot, ws, nt, h1, h2, hc, hd, h0, htc, htd⟩ := G
  exact str_own hu (X.keeps F.keep) hK hs ⟨⟨oe, ws, (N _ h1).1, hc, hd, h0⟩, ⟨ot, nt, (N _ h2).1, htc, htd⟩⟩ hq

theorem charAt_nat {x : Str} {i : Nat} (hi : i < x.cps.size) : Txt.item x (i : Int) = ⟨#[x.cps.getD i 0]⟩ := by
  have e : seqIndex? (i : Int) x.length = some i := by
    unfold seqIndex?
    have : x.length = x.cps.size := rfl
    rw [this]
    simp
    omega
  unfold Txt.item Txt.charAt
  rw [e]
  simp
theorem one_len {c : Nat} : (⟨#[c]⟩ : Str).length = 1 := rfl
theorem m_item {value slice : PySem.Expr} {x : PySem.Str} {t' u : Tok} {k : Int} {Q : Value → Shared → Prop} (h0 : 0 ≤ k) (h1 : k < x.cps.size) (hz : x.cps.size ≤ 1000000) (h : Q (.str ⟨#[x.cps.getD k.toNat 0]⟩ s.toks) { s with toks := s.toks + 1 })
    (hs : subscripted slice false (.str x t') (.int k u) = operate [.str x t', .int k u] (getItem (.str x t') (.int k u)) := by with_unfolding_all rfl)
    (ht : ∀ r, letTemporaryGo value (.str x t') r = pure () := by intro _; with_unfolding_all rfl) :
    wpAny (model prog w) A (subscriptTail value slice (.str x t') (.int k u)) Q E s :=
  KXi.item (n := x.cps.size) rfl (by omega) (by omega) (by omega) (fun _ => by
    have e := charAt_nat (x := x) (i := k.toNat) (by omega)
    rw [Int.toNat_of_nonneg h0] at e
    rw [e]; exact h) hs ht
theorem one_eq {c : Nat} (h : ((⟨#[c]⟩ : Str) == Str.ofString "\"") = true) : c = 34 := by
  have := eq_of_beq h
  rw [show Str.ofString "\"" = (⟨#[34]⟩ : Str) from by decide +kernel] at this
  injection this with h1
  have h2 := congrArg (fun a : Array Nat => a.getD 0 0) h1
  simpa using h2
theorem one_ne {c : Nat} (h : ((⟨#[c]⟩ : Str) == Str.ofString "\"") = false) : c ≠ 34 := by
  rintro rfl
  rw [show Str.ofString "\"" = (⟨#[34]⟩ : Str) from by decide +kernel] at h
  simp at h
theorem one_ne' {c : Nat} (h : ((⟨#[c]⟩ : Str) != Str.ofString "\"") = true) : c ≠ 34 := one_ne (by simpa [bne] using h)
theorem one_eq' {c : Nat} (h : ((⟨#[c]⟩ : Str) != Str.ofString "\"") = false) : c = 34 := one_eq (by simpa [bne] using h)
theorem LeaveT.mk {A₀ : Around} {base : Heap} {outer : List Env} {env : Env} {p : Program} {loose : List Str} {mean : ExcName → Option Value} {mg mb : Str → Option Value} {m m' : Str → Option Value} {g g' : Heap} {L' : Addr} {R : Result → Shared → Prop} {v : Value} {s' : Shared}
    {news' : Led} (T' : KtsTurn ((env :: outer).filterMap (·.frame)) g g') (F' : Fr g' L' s'.heap m') (N' : News g' L' s'.heap news')
    (k : ∀ h₁, KtsTurn (outer.filterMap (·.frame)) h₀ h₁ → Fr h₁ L s'.heap m → News h₁ L s'.heap news' → Below A₀ base outer h₁ → K.In h₁ → Top p loose mean mg mb h₁ → KtsDicts (outer.filterMap (·.frame)) h₁ → R (.ok (.ret v)) s') :
    LeaveT A₀ base outer env K p loose mean mg mb h₀ L m g R v s' := ⟨g', L', m', news', T', F', N', k⟩
end

/-- what parse257 takes behind the first mark: one mark for two, up to a mark alone -/
noncomputable def P257 : List Nat → List Nat
  | [] => []
  | c :: r => if c = 34 then (match r with
    | d :: r' => if d = 34 then 34 :: P257 r' else []
    | [] => []) else c :: P257 r
/-- what parse257 gives back; none where it refuses -/
noncomputable def readO (x : Str) : Option Str :=
  if (Txt.slice x none (some 3) != Str.ofString "257") = true then none
  else if (Txt.slice x (some 3) (some 5) != Str.ofString " \"") = true then some (Str.ofString "")
  else some ⟨(P257 (x.cps.toList.drop 5)).toArray⟩
noncomputable def optD : Option Str → Dat
  | none => .none
  | some x => .str x
/-- what _law_read gives back -/
noncomputable def readD (x : Str) : Dat := optD (readO x)
end
section -- MRd
theorem toNat_succ (i : Nat) : ((i : Int) + 1).toNat = i + 1 := rfl
section
variable {x d : Str} {i : Nat} {t : Tok} {news : Led}
theorem drop_at (h : i < x.cps.size) : x.cps.toList.drop i = x.cps.getD i 0 :: x.cps.toList.drop (i + 1) := by
  rw [List.drop_eq_getElem_cons (by simpa using h)]
  congr 1
  simp [Array.getD, h]
theorem P257_step {c : Nat} {r : List Nat} (h : c ≠ 34) : P257 (c :: r) = c :: P257 r := by rw [P257.eq_def]; simp [h]
theorem P257_two {r : List Nat} : P257 (34 :: 34 :: r) = 34 :: P257 r := by rw [P257.eq_def]; simp
theorem P257_end : P257 [34] = [] := by rw [P257.eq_def]; simp
theorem P257_one {c : Nat} {r : List Nat} (h : c ≠ 34) : P257 (34 :: c :: r) = [] := by rw [P257.eq_def]; simp [h]
theorem readD_no (h : (Txt.slice x none (some 3) != Str.ofString "257") = true) : DatIn news .none (readD x) := by
  unfold readD readO; rw [if_pos h]; exact .none
theorem readD_mt (h : (Txt.slice x none (some 3) != Str.ofString "257") = false) (h2 : (Txt.slice x (some 3) (some 5) != Str.ofString " \"") = true) : DatIn news (.str (Str.ofString "") t) (readD x) := by
  unfold readD readO; rw [if_neg (by rw [h]; decide), if_pos h2]; exact .str _ _
theorem readD_end (h : (Txt.slice x none (some 3) != Str.ofString "257") = false) (h2 : (Txt.slice x (some 3) (some 5) != Str.ofString " \"") = false) (hd : d.cps.toList = P257 (x.cps.toList.drop 5)) : DatIn news (.str d t) (readD x) := by
  unfold readD readO; rw [if_neg (by rw [h]; decide), if_neg (by rw [h2]; decide), ← hd]; exact .str _ _
theorem P_a (hP : d.cps.toList ++ P257 (x.cps.toList.drop i) = P257 (x.cps.toList.drop 5)) (h : ¬(i : Int) < (x.cps.size : Int)) : d.cps.toList = P257 (x.cps.toList.drop 5) := by
  rw [← hP, List.drop_eq_nil_of_le (by simp; omega)]
  simp [P257]
theorem P_b (hP : d.cps.toList ++ P257 (x.cps.toList.drop i) = P257 (x.cps.toList.drop 5)) (h : (i : Int) < (x.cps.size : Int)) (hq : ((⟨#[x.cps.getD i 0]⟩ : Str) == Str.ofString "\"") = true) (h2 : (x.cps.size : Int) ≤ (i : Int) + 1) : d.cps.toList = P257 (x.cps.toList.drop 5) := by
  have e : x.cps.getD i 0 = 34 := one_eq hq
  rw [← hP, drop_at (by omega), e, List.drop_eq_nil_of_le (by simp; omega), P257_end, List.append_nil]
theorem P_c (hP : d.cps.toList ++ P257 (x.cps.toList.drop i) = P257 (x.cps.toList.drop 5)) (h : (i : Int) < (x.cps.size : Int)) (hq : ((⟨#[x.cps.getD i 0]⟩ : Str) == Str.ofString "\"") = true) (h2 : ¬(x.cps.size : Int) ≤ (i : Int) + 1)
    (hr : ((⟨#[x.cps.getD (i + 1) 0]⟩ : Str) != Str.ofString "\"") = true) : d.cps.toList = P257 (x.cps.toList.drop 5) := by
  have e : x.cps.getD i 0 = 34 := one_eq hq
  have e2 : x.cps.getD (i + 1) 0 ≠ 34 := one_ne' hr
  rw [← hP, drop_at (by omega), e, drop_at (by omega), P257_one e2, List.append_nil]
theorem P_d (hP : d.cps.toList ++ P257 (x.cps.toList.drop i) = P257 (x.cps.toList.drop 5)) (h : (i : Int) < (x.cps.size : Int)) (hq : ((⟨#[x.cps.getD i 0]⟩ : Str) == Str.ofString "\"") = true) (h2 : ¬(x.cps.size : Int) ≤ (i : Int) + 1)
    (hr : ((⟨#[x.cps.getD (i + 1) 0]⟩ : Str) != Str.ofString "\"") = false) : (d ++ ⟨#[x.cps.getD i 0]⟩).cps.toList ++ P257 (x.cps.toList.drop (i + 2)) = P257 (x.cps.toList.drop 5) := by
  have e : x.cps.getD i 0 = 34 := one_eq hq
  have e2 : x.cps.getD (i + 1) 0 = 34 := one_eq' hr
  rw [← hP, drop_at (x := x) (i := i) (by omega), e, drop_at (x := x) (i := i + 1) (by omega), e2, P257_two, Str.cps_append]
  simp
theorem P_e (hP : d.cps.toList ++ P257 (x.cps.toList.drop i) = P257 (x.cps.toList.drop 5)) (h : (i : Int) < (x.cps.size : Int)) (hq : ((⟨#[x.cps.getD i 0]⟩ : Str) == Str.ofString "\"") = false) : (d ++ ⟨#[x.cps.getD i 0]⟩).cps.toList ++ P257 (x.cps.toList.drop (i + 1)) = P257 (x.cps.toList.drop 5) := by
  have e : x.cps.getD i 0 ≠ 34 := one_ne hq
  rw [← hP, drop_at (x := x) (i := i) (by omega), P257_step e, Str.cps_append]
  show (d.cps ++ #[x.cps.getD i 0]).toList ++ _ = _
  simp
end
/-- the parts of an answer: its brackets' inside, cut at its first sign -/
noncomputable def partsA (x : Str) (l r : Nat) : List Str := Txt.split (Txt.slice x (some ((l : Int) + 1)) (some (r : Int))) ⟨#[x.cps.getD (l + 1) 0]⟩
/-- what _law_told gives back; l, r: the places of the brackets -/
noncomputable def toldD (host x : Str) (l r : Nat) : Dat :=
  if (Txt.slice x none (some 3) != Str.ofString "229") = true then .str (Str.ofString "code")
  else if ((⟨#[x.cps.getD (l + 1) 0]⟩ : Str) != ⟨#[x.cps.getD (r - 1) 0]⟩) = true then .str (Str.ofString "marks")
  else if (partsA x l r).length ≠ 5 then .str (Str.ofString "marks")
  else .tuple [.str host, .int ((PySem.intText? ((partsA x l r).getD 3 Str.empty)).getD 0)]
section
variable {x host y : Str} {l r : Nat} {q : List (Str × Tok)} {t : Tok} {news : Led}
theorem told_len (hq : q.map (·.1) = Txt.split (Txt.slice x (some ((l : Int) + 1)) (some (r : Int))) ⟨#[x.cps.getD ((l : Int) + 1).toNat 0]⟩) : (partsA x l r).length = q.length := by
  have e : partsA x l r = q.map (·.1) := hq.symm
  rw [e, List.length_map]
theorem told_part (hq : q.map (·.1) = Txt.split (Txt.slice x (some ((l : Int) + 1)) (some (r : Int))) ⟨#[x.cps.getD ((l : Int) + 1).toNat 0]⟩) (h5 : (q.length : Int) = 5) (hy : (q.map (·.1))[Int.toNat 3]? = some y)
    (hp : (partsA x l r).length = 5 → ∃ n, PySem.intText? ((partsA x l r).getD 3 Str.empty) = some n) : PySem.intText? y = some ((PySem.intText? ((partsA x l r).getD 3 Str.empty)).getD 0) := by
  have e : partsA x l r = q.map (·.1) := hq.symm
  obtain ⟨n, hn⟩ := hp (by rw [told_len hq]; omega)
  have ey : (partsA x l r).getD 3 Str.empty = y := by
    rw [e, List.getD_eq_getElem?_getD]
    have : (q.map (·.1))[3]? = some y := hy
    rw [this]; rfl
  rw [hn]
  rw [ey] at hn
  exact hn
theorem toldD_code (h : (Txt.slice x none (some 3) != Str.ofString "229") = true) : DatIn news (.str (Str.ofString "code") t) (toldD host x l r) := by
  unfold toldD; rw [if_pos h]; exact .str _ _
theorem toldD_sign (h : (Txt.slice x none (some 3) != Str.ofString "229") = false) (h2 : ((⟨#[x.cps.getD ((l : Int) + 1).toNat 0]⟩ : Str) != ⟨#[x.cps.getD ((r : Int) - 1).toNat 0]⟩) = true) (hr : 1 ≤ r) : DatIn news (.str (Str.ofString "marks") t) (toldD host x l r) := by
  have e1 : ((l : Int) + 1).toNat = l + 1 := by omega
  have e2 : ((r : Int) - 1).toNat = r - 1 := by omega
  rw [e1, e2] at h2
  unfold toldD; rw [if_neg (by rw [h]; decide), if_pos h2]; exact .str _ _
theorem toldD_parts (h : (Txt.slice x none (some 3) != Str.ofString "229") = false) (h2 : ((⟨#[x.cps.getD ((l : Int) + 1).toNat 0]⟩ : Str) != ⟨#[x.cps.getD ((r : Int) - 1).toNat 0]⟩) = false) (hr : 1 ≤ r)
    (hq : q.map (·.1) = Txt.split (Txt.slice x (some ((l : Int) + 1)) (some (r : Int))) ⟨#[x.cps.getD ((l : Int) + 1).toNat 0]⟩) (h5 : ¬(q.length : Int) = 5) : DatIn news (.str (Str.ofString "marks") t) (toldD host x l r) := by
  have e1 : ((l : Int) + 1).toNat = l + 1 := by omega
  have e2 : ((r : Int) - 1).toNat = r - 1 := by omega
  rw [e1, e2] at h2
  unfold toldD; rw [if_neg (by rw [h]; decide), if_neg (by rw [h2]; decide), if_pos (by rw [told_len hq]; omega)]; exact .str _ _
theorem toldD_whole {a : Addr} {n : Nat} {th tp : Tok} (h : (Txt.slice x none (some 3) != Str.ofString "229") = false) (h2 : ((⟨#[x.cps.getD ((l : Int) + 1).toNat 0]⟩ : Str) != ⟨#[x.cps.getD ((r : Int) - 1).toNat 0]⟩) = false) (hr : 1 ≤ r)
    (hq : q.map (·.1) = Txt.split (Txt.slice x (some ((l : Int) + 1)) (some (r : Int))) ⟨#[x.cps.getD ((l : Int) + 1).toNat 0]⟩) (h5 : (q.length : Int) = 5)
    (hm : (a, ({ cls := .type "tuple", data := .seq #[.str host th, .int ((PySem.intText? ((partsA x l r).getD 3 Str.empty)).getD 0) tp] n } : Obj)) ∈ news) : DatIn news (.ref a) (toldD host x l r) := by
  have e1 : ((l : Int) + 1).toNat = l + 1 := by omega
  have e2 : ((r : Int) - 1).toNat = r - 1 := by omega
  rw [e1, e2] at h2
  unfold toldD; rw [if_neg (by rw [h]; decide), if_neg (by rw [h2]; decide), if_neg (by rw [told_len hq]; omega)]
  exact DatIn.tuple (vs := [.str host th, .int _ tp]) hm (.cons (.str _ _) (.cons (.int _ _) .nil))
end
theorem after_lt {D : Addr} {o : Obj} {l : Led} (h : AllLt D l) : After l [(D, o)] := fun q hq p hp => by
  rw [List.mem_singleton.mp hp]; exact Nat.ne_of_gt (allLt_mem h q hq)
theorem m_lenS {prog : Program} {w : World} {A : Around} {E : Value → Shared → Prop} {s : Shared} {h₀ : Heap} {L : Addr} {news : Led} {D : Addr} {l : List (Str × Tok)} {Q : Value → Shared → Prop} (N : News h₀ L s.heap news) (hl : (D, ({ cls := .type "list", data := .seq (strValues l).toArray } : Obj)) ∈ news)
    (hfit : l.length < 2 ^ 63) (h : Q (.int l.length (s.toks + 1)) { s with toks := s.toks + 1 + 1 }) : wpAny (model prog w) A (call (.builtin "len") [.ref D]) Q E s := by
  have e : (strValues l).toArray.size = l.length := by simp [strValues]
  refine len_list (items := (strValues l).toArray) ⟨_, (N _ hl).1, rfl, _, rfl⟩ (by rw [e]; exact Int.ofNat_lt.mpr hfit) ?_
  rw [e]; exact h
end
section -- MAnsF
/-- the signs of a number below a thousand -/
noncomputable def dg (n : Nat) : List Nat := if n < 10 then [48 + n] else if n < 100 then [48 + n / 10, 48 + n % 10] else [48 + n / 100, 48 + n / 10 % 10, 48 + n % 10]
theorem dg_ok : ∀ n : Fin 320, (Nat.toDigits 10 n.val).map Char.toNat = dg n.val := by decide +kernel
theorem num_dg {n : Nat} (h : n < 320) : Str.ofString (toString (n : Int)) = ⟨(dg n).toArray⟩ := by
  have e := KIN.signs_num n
  rw [dg_ok ⟨n, h⟩] at e
  apply Str.ext'
  apply Array.toList_inj.mp
  rw [e]
theorem dg_len (n : Nat) : (dg n).length ≤ 3 := by
  unfold dg
  split
  · simp
  · split <;> simp
theorem idx_le {c : Nat} : ∀ (L : List Nat) (j : Nat), L[j]? = some c → L.idxOf c ≤ j
  | [], j, h => by simp at h
  | a :: r, 0, h => by
    simp at h
    subst h
    simp
  | a :: r, j + 1, h => by
    have := idx_le r j (by simpa using h)
    rw [List.idxOf_cons]
    by_cases e : (a == c) = true
    · rw [e]; exact Nat.zero_le _
    · rw [Bool.not_eq_true] at e
      rw [e]
      show _ + 1 ≤ _
      omega
theorem at_sub {x : Str} {c i : Nat} : StrLaws.At x ⟨#[c]⟩ x.length i ↔ x.cps.toList[i]? = some c := by
  unfold StrLaws.At
  rw [StrLaws.subAt_eq]
  have hl : x.length = x.cps.toList.length := by simp [Str.length]
  have h1 : (⟨#[c]⟩ : Str).length = 1 := rfl
  rw [h1, hl]
  constructor
  · rintro ⟨h, h2⟩
    have e := eq_of_beq h2
    rw [List.drop_eq_getElem_cons (by omega)] at e
    simp at e
    rw [List.getElem?_eq_getElem (by omega)]
    simpa using e
  · intro h
    obtain ⟨hi, e⟩ := List.getElem?_eq_some_iff.mp h
    refine ⟨by omega, ?_⟩
    rw [List.drop_eq_getElem_cons hi, e]
    simp
theorem find_one {x : Str} {c : Nat} (h : c ∈ x.cps.toList) : Txt.find x ⟨#[c]⟩ = ((x.cps.toList.idxOf c : Nat) : Int) := by
  rcases find_whole x ⟨#[c]⟩ with ⟨_, hn⟩ | ⟨i, e, hi, hk⟩
  · obtain ⟨j, hj, ej⟩ := List.getElem_of_mem h
    exact absurd (at_sub.mpr (by rw [List.getElem?_eq_getElem hj, ej])) (hn j)
  · rw [e]
    have hi' := at_sub.mp hi
    obtain ⟨hil, ei⟩ := List.getElem?_eq_some_iff.mp hi'
    congr 1
    have h1 : x.cps.toList.idxOf c ≤ i := idx_le _ _ hi'
    have h2 : ¬ x.cps.toList.idxOf c < i := fun hlt => hk _ hlt (at_sub.mpr (by
      have hl := List.idxOf_lt_length_of_mem h
      rw [List.getElem?_eq_getElem hl, List.getElem_idxOf hl]))
    omega
theorem find3_one {x : Str} {c a : Nat} (ha : a ≤ x.cps.toList.length) (h : c ∈ x.cps.toList.drop a) : Txt.find3 x ⟨#[c]⟩ (a : Int) = ((a + (x.cps.toList.drop a).idxOf c : Nat) : Int) := by
  have hl : x.length = x.cps.toList.length := by simp [Str.length]
  have ef : fromIndex x.length (a : Int) = a := by
    unfold fromIndex
    split <;> omega
  unfold Txt.find3
  rw [ef]
  rcases StrLaws.occ_head_from x ⟨#[c]⟩ a 1 (Nat.le_refl 1) with ⟨_, hn⟩ | ⟨i, r, e, hai, hi, hk⟩
  · obtain ⟨j, hj, ej⟩ := List.getElem_of_mem h
    rw [List.getElem_drop] at ej
    rw [List.length_drop] at hj
    exact absurd (at_sub.mpr (by rw [List.getElem?_eq_getElem (by omega), ej])) (hn (a + j) (by omega))
  · rw [e]
    show (i : Int) = _
    have hi' := at_sub.mp hi
    obtain ⟨hil, ei⟩ := List.getElem?_eq_some_iff.mp hi'
    congr 1
    have h1 : (x.cps.toList.drop a).idxOf c ≤ i - a := idx_le _ _ (by
      rw [List.getElem?_drop, show a + (i - a) = i by omega]
      exact hi')
    have h2 : ¬ a + (x.cps.toList.drop a).idxOf c < i := fun hlt => hk _ (by omega) hlt (at_sub.mpr (by
      have hl := List.idxOf_lt_length_of_mem h
      rw [List.length_drop] at hl
      rw [List.getElem?_eq_getElem (by omega)]
      have := List.getElem_idxOf (x := c) (xs := x.cps.toList.drop a) (by rw [List.length_drop]; exact hl)
      rw [List.getElem_drop] at this
      rw [this]))
    omega

/-- a list cut at a sign -/
noncomputable def SP (c : Nat) : List Nat → List (List Nat)
  | [] => [[]]
  | a :: r => if a = c then [] :: SP c r else match SP c r with
    | [] => [[a]]
    | h :: t => (a :: h) :: t
theorem SP_free {c : Nat} : ∀ (p : List Nat), c ∉ p → SP c p = [p]
  | [], _ => rfl
  | a :: r, h => by
    have h1 : a ≠ c := fun e => h (e ▸ .head _)
    have h2 := SP_free r fun hm => h (.tail _ hm)
    rw [SP, if_neg h1, h2]
theorem SP_cons {c : Nat} {q : List Nat} : ∀ (p : List Nat), c ∉ p → SP c (p ++ c :: q) = p :: SP c q
  | [], _ => by rw [List.nil_append, SP, if_pos rfl]
  | a :: r, h => by
    have h1 : a ≠ c := fun e => h (e ▸ .head _)
    have h2 := SP_cons (q := q) r fun hm => h (.tail _ hm)
    rw [List.cons_append, SP, if_neg h1, h2]
theorem SP_join {c : Nat} : ∀ (ps : List Str), ps ≠ [] → (∀ p ∈ ps, c ∉ p.cps.toList) → SP c (Str.join ⟨#[c]⟩ ps).cps.toList = ps.map fun p => p.cps.toList
  | [], h, _ => absurd rfl h
  | [p], _, h => by
    show SP c p.cps.toList = _
    rw [SP_free _ (h p (.head _))]
    rfl
  | p :: q :: r, _, h => by
    have ih := SP_join (q :: r) (by simp) fun x hx => h x (.tail _ hx)
    show SP c (p ++ ⟨#[c]⟩ ++ Str.join ⟨#[c]⟩ (q :: r)).cps.toList = _
    rw [Str.cps_append, Str.cps_append]
    have e : (p.cps ++ #[c] ++ (Str.join ⟨#[c]⟩ (q :: r)).cps).toList = p.cps.toList ++ c :: (Str.join ⟨#[c]⟩ (q :: r)).cps.toList := by simp
    rw [e, SP_cons _ (h p (.head _)), ih]
    rfl
theorem split_SP (x : Str) (c : Nat) : (Txt.split x ⟨#[c]⟩).map (fun p => p.cps.toList) = SP c x.cps.toList := by
  have h1 := StrLaws.join_split x ⟨#[c]⟩
  have h2 : Txt.split x ⟨#[c]⟩ ≠ [] := fun e => by have := split_pos x ⟨#[c]⟩; rw [e] at this; exact absurd this (by decide)
  have h3 := SP_join (Txt.split x ⟨#[c]⟩) h2 (StrLaws.split_free x c)
  rw [h1] at h3
  exact h3.symm

theorem dg_in {n : Nat} (h : n < 1000) : ∀ d ∈ dg n, 48 ≤ d ∧ d ≤ 57 := by
  intro d hd
  unfold dg at hd
  split at hd
  · simp at hd; omega
  · split at hd <;> simp at hd <;> omega
theorem idx_app {c : Nat} {B : List Nat} : ∀ (A : List Nat), c ∉ A → (A ++ c :: B).idxOf c = A.length
  | [], _ => by simp
  | a :: r, h => by
    have h1 : a ≠ c := fun e => h (e ▸ .head _)
    have h2 := idx_app (B := B) r fun hm => h (.tail _ hm)
    have h3 : (a == c) = false := by simpa using h1
    rw [List.cons_append, List.idxOf_cons, h3]
    show _ + 1 = _
    rw [h2]
    rfl
section
variable {x : Str} {A M B : List Nat}
theorem getD_list (a : Array Nat) (i : Nat) : a.getD i 0 = a.toList.getD i 0 := by
  obtain ⟨l⟩ := a
  rw [List.getD_eq_getElem?_getD]
  simp only [Array.getD, List.size_toArray]
  split
  · rename_i h
    rw [List.getElem?_eq_getElem h]
    simp
  · rename_i h
    rw [List.getElem?_eq_none (by omega)]
    rfl
/-- a text with its first bracket and the next closing one -/
structure Br (x : Str) (A M B : List Nat) : Prop where
  eq : x.cps.toList = A ++ 40 :: (M ++ 41 :: B)
  nA : 40 ∉ A
  nM : 41 ∉ M
theorem Br.idx (h : Br x A M B) : x.cps.toList.idxOf 40 = A.length := by
  rw [h.eq, idx_app _ h.nA]
theorem Br.drop (h : Br x A M B) : x.cps.toList.drop (A.length + 1) = M ++ 41 :: B := by
  rw [h.eq, show A.length + 1 = A.length + 1 by rfl, ← List.drop_drop]
  simp
theorem Br.len (h : Br x A M B) : x.cps.size = A.length + 1 + M.length + 1 + B.length := by
  have : x.cps.toList.length = x.cps.size := by simp
  rw [← this, h.eq]
  simp
  omega
theorem Br.find (h : Br x A M B) : Txt.find x (Str.ofString "(") = (A.length : Int) := by
  rw [show Str.ofString "(" = (⟨#[40]⟩ : Str) from by decide +kernel, find_one (by rw [h.eq]; simp), h.idx]
theorem Br.find3 (h : Br x A M B) : Txt.find3 x (Str.ofString ")") ((A.length : Int) + 1) = ((A.length + 1 + M.length : Nat) : Int) := by
  have e := find3_one (x := x) (c := 41) (a := A.length + 1) (by rw [h.eq]; simp) (by rw [h.drop]; simp)
  rw [show Str.ofString ")" = (⟨#[41]⟩ : Str) from by decide +kernel, show ((A.length : Int) + 1) = ((A.length + 1 : Nat) : Int) by omega, e, h.drop, idx_app _ h.nM]
theorem Br.slice (h : Br x A M B) : Txt.slice x (some ((A.length : Int) + 1)) (some ((A.length + 1 + M.length : Nat) : Int)) = ⟨M.toArray⟩ := by
  have hl := h.len
  have e := StrLaws.sliceText_nat x (a := A.length + 1) (b := A.length + 1 + M.length) (by omega) (by show _ ≤ x.cps.size; omega)
  rw [show ((A.length : Int) + 1) = ((A.length + 1 : Nat) : Int) by omega]
  refine e.trans ?_
  rw [h.drop, show A.length + 1 + M.length - (A.length + 1) = M.length by omega]
  simp
theorem Br.at (h : Br x A M B) {i : Nat} (hi : i < M.length) : x.cps.getD (A.length + 1 + i) 0 = M.getD i 0 := by
  have e : x.cps.getD (A.length + 1 + i) 0 = x.cps.toList.getD (A.length + 1 + i) 0 := getD_list _ _
  rw [e, List.getD_eq_getElem?_getD, List.getD_eq_getElem?_getD, ← List.getElem?_drop, h.drop, List.getElem?_append_left hi]
theorem Br.parts (h : Br x A M B) (h0 : 0 < M.length) : (partsA x A.length (A.length + 1 + M.length)).map (fun p => p.cps.toList) = SP (M.getD 0 0) M := by
  unfold partsA
  have e := h.at h0
  rw [Nat.add_zero] at e
  rw [h.slice, e, split_SP]
/-- what is told of an answer with brackets -/
theorem Br.told (h : Br x A M B) {host : Str} (h229 : Txt.slice x none (some 3) = Str.ofString "229") {c : Nat} (h0 : 1 < M.length) (hc : M.getD 0 0 = c) (hz : M.getD (M.length - 1) 0 = c) {q : List (List Nat)} (hq : SP c M = q) (h5 : q.length = 5) {n : Int} (hn : PySem.intText? ⟨(q.getD 3 []).toArray⟩ = some n) :
    toldD host x A.length (A.length + 1 + M.length) = .tuple [.str host, .int n] ∧ ((partsA x A.length (A.length + 1 + M.length)).length = 5 → ∃ n, PySem.intText? ((partsA x A.length (A.length + 1 + M.length)).getD 3 Str.empty) = some n) := by
  have hp := h.parts (by omega)
  rw [hc, hq] at hp
  have hl : (partsA x A.length (A.length + 1 + M.length)).length = 5 := by rw [← h5, ← hp, List.length_map]
  have h3 : ((partsA x A.length (A.length + 1 + M.length)).getD 3 Str.empty) = ⟨(q.getD 3 []).toArray⟩ := by
    rw [← hp]
    generalize partsA x A.length (A.length + 1 + M.length) = ps at hl ⊢
    match ps, hl with
    | [a, b, c, d, e], _ => simp
  have e1 := h.at (i := 0) (by omega)
  have e2 := h.at (i := M.length - 1) (by omega)
  rw [Nat.add_zero, hc] at e1
  rw [hz, show A.length + 1 + (M.length - 1) = A.length + 1 + M.length - 1 by omega] at e2
  refine ⟨?_, fun _ => ⟨n, by rw [h3]; exact hn⟩⟩
  unfold toldD
  rw [if_neg (by rw [h229]; simp), e1, e2, if_neg (by simp), if_neg (by rw [hl]; simp), h3, hn]
  rfl
theorem Br.marks (h : Br x A M B) {host : Str} (h229 : Txt.slice x none (some 3) = Str.ofString "229") (h0 : 1 < M.length) (hq : (SP (M.getD 0 0) M).length ≠ 5) :
    toldD host x A.length (A.length + 1 + M.length) = .str (Str.ofString "marks") ∧ ((partsA x A.length (A.length + 1 + M.length)).length = 5 → ∃ n, PySem.intText? ((partsA x A.length (A.length + 1 + M.length)).getD 3 Str.empty) = some n) := by
  have hp := h.parts (by omega)
  have hl : (partsA x A.length (A.length + 1 + M.length)).length ≠ 5 := by rw [← hp, List.length_map] at hq; exact hq
  refine ⟨?_, fun e => absurd e hl⟩
  unfold toldD
  rw [if_neg (by rw [h229]; simp)]
  split
  · rfl
  · rfl
theorem Br.sign (h : Br x A M B) {host : Str} (h229 : Txt.slice x none (some 3) = Str.ofString "229") {c : Nat} (h0 : 1 < M.length) (hc : M.getD 0 0 = c) (hz : M.getD (M.length - 1) 0 ≠ c) {q : List (List Nat)} (hq : SP c M = q) (h5 : q.length = 5) {n : Int} (hn : PySem.intText? ⟨(q.getD 3 []).toArray⟩ = some n) :
    toldD host x A.length (A.length + 1 + M.length) = .str (Str.ofString "marks") ∧ ((partsA x A.length (A.length + 1 + M.length)).length = 5 → ∃ n, PySem.intText? ((partsA x A.length (A.length + 1 + M.length)).getD 3 Str.empty) = some n) := by
  have hp := h.parts (by omega)
  rw [hc, hq] at hp
  have hl : (partsA x A.length (A.length + 1 + M.length)).length = 5 := by rw [← h5, ← hp, List.length_map]
  have h3 : ((partsA x A.length (A.length + 1 + M.length)).getD 3 Str.empty) = ⟨(q.getD 3 []).toArray⟩ := by
    rw [← hp]
    generalize partsA x A.length (A.length + 1 + M.length) = ps at hl ⊢
    match ps, hl with
    | [a, b, c, d, e], _ => simp
  have e1 := h.at (i := 0) (by omega)
  have e2 := h.at (i := M.length - 1) (by omega)
  rw [Nat.add_zero, hc] at e1
  rw [show A.length + 1 + (M.length - 1) = A.length + 1 + M.length - 1 by omega] at e2
  refine ⟨?_, fun _ => ⟨n, by rw [h3]; exact hn⟩⟩
  unfold toldD
  rw [if_neg (by rw [h229]; simp), e1, e2, if_pos (by simpa using Ne.symm hz)]
theorem Br.code (h : Br x A M B) {host : Str} (h229 : (Txt.slice x none (some 3) != Str.ofString "229") = true) : toldD host x A.length (A.length + 1 + M.length) = .str (Str.ofString "code") := by
  unfold toldD
  rw [if_pos h229]
end
theorem int1 : ∀ n : Fin 320, PySem.intText? ⟨(43 :: 48 :: 48 :: dg n.val).toArray⟩ = some (n.val : Int) := by decide +kernel
theorem int2 : ∀ n : Fin 320, PySem.intText? ⟨(32 :: (dg n.val ++ [32])).toArray⟩ = some (n.val : Int) := by decide +kernel

noncomputable def seenA (host : Str) (n k : Nat) : Dat := ([.tuple [.str host, .int n], .tuple [.str host, .int n], .tuple [.str host, .int n], .str (Str.ofString "code"), .str (Str.ofString "marks"), .str (Str.ofString "marks")] : List Dat).getD k .none
theorem c0 : Str.ofString "229 (|||" = ⟨#[50, 50, 57, 32, 40, 124, 124, 124]⟩ := by decide +kernel
theorem c1 : Str.ofString "|)" = ⟨#[124, 41]⟩ := by decide +kernel
theorem c2 : Str.ofString "229 ok (!x!7!+00" = ⟨#[50, 50, 57, 32, 111, 107, 32, 40, 33, 120, 33, 55, 33, 43, 48, 48]⟩ := by decide +kernel
theorem c3 : Str.ofString "!) (9)" = ⟨#[33, 41, 32, 40, 57, 41]⟩ := by decide +kernel
theorem c4 : Str.ofString "229 a)b(/1/2/ " = ⟨#[50, 50, 57, 32, 97, 41, 98, 40, 47, 49, 47, 50, 47, 32]⟩ := by decide +kernel
theorem c5 : Str.ofString " /)" = ⟨#[32, 47, 41]⟩ := by decide +kernel
theorem c6 : Str.ofString "228 (|||" = ⟨#[50, 50, 56, 32, 40, 124, 124, 124]⟩ := by decide +kernel
theorem c7 : Str.ofString "229 (" = ⟨#[50, 50, 57, 32, 40]⟩ := by decide +kernel
theorem c8 : Str.ofString "|!)" = ⟨#[124, 33, 41]⟩ := by decide +kernel
theorem c9 : Str.ofString "229" = ⟨#[50, 50, 57]⟩ := by decide +kernel
theorem slice3 {x : Str} {a b c : Nat} {r : List Nat} (h : x.cps.toList = a :: b :: c :: r) : Txt.slice x none (some 3) = ⟨#[a, b, c]⟩ := by
  have e := StrLaws.sliceText_to (x := x) (j := 3) ⟨by decide, by rw [h]; simp; omega⟩
  refine e.trans ?_
  rw [h]
  simp
theorem ok_list {x : Str} (h : ∀ c ∈ x.cps.toList, 32 ≤ c ∧ c < 127) : okText x := h
/-- what is to be known of an answer's text -/
structure AnsOk (host : Str) (n k : Nat) : Prop where
  ok : okText (ansS n k)
  hi : (ansS n k).length ≤ 60
  br : ∃ l r : Nat, Txt.find (ansS n k) (Str.ofString "(") = (l : Int) ∧ Txt.find3 (ansS n k) (Str.ofString ")") ((l : Int) + 1) = (r : Int) ∧ l + 1 < r ∧ r < (ansS n k).cps.size ∧
    ((partsA (ansS n k) l r).length = 5 → ∃ z : Int, PySem.intText? ((partsA (ansS n k) l r).getD 3 Str.empty) = some z) ∧ toldD host (ansS n k) l r = seenA host n k
theorem AnsOk.of {host : Str} {n k : Nat} {A M B : List Nat} (h : Br (ansS n k) A M B) (h1 : 1 ≤ M.length) (hok : ∀ c ∈ A ++ M ++ B, 32 ≤ c ∧ c < 127) (hl : A.length + M.length + B.length ≤ 58)
    (ht : toldD host (ansS n k) A.length (A.length + 1 + M.length) = seenA host n k ∧ ((partsA (ansS n k) A.length (A.length + 1 + M.length)).length = 5 → ∃ z : Int, PySem.intText? ((partsA (ansS n k) A.length (A.length + 1 + M.length)).getD 3 Str.empty) = some z)) : AnsOk host n k := by
  have hs := h.len
  refine ⟨ok_list fun c hc => ?_, by show (ansS n k).cps.size ≤ 60; omega, A.length, A.length + 1 + M.length, h.find, h.find3, by omega, by omega, ht.2, ht.1⟩
  rw [h.eq] at hc
  simp only [List.mem_append, List.mem_cons] at hc hok
  rcases hc with hc | rfl | hc | rfl | hc
  · exact hok c (.inl (.inl hc))
  · decide
  · exact hok c (.inl (.inr hc))
  · decide
  · exact hok c (.inr hc)

theorem getD_last (X : List Nat) (c : Nat) : (X ++ [c]).getD ((X ++ [c]).length - 1) 0 = c := by
  rw [List.getD_eq_getElem?_getD]
  simp
theorem getD_last2 (X : List Nat) (b c : Nat) : (X ++ [b, c]).getD ((X ++ [b, c]).length - 1) 0 = c := by
  rw [List.getD_eq_getElem?_getD]
  simp
theorem free {D : List Nat} (h : ∀ d ∈ D, 48 ≤ d ∧ d ≤ 57) {c : Nat} (hc : c < 48 ∨ 57 < c) : c ∉ D := fun hm => by have := h c hm; omega
theorem ok_all {A P D S B : List Nat} (hA : ∀ c ∈ A, 32 ≤ c ∧ c < 127) (hP : ∀ c ∈ P, 32 ≤ c ∧ c < 127) (hD : ∀ d ∈ D, 48 ≤ d ∧ d ≤ 57) (hS : ∀ c ∈ S, 32 ≤ c ∧ c < 127) (hB : ∀ c ∈ B, 32 ≤ c ∧ c < 127) : ∀ c ∈ A ++ (P ++ D ++ S) ++ B, 32 ≤ c ∧ c < 127 := by
  intro c hc
  simp only [List.mem_append] at hc
  rcases hc with (hc | (hc | hc) | hc) | hc
  · exact hA c hc
  · exact hP c hc
  · have := hD c hc; omega
  · exact hS c hc
  · exact hB c hc
section
variable {host : Str} {n : Nat}
theorem ans0 (hn : n < 320) : AnsOk host n 0 := by
  have hD := dg_in (n := n) (by omega)
  have hl := dg_len n
  have e : (ansS n 0).cps.toList = [50, 50, 57, 32] ++ 40 :: (([124, 124, 124] ++ dg n ++ [124]) ++ 41 :: []) := by
    show (Str.ofString "229 (|||" ++ Str.ofString (toString (n : Int)) ++ Str.ofString "|)").cps.toList = _
    rw [num_dg hn, c0, c1, Str.cps_append, Str.cps_append]
    simp
  have hi := KIN.num_reads (n := n) (by omega) (by omega)
  rw [num_dg hn] at hi
  have B : Br (ansS n 0) [50, 50, 57, 32] ([124, 124, 124] ++ dg n ++ [124]) [] := ⟨e, by decide, by simp [free hD (c := 41) (by omega)]⟩
  refine AnsOk.of B (by simp) ?_ (by simp; omega) (B.told (c := 124) (q := [[], [], [], dg n, []]) ?_ (by simp) rfl (getD_last _ _) ?_ rfl hi)
  · exact ok_all (by decide) (by decide) hD (by decide) (by decide)
  · rw [c9]; exact slice3 e
  · have := SP_cons (c := 124) (q := []) (dg n) (free hD (by omega))
    simp [SP, this]
theorem ans1 (hn : n < 320) : AnsOk host n 1 := by
  have hD := dg_in (n := n) (by omega)
  have hl := dg_len n
  have e : (ansS n 1).cps.toList = [50, 50, 57, 32, 111, 107, 32] ++ 40 :: (([33, 120, 33, 55, 33, 43, 48, 48] ++ dg n ++ [33]) ++ 41 :: [32, 40, 57, 41]) := by
    show (Str.ofString "229 ok (!x!7!+00" ++ Str.ofString (toString (n : Int)) ++ Str.ofString "!) (9)").cps.toList = _
    rw [num_dg hn, c2, c3, Str.cps_append, Str.cps_append]
    simp
  have B : Br (ansS n 1) [50, 50, 57, 32, 111, 107, 32] ([33, 120, 33, 55, 33, 43, 48, 48] ++ dg n ++ [33]) [32, 40, 57, 41] := ⟨e, by decide, by simp [free hD (c := 41) (by omega)]⟩
  refine AnsOk.of B (by simp) ?_ (by simp; omega) (B.told (c := 33) (q := [[], [120], [55], 43 :: 48 :: 48 :: dg n, []]) ?_ (by simp) rfl (getD_last _ _) ?_ rfl (int1 ⟨n, hn⟩))
  · exact ok_all (by decide) (by decide) hD (by decide) (by decide)
  · rw [c9]; exact slice3 e
  · have := SP_cons (c := 33) (q := []) (dg n) (free hD (by omega))
    simp [SP, this]
theorem ans2 (hn : n < 320) : AnsOk host n 2 := by
  have hD := dg_in (n := n) (by omega)
  have hl := dg_len n
  have e : (ansS n 2).cps.toList = [50, 50, 57, 32, 97, 41, 98] ++ 40 :: (([47, 49, 47, 50, 47, 32] ++ dg n ++ [32, 47]) ++ 41 :: []) := by
    show (Str.ofString "229 a)b(/1/2/ " ++ Str.ofString (toString (n : Int)) ++ Str.ofString " /)").cps.toList = _
    rw [num_dg hn, c4, c5, Str.cps_append, Str.cps_append]
    simp
  have B : Br (ansS n 2) [50, 50, 57, 32, 97, 41, 98] ([47, 49, 47, 50, 47, 32] ++ dg n ++ [32, 47]) [] := ⟨e, by decide, by simp [free hD (c := 41) (by omega)]⟩
  refine AnsOk.of B (by simp) ?_ (by simp; omega) (B.told (c := 47) (q := [[], [49], [50], 32 :: (dg n ++ [32]), []]) ?_ (by simp) rfl (getD_last2 _ _ _) ?_ rfl (int2 ⟨n, hn⟩))
  · exact ok_all (by decide) (by decide) hD (by decide) (by decide)
  · rw [c9]; exact slice3 e
  · have := SP_cons (c := 47) (q := []) (dg n ++ [32]) (by simp [free hD (c := 47) (by omega)])
    simp at this
    simp [SP, this]
theorem ans3 (hn : n < 320) : AnsOk host n 3 := by
  have hD := dg_in (n := n) (by omega)
  have hl := dg_len n
  have e : (ansS n 3).cps.toList = [50, 50, 56, 32] ++ 40 :: (([124, 124, 124] ++ dg n ++ [124]) ++ 41 :: []) := by
    show (Str.ofString "228 (|||" ++ Str.ofString (toString (n : Int)) ++ Str.ofString "|)").cps.toList = _
    rw [num_dg hn, c6, c1, Str.cps_append, Str.cps_append]
    simp
  have hi := KIN.num_reads (n := n) (by omega) (by omega)
  rw [num_dg hn] at hi
  have B : Br (ansS n 3) [50, 50, 56, 32] ([124, 124, 124] ++ dg n ++ [124]) [] := ⟨e, by decide, by simp [free hD (c := 41) (by omega)]⟩
  have hq : SP 124 ([124, 124, 124] ++ dg n ++ [124]) = [[], [], [], dg n, []] := by
    have := SP_cons (c := 124) (q := []) (dg n) (free hD (by omega))
    simp [SP, this]
  refine AnsOk.of B (by simp) ?_ (by simp; omega) ⟨B.code ?_, fun _ => ⟨(n : Int), ?_⟩⟩
  · exact ok_all (by decide) (by decide) hD (by decide) (by decide)
  · have h3 : Txt.slice (ansS n 3) none (some 3) = ⟨#[50, 50, 56]⟩ := slice3 e
    rw [h3, c9]; decide
  · have hp := B.parts (by simp)
    have h0 : List.getD ([124, 124, 124] ++ dg n ++ [124]) 0 0 = (124 : Nat) := rfl
    rw [h0, hq] at hp
    generalize partsA (ansS n 3) _ _ = ps at hp ⊢
    have hl5 : ps.length = 5 := by
      have := congrArg List.length hp
      simpa using this
    match ps, hl5, hp with
    | [a, b, c, d, f], _, hp =>
      simp at hp
      have : d = ⟨(dg n).toArray⟩ := by
        apply Str.ext'
        apply Array.toList_inj.mp
        simpa using hp.2.2.2.1
      show PySem.intText? d = _
      rw [this]; exact hi
theorem ans4 (hn : n < 320) : AnsOk host n 4 := by
  have hD := dg_in (n := n) (by omega)
  have hl := dg_len n
  obtain ⟨m, hm, hmm⟩ : ∃ m : List Nat, marks n = ⟨m.toArray⟩ ∧ (m = [124, 124] ∨ m = [124, 124, 124, 124]) := by
    unfold marks
    split
    · exact ⟨_, rfl, .inl rfl⟩
    · exact ⟨_, rfl, .inr rfl⟩
  have e : (ansS n 4).cps.toList = [50, 50, 57, 32] ++ 40 :: ((m ++ dg n ++ [124]) ++ 41 :: []) := by
    show (Str.ofString "229 (" ++ marks n ++ Str.ofString (toString (n : Int)) ++ Str.ofString "|)").cps.toList = _
    rw [num_dg hn, c7, c1, hm, Str.cps_append, Str.cps_append, Str.cps_append]
    simp
  have hc := SP_cons (c := 124) (q := []) (dg n) (free hD (by omega))
  have B : Br (ansS n 4) [50, 50, 57, 32] (m ++ dg n ++ [124]) [] := ⟨e, by decide, by rcases hmm with rfl | rfl <;> simp [free hD (c := 41) (by omega)]⟩
  refine AnsOk.of B (by simp only [List.length_append, List.length_cons, List.length_nil]; omega) ?_ (by rcases hmm with rfl | rfl <;> simp <;> omega) (B.marks ?_ (by rcases hmm with rfl | rfl <;> simp) ?_)
  · exact ok_all (by decide) (by rcases hmm with rfl | rfl <;> decide) hD (by decide) (by decide)
  · rw [c9]; exact slice3 e
  · rcases hmm with rfl | rfl <;> simp [SP, hc]
theorem ans5 (hn : n < 320) : AnsOk host n 5 := by
  have hD := dg_in (n := n) (by omega)
  have hl := dg_len n
  have e : (ansS n 5).cps.toList = [50, 50, 57, 32] ++ 40 :: (([124, 124, 124] ++ dg n ++ [124, 33]) ++ 41 :: []) := by
    show (Str.ofString "229 (|||" ++ Str.ofString (toString (n : Int)) ++ Str.ofString "|!)").cps.toList = _
    rw [num_dg hn, c0, c8, Str.cps_append, Str.cps_append]
    simp
  have hi := KIN.num_reads (n := n) (by omega) (by omega)
  rw [num_dg hn] at hi
  have B : Br (ansS n 5) [50, 50, 57, 32] ([124, 124, 124] ++ dg n ++ [124, 33]) [] := ⟨e, by decide, by simp [free hD (c := 41) (by omega)]⟩
  refine AnsOk.of B (by simp) ?_ (by simp; omega) (B.sign (c := 124) (q := [[], [], [], dg n, [33]]) ?_ (by simp) rfl (by rw [getD_last2]; decide) ?_ rfl hi)
  · exact ok_all (by decide) (by decide) hD (by decide) (by decide)
  · rw [c9]; exact slice3 e
  · have := SP_cons (c := 124) (q := [33]) (dg n) (free hD (by omega))
    simp [SP, this]
theorem ans_ok {k : Nat} (hn : n < 320) (hk : k < 6) : AnsOk host n k := by
  match k, hk with
  | 0, _ => exact ans0 hn
  | 1, _ => exact ans1 hn
  | 2, _ => exact ans2 hn
  | 3, _ => exact ans3 hn
  | 4, _ => exact ans4 hn
  | 5, _ => exact ans5 hn
end
end
section -- MNmF
noncomputable def seenO (x : Str) (k : Nat) : Option Str := ([some x, some x, some x, none, some (Str.ofString ""), some (Str.ofString "")] : List (Option Str)).getD k none
/-- what is to be known of a name -/
structure NmOk (x : Str) : Prop where
  len : x.length ≤ 20
  ne : x.length ≠ 0
  rep : (Txt.replace x (Str.ofString "\"") (Str.ofString "\"\"")).length ≤ 40
  ok : ∀ k < 6, okText (pktS x k)
  lo : ∀ k < 6, 5 ≤ (pktS x k).cps.size
  hi : ∀ k < 6, (pktS x k).length ≤ 60
  read : ∀ k < 6, readO (pktS x k) = seenO x k
noncomputable def okB (x : Str) : Bool := x.cps.toList.all fun c => decide (32 ≤ c) && decide (c < 127)
noncomputable def pkB (x y : Str) (k : Nat) : Bool := okB y && decide (5 ≤ y.cps.size) && decide (y.cps.size ≤ 60) && decide (readO y = seenO x k)
noncomputable def nmB (x : Str) : Bool := decide (x.length ≤ 20) && decide (x.length ≠ 0) && decide ((Txt.replace x (Str.ofString "\"") (Str.ofString "\"\"")).length ≤ 40) &&
  (pkB x (pktS x 0) 0 && pkB x (pktS x 1) 1 && pkB x (pktS x 2) 2 && pkB x (pktS x 3) 3 && pkB x (pktS x 4) 4 && pkB x (pktS x 5) 5)
theorem nm_all : ∀ k : Fin 4, ∀ f : Fin 16, nmB (nameS k.val f.val) = true := by decide +kernel
theorem okB_ok {x : Str} (h : okB x = true) : okText x := by
  intro c hc
  have h2 : 32 ≤ c ∧ c < 127 := by simpa using List.all_eq_true.mp h c hc
  exact h2
theorem nm_of {x : Str} (h : nmB x = true) : NmOk x := by
  unfold nmB at h
  simp only [Bool.and_eq_true, decide_eq_true_eq] at h
  obtain ⟨⟨⟨h1, h2⟩, h3⟩, ⟨⟨⟨⟨h4, h5⟩, h6⟩, h7⟩, h8⟩, h9⟩ := h
  have key : ∀ k < 6, pkB x (pktS x k) k = true := by
    intro k hk
    match k, hk with
    | 0, _ => exact h4
    | 1, _ => exact h5
    | 2, _ => exact h6
    | 3, _ => exact h7
    | 4, _ => exact h8
    | 5, _ => exact h9
  have k2 : ∀ k < 6, ((okB (pktS x k) = true ∧ 5 ≤ (pktS x k).cps.size) ∧ (pktS x k).cps.size ≤ 60) ∧ readO (pktS x k) = seenO x k := by
    intro k hk
    have := key k hk
    unfold pkB at this
    simpa only [Bool.and_eq_true, decide_eq_true_eq] using this
  exact ⟨h1, h2, h3, fun k hk => okB_ok (k2 k hk).1.1.1, fun k hk => (k2 k hk).1.1.2, fun k hk => (k2 k hk).1.2, fun k hk => (k2 k hk).2⟩
theorem nm_ok {k f : Nat} (hk : k < 4) (hf : f < 16) : NmOk (nameS k f) := nm_of (nm_all ⟨k, hk⟩ ⟨f, hf⟩)
end
section -- MMod
/-- the tag's word: b tells the size -/
noncomputable def wS (m b : Nat) : Str := if b = 0 then word m else Txt.lower (word m)
/-- a packet or an answer on a line: its number, its size, its kind -/
structure Pk where
  n : Nat
  b : Nat
  k : Nat
/-- names, window, tag, host -/
structure Par where
  ns : List Str
  w : Nat
  tag : Nat
  host : Str
structure ParOk (c : Par) : Prop where
  len : c.ns.length = 4
  w1 : 1 ≤ c.w
  w2 : c.w ≤ 2
  tag : c.tag < 300
  nm : ∀ i < 4, NmOk (c.ns.getD i Str.empty)
  host : c.host.length ≤ 20
namespace Par
variable (c : Par)
noncomputable def nm (n : Nat) : Str := c.ns.getD n Str.empty
noncomputable def no (n : Nat) : Nat := c.tag + n % (c.w + 1)
noncomputable def word (p : Pk) : Str := wS (c.no p.n) p.b
noncomputable def ptxt (p : Pk) : Str := pktS (c.nm p.n) p.k
noncomputable def atxt (p : Pk) : Str := ansS (c.no p.n) p.k
noncomputable def pseen (p : Pk) : Dat := optD (seenO (c.nm p.n) p.k)
noncomputable def aseen (p : Pk) : Dat := seenA c.host (c.no p.n) p.k
/-- the line's pairs -/
noncomputable def pp (p : Pk) : Str × Str := (c.word p, c.ptxt p)
noncomputable def ap (p : Pk) : Str × Str := (c.word p, c.atxt p)
/-- the whole line's items -/
noncomputable def pd (p : Pk) : Dat := .tuple [.int p.n, .str (c.word p), .str (c.ptxt p), c.pseen p]
noncomputable def ad (p : Pk) : Dat := .tuple [.int p.n, .str (c.word p), .str (c.atxt p), c.aseen p]
end Par
structure St where
  lane : List Pk
  back : List Pk
  taken : Nat
  known : Nat
/-- what is told of a line's reading -/
noncomputable def dueD (ws xs : List Str) (seen : Dat) : Dat := .tuple [.list (ws.map .str), .list (xs.map .str), seen]
noncomputable def mk (n e : Nat) : Pk := ⟨n, e / 6 % 2, e % 6⟩
noncomputable def cut (w : Nat) (l : List Pk) : List Pk := match l with
  | [] => []
  | p :: _ => l.filter fun q => decide (q.n % (w + 1) ≠ p.n % (w + 1))
noncomputable def stepS (c : Par) (d e : Nat) (S : St) : St :=
  if d = 0 then (if S.known + e / 12 % c.w < 4 then { S with lane := S.lane ++ [mk (S.known + e / 12 % c.w) e] } else S)
  else if d = 1 then (match S.lane with
    | [] => S
    | p :: _ => if p.k < 3 then (let t := if p.n = S.taken then S.taken + 1 else S.taken; { S with taken := t, back := S.back ++ [mk t e] }) else S)
  else if d = 2 then { S with lane := cut c.w S.lane }
  else if d = 3 then (match S.back with
    | [] => S
    | p :: _ => if p.k < 3 then { S with known := p.n } else S)
  else { S with back := cut c.w S.back }
noncomputable def stepD (c : Par) (d : Nat) (S : St) : Dat :=
  if d = 1 then (match S.lane with
    | [] => .none
    | p :: _ => dueD (S.lane.map c.word) (S.lane.map c.ptxt) (c.pseen p))
  else if d = 3 then (match S.back with
    | [] => .none
    | p :: _ => dueD (S.back.map c.word) (S.back.map c.atxt) (c.aseen p))
  else .none
/-- what holds between the deeds -/
structure Inv (c : Par) (S : St) : Prop where
  kt : S.known ≤ S.taken
  tk : S.taken ≤ S.known + c.w
  t4 : S.taken ≤ 4
  l4 : ∀ p ∈ S.lane, p.n < 4 ∧ p.k < 6 ∧ p.b < 2
  l1 : ∀ p ∈ S.lane, p.n < S.known + c.w
  l2 : ∀ p ∈ S.lane, S.taken ≤ p.n + c.w
  l3 : S.lane.Pairwise fun p q => p.n < q.n + c.w
  b4 : ∀ p ∈ S.back, p.k < 6 ∧ p.b < 2
  b1 : ∀ p ∈ S.back, S.known ≤ p.n ∧ p.n ≤ S.taken
  b2 : S.back.Pairwise fun p q => p.n ≤ q.n
theorem cut_sub {w : Nat} {l : List Pk} : List.Sublist (cut w l) l := by
  unfold cut
  split
  · exact List.Sublist.refl _
  · exact List.filter_sublist
theorem Inv.step {c : Par} (C : ParOk c) {S : St} (I : Inv c S) {d e : Nat} : Inv c (stepS c d e S) := by
  have hw1 := C.w1
  have hs : e / 12 % c.w < c.w := Nat.mod_lt _ (by omega)
  obtain ⟨kt, tk, t4, l4, l1, l2, l3, b4, b1, b2⟩ := I
  unfold stepS
  by_cases h0 : d = 0
  · rw [if_pos h0]
    by_cases h4 : S.known + e / 12 % c.w < 4
    · rw [if_pos h4]
      refine ⟨kt, tk, t4, ?_, ?_, ?_, ?_, b4, b1, b2⟩
      · intro p hp
        rcases List.mem_append.mp hp with hp | hp
        · exact l4 p hp
        · rw [List.mem_singleton.mp hp]; exact ⟨h4, Nat.mod_lt _ (by decide), Nat.mod_lt _ (by decide)⟩
      · intro p hp
        rcases List.mem_append.mp hp with hp | hp
        · exact l1 p hp
        · rw [List.mem_singleton.mp hp]; show S.known + e / 12 % c.w < S.known + c.w; omega
      · intro p hp
        rcases List.mem_append.mp hp with hp | hp
        · exact l2 p hp
        · rw [List.mem_singleton.mp hp]; show S.taken ≤ S.known + e / 12 % c.w + c.w; omega
      · refine List.pairwise_append.mpr ⟨l3, List.pairwise_singleton _ _, fun p hp q hq => ?_⟩
        rw [List.mem_singleton.mp hq]
        have := l1 p hp
        show p.n < S.known + e / 12 % c.w + c.w
        omega
    · rw [if_neg h4]; exact ⟨kt, tk, t4, l4, l1, l2, l3, b4, b1, b2⟩
  rw [if_neg h0]
  by_cases h1 : d = 1
  · rw [if_pos h1]
    cases hl : S.lane with
    | nil => exact ⟨kt, tk, t4, l4, l1, l2, l3, b4, b1, b2⟩
    | cons p r =>
      have hp : p ∈ S.lane := by rw [hl]; exact .head _
      by_cases hk : p.k < 3
      · simp only [if_pos hk]
        have a1 := l4 p hp
        have a2 := l1 p hp
        have a3 := l2 p hp
        rw [hl] at l3 l4 l1 l2
        have a4 := (List.pairwise_cons.mp l3).1
        have hT : S.taken ≤ (if p.n = S.taken then S.taken + 1 else S.taken) ∧ (if p.n = S.taken then S.taken + 1 else S.taken) ≤ S.known + c.w ∧ (if p.n = S.taken then S.taken + 1 else S.taken) ≤ 4 := by
          split <;> omega
        generalize hTe : (if p.n = S.taken then S.taken + 1 else S.taken) = t at hT ⊢
        refine ⟨by show S.known ≤ t; omega, hT.2.1, hT.2.2, l4, l1, ?_, l3, ?_, ?_, ?_⟩
        · intro q hq
          have b3 := l2 q hq
          show t ≤ q.n + c.w
          rw [← hTe]
          split
          · rename_i he
            rcases List.mem_cons.mp hq with rfl | hq
            · omega
            · have := a4 q hq; omega
          · exact b3
        · intro q hq
          rcases List.mem_append.mp hq with hq | hq
          · exact b4 q hq
          · rw [List.mem_singleton.mp hq]; exact ⟨Nat.mod_lt _ (by decide), Nat.mod_lt _ (by decide)⟩
        · intro q hq
          rcases List.mem_append.mp hq with hq | hq
          · have := b1 q hq; exact ⟨this.1, Nat.le_trans this.2 hT.1⟩
          · rw [List.mem_singleton.mp hq]; exact ⟨Nat.le_trans kt hT.1, Nat.le_refl _⟩
        · refine List.pairwise_append.mpr ⟨b2, List.pairwise_singleton _ _, fun q hq q' hq' => ?_⟩
          rw [List.mem_singleton.mp hq']
          exact Nat.le_trans (b1 q hq).2 hT.1
      · simp only [if_neg hk]; exact ⟨kt, tk, t4, l4, l1, l2, l3, b4, b1, b2⟩
  rw [if_neg h1]
  by_cases h2 : d = 2
  · rw [if_pos h2]
    have hsub := cut_sub (w := c.w) (l := S.lane)
    exact ⟨kt, tk, t4, fun p hp => l4 p (hsub.subset hp), fun p hp => l1 p (hsub.subset hp), fun p hp => l2 p (hsub.subset hp), l3.sublist hsub, b4, b1, b2⟩
  rw [if_neg h2]
  by_cases h3 : d = 3
  · rw [if_pos h3]
    cases hl : S.back with
    | nil => exact ⟨kt, tk, t4, l4, l1, l2, l3, b4, b1, b2⟩
    | cons p r =>
      have hp : p ∈ S.back := by rw [hl]; exact .head _
      by_cases hk : p.k < 3
      · simp only [if_pos hk]
        have a1 := b1 p hp
        rw [hl] at b2 b4 b1
        have a4 := (List.pairwise_cons.mp b2).1
        refine ⟨a1.2, by show S.taken ≤ p.n + c.w; omega, t4, l4, fun q hq => ?_, l2, l3, b4, ?_, b2⟩
        · have := l1 q hq; show q.n < p.n + c.w; omega
        · intro q hq
          refine ⟨?_, (b1 q hq).2⟩
          rcases List.mem_cons.mp hq with rfl | hq
          · exact Nat.le_refl _
          · exact a4 q hq
      · simp only [if_neg hk]; exact ⟨kt, tk, t4, l4, l1, l2, l3, b4, b1, b2⟩
  rw [if_neg h3]
  have hsub := cut_sub (w := c.w) (l := S.back)
  exact ⟨kt, tk, t4, l4, l1, l2, l3, fun p hp => b4 p (hsub.subset hp), fun p hp => b1 p (hsub.subset hp), b2.sublist hsub⟩
theorem Inv.start (c : Par) : Inv c ⟨[], [], 0, 0⟩ := ⟨Nat.le_refl _, Nat.zero_le _, by decide, by simp, by simp, by simp, .nil, by simp, by simp, .nil⟩
end
section -- MDec
open PySem.Builtin
section
variable {a b c : UInt8} {id : String}
theorem dec1 (ha : a.toNat < 128) : _codecs.runDecoder id _codecs.asciiDecoder none true #[a] 0 [] = pure (#[a.toNat], 1) := by
  simp [_codecs.runDecoder, _codecs.asciiDecoder, _codecs.Found.char, ha]
theorem dec2 (ha : a.toNat < 128) (hb : b.toNat < 128) : _codecs.runDecoder id _codecs.asciiDecoder none true #[a, b] 0 [] = pure (#[a.toNat, b.toNat], 2) := by
  simp [_codecs.runDecoder, _codecs.asciiDecoder, _codecs.Found.char]
  rw [show List.range' 0 2 = [0, 1] from rfl]
  simp [sizeLine_eq, ha, hb]
theorem dec3 (ha : a.toNat < 128) (hb : b.toNat < 128) (hc : c.toNat < 128) : _codecs.runDecoder id _codecs.asciiDecoder none true #[a, b, c] 0 [] = pure (#[a.toNat, b.toNat, c.toNat], 3) := by
  simp [_codecs.runDecoder, _codecs.asciiDecoder, _codecs.Found.char]
  rw [show List.range' 0 3 = [0, 1, 2] from rfl]
  simp [sizeLine_eq, ha, hb, hc]
end
theorem apF_small : ∀ n : Fin 320, (apF 3 n.val).all (fun c => decide (c.toNat < 128)) = true := by decide +kernel
theorem dec_word {n : Nat} (hn : n < 320) (id : String) : _codecs.runDecoder id _codecs.asciiDecoder none true (apF 3 n).toArray 0 [] = pure ((word n).cps, (apF 3 n).length) := by
  have h := List.all_eq_true.mp (apF_small ⟨n, hn⟩)
  have hl := apF_len 3 n
  unfold word
  generalize apF 3 n = l at h hl
  simp only [decide_eq_true_eq] at h
  match l, hl, h with
  | [], _, _ => simp [_codecs.runDecoder]
  | [a], _, h => exact dec1 (h a (by simp))
  | [a, b], _, h => exact dec2 (h a (by simp)) (h b (by simp))
  | [a, b, c], _, h => exact dec3 (h a (by simp)) (h b (by simp)) (h c (by simp))
section
variable {b : Array UInt8} {c : UInt8} {cs : List UInt8} {t t0 : Tok} {x : PySem.Str} {n : Nat}
theorem road_ascii {id : String} : _codecs.decodeRoad id b (PySem.Str.ofString "ascii") none [] = (_codecs.runDecoder id _codecs.asciiDecoder none true b 0 [] >>= fun r => mkStr ⟨r.1⟩) := by kernel_rfl
theorem meets_ascii {t1 t2 : Tok} {d : PySem.Str} (hd : ∀ id, _codecs.runDecoder id _codecs.asciiDecoder none true b 0 [] = pure (x.cps, n)) :
    Meets («_codecs.decode.text» ⟨[.bytes b t, .str (PySem.Str.ofString "ascii") t1, .none, .str d t2], []⟩) (fun _ R s => x.length ≤ sizeLine ∧ R (.ok (.ret (.str x s.toks))) { s with toks := s.toks + 1 }) := by
  refine .of_wp fun prog w A R s hS => ?_
  obtain ⟨hsz, h⟩ := hS
  show wpAny _ _ (Bytes.bytesLike _ (.bytes b t) >>= fun r => _) _ _ s
  refine wpAny_bind (wpAny_of_eq KBd.like_eq ?_)
  refine wpAny_bind (wpAny_of_eq KBd.held_eq ?_)
  show wpAny _ _ (_codecs.decodeRoad _ b (PySem.Str.ofString "ascii") none [] >>= fun v => _) _ _ s
  rw [road_ascii, hd]
  refine wpAny_bind (wpAny_bind (wpAny_pure ?_))
  exact wpAny_mkStr (wpAny_pure ⟨_, rfl, h⟩) hsz
theorem entry_ascii : «bytes.decode» ⟨[.bytes (c :: cs).toArray t, .str (PySem.Str.ofString "ascii") t0], []⟩ = (mkStr (PySem.Str.ofString "utf-8") >>= fun _ => mkStr (PySem.Str.ofString "ascii") >>= fun e => mkStr (PySem.Str.ofString "bytes.decode") >>= fun d =>
    call (.builtin "_codecs.decode.text") [.bytes (c :: cs).toArray t, e, .none, d] >>= fun v => ret v) := by kernel_rfl
theorem entry_ascii0 : «bytes.decode» ⟨[.bytes (([] : List UInt8).toArray) t, .str (PySem.Str.ofString "ascii") t0], []⟩ = (rule "bytes.decode.empty" >>= fun _ => retStr Str.empty) := by kernel_rfl

theorem meets_decodeA (hd : ∀ id, _codecs.runDecoder id _codecs.asciiDecoder none true (c :: cs).toArray 0 [] = pure (x.cps, n)) :
    Meets («bytes.decode» ⟨[.bytes (c :: cs).toArray t, .str (PySem.Str.ofString "ascii") t0], []⟩) (fun _ R s => x.length ≤ sizeLine ∧ ∀ t' k, R (.ok (.ret (.str x t'))) { s with toks := k }) := by
  refine .of_wp fun prog w A R s hS => ?_
  obtain ⟨hsz, h⟩ := hS
  rw [entry_ascii]
  refine wpAny_bind (wpAny_mkStr ?_ (by decide))
  refine wpAny_bind (wpAny_mkStr ?_ (by decide))
  refine wpAny_bind (wpAny_mkStr ?_ (by decide))
  exact wpAny_bind (call_function_meets KBd.kind_text KBd.plain_text KBd.entry_text (KBd.args_text _ _ _ _) (meets_ascii hd) ⟨hsz, wpAny_pure ⟨_, rfl, h _ _⟩⟩)
theorem meets_decode0 :
    Meets («bytes.decode» ⟨[.bytes (([] : List UInt8).toArray) t, .str (PySem.Str.ofString "ascii") t0], []⟩) (fun _ R s => ∀ t' k, R (.ok (.ret (.str Str.empty t'))) { s with toks := k }) := by
  refine .of_wp fun prog w A R s h => ?_
  rw [entry_ascii0]
  refine wpAny_bind (wpAny_rule ?_)
  exact wpAny_bind (wpAny_mkStr (wpAny_pure ⟨_, rfl, h _ _⟩) (by decide))
theorem args_decodeA (a b : Value) : argsOk "bytes.decode" ⟨[a, b], []⟩ := by unfold argsOk; kernel_rfl
end
section
variable {prog : Program} {w : World} {A : Around} {E : Value → Shared → Prop} {s : Shared} {t t0 : Tok} {n : Nat}
theorem m_decode {Q : Value → Shared → Prop} (hn : n < 320) (h : ∀ t' k, (word n).length ≤ 3 → Q (.str (word n) t') { s with toks := k }) :
    wpAny (model prog w) A (call (.builtin "bytes.decode") [.bytes (apF 3 n).toArray t, .str (PySem.Str.ofString "ascii") t0]) Q E s := by
  have hd := dec_word hn
  have hl := word_len n
  cases e : apF 3 n with
  | nil =>
    have hw : word n = Str.empty := by unfold word; rw [e]; rfl
    rw [hw] at h
    exact call_meets FB.slot_bytes_decode (typeIs_bytes _ _ _) FB.entry_bytes_decode (args_decodeA _ _) meets_decode0 (fun t' k => h t' k (by decide))
  | cons c cs =>
    rw [e] at hd
    exact call_meets FB.slot_bytes_decode (typeIs_bytes _ _ _) FB.entry_bytes_decode (args_decodeA _ _) (meets_decodeA hd) ⟨by rw [sizeLine_eq]; omega, fun t' k => h t' k hl⟩
end
end
section -- MDd
/-- where the two lines and the taken names lie -/
structure Ad where
  R1 : Addr
  RD1 : Addr
  RL1 : Addr
  R2 : Addr
  RD2 : Addr
  RL2 : Addr
  G : Addr
  th1 : Tok
  th2 : Tok
noncomputable abbrev LD (w : World) (a : Ad) (vs1 vs2 gv : List Value) (n1 n2 gn : Nat) (rest : Led) : Led :=
  (a.R1, instObj 184 a.RD1) :: (a.RD1, hdrD w a.th1 a.RL1) :: (a.RL1, listOf vs1.toArray n1) :: (a.R2, instObj 184 a.RD2) :: (a.RD2, hdrD w a.th2 a.RL2) :: (a.RL2, listOf vs2.toArray n2) :: (a.G, listOf gv.toArray gn) :: rest
structure AdOk (a : Ad) (rest : Led) : Prop where
  r1 : @Ne Nat a.R1 a.RL1 ∧ @Ne Nat a.RD1 a.RL1 ∧ @Ne Nat a.R2 a.RL1 ∧ @Ne Nat a.RD2 a.RL1 ∧ @Ne Nat a.RL2 a.RL1 ∧ @Ne Nat a.G a.RL1
  r2 : @Ne Nat a.R1 a.RL2 ∧ @Ne Nat a.RD1 a.RL2 ∧ @Ne Nat a.RL1 a.RL2 ∧ @Ne Nat a.R2 a.RL2 ∧ @Ne Nat a.RD2 a.RL2 ∧ @Ne Nat a.G a.RL2
  g : @Ne Nat a.R1 a.G ∧ @Ne Nat a.RD1 a.G ∧ @Ne Nat a.RL1 a.G ∧ @Ne Nat a.R2 a.G ∧ @Ne Nat a.RD2 a.G ∧ @Ne Nat a.RL2 a.G
  rest : ∀ p ∈ rest, p.1 ≠ a.RL1 ∧ p.1 ≠ a.RL2 ∧ p.1 ≠ a.G
structure Has (c : Par) (S : St) (vs1 vs2 gv : List Value) (rest : Led) : Prop where
  d1 : DatAll rest vs1 ((S.lane.map c.pp).map pairD)
  d2 : DatAll rest vs2 ((S.back.map c.ap).map pairD)
  g : StrsAre gv (c.ns.take S.taken)
  l1 : S.lane.length < 900
  l2 : S.back.length < 900
/-- the plan's tuple -/
structure Plan (c : Par) (PL NL : Addr) (nv : List Value) (rest : Led) : Prop where
  pl : ∃ tw tt th n, (PL, ({ cls := .type "tuple", data := .seq #[.ref NL, .int c.w tw, .int c.tag tt, .str c.host th] n } : Obj)) ∈ rest
  nl : ∃ n, (NL, listOf nv.toArray n) ∈ rest
  ns : StrsAre nv c.ns
inductive DeedPost (w : World) (c : Par) (a : Ad) (old rest : Led) (S' : St) (due : Dat) (news' : Led) (r : Value) : Prop
  | intro0 (vs1 vs2 gv : List Value) (n1 n2 gn : Nat) (tl : Led) (TA : Addr) (told : Value) (tk : Tok) (nt : Nat) : r = .ref TA → news' = LD w a vs1 vs2 gv n1 n2 gn (rest ++ tl) → After old tl → DatAll (rest ++ tl) vs1 ((S'.lane.map c.pp).map pairD) → DatAll (rest ++ tl) vs2 ((S'.back.map c.ap).map pairD) → StrsAre gv (c.ns.take S'.taken) →
    (TA, ({ cls := .type "tuple", data := .seq #[.int S'.known tk, told] nt } : Obj)) ∈ tl → DatIn (rest ++ tl) told due → DeedPost w c a old rest S' due news' r

section
variable {prog : Program} {w : World} {A : Around} {E : Value → Shared → Prop} {s : Shared} {Q : Value → Shared → Prop}
theorem fmodN {a b : Nat} : Int.fmod (a : Int) (b : Int) = ((a % b : Nat) : Int) := by
  rw [Int.fmod_eq_emod_of_nonneg _ (by omega)]; omega
theorem fdivN {a b : Nat} : Int.fdiv (a : Int) (b : Int) = ((a / b : Nat) : Int) := by
  rw [Int.fdiv_eq_ediv_of_nonneg _ (by omega)]; omega
theorem nat1 (a : Nat) : (a : Int) + 1 = ((a + 1 : Nat) : Int) := by omega
theorem natA (a b : Nat) : (a : Int) + (b : Int) = ((a + b : Nat) : Int) := by omega
theorem nat2 : (2 : Int) = ((2 : Nat) : Int) := rfl
theorem nat6 : (6 : Int) = ((6 : Nat) : Int) := rfl
theorem nat12 : (12 : Int) = ((12 : Nat) : Int) := rfl
theorem m_modN {a b : Nat} {x y : Int} {t u : Tok} (hx : x = (a : Int)) (hy : y = (b : Int)) (hb : b ≠ 0) (h : Q (.int ((a % b : Nat) : Int) s.toks) { s with toks := s.toks + 1 }) : wpAny (model prog w) A (binaryOp .Mod (.int x t) (.int y u)) Q E s := by
  subst hx hy
  refine mod_int (by omega) ?_
  rw [fmodN]; exact h
theorem m_divN {a b : Nat} {x y : Int} {t u : Tok} (hx : x = (a : Int)) (hy : y = (b : Int)) (hb : b ≠ 0) (hs : b < 1000) (h : Q (.int ((a / b : Nat) : Int) s.toks) { s with toks := s.toks + 1 }) : wpAny (model prog w) A (binaryOp .FloorDiv (.int x t) (.int y u)) Q E s := by
  subst hx hy
  refine floordiv_int (by omega) ?_ (Or.inl (PyProof.noPylong_small (by omega)))
  rw [fdivN]; exact h
theorem m_addN {a b : Nat} {t u : Tok} (h : Q (.int ((a + b : Nat) : Int) s.toks) { s with toks := s.toks + 1 }) : wpAny (model prog w) A (binaryOp .Add (.int (a : Int) t) (.int (b : Int) u)) Q E s := by
  refine add_int ?_
  rw [natA]; exact h
theorem m_add1 {a : Nat} {t u : Tok} (h : Q (.int ((a + 1 : Nat) : Int) s.toks) { s with toks := s.toks + 1 }) : wpAny (model prog w) A (binaryOp .Add (.int (a : Int) t) (.int 1 u)) Q E s := by
  refine add_int ?_
  rw [nat1]; exact h
end
theorem SaysT.use {w : World} {mean : ExcName → Option Value} {mg mb : Str → Option Value} {D : Nat} {f : Addr} {vs : List Value} {kw : List (Str × Value)} {news : Led} {Post : Led → Value → Prop} (C : SaysT w mean mg mb D f vs kw news Post)
    {dp un : Nat} {gd : Option (List Code)} {cn : Str} {cs : Scope} {a : Addr} {ccd : Value} {cl : List (Str × Addr)} {outer : List Env} {A₀ : Around} {base h₀ : Heap} {L : Addr} {m : Str → Option Value} {s : Shared}
    {Q E : Value → Shared → Prop} (B : Below A₀ base outer h₀) (F : Fr h₀ L s.heap m) (X : (P.heap_1 w.params).In h₀) (N : News h₀ L s.heap news) (T : Top P.view_1 LO mean mg mb h₀) (XB : (P.heap_1 w.params).In base) (TB : Top P.view_1 LO mean mg mb base)
    (DD : KtsDicts (outer.filterMap (·.frame)) h₀) (hk : cs.kind = .function) (hd : dp < D + 300) (hu : un < 10 * D)
    (ret : ∀ r news' h' tk' h₁, KtsTurn (outer.filterMap (·.frame)) h₀ h₁ → Fr h₁ L h' m → News h₁ L h' news' → Below A₀ base outer h₁ → (P.heap_1 w.params).In h₁ → Top P.view_1 LO mean mg mb h₁ → KtsDicts (outer.filterMap (·.frame)) h₁ →
      Post news' r → Q r { s with heap := h', toks := tk' }) :
    wpAny (model PySem.Challenge.rw_yh0023_01.row.prog w) (ktrTop dp un gd cn cs L a ccd cl outer) (call (.ref f) vs kw) Q E s := C _ _ _ _ _ _ _ _ _ _ _ _ _ _ _ _ _ B F X N T XB TB DD hk hd hu ret
theorem nabs (a b : Nat) : (-(a : Int) - (b : Int)).natAbs = a + b := by omega
theorem m_name {prog : Program} {w : World} {A : Around} {E : Value → Shared → Prop} {s : Shared} {h₀ : Heap} {L : Addr} {news : Led} {NL : Addr} {nv : List Value} {ns : List Str} {n i : Nat} {value slice : PySem.Expr} {u : Tok} {Q : Value → Shared → Prop}
    (N : News h₀ L s.heap news) (hm : (NL, listOf nv.toArray n) ∈ news) (hs : StrsAre nv ns) (hi : i < ns.length) (hz : ns.length < 1000) (h : ∀ t', Q (.str (ns.getD i Str.empty) t') s)
    (he : subscripted slice false (.ref NL) (.int (i : Int) u) = operate [.ref NL, .int (i : Int) u] (getItem (.ref NL) (.int (i : Int) u)) := by with_unfolding_all rfl)
    (hg : ∀ r, letTemporaryGo value (.ref NL) r = pure () := by intro _; with_unfolding_all rfl) :
    wpAny (model prog w) A (subscriptTail value slice (.ref NL) (.int (i : Int) u)) Q E s :=
  item_strsA (l := nv) (ys := ns) (k := (i : Int)) ⟨_, (N _ hm).1, rfl, _, rfl⟩ hs (by omega) (by omega) (by omega) (fun t' => h t') he hg
theorem word_okText {m : Nat} (h : m < 320) : okText (word m) := fun c hc => by
  have := word_Big h c hc
  exact ⟨by omega, by omega⟩
theorem low_okText {m : Nat} (h : m < 320) : okText (Txt.lower (word m)) := by
  rw [big_lower (word_Big h)]
  intro c hc
  simp only [low, Array.toList_map, List.mem_map] at hc
  obtain ⟨d, hd, rfl⟩ := hc
  have := word_Big h d hd
  rw [lo1_big this]
  exact ⟨by omega, by omega⟩
theorem low_len {m : Nat} (h : m < 320) : (Txt.lower (word m)).length ≤ 3 := by
  rw [big_lower (word_Big h)]
  show ((word m).cps.map lo1).size ≤ 3
  rw [Array.size_map]
  exact word_len m
theorem datAll_strip {hd news : Led} (hh : ∀ q ∈ hd, q.2.cls ≠ .type "tuple") : ∀ {ps : List (Str × Str)} {vs : List Value}, DatAll (hd ++ news) vs (ps.map pairD) → DatAll news vs (ps.map pairD)
  | [], vs, h => by cases h; exact .nil
  | p :: ps, vs, h => by
    cases h with
    | cons h1 h2 =>
      refine .cons ?_ (datAll_strip hh h2)
      obtain ⟨a, n, t, u, rfl, hm⟩ := pair_out h1
      rcases List.mem_append.mp hm with hm | hm
      · exact absurd rfl (hh _ hm)
      · exact pair_in hm
theorem heads_no {w : World} {R RD RL G : Addr} {th : Tok} {vs gv : List Value} {n gn : Nat} : ∀ q ∈ ([(R, instObj 184 RD), (RD, hdrD w th RL), (RL, listOf vs.toArray n), (G, listOf gv.toArray gn)] : Led), q.2.cls ≠ .type "tuple" := by
  intro q hq
  simp only [List.mem_cons, List.not_mem_nil, or_false] at hq
  rcases hq with rfl | rfl | rfl | rfl
  · show Value.ref 184 ≠ _; exact fun h => nomatch h
  · show Value.type "dict" ≠ _; simp
  · show Value.type "list" ≠ _; simp
  · show Value.type "list" ≠ _; simp
theorem After.addr {l l' tl : Led} (h : After l tl) (he : l.map (·.1) = l'.map (·.1)) : After l' tl := by
  intro q hq p hp
  have hq' : q.1 ∈ l.map (·.1) := by rw [he]; exact List.mem_map_of_mem hq
  obtain ⟨q', hm, e⟩ := List.mem_map.mp hq'
  rw [← e]
  exact h q' hm p hp
theorem DeedPost.mk {w : World} {c : Par} {ad : Ad} {old rest : Led} {S' : St} {due : Dat} {vs1 vs2 gv : List Value} {n1 n2 gn : Nat} {tl : Led} {TA : Addr} {told : Value} {tk : Tok} {nt : Nat} (ha : After old tl) (d1 : DatAll (rest ++ tl) vs1 ((S'.lane.map c.pp).map pairD)) (d2 : DatAll (rest ++ tl) vs2 ((S'.back.map c.ap).map pairD)) (g : StrsAre gv (c.ns.take S'.taken))
    (hm : (TA, ({ cls := .type "tuple", data := .seq #[.int S'.known tk, told] nt } : Obj)) ∈ tl) (ht : DatIn (rest ++ tl) told due) : DeedPost w c ad old rest S' due (LD w ad vs1 vs2 gv n1 n2 gn (rest ++ tl)) (.ref TA) := ⟨_, _, _, _, _, _, tl, TA, told, tk, nt, rfl, rfl, ha, d1, d2, g, hm, ht⟩
theorem stepS_0y {c : Par} {S : St} {e : Nat} (h : S.known + e / 12 % c.w < 4) : stepS c 0 e S = { S with lane := S.lane ++ [mk (S.known + e / 12 % c.w) e] } := by
  unfold stepS; rw [if_pos rfl, if_pos h]
theorem stepS_0n {c : Par} {S : St} {e : Nat} (h : ¬S.known + e / 12 % c.w < 4) : stepS c 0 e S = S := by
  unfold stepS; rw [if_pos rfl, if_neg h]
theorem wS_hi {c : Par} {n e : Nat} (h : e / 6 % 2 ≠ 0) : c.word (mk n e) = Txt.lower (word (c.no n)) := if_neg h
theorem wS_lo {c : Par} {n e : Nat} (h : e / 6 % 2 = 0) : c.word (mk n e) = word (c.no n) := if_pos h
/-- a packet laid -/
theorem laid {w : World} {c : Par} {ad : Ad} {S : St} {e : Nat} {vs1 vs2 gv vs9 : List Value} {n1 n2 gn n9 : Nat} {rest tl9 : Led} {D : Addr} {tb : Tok} {nt : Nat} {x : Str} (hlt : S.known + e / 12 % c.w < 4) (H : Has c S vs1 vs2 gv rest)
    (ha : After (LD w ad vs1 vs2 gv n1 n2 gn rest) tl9) (hd : DatAll (((ad.R2, instObj 184 ad.RD2) :: (ad.RD2, hdrD w ad.th2 ad.RL2) :: (ad.RL2, listOf vs2.toArray n2) :: (ad.G, listOf gv.toArray gn) :: rest) ++ tl9) vs9 ((S.lane.map c.pp ++ [(x, pktS (c.ns.getD (S.known + e / 12 % c.w) Str.empty) (e % 6))]).map pairD)) (hx : x = c.word (mk (S.known + e / 12 % c.w) e))
    (l1 : AllLt D (LD w ad vs9 vs2 gv n9 n2 gn (rest ++ tl9))) :
    DeedPost w c ad (LD w ad vs1 vs2 gv n1 n2 gn rest) rest (stepS c 0 e S) (stepD c 0 S) (LD w ad vs9 vs2 gv n9 n2 gn (rest ++ (tl9 ++ [(D, { cls := .type "tuple", data := .seq #[.int S.known tb, .none] nt })]))) (.ref D) := by
  rw [stepS_0y hlt]
  have hd2 : DatAll (rest ++ tl9) vs9 ((S.lane.map c.pp ++ [(x, pktS (c.ns.getD (S.known + e / 12 % c.w) Str.empty) (e % 6))]).map pairD) := datAll_strip (hd := [_, _, _, _]) heads_no hd
  refine DeedPost.mk (After.app ha (After.addr (after_lt l1) ?_)) ?_ (H.d2.mono fun p hp => List.mem_append_left _ hp) H.g (List.mem_append_right _ (.head _)) .none
  · show _ = List.map _ (LD w ad vs1 vs2 gv n1 n2 gn rest ++ tl9)
    rfl
  · show DatAll _ vs9 (((S.lane ++ [mk (S.known + e / 12 % c.w) e]).map c.pp).map pairD)
    rw [List.map_append, ← List.append_assoc]
    subst hx
    exact hd2.mono fun p hp => List.mem_append_left _ hp
/-- nothing done -/
theorem still {w : World} {c : Par} {ad : Ad} {S S' : St} {due : Dat} {vs1 vs2 gv : List Value} {n1 n2 gn : Nat} {rest : Led} {D : Addr} {tb : Tok} {nt : Nat} (hS : S' = S) (hdue : due = .none) (H : Has c S vs1 vs2 gv rest) (l1 : AllLt D (LD w ad vs1 vs2 gv n1 n2 gn rest)) :
    DeedPost w c ad (LD w ad vs1 vs2 gv n1 n2 gn rest) rest S' due (LD w ad vs1 vs2 gv n1 n2 gn (rest ++ [(D, { cls := .type "tuple", data := .seq #[.int S.known tb, .none] nt })])) (.ref D) := by
  subst hS hdue
  exact DeedPost.mk (after_lt l1) (H.d1.mono fun p hp => List.mem_append_left _ hp) (H.d2.mono fun p hp => List.mem_append_left _ hp) H.g (.head _) .none
theorem LD_sub1 {w : World} {ad : Ad} {vs1 vs2 gv : List Value} {n1 n2 gn : Nat} {rest big : Led} {q : Addr × Obj} (h : ∀ p ∈ LD w ad vs1 vs2 gv n1 n2 gn rest, p ∈ big) : ∀ p ∈ LD w ad vs1 vs2 gv n1 n2 gn (rest ++ [q]), p ∈ q :: big := by
  intro p hp
  have hp' : p ∈ LD w ad vs1 vs2 gv n1 n2 gn rest ++ [q] := hp
  rcases List.mem_append.mp hp' with hp | hp
  · exact .tail _ (h p hp)
  · rw [List.mem_singleton.mp hp]; exact .head _
theorem LD_sub2 {w : World} {ad : Ad} {vs1 vs2 gv : List Value} {n1 n2 gn : Nat} {rest tl big : Led} {q : Addr × Obj} (h : ∀ p ∈ LD w ad vs1 vs2 gv n1 n2 gn (rest ++ tl), p ∈ big) : ∀ p ∈ LD w ad vs1 vs2 gv n1 n2 gn (rest ++ (tl ++ [q])), p ∈ q :: big := by
  rw [← List.append_assoc]
  exact LD_sub1 h
theorem low_size {m : Nat} (h : m < 320) : (Txt.lower (word m)).cps.size ≤ 1000000 := Nat.le_trans (low_len h) (by decide)
theorem word_size {m : Nat} : (word m).cps.size ≤ 1000000 := Nat.le_trans (word_len m) (by decide)
section
variable {m b : Nat}
theorem wS_len (h : m < 320) : (wS m b).length ≤ 3 := by
  unfold wS
  split
  · exact word_len m
  · exact low_len h
theorem wS_lower (h : m < 320) : Txt.lower (wS m b) = low (word m) := by
  unfold wS
  split
  · exact big_lower (word_Big h)
  · rw [big_lower (word_Big h)]; exact low_lower (word_Big h)
theorem wS_upper (h : m < 320) : Txt.upper (wS m b) = word m := by
  unfold wS
  split
  · exact big_upper (word_Big h)
  · rw [big_lower (word_Big h)]; exact low_upper (word_Big h)
theorem wS_swap (h : m < 320) : Txt.lower (Txt.swapcase (wS m b)) = low (word m) := by
  unfold wS
  split
  · rw [big_swap (word_Big h)]; exact low_lower (word_Big h)
  · rw [big_lower (word_Big h), low_swap (word_Big h)]; exact big_lower (word_Big h)
theorem wS_swap_len (h : m < 320) : (Txt.swapcase (wS m b)).length ≤ 1000 := by
  have hl := word_len m
  unfold wS
  split
  · rw [big_swap (word_Big h)]
    show ((word m).cps.map lo1).size ≤ 1000
    rw [Array.size_map]
    exact Nat.le_trans hl (by decide)
  · rw [big_lower (word_Big h), low_swap (word_Big h)]
    exact Nat.le_trans hl (by decide)
theorem wS_okText (h : m < 320) : okText (wS m b) := by
  unfold wS
  split
  · exact word_okText h
  · exact low_okText h
end
theorem Par.no_lt {c : Par} (C : ParOk c) (n : Nat) : c.no n < 320 := by
  have h1 := C.tag
  have h2 := C.w2
  have h3 : n % (c.w + 1) < c.w + 1 := Nat.mod_lt _ (Nat.succ_pos _)
  unfold Par.no
  omega
theorem low_ne {c : Par} (C : ParOk c) (a b : Nat) : (low (word (c.no a)) != low (word (c.no b))) = decide (a % (c.w + 1) ≠ b % (c.w + 1)) := by
  by_cases h : a % (c.w + 1) = b % (c.w + 1)
  · have e : c.no a = c.no b := by unfold Par.no; rw [h]
    rw [e]
    simp [h]
  · have hne : low (word (c.no a)) ≠ low (word (c.no b)) := fun e => by
      have e1 := low_inj (word_Big (Par.no_lt C a)) (word_Big (Par.no_lt C b)) e
      have e2 := word_inj (Par.no_lt C a) (Par.no_lt C b) e1
      unfold Par.no at e2
      omega
    have h1 : (low (word (c.no a)) != low (word (c.no b))) = true := by simpa using hne
    rw [h1]
    simp [h]
/-- striking out by the tag is striking out by the rest -/
theorem cut_pairs {c : Par} (C : ParOk c) {f : Pk → Str × Str} (hf : ∀ q, (f q).1 = c.word q) (p : Pk) (r : List Pk) : (((p :: r).map f).filter fun q => Txt.lower q.1 != Txt.lower (Txt.swapcase (c.word p))) = (cut c.w (p :: r)).map f := by
  show _ = ((p :: r).filter fun q => decide (q.n % (c.w + 1) ≠ p.n % (c.w + 1))).map f
  rw [List.filter_map]
  congr 1
  refine List.filter_congr fun q _ => ?_
  show (Txt.lower (f q).1 != Txt.lower (Txt.swapcase (c.word p))) = _
  rw [hf]
  unfold Par.word
  rw [wS_lower (Par.no_lt C _), wS_swap (Par.no_lt C _)]
  exact low_ne C _ _
theorem m_item0 {prog : Program} {w : World} {A : Around} {E : Value → Shared → Prop} {s : Shared} {h₀ : Heap} {L : Addr} {news : Led} {K : Addr} {ys : List Value} {x : Str} {xs : List Str} {value slice : PySem.Expr} {u : Tok} {Q : Value → Shared → Prop}
    (N : News h₀ L s.heap news) (hm : (K, LCg.lst ys) ∈ news) (hs : StrsAre ys (x :: xs)) (h : ∀ t', Q (.str x t') s)
    (he : subscripted slice false (.ref K) (.int 0 u) = operate [.ref K, .int 0 u] (getItem (.ref K) (.int 0 u)) := by with_unfolding_all rfl) :
    wpAny (model prog w) A (subscriptTail value slice (.ref K) (.int 0 u)) Q E s :=
  item_strsR (vs := ys) (ys := x :: xs) (k := 0) ⟨_, (N _ hm).1, rfl, _, rfl⟩ hs (by decide) (by simp only [List.length_cons]; omega) (by decide) (fun t' => h t') he
theorem stepS_2 {c : Par} {S : St} {e : Nat} : stepS c 2 e S = { S with lane := cut c.w S.lane } := by
  unfold stepS; rw [if_neg (by decide), if_neg (by decide), if_pos rfl]
theorem stepS_4 {c : Par} {S : St} {e : Nat} : stepS c 4 e S = { S with back := cut c.w S.back } := by
  unfold stepS; rw [if_neg (by decide), if_neg (by decide), if_neg (by decide), if_neg (by decide)]
theorem struck {w : World} {c : Par} {ad : Ad} {S : St} {e : Nat} {vs1 vs2 gv vs9 : List Value} {n1 n2 gn n9 : Nat} {rest : Led} {D : Addr} {tb : Tok} {nt : Nat} {p : Pk} {r : List Pk} (C : ParOk c) (hl : S.lane = p :: r) (H : Has c S vs1 vs2 gv rest)
    (hd : DatAll (((ad.R2, instObj 184 ad.RD2) :: (ad.RD2, hdrD w ad.th2 ad.RL2) :: (ad.RL2, listOf vs2.toArray n2) :: (ad.G, listOf gv.toArray gn) :: rest)) vs9 (((S.lane.map c.pp).filter fun q => Txt.lower q.1 != Txt.lower (Txt.swapcase (c.word p))).map pairD)) (l1 : AllLt D (LD w ad vs9 vs2 gv n9 n2 gn rest)) :
    DeedPost w c ad (LD w ad vs1 vs2 gv n1 n2 gn rest) rest (stepS c 2 e S) (stepD c 2 S) (LD w ad vs9 vs2 gv n9 n2 gn (rest ++ [(D, { cls := .type "tuple", data := .seq #[.int S.known tb, .none] nt })])) (.ref D) := by
  rw [stepS_2]
  have hd2 := datAll_strip (hd := [_, _, _, _]) heads_no hd
  rw [hl, cut_pairs C (fun _ => rfl), ← hl] at hd2
  exact DeedPost.mk (After.addr (after_lt l1) rfl) (hd2.mono fun p hp => List.mem_append_left _ hp) (H.d2.mono fun p hp => List.mem_append_left _ hp) H.g (.head _) .none
theorem struck2 {w : World} {c : Par} {ad : Ad} {S : St} {e : Nat} {vs1 vs2 gv vs9 : List Value} {n1 n2 gn n9 : Nat} {rest : Led} {D : Addr} {tb : Tok} {nt : Nat} {p : Pk} {r : List Pk} (C : ParOk c) (hl : S.back = p :: r) (H : Has c S vs1 vs2 gv rest)
    (hd : DatAll (((ad.R1, instObj 184 ad.RD1) :: (ad.RD1, hdrD w ad.th1 ad.RL1) :: (ad.RL1, listOf vs1.toArray n1) :: (ad.G, listOf gv.toArray gn) :: rest)) vs9 (((S.back.map c.ap).filter fun q => Txt.lower q.1 != Txt.lower (Txt.swapcase (c.word p))).map pairD)) (l1 : AllLt D (LD w ad vs1 vs9 gv n1 n9 gn rest)) :
    DeedPost w c ad (LD w ad vs1 vs2 gv n1 n2 gn rest) rest (stepS c 4 e S) (stepD c 4 S) (LD w ad vs1 vs9 gv n1 n9 gn (rest ++ [(D, { cls := .type "tuple", data := .seq #[.int S.known tb, .none] nt })])) (.ref D) := by
  rw [stepS_4]
  have hd2 := datAll_strip (hd := [_, _, _, _]) heads_no hd
  rw [hl, cut_pairs C (fun _ => rfl), ← hl] at hd2
  exact DeedPost.mk (After.addr (after_lt l1) rfl) (H.d1.mono fun p hp => List.mem_append_left _ hp) (hd2.mono fun p hp => List.mem_append_left _ hp) H.g (.head _) .none
theorem low_ok2 {m b : Nat} (h : m < 320) : okText (Txt.lower (Txt.swapcase (wS m b))) := by
  rw [wS_swap h, ← big_lower (word_Big h)]; exact low_okText h
theorem low_size2 {m b : Nat} (h : m < 320) : (Txt.lower (Txt.swapcase (wS m b))).cps.size ≤ 1000000 := by
  rw [wS_swap h, ← big_lower (word_Big h)]; exact low_size h
theorem Has.v1 {c : Par} {S : St} {vs1 vs2 gv : List Value} {rest : Led} (H : Has c S vs1 vs2 gv rest) : vs1.length = S.lane.length := by
  rw [H.d1.length, List.length_map, List.length_map]
theorem Has.v2 {c : Par} {S : St} {vs1 vs2 gv : List Value} {rest : Led} (H : Has c S vs1 vs2 gv rest) : vs2.length = S.back.length := by
  rw [H.d2.length, List.length_map, List.length_map]
theorem some_of {α : Type} {l : List α} (h : 0 < l.length) : ∃ p r, l = p :: r := by
  cases l with
  | nil => simp at h
  | cons p r => exact ⟨p, r, rfl⟩
theorem none_of {α : Type} {l : List α} (h : ¬0 < l.length) : l = [] := by
  cases l with
  | nil => rfl
  | cons p r => exact absurd (Nat.succ_pos _) h
theorem pp_len {c : Par} (C : ParOk c) {S : St} : ∀ p ∈ S.lane.map c.pp, p.1.length ≤ 1000 := by
  intro p hp
  obtain ⟨q, _, rfl⟩ := List.mem_map.mp hp
  exact Nat.le_trans (wS_len (Par.no_lt C _)) (by decide)
theorem ap_len {c : Par} (C : ParOk c) {S : St} : ∀ p ∈ S.back.map c.ap, p.1.length ≤ 1000 := by
  intro p hp
  obtain ⟨q, _, rfl⟩ := List.mem_map.mp hp
  exact Nat.le_trans (wS_len (Par.no_lt C _)) (by decide)
theorem stepS_2nil {c : Par} {S : St} {e : Nat} (h : S.lane = []) : stepS c 2 e S = S := by
  rw [stepS_2, h]
  cases S; simp only at h; subst h; rfl
theorem stepS_4nil {c : Par} {S : St} {e : Nat} (h : S.back = []) : stepS c 4 e S = S := by
  rw [stepS_4, h]
  cases S; simp only at h; subst h; rfl
theorem LD_p2 {w : World} {ad : Ad} {vs1 vs2 gv : List Value} {n1 n2 gn : Nat} {rest : Led} : ∀ p ∈ ((ad.R2, instObj 184 ad.RD2) :: (ad.RD2, hdrD w ad.th2 ad.RL2) :: (ad.RL2, listOf vs2.toArray n2) :: (ad.R1, instObj 184 ad.RD1) :: (ad.RD1, hdrD w ad.th1 ad.RL1) :: (ad.RL1, listOf vs1.toArray n1) :: (ad.G, listOf gv.toArray gn) :: rest : Led), p ∈ LD w ad vs1 vs2 gv n1 n2 gn rest := by
  intro p hp
  simp only [LD, List.mem_cons] at hp ⊢
  rcases hp with h | h | h | h | h | h | h | h
  · exact .inr (.inr (.inr (.inl h)))
  · exact .inr (.inr (.inr (.inr (.inl h))))
  · exact .inr (.inr (.inr (.inr (.inr (.inl h)))))
  · exact .inl h
  · exact .inr (.inl h)
  · exact .inr (.inr (.inl h))
  · exact .inr (.inr (.inr (.inr (.inr (.inr (.inl h))))))
  · exact .inr (.inr (.inr (.inr (.inr (.inr (.inr h))))))
theorem LD_q2 {w : World} {ad : Ad} {vs1 vs2 gv : List Value} {n1 n2 gn : Nat} {rest : Led} : ∀ p ∈ LD w ad vs1 vs2 gv n1 n2 gn rest, p ∈ ((ad.R2, instObj 184 ad.RD2) :: (ad.RD2, hdrD w ad.th2 ad.RL2) :: (ad.RL2, listOf vs2.toArray n2) :: (ad.R1, instObj 184 ad.RD1) :: (ad.RD1, hdrD w ad.th1 ad.RL1) :: (ad.RL1, listOf vs1.toArray n1) :: (ad.G, listOf gv.toArray gn) :: rest : Led) := by
  intro p hp
  simp only [LD, List.mem_cons] at hp ⊢
  rcases hp with h | h | h | h | h | h | h | h
  · exact .inr (.inr (.inr (.inl h)))
  · exact .inr (.inr (.inr (.inr (.inl h))))
  · exact .inr (.inr (.inr (.inr (.inr (.inl h)))))
  · exact .inl h
  · exact .inr (.inl h)
  · exact .inr (.inr (.inl h))
  · exact .inr (.inr (.inr (.inr (.inr (.inr (.inl h))))))
  · exact .inr (.inr (.inr (.inr (.inr (.inr (.inr h))))))
theorem m_delItem {M : Model} {A : Around} {E : Value → Shared → Prop} {s : Shared} {K : Frag} {x C L f : Addr} {h₀ : Heap} {m : Str → Option Value} {ox : Obj} {od : Option Obj} {i : Value} {Q : Unit → Shared → Prop} (F : Fr h₀ L s.heap m) (X₀ : K.In h₀) (I : InstAt s.heap x ox C od) (hq : noSeq K C = true)
    (hs : findIn K (.ref C) "__delitem__" = some (some (.ref f))) (hf : isFn K (.ref f) = true) (h : wpAny M A (call (.ref f) [.ref x, i]) (fun _ s' => Q () s') E s) : wpAny M A (delItem (.ref x) i) Q E s := by
  have X := X₀.keeps F.keep
  unfold delItem sequenceKey
  refine wpAny_holding (wpAny_bind (wpAny_bind (I.type.here ?_)))
  refine wpAny_bind ((anyM_none X hq).here ?_)
  rw [if_pos (show (!false) = true from rfl)]
  exact wpAny_pure (wpAny_bind (special_fn X I hs (beq_iff_eq.mp hf) (wpAny_mono h (fun _ _ z => wpAny_pure z) fun _ _ z => z)))
end
local macro_rules | `(tactic| k_room) => `(tactic| (first | exact room_up (by with_reducible assumption) (by decide) | ktr_room | (simp only [recursionLimit, depth_under_make, depth_under_kw, depth_in1, depth_deeper, depth_caller] at *; omega)))
local macro_rules | `(tactic| k_units) => `(tactic| (first | exact uni_line (by with_reducible assumption) (by decide) | ktr_units))
local macro_rules | `(tactic| k_all) => `(tactic| first | assumption | exact ne_of_all (by assumption) (fun p hp => by first | exact hp | exact .tail _ hp | exact .tail _ (.tail _ hp) | exact .tail _ (.tail _ (.tail _ hp)) | exact .tail _ (.tail _ (.tail _ (.tail _ hp)))) (by omega) | fail "k_all: mine")
local macro_rules | `(tactic| walk_at "WhlIf") => `(tactic| (refine m_whlif ?t ?f; (case' t => (intro hw9; (try dsimp only))); (case' f => (intro hw9; (try dsimp only)))))
local macro_rules | `(tactic| walk_at "exec While") => `(tactic| k_extra "m while")
local macro_rules | `(tactic| walk_at "exec While Name") => `(tactic| k_extra "m while")
local macro_rules | `(tactic| walk_at "exec While Name cons nil") => `(tactic| k_extra "m while")
local macro_rules | `(tactic| walk_at "exec While Compare") => `(tactic| k_extra "m while")
local macro_rules | `(tactic| walk_at "exec While Compare cons nil") => `(tactic| k_extra "m while")
local macro_rules | `(tactic| walk_at "CompSrc") => `(tactic| k_extra "m comp")
local macro_rules | `(tactic| walk_at "CompSrcT") => `(tactic| k_extra "m compT")
local macro_rules | `(tactic| walk_at "SrcTT") => `(tactic| k_extra "SrcTT")
local macro_rules | `(tactic| walk_at "binaryOp Add ref ref") => `(tactic| k_extra "m cat")
local macro_rules | `(tactic| walk_at "compareOp NotEq ref ref") => `(tactic| k_extra "m neq")
local macro_rules | `(tactic| walk_at "compareOp NotEq") => `(tactic| k_extra "m ne")
local macro_rules | `(tactic| walk_at "call builtin:list.append") => `(tactic| k_extra "m app")
local macro_rules | `(tactic| walk_at "compareOp Eq ref ref") => `(tactic| k_extra "m eq")
local macro_rules | `(tactic| walk_at "execs cons") => `(tactic| k_extra "x execs cons")
local macro_rules | `(tactic| walk_at "call builtin:len") => `(tactic| k_extra "x call builtin:len")
local macro_rules | `(tactic| walk_at "getMethod ref") => `(tactic| k_extra "x getMethod ref")
local macro_rules | `(tactic| walk_at "call builtin:re.Pattern.search") => `(tactic| k_extra "x call builtin:re.Pattern.search")
local macro_rules | `(tactic| walk_at "call builtin:str.join") => `(tactic| k_extra "x call builtin:str.join")
local macro_rules | `(tactic| walk_at "call builtin:str.lower") => `(tactic| k_extra "x call builtin:str.lower")
local macro_rules | `(tactic| walk_at "subscriptTail") => `(tactic| k_extra "x subscriptTail")
local macro_rules | `(tactic| walk_at "eval Name") => `(tactic| k_extra "x eval Name")
local macro_rules | `(tactic| walk_at "binaryOp Add str str") => `(tactic| k_extra "x binaryOp Add str str")
local macro_rules | `(tactic| walk_at "call type:str") => `(tactic| k_extra "x call type:str")
local macro_rules | `(tactic| walk_at "eval ListComp") => `(tactic| k_extra "x eval ListComp")
local macro_rules | `(tactic| walk_at "SrcLP") => `(tactic| k_extra "x SrcLP")
local macro_rules | `(tactic| walk_at "call builtin:len cons ref") => `(tactic| k_extra "x call builtin:len cons ref")
local macro_rules | `(tactic| walk_at "subscriptTail Name Constant ref int") => `(tactic| k_extra "x subscriptTail Name Constant ref int")
local macro_rules | `(tactic| walk_at "subscriptTail Name Name str int") => `(tactic| k_extra "x subscriptTail Name Name str int")
local macro_rules | `(tactic| walk_at "binaryOp Add") => `(tactic| k_extra "x binaryOp Add")
local macro_rules | `(tactic| walk_at "binaryOp Mult str int") => `(tactic| k_extra "x binaryOp Mult str int")
local macro_rules | `(tactic| walk_at "call ref") => `(tactic| k_extra "x call ref")
local macro_rules | `(tactic| walk_at "binaryOp Add int int") => `(tactic| k_extra "x binaryOp Add int int")
local macro_rules | `(tactic| walk_at "binaryOp Mod int int") => `(tactic| k_extra "x binaryOp Mod int int")
local macro_rules | `(tactic| walk_at "binaryOp FloorDiv int int") => `(tactic| k_extra "x binaryOp FloorDiv int int")
local macro_rules | `(tactic| walk_at "call builtin:bytes.decode") => `(tactic| k_extra "x call builtin:bytes.decode")
local macro_rules | `(tactic| walk_at "call builtin:str.swapcase") => `(tactic| k_extra "x call builtin:str.swapcase")
local macro_rules | `(tactic| walk_at "call builtin:str.upper") => `(tactic| k_extra "x call builtin:str.upper")
local macro_rules | `(tactic| walk_at "delItem ref") => `(tactic| k_extra "x delItem ref")
local macro_rules | `(tactic| walk_at "exec If BoolOp") => `(tactic| k_extra "x exec If BoolOp")
local macro_rules | `(tactic| walk_at "exec If") => `(tactic| k_extra "x exec If")
local macro_rules | `(tactic| walk_at "exec Assign") => `(tactic| k_extra "x exec Assign")
local macro_rules | `(tactic| walk_at "truthy str") => `(tactic| k_extra "x truthy str")
local macro_rules | `(tactic| walk_at "binaryOp Mult ref int") => `(tactic| k_extra "x binaryOp Mult ref int")
local macro_rules | `(tactic| walk_at "binaryOp Add ref ref") => `(tactic| k_extra "x binaryOp Add ref ref")
local macro_rules | `(tactic| walk_at "pyIter ref") => `(tactic| k_extra "x pyIter ref")
local macro_rules | `(tactic| walk_at "exec For") => `(tactic| k_extra "x exec For")
local macro_rules | `(tactic| walk_at "exec For Tuple Name cons nil") => `(tactic| k_extra "x exec For Tuple Name cons nil")
local macro_rules | `(tactic| walk_at "eval BinOp") => `(tactic| k_extra "x eval BinOp")
local macro_rules | `(tactic| walk_at "eval Subscript") => `(tactic| k_extra "x eval Subscript")
local macro_rules | `(tactic| walk_at "eval Tuple") => `(tactic| k_extra "x eval Tuple")
local macro_rules | `(tactic| walk_at "call builtin:sum") => `(tactic| k_extra "x call builtin:sum")
local macro_rules | `(tactic| walk_at "binaryOp Pow int int") => `(tactic| k_extra "x binaryOp Pow int int")
section -- MKeys
set_option maxHeartbeats 4000000 in
theorem keys_says {w : World} {mean : ExcName → Option Value} {mg mb : Str → Option Value} {R RD RL : Addr} {th : Tok} {vs : List Value} {ps : List (Str × Str)} {n : Nat} {rest : Led} (hD : DatAll rest vs (ps.map pairD)) (hv : ps.length < 1000) :
    Says w mean mg mb 30 136 [.ref R] [] ((R, instObj 184 RD) :: (RD, hdrD w th RL) :: (RL, listOf vs.toArray n) :: rest) (fun news' r => ∃ K ys tl, r = .ref K ∧ news' = ((R, instObj 184 RD) :: (RD, hdrD w th RL) :: (RL, listOf vs.toArray n) :: rest) ++ tl ∧ (K, LCg.lst ys) ∈ tl ∧ StrsAre ys (ps.map Prod.fst) ∧ After ((R, instObj 184 RD) :: (RD, hdrD w th RL) :: (RL, listOf vs.toArray n) :: rest) tl) := by
  k_with_none
  k_with "m depth" => (first | exact dep_up (by with_reducible assumption) (by decide) | ((try simp only [depth_mark, depth_under_make, depth_under_kw, depth_in1, depth_deeper, depth_caller] at *); (try dsimp only [ktrTop] at *); omega))
  k_with "m units" => (first | exact uni_up (by with_reducible assumption) (by decide) | ((try simp only [units_in1, units_deeper, Around.mark_units, units_caller] at *); (try dsimp only [ktrTop] at *); omega))
  k_with "m begin" => ((have flzq : P.heap_1 = P.heap_1 ∧ PySem.Challenge.rw_yh0023_01 = PySem.Challenge.rw_yh0023_01 := by (k_fill; exact fill)); (clear flzq); (refine wpAny_call ?_))
  k_with "m enter" => ((case kA => exact rfl); (case kF => exact rfl); (case kK => assumption); (case k1 => k_asm); (case k2 => k_asm); (case k3 => k_asm); (case k4 => k_asm); (case k5 => k_asm); (case k6 => k_is); (case k7 => k_is); (case k8 => first | exact room_up hdp (by decide) | k_room); (case k9 => exact BindsTo.of_eq rfl); (case c5 => decide); (case kB => exact locs rfl); (case c2 => exact rfl); (case c3 => exact rfl); (case c4 => exact rfl); k_whole; intro g'zq L'zq h'zq FG'zq F'zq N'zq B'zq X'zq T'zq; (try dsimp only [List.reverse_cons, List.reverse_nil, List.nil_append, List.cons_append] at F'zq); (try k_fold))
  k_with "x execs cons" => (k_here; (with_reducible refine wpAny_execs_cons ?_); k_fold)
  k_with "x call builtin:len" => (k_here; (with_reducible show wpAny _ _ (call (Value.builtin "len") [Value.ref _]) _ _ _); k_dflt (refine' m_len ?k1 ?k2 ?k3 ?_; (case k1 => k_asm); (case k2 => k_mem); (case k3 => omega)))
  k_with "x getMethod ref" => (k_here; k_dflt (first | ((with_reducible show wpAny _ _ (getMethod (Value.ref 48) _ _) _ _ _); refine PatAt.meth (pat_name (by k_in)) ?_) | ((with_reducible show wpAny _ _ (getMethod (Value.ref 53) _ _) _ _ _); refine PatAt.meth (pat_value (by k_in)) ?_)))
  k_with "x call builtin:re.Pattern.search" => (k_here; k_dflt (first | (refine call_search (pat_name (by k_in)) (name_fails (by assumption)) (by assumption) ?_) | (refine call_search (pat_value (by k_in)) (value_fails (by assumption)) (by assumption) ?_)))
  k_with "x call builtin:str.join" => (k_here; k_dflt (refine' m_join1 ?k1 ?k2 ?k3 ?k4 ?_; (case k1 => k_asm); (case k2 => k_mem); (case k3 => decide); (case k4 => assumption)); intro t'zq tk'zq)
  k_with "m enterC" => ((case kA => exact rfl); (case kF => exact rfl); (case kK => assumption); (case k1 => k_asm); (case k2 => k_asm); (case k3 => k_asm); (case k4 => k_asm); (case k5 => k_asm); (case k6 => k_is); (case k7 => k_is); (case k8 => first | exact room_up hdp (by decide) | k_room); (case k9 => exact BindsTo.of_eq rfl); (case kB => exact rfl); (case kD => decide +kernel); (case c2 => exact rfl); (case c3 => exact rfl); (case c4 => exact rfl); k_whole; intro g'zq L'zq h'zq tk'zq cells'zq FG'zq F'zq N'zq Y'zq B'zq X'zq T'zq l1zq; (have l9zq := l1zq); (try k_lt l1zq); k_cells Y'zq; (try simp only [List.cons_append, List.nil_append] at N'zq); (try dsimp only); (try k_fold))
  k_with "x call builtin:str.lower" => (k_here; (try dsimp only); (with_reducible show wpAny _ _ (call (Value.builtin "str.lower") [Value.str _ _]) _ _ _); (refine SCL.lower (by first | omega | exact Nat.le_trans (by assumption) (by decide)) ?_); intro _)
  k_with "m mem" => (repeat (first | assumption | apply List.mem_cons_of_mem))
  k_with "x subscriptTail" => (k_here; (with_reducible show wpAny _ _ (subscriptTail _ _ (Value.ref _) (Value.int _ _)) _ _ _); k_dflt (refine' item_tupleT (m_tup (by k_asm) ?hm) (by decide) (by decide) ?hj ?hv ?_; (case hm => first | k_mem | walk_at "m mem"); (case hj => rfl); (case hv => rfl)))
  k_with "m look" => first | exact rfl | assumption
  k_with "x eval Name" => (k_here; (with_reducible show wpAny _ _ (eval (PySem.Expr.Name _ _) (envOf _ _ _ _ _)) _ _ _); k_dflt (refine' ld ?k1 ?k2 ?_; (case k1 => k_asm); (case k2 => walk_at "m look"); k_whole))
  k_with "x eval Name" => (k_here; (with_reducible show wpAny _ _ (eval (PySem.Expr.Name (PySem.Str.ofString "divmod") _) _) _ _ _); (with_reducible rename Fr _ _ _ _ => kFzq); with_unfolding_all refine guard_global (by rfl) ?_; k_dflt (refine' name_B kFzq ?k1 ?k2 ?k3 ?k4 ?k5 ?_; (case k1 => k_asm); (case k2 => k_asm); (case k3 => k_is); (case k4 => first | exact boot_divmod); (case k5 => decide); k_whole))
  k_with "m size" => (simp only [PySem.Str.length_append, lit0, lit1, lit2, lit3, lit4, lit5, lit6, lit7, lit8, lit9, lit10, lit11, lit12, lit13, lit14, lit15, lit16, lit17, lit18, lit19, lit20, lit21, lit22, lit23, lit24, one_len]; rw [sizeLine_eq]; omega)
  k_with "x binaryOp Add str str" => (k_here; (with_reducible show wpAny _ _ (binaryOp Operator.Add (Value.str _ _) (Value.str _ _)) _ _ _); k_dflt (refine' PyProof.Rows.add_str ?h ?hz; (case hz => walk_at "m size")); intro t'zq tk'zq)
  k_with "m enterT" => ((case kA => exact rfl); (case kF => exact rfl); (case kK => assumption); (case kX => assumption); (case kT => assumption); (case kD => assumption); (case k1 => k_asm); (case k2 => k_asm); (case k3 => k_asm); (case k4 => k_asm); (case k5 => k_asm); (case k6 => k_is); (case k7 => k_is); (case k8 => first | exact room_up hdp (by decide) | k_room); (case k9 => exact BindsTo.of_eq rfl); (case c5 => decide); (case kB => exact locs rfl); (case c2 => exact rfl); (case c3 => exact rfl); (case c4 => exact rfl); k_whole; intro g'zq L'zq h'zq tk0zq FG'zq F'zq N'zq B'zq X'zq T'zq D'zq; (try dsimp only [List.reverse_cons, List.reverse_nil, List.nil_append, List.cons_append] at F'zq); (try k_fold))
  k_with "x call type:str" => (k_here; (with_reducible show wpAny _ _ (call (Value.type "str") [Value.ref _]) _ _ _); k_dflt (refine' str_caught ?kF ?kX ?kN ?kG ?kK ?ks ?ku ?_; (case kG => assumption); (case kN => assumption); (case kF => k_asm); (case kX => k_asm); (case kK => kts_isx); (case ks => k_is); (case ku => k_units); k_whole))
  k_with "x eval ListComp" => (k_here; lcp_look; k_dflt (refine LCp.ListComp_P (F₀ := by k_asm) (by with_unfolding_all rfl) (by decide) (by rfl) (by decide) (by rfl) (by rfl) (by decide) ?_); k_dflt lcp_toSrc)
  k_with "x SrcLP" => (k_here; k_dflt (refine LCp.SrcLP.ledger (by rfl) (by k_asm) (by k_asm) (by k_mem) (by rw [List.size_toArray]; refine Nat.le_trans (Nat.le_of_lt (by assumption)) (by decide)) ?_; intro g'zq; refine fst_rest rfl rfl (by decide) (DatAll.mono (fun p hp => List.mem_cons_of_mem _ (List.mem_cons_of_mem _ (List.mem_cons_of_mem _ hp))) (by assumption)) (Or.inr ⟨_, by k_mem, rfl, _, rfl⟩) ?_; intro ys9zq hys9zq; unfold LCg.FinE; intro D9zq h9zq tk9zq F9zq N9zq o9zq))
  have hlen : vs.length < 1000 := by rw [hD.length, List.length_map]; exact hv
  unfold Says
  intro dp un gd cn cs a ccd cl outer A₀ base h₀ L m s Q E B F X N T hk hdp hun hret
  walk_at "m begin"
  k_dflt (refine' code_def (binds := [("self", .ref R)]) ?k1 ?k2 ?k3 ?k4 ?k5 ?kA ?kF ?kK ?k6 ?k7 ?k8 ?k9 ?kB ?_ ?c2 ?c3 ?c4 ?c5)
  k_dflt walk_at "m enter"
  k_steps
  (rename News _ _ _ _ => N9)
  (rename LCg.Off1 _ _ => o9)
  (rename StrsAre _ _ => hy9)
  exact hret _ _ _ _ (by k_asm) (News.sub N9 fun p hp => (List.mem_append.mp hp).elim (List.mem_cons_of_mem _) fun h => (List.mem_singleton.mp h) ▸ List.mem_cons_self) ⟨_, _, _, rfl, rfl, List.mem_cons_self, hy9, after_off o9⟩
end
section -- MValues
set_option maxHeartbeats 4000000 in
theorem values_says {w : World} {mean : ExcName → Option Value} {mg mb : Str → Option Value} {R RD RL : Addr} {th : Tok} {vs : List Value} {ps : List (Str × Str)} {n : Nat} {rest : Led} (hD : DatAll rest vs (ps.map pairD)) (hv : ps.length < 1000) :
    Says w mean mg mb 30 141 [.ref R] [] ((R, instObj 184 RD) :: (RD, hdrD w th RL) :: (RL, listOf vs.toArray n) :: rest) (fun news' r => ∃ K ys tl, r = .ref K ∧ news' = ((R, instObj 184 RD) :: (RD, hdrD w th RL) :: (RL, listOf vs.toArray n) :: rest) ++ tl ∧ (K, LCg.lst ys) ∈ tl ∧ StrsAre ys (ps.map Prod.snd) ∧ After ((R, instObj 184 RD) :: (RD, hdrD w th RL) :: (RL, listOf vs.toArray n) :: rest) tl) := by
  k_with_none
  k_with "m depth" => (first | exact dep_up (by with_reducible assumption) (by decide) | ((try simp only [depth_mark, depth_under_make, depth_under_kw, depth_in1, depth_deeper, depth_caller] at *); (try dsimp only [ktrTop] at *); omega))
  k_with "m units" => (first | exact uni_up (by with_reducible assumption) (by decide) | ((try simp only [units_in1, units_deeper, Around.mark_units, units_caller] at *); (try dsimp only [ktrTop] at *); omega))
  k_with "m begin" => ((have flzq : P.heap_1 = P.heap_1 ∧ PySem.Challenge.rw_yh0023_01 = PySem.Challenge.rw_yh0023_01 := by (k_fill; exact fill)); (clear flzq); (refine wpAny_call ?_))
  k_with "m enter" => ((case kA => exact rfl); (case kF => exact rfl); (case kK => assumption); (case k1 => k_asm); (case k2 => k_asm); (case k3 => k_asm); (case k4 => k_asm); (case k5 => k_asm); (case k6 => k_is); (case k7 => k_is); (case k8 => first | exact room_up hdp (by decide) | k_room); (case k9 => exact BindsTo.of_eq rfl); (case c5 => decide); (case kB => exact locs rfl); (case c2 => exact rfl); (case c3 => exact rfl); (case c4 => exact rfl); k_whole; intro g'zq L'zq h'zq FG'zq F'zq N'zq B'zq X'zq T'zq; (try dsimp only [List.reverse_cons, List.reverse_nil, List.nil_append, List.cons_append] at F'zq); (try k_fold))
  k_with "x execs cons" => (k_here; (with_reducible refine wpAny_execs_cons ?_); k_fold)
  k_with "x call builtin:len" => (k_here; (with_reducible show wpAny _ _ (call (Value.builtin "len") [Value.ref _]) _ _ _); k_dflt (refine' m_len ?k1 ?k2 ?k3 ?_; (case k1 => k_asm); (case k2 => k_mem); (case k3 => omega)))
  k_with "x getMethod ref" => (k_here; k_dflt (first | ((with_reducible show wpAny _ _ (getMethod (Value.ref 48) _ _) _ _ _); refine PatAt.meth (pat_name (by k_in)) ?_) | ((with_reducible show wpAny _ _ (getMethod (Value.ref 53) _ _) _ _ _); refine PatAt.meth (pat_value (by k_in)) ?_)))
  k_with "x call builtin:re.Pattern.search" => (k_here; k_dflt (first | (refine call_search (pat_name (by k_in)) (name_fails (by assumption)) (by assumption) ?_) | (refine call_search (pat_value (by k_in)) (value_fails (by assumption)) (by assumption) ?_)))
  k_with "x call builtin:str.join" => (k_here; k_dflt (refine' m_join1 ?k1 ?k2 ?k3 ?k4 ?_; (case k1 => k_asm); (case k2 => k_mem); (case k3 => decide); (case k4 => assumption)); intro t'zq tk'zq)
  k_with "m enterC" => ((case kA => exact rfl); (case kF => exact rfl); (case kK => assumption); (case k1 => k_asm); (case k2 => k_asm); (case k3 => k_asm); (case k4 => k_asm); (case k5 => k_asm); (case k6 => k_is); (case k7 => k_is); (case k8 => first | exact room_up hdp (by decide) | k_room); (case k9 => exact BindsTo.of_eq rfl); (case kB => exact rfl); (case kD => decide +kernel); (case c2 => exact rfl); (case c3 => exact rfl); (case c4 => exact rfl); k_whole; intro g'zq L'zq h'zq tk'zq cells'zq FG'zq F'zq N'zq Y'zq B'zq X'zq T'zq l1zq; (have l9zq := l1zq); (try k_lt l1zq); k_cells Y'zq; (try simp only [List.cons_append, List.nil_append] at N'zq); (try dsimp only); (try k_fold))
  k_with "x call builtin:str.lower" => (k_here; (try dsimp only); (with_reducible show wpAny _ _ (call (Value.builtin "str.lower") [Value.str _ _]) _ _ _); (refine SCL.lower (by first | omega | exact Nat.le_trans (by assumption) (by decide)) ?_); intro _)
  k_with "m mem" => (repeat (first | assumption | apply List.mem_cons_of_mem))
  k_with "x subscriptTail" => (k_here; (with_reducible show wpAny _ _ (subscriptTail _ _ (Value.ref _) (Value.int _ _)) _ _ _); k_dflt (refine' item_tupleT (m_tup (by k_asm) ?hm) (by decide) (by decide) ?hj ?hv ?_; (case hm => first | k_mem | walk_at "m mem"); (case hj => rfl); (case hv => rfl)))
  k_with "m look" => first | exact rfl | assumption
  k_with "x eval Name" => (k_here; (with_reducible show wpAny _ _ (eval (PySem.Expr.Name _ _) (envOf _ _ _ _ _)) _ _ _); k_dflt (refine' ld ?k1 ?k2 ?_; (case k1 => k_asm); (case k2 => walk_at "m look"); k_whole))
  k_with "x eval Name" => (k_here; (with_reducible show wpAny _ _ (eval (PySem.Expr.Name (PySem.Str.ofString "divmod") _) _) _ _ _); (with_reducible rename Fr _ _ _ _ => kFzq); with_unfolding_all refine guard_global (by rfl) ?_; k_dflt (refine' name_B kFzq ?k1 ?k2 ?k3 ?k4 ?k5 ?_; (case k1 => k_asm); (case k2 => k_asm); (case k3 => k_is); (case k4 => first | exact boot_divmod); (case k5 => decide); k_whole))
  k_with "m size" => (simp only [PySem.Str.length_append, lit0, lit1, lit2, lit3, lit4, lit5, lit6, lit7, lit8, lit9, lit10, lit11, lit12, lit13, lit14, lit15, lit16, lit17, lit18, lit19, lit20, lit21, lit22, lit23, lit24, one_len]; rw [sizeLine_eq]; omega)
  k_with "x binaryOp Add str str" => (k_here; (with_reducible show wpAny _ _ (binaryOp Operator.Add (Value.str _ _) (Value.str _ _)) _ _ _); k_dflt (refine' PyProof.Rows.add_str ?h ?hz; (case hz => walk_at "m size")); intro t'zq tk'zq)
  k_with "m enterT" => ((case kA => exact rfl); (case kF => exact rfl); (case kK => assumption); (case kX => assumption); (case kT => assumption); (case kD => assumption); (case k1 => k_asm); (case k2 => k_asm); (case k3 => k_asm); (case k4 => k_asm); (case k5 => k_asm); (case k6 => k_is); (case k7 => k_is); (case k8 => first | exact room_up hdp (by decide) | k_room); (case k9 => exact BindsTo.of_eq rfl); (case c5 => decide); (case kB => exact locs rfl); (case c2 => exact rfl); (case c3 => exact rfl); (case c4 => exact rfl); k_whole; intro g'zq L'zq h'zq tk0zq FG'zq F'zq N'zq B'zq X'zq T'zq D'zq; (try dsimp only [List.reverse_cons, List.reverse_nil, List.nil_append, List.cons_append] at F'zq); (try k_fold))
  k_with "x call type:str" => (k_here; (with_reducible show wpAny _ _ (call (Value.type "str") [Value.ref _]) _ _ _); k_dflt (refine' str_caught ?kF ?kX ?kN ?kG ?kK ?ks ?ku ?_; (case kG => assumption); (case kN => assumption); (case kF => k_asm); (case kX => k_asm); (case kK => kts_isx); (case ks => k_is); (case ku => k_units); k_whole))
  k_with "x eval ListComp" => (k_here; lcp_look; k_dflt (refine LCp.ListComp_P (F₀ := by k_asm) (by with_unfolding_all rfl) (by decide) (by rfl) (by decide) (by rfl) (by rfl) (by decide) ?_); k_dflt lcp_toSrc)
  k_with "x SrcLP" => (k_here; k_dflt (refine LCp.SrcLP.ledger (by rfl) (by k_asm) (by k_asm) (by k_mem) (by rw [List.size_toArray]; refine Nat.le_trans (Nat.le_of_lt (by assumption)) (by decide)) ?_; intro g'zq; refine snd_rest rfl rfl (by decide) (DatAll.mono (fun p hp => List.mem_cons_of_mem _ (List.mem_cons_of_mem _ (List.mem_cons_of_mem _ hp))) (by assumption)) (Or.inr ⟨_, by k_mem, rfl, _, rfl⟩) ?_; intro ys9zq hys9zq; unfold LCg.FinE; intro D9zq h9zq tk9zq F9zq N9zq o9zq))
  have hlen : vs.length < 1000 := by rw [hD.length, List.length_map]; exact hv
  unfold Says
  intro dp un gd cn cs a ccd cl outer A₀ base h₀ L m s Q E B F X N T hk hdp hun hret
  walk_at "m begin"
  k_dflt (refine' code_def (binds := [("self", .ref R)]) ?k1 ?k2 ?k3 ?k4 ?k5 ?kA ?kF ?kK ?k6 ?k7 ?k8 ?k9 ?kB ?_ ?c2 ?c3 ?c4 ?c5)
  k_dflt walk_at "m enter"
  k_steps
  (rename News _ _ _ _ => N9)
  (rename LCg.Off1 _ _ => o9)
  (rename StrsAre _ _ => hy9)
  exact hret _ _ _ _ (by k_asm) (News.sub N9 fun p hp => (List.mem_append.mp hp).elim (List.mem_cons_of_mem _) fun h => (List.mem_singleton.mp h) ▸ List.mem_cons_self) ⟨_, _, _, rfl, rfl, List.mem_cons_self, hy9, after_off o9⟩
end
section -- MItems
set_option maxHeartbeats 4000000 in
theorem items_says {w : World} {mean : ExcName → Option Value} {mg mb : Str → Option Value} {R RD RL : Addr} {th : Tok} {vs : List Value} {ps : List (Str × Str)} {n : Nat} {rest : Led} (hD : DatAll rest vs (ps.map pairD)) (hv : ps.length < 1000) :
    Says w mean mg mb 30 148 [.ref R] [] ((R, instObj 184 RD) :: (RD, hdrD w th RL) :: (RL, listOf vs.toArray n) :: rest) (fun news' r => ∃ K n' tl, r = .ref K ∧ news' = ((R, instObj 184 RD) :: (RD, hdrD w th RL) :: (RL, listOf vs.toArray n) :: rest) ++ tl ∧ (K, listOf vs.toArray n') ∈ tl ∧ After ((R, instObj 184 RD) :: (RD, hdrD w th RL) :: (RL, listOf vs.toArray n) :: rest) tl) := by
  k_with_none
  k_with "m depth" => (first | exact dep_up (by with_reducible assumption) (by decide) | ((try simp only [depth_mark, depth_under_make, depth_under_kw, depth_in1, depth_deeper, depth_caller] at *); (try dsimp only [ktrTop] at *); omega))
  k_with "m units" => (first | exact uni_up (by with_reducible assumption) (by decide) | ((try simp only [units_in1, units_deeper, Around.mark_units, units_caller] at *); (try dsimp only [ktrTop] at *); omega))
  k_with "m begin" => ((have flzq : P.heap_1 = P.heap_1 ∧ PySem.Challenge.rw_yh0023_01 = PySem.Challenge.rw_yh0023_01 := by (k_fill; exact fill)); (clear flzq); (refine wpAny_call ?_))
  k_with "m enter" => ((case kA => exact rfl); (case kF => exact rfl); (case kK => assumption); (case k1 => k_asm); (case k2 => k_asm); (case k3 => k_asm); (case k4 => k_asm); (case k5 => k_asm); (case k6 => k_is); (case k7 => k_is); (case k8 => first | exact room_up hdp (by decide) | k_room); (case k9 => exact BindsTo.of_eq rfl); (case c5 => decide); (case kB => exact locs rfl); (case c2 => exact rfl); (case c3 => exact rfl); (case c4 => exact rfl); k_whole; intro g'zq L'zq h'zq FG'zq F'zq N'zq B'zq X'zq T'zq; (try dsimp only [List.reverse_cons, List.reverse_nil, List.nil_append, List.cons_append] at F'zq); (try k_fold))
  k_with "x execs cons" => (k_here; (with_reducible refine wpAny_execs_cons ?_); k_fold)
  k_with "x call builtin:len" => (k_here; (with_reducible show wpAny _ _ (call (Value.builtin "len") [Value.ref _]) _ _ _); k_dflt (refine' m_len ?k1 ?k2 ?k3 ?_; (case k1 => k_asm); (case k2 => k_mem); (case k3 => omega)))
  k_with "x getMethod ref" => (k_here; k_dflt (first | ((with_reducible show wpAny _ _ (getMethod (Value.ref 48) _ _) _ _ _); refine PatAt.meth (pat_name (by k_in)) ?_) | ((with_reducible show wpAny _ _ (getMethod (Value.ref 53) _ _) _ _ _); refine PatAt.meth (pat_value (by k_in)) ?_)))
  k_with "x call builtin:re.Pattern.search" => (k_here; k_dflt (first | (refine call_search (pat_name (by k_in)) (name_fails (by assumption)) (by assumption) ?_) | (refine call_search (pat_value (by k_in)) (value_fails (by assumption)) (by assumption) ?_)))
  k_with "x call builtin:str.join" => (k_here; k_dflt (refine' m_join1 ?k1 ?k2 ?k3 ?k4 ?_; (case k1 => k_asm); (case k2 => k_mem); (case k3 => decide); (case k4 => assumption)); intro t'zq tk'zq)
  k_with "m enterC" => ((case kA => exact rfl); (case kF => exact rfl); (case kK => assumption); (case k1 => k_asm); (case k2 => k_asm); (case k3 => k_asm); (case k4 => k_asm); (case k5 => k_asm); (case k6 => k_is); (case k7 => k_is); (case k8 => first | exact room_up hdp (by decide) | k_room); (case k9 => exact BindsTo.of_eq rfl); (case kB => exact rfl); (case kD => decide +kernel); (case c2 => exact rfl); (case c3 => exact rfl); (case c4 => exact rfl); k_whole; intro g'zq L'zq h'zq tk'zq cells'zq FG'zq F'zq N'zq Y'zq B'zq X'zq T'zq l1zq; (have l9zq := l1zq); (try k_lt l1zq); k_cells Y'zq; (try simp only [List.cons_append, List.nil_append] at N'zq); (try dsimp only); (try k_fold))
  k_with "x call builtin:str.lower" => (k_here; (try dsimp only); (with_reducible show wpAny _ _ (call (Value.builtin "str.lower") [Value.str _ _]) _ _ _); (refine SCL.lower (by first | omega | exact Nat.le_trans (by assumption) (by decide)) ?_); intro _)
  k_with "m mem" => (repeat (first | assumption | apply List.mem_cons_of_mem))
  k_with "x subscriptTail" => (k_here; (with_reducible show wpAny _ _ (subscriptTail _ _ (Value.ref _) (Value.int _ _)) _ _ _); k_dflt (refine' item_tupleT (m_tup (by k_asm) ?hm) (by decide) (by decide) ?hj ?hv ?_; (case hm => first | k_mem | walk_at "m mem"); (case hj => rfl); (case hv => rfl)))
  k_with "m look" => first | exact rfl | assumption
  k_with "x eval Name" => (k_here; (with_reducible show wpAny _ _ (eval (PySem.Expr.Name _ _) (envOf _ _ _ _ _)) _ _ _); k_dflt (refine' ld ?k1 ?k2 ?_; (case k1 => k_asm); (case k2 => walk_at "m look"); k_whole))
  k_with "x eval Name" => (k_here; (with_reducible show wpAny _ _ (eval (PySem.Expr.Name (PySem.Str.ofString "divmod") _) _) _ _ _); (with_reducible rename Fr _ _ _ _ => kFzq); with_unfolding_all refine guard_global (by rfl) ?_; k_dflt (refine' name_B kFzq ?k1 ?k2 ?k3 ?k4 ?k5 ?_; (case k1 => k_asm); (case k2 => k_asm); (case k3 => k_is); (case k4 => first | exact boot_divmod); (case k5 => decide); k_whole))
  k_with "m size" => (simp only [PySem.Str.length_append, lit0, lit1, lit2, lit3, lit4, lit5, lit6, lit7, lit8, lit9, lit10, lit11, lit12, lit13, lit14, lit15, lit16, lit17, lit18, lit19, lit20, lit21, lit22, lit23, lit24, one_len]; rw [sizeLine_eq]; omega)
  k_with "x binaryOp Add str str" => (k_here; (with_reducible show wpAny _ _ (binaryOp Operator.Add (Value.str _ _) (Value.str _ _)) _ _ _); k_dflt (refine' PyProof.Rows.add_str ?h ?hz; (case hz => walk_at "m size")); intro t'zq tk'zq)
  k_with "m enterT" => ((case kA => exact rfl); (case kF => exact rfl); (case kK => assumption); (case kX => assumption); (case kT => assumption); (case kD => assumption); (case k1 => k_asm); (case k2 => k_asm); (case k3 => k_asm); (case k4 => k_asm); (case k5 => k_asm); (case k6 => k_is); (case k7 => k_is); (case k8 => first | exact room_up hdp (by decide) | k_room); (case k9 => exact BindsTo.of_eq rfl); (case c5 => decide); (case kB => exact locs rfl); (case c2 => exact rfl); (case c3 => exact rfl); (case c4 => exact rfl); k_whole; intro g'zq L'zq h'zq tk0zq FG'zq F'zq N'zq B'zq X'zq T'zq D'zq; (try dsimp only [List.reverse_cons, List.reverse_nil, List.nil_append, List.cons_append] at F'zq); (try k_fold))
  k_with "x call type:str" => (k_here; (with_reducible show wpAny _ _ (call (Value.type "str") [Value.ref _]) _ _ _); k_dflt (refine' str_caught ?kF ?kX ?kN ?kG ?kK ?ks ?ku ?_; (case kG => assumption); (case kN => assumption); (case kF => k_asm); (case kX => k_asm); (case kK => kts_isx); (case ks => k_is); (case ku => k_units); k_whole))
  have hlen : vs.length < 1000 := by rw [hD.length, List.length_map]; exact hv
  unfold Says
  intro dp un gd cn cs a ccd cl outer A₀ base h₀ L m s Q E B F X N T hk hdp hun hret
  walk_at "m begin"
  k_dflt (refine' code_def (binds := [("self", .ref R)]) ?k1 ?k2 ?k3 ?k4 ?k5 ?kA ?kF ?kK ?k6 ?k7 ?k8 ?k9 ?kB ?_ ?c2 ?c3 ?c4 ?c5)
  k_dflt walk_at "m enter"
  k_steps
  (rename News h₀ L _ _ => N9)
  rw [pick_all] at N9
  exact hret _ _ _ _ (by k_asm) (News.sub N9 swap1) ⟨_, _, _, rfl, rfl, List.mem_cons_self, after_size (by assumption) 1 _⟩
end
section -- MTold
set_option maxHeartbeats 4000000 in
theorem told_says {w : World} {mean : ExcName → Option Value} {mg mb : Str → Option Value} {x host : Str} {t th t7 : Tok} {pa : Addr} {np l r : Nat} {news : Led} (hx : x.length ≤ 60) (hpeer : (pa, ({ cls := .type "tuple", data := .seq #[.str host th, .int 7 t7] np } : Obj)) ∈ news)
    (hl : Txt.find x (Str.ofString "(") = (l : Int)) (hr : Txt.find3 x (Str.ofString ")") ((l : Int) + 1) = (r : Int)) (hlr : l + 1 < r) (hrx : r < x.cps.size)
    (hp : (partsA x l r).length = 5 → ∃ n, PySem.intText? ((partsA x l r).getD 3 Str.empty) = some n) :
    SaysT w mean mg mb 30 286 [.str x t, .ref pa] [] news (fun news' v => ∃ tl, news' = news ++ tl ∧ After news tl ∧ DatIn tl v (toldD host x l r)) := by
  k_with_none
  k_with "m depth" => (first | exact dep_up (by with_reducible assumption) (by decide) | ((try simp only [depth_mark, depth_under_make, depth_under_kw, depth_in1, depth_deeper, depth_caller] at *); (try dsimp only [ktrTop] at *); omega))
  k_with "m units" => (first | exact uni_up (by with_reducible assumption) (by decide) | ((try simp only [units_in1, units_deeper, Around.mark_units, units_caller] at *); (try dsimp only [ktrTop] at *); omega))
  k_with "m begin" => ((have flzq : P.heap_1 = P.heap_1 ∧ PySem.Challenge.rw_yh0023_01 = PySem.Challenge.rw_yh0023_01 := by (k_fill; exact fill)); (clear flzq); (refine wpAny_call ?_))
  k_with "m enter" => ((case kA => exact rfl); (case kF => exact rfl); (case kK => assumption); (case k1 => k_asm); (case k2 => k_asm); (case k3 => k_asm); (case k4 => k_asm); (case k5 => k_asm); (case k6 => k_is); (case k7 => k_is); (case k8 => first | exact room_up hdp (by decide) | k_room); (case k9 => exact BindsTo.of_eq rfl); (case c5 => decide); (case kB => exact locs rfl); (case c2 => exact rfl); (case c3 => exact rfl); (case c4 => exact rfl); k_whole; intro g'zq L'zq h'zq FG'zq F'zq N'zq B'zq X'zq T'zq; (try dsimp only [List.reverse_cons, List.reverse_nil, List.nil_append, List.cons_append] at F'zq); (try k_fold))
  k_with "x execs cons" => (k_here; (with_reducible refine wpAny_execs_cons ?_); k_fold)
  k_with "x call builtin:len" => (k_here; (with_reducible show wpAny _ _ (call (Value.builtin "len") [Value.ref _]) _ _ _); k_dflt (refine' m_len ?k1 ?k2 ?k3 ?_; (case k1 => k_asm); (case k2 => k_mem); (case k3 => omega)))
  k_with "x getMethod ref" => (k_here; k_dflt (first | ((with_reducible show wpAny _ _ (getMethod (Value.ref 48) _ _) _ _ _); refine PatAt.meth (pat_name (by k_in)) ?_) | ((with_reducible show wpAny _ _ (getMethod (Value.ref 53) _ _) _ _ _); refine PatAt.meth (pat_value (by k_in)) ?_)))
  k_with "x call builtin:re.Pattern.search" => (k_here; k_dflt (first | (refine call_search (pat_name (by k_in)) (name_fails (by assumption)) (by assumption) ?_) | (refine call_search (pat_value (by k_in)) (value_fails (by assumption)) (by assumption) ?_)))
  k_with "x call builtin:str.join" => (k_here; k_dflt (refine' m_join1 ?k1 ?k2 ?k3 ?k4 ?_; (case k1 => k_asm); (case k2 => k_mem); (case k3 => decide); (case k4 => assumption)); intro t'zq tk'zq)
  k_with "m enterC" => ((case kA => exact rfl); (case kF => exact rfl); (case kK => assumption); (case k1 => k_asm); (case k2 => k_asm); (case k3 => k_asm); (case k4 => k_asm); (case k5 => k_asm); (case k6 => k_is); (case k7 => k_is); (case k8 => first | exact room_up hdp (by decide) | k_room); (case k9 => exact BindsTo.of_eq rfl); (case kB => exact rfl); (case kD => decide +kernel); (case c2 => exact rfl); (case c3 => exact rfl); (case c4 => exact rfl); k_whole; intro g'zq L'zq h'zq tk'zq cells'zq FG'zq F'zq N'zq Y'zq B'zq X'zq T'zq l1zq; (have l9zq := l1zq); (try k_lt l1zq); k_cells Y'zq; (try simp only [List.cons_append, List.nil_append] at N'zq); (try dsimp only); (try k_fold))
  k_with "x call builtin:str.lower" => (k_here; (try dsimp only); (with_reducible show wpAny _ _ (call (Value.builtin "str.lower") [Value.str _ _]) _ _ _); (refine SCL.lower (by first | omega | exact Nat.le_trans (by assumption) (by decide)) ?_); intro _)
  k_with "m mem" => (repeat (first | assumption | apply List.mem_cons_of_mem))
  k_with "x subscriptTail" => (k_here; (with_reducible show wpAny _ _ (subscriptTail _ _ (Value.ref _) (Value.int _ _)) _ _ _); k_dflt (refine' item_tupleT (m_tup (by k_asm) ?hm) (by decide) (by decide) ?hj ?hv ?_; (case hm => first | k_mem | walk_at "m mem"); (case hj => rfl); (case hv => rfl)))
  k_with "m look" => first | exact rfl | assumption
  k_with "x eval Name" => (k_here; (with_reducible show wpAny _ _ (eval (PySem.Expr.Name _ _) (envOf _ _ _ _ _)) _ _ _); k_dflt (refine' ld ?k1 ?k2 ?_; (case k1 => k_asm); (case k2 => walk_at "m look"); k_whole))
  k_with "x eval Name" => (k_here; (with_reducible show wpAny _ _ (eval (PySem.Expr.Name (PySem.Str.ofString "divmod") _) _) _ _ _); (with_reducible rename Fr _ _ _ _ => kFzq); with_unfolding_all refine guard_global (by rfl) ?_; k_dflt (refine' name_B kFzq ?k1 ?k2 ?k3 ?k4 ?k5 ?_; (case k1 => k_asm); (case k2 => k_asm); (case k3 => k_is); (case k4 => first | exact boot_divmod); (case k5 => decide); k_whole))
  k_with "m size" => (simp only [PySem.Str.length_append, lit0, lit1, lit2, lit3, lit4, lit5, lit6, lit7, lit8, lit9, lit10, lit11, lit12, lit13, lit14, lit15, lit16, lit17, lit18, lit19, lit20, lit21, lit22, lit23, lit24, one_len]; rw [sizeLine_eq]; omega)
  k_with "x binaryOp Add str str" => (k_here; (with_reducible show wpAny _ _ (binaryOp Operator.Add (Value.str _ _) (Value.str _ _)) _ _ _); k_dflt (refine' PyProof.Rows.add_str ?h ?hz; (case hz => walk_at "m size")); intro t'zq tk'zq)
  k_with "m enterT" => ((case kA => exact rfl); (case kF => exact rfl); (case kK => assumption); (case kX => assumption); (case kT => assumption); (case kD => assumption); (case k1 => k_asm); (case k2 => k_asm); (case k3 => k_asm); (case k4 => k_asm); (case k5 => k_asm); (case k6 => k_is); (case k7 => k_is); (case k8 => first | exact room_up hdp (by decide) | k_room); (case k9 => exact BindsTo.of_eq rfl); (case c5 => decide); (case kB => exact locs rfl); (case c2 => exact rfl); (case c3 => exact rfl); (case c4 => exact rfl); k_whole; intro g'zq L'zq h'zq tk0zq FG'zq F'zq N'zq B'zq X'zq T'zq D'zq; (try dsimp only [List.reverse_cons, List.reverse_nil, List.nil_append, List.cons_append] at F'zq); (try k_fold))
  k_with "x call type:str" => (k_here; (with_reducible show wpAny _ _ (call (Value.type "str") [Value.ref _]) _ _ _); k_dflt (refine' str_caught ?kF ?kX ?kN ?kG ?kK ?ks ?ku ?_; (case kG => assumption); (case kN => assumption); (case kF => k_asm); (case kX => k_asm); (case kK => kts_isx); (case ks => k_is); (case ku => k_units); k_whole))
  k_with "x call builtin:len cons ref" => ((with_reducible show wpAny _ _ (call (Value.builtin "len") [Value.ref _]) _ _ _); refine m_lenS (by with_reducible assumption) (.head _) (by omega) ?_)
  k_with "x call builtin:len" => ((with_reducible show wpAny _ _ (call (Value.builtin "len") [Value.ref _]) _ _ _); refine m_lenS (by with_reducible assumption) (.head _) (by omega) ?_)
  k_with "x subscriptTail Name Constant ref int" => ((with_reducible show wpAny _ _ (subscriptTail _ _ (Value.ref _) (Value.int _ _)) _ _ _); (with_reducible rename News _ _ _ _ => N9zq); (refine item_tupleT (m_tup N9zq (by first | with_reducible assumption | exact List.mem_cons_of_mem _ (by with_reducible assumption))) (by decide) (by decide) (by rfl) (by rfl) ?_))
  k_with "m size" => (simp only [PySem.Str.length_append, one_len]; rw [sizeLine_eq]; omega)
  have hxs : x.cps.size ≤ 60 := hx
  unfold SaysT
  intro dp un gd cn cs a ccd cl outer A₀ base h₀ L m s Q E B F X N T XB TB D hk hdp hun hret
  walk_at "m begin"
  k_dflt (refine' code_defT (binds := [("reply", .str x t), ("peer", .ref pa)]) ?k1 ?k2 ?k3 ?k4 ?k5 ?kX ?kT ?kD ?kA ?kF ?kK ?k6 ?k7 ?k8 ?k9 ?kB ?_ ?c2 ?c3 ?c4 ?c5)
  k_dflt walk_at "m enterT"
  k_with "call builtin:str.find" => (first
   | ((with_reducible show wpAny _ _ (call (Value.builtin "str.find") [Value.str _ _, Value.str _ _]) _ _ _); refine SC.find ?_; rw [hl])
   | ((with_reducible show wpAny _ _ (call (Value.builtin "str.find") [Value.str _ _, Value.str _ _, Value.int _ _]) _ _ _); refine SC.find3 ?_; rw [hr]))
  k_with "subscriptTail Name BinOp str int" => ((with_reducible show wpAny _ _ (subscriptTail _ _ (Value.str _ _) (Value.int _ _)) _ _ _); k_dflt (refine' m_item ?k0 ?k1 ?k2 ?_; (case k0 => omega); (case k1 => omega); (case k2 => first | assumption | omega)))
  k_with "call type:int" => ((rename (List.map _ _ = _) => hq9); (rename (_ = some _) => hy9); (rename (_ = (5 : Int)) => h59); (rename (∀ _, _ ∈ _ → _) => hle9); refine KIN.call_text (told_part hq9 h59 hy9 hp) (by have z1 := hle9 _ (List.mem_of_getElem? hy9); have z2 := Txt.slice_le x (some ((l : Int) + 1)) (some (r : Int)); omega) ?_)
  k_steps
  all_goals try (refine LeaveT.mk (by first | with_reducible assumption | exact KtsTurn.refl) (by with_reducible assumption) (News.sub (by with_reducible assumption) (by first | with_reducible assumption | exact fun _ h => h | exact fun _ h => List.mem_cons_of_mem _ h)) (fun h₁ T1 F1 N1 B1 X1 P1 D1 => hret _ _ _ _ h₁ T1 F1 N1 B1 X1 P1 D1 ⟨[], (List.append_nil _).symm, After.nil, ?_⟩))
  all_goals (try dsimp only)
  all_goals first
  | exact toldD_code (by with_reducible assumption)
  | exact toldD_sign (by with_reducible assumption) (by with_reducible assumption) (by omega)
  | exact toldD_parts (by with_reducible assumption) (by with_reducible assumption) (by omega) (by with_reducible assumption) (by with_reducible assumption)
  | ((rename (x == x) = false => hx9); simp at hx9; done)
  | exact LeaveT.mk KtsTurn.refl (by with_reducible assumption) (News.sub (by with_reducible assumption) (fun p hp => (List.mem_append.mp hp).elim (fun h => List.mem_cons_of_mem _ (List.mem_cons_of_mem _ h)) fun h => List.mem_cons.mpr (.inl (List.mem_singleton.mp h)))) (fun h₁ T1 F1 N1 B1 X1 P1 D1 => hret _ _ _ _ h₁ T1 F1 N1 B1 X1 P1 D1 ⟨_, rfl, after_lt (And.right (by with_reducible assumption)), toldD_whole (by with_reducible assumption) (by with_reducible assumption) (by omega) (by with_reducible assumption) (by with_reducible assumption) (.head _)⟩)
end
section -- MRead
local macro_rules | `(tactic| walk_at "WhlIf") => `(tactic| (refine m_whlif ?t ?f; (case' t => (intro hw9; (simp only [decide_eq_true_eq] at hw9); (try dsimp only))); (case' f => (intro hw9; (simp only [decide_eq_false_iff_not] at hw9); (try dsimp only)))))
set_option maxHeartbeats 4000000 in
theorem read_says {w : World} {mean : ExcName → Option Value} {mg mb : Str → Option Value} {x : Str} {t : Tok} {news : Led} (hx : x.length ≤ 60) (hx5 : 5 ≤ x.cps.size) :
    SaysT w mean mg mb 30 279 [.str x t] [] news (fun news' r => news' = news ∧ DatIn news r (readD x)) := by
  k_with_none
  k_with "m depth" => (first | exact dep_up (by with_reducible assumption) (by decide) | ((try simp only [depth_mark, depth_under_make, depth_under_kw, depth_in1, depth_deeper, depth_caller] at *); (try dsimp only [ktrTop] at *); omega))
  k_with "m units" => (first | exact uni_up (by with_reducible assumption) (by decide) | ((try simp only [units_in1, units_deeper, Around.mark_units, units_caller] at *); (try dsimp only [ktrTop] at *); omega))
  k_with "m begin" => ((have flzq : P.heap_1 = P.heap_1 ∧ PySem.Challenge.rw_yh0023_01 = PySem.Challenge.rw_yh0023_01 := by (k_fill; exact fill)); (clear flzq); (refine wpAny_call ?_))
  k_with "m enter" => ((case kA => exact rfl); (case kF => exact rfl); (case kK => assumption); (case k1 => k_asm); (case k2 => k_asm); (case k3 => k_asm); (case k4 => k_asm); (case k5 => k_asm); (case k6 => k_is); (case k7 => k_is); (case k8 => first | exact room_up hdp (by decide) | k_room); (case k9 => exact BindsTo.of_eq rfl); (case c5 => decide); (case kB => exact locs rfl); (case c2 => exact rfl); (case c3 => exact rfl); (case c4 => exact rfl); k_whole; intro g'zq L'zq h'zq FG'zq F'zq N'zq B'zq X'zq T'zq; (try dsimp only [List.reverse_cons, List.reverse_nil, List.nil_append, List.cons_append] at F'zq); (try k_fold))
  k_with "x call builtin:len" => (k_here; (with_reducible show wpAny _ _ (call (Value.builtin "len") [Value.ref _]) _ _ _); k_dflt (refine' m_len ?k1 ?k2 ?k3 ?_; (case k1 => k_asm); (case k2 => k_mem); (case k3 => omega)))
  k_with "x getMethod ref" => (k_here; k_dflt (first | ((with_reducible show wpAny _ _ (getMethod (Value.ref 48) _ _) _ _ _); refine PatAt.meth (pat_name (by k_in)) ?_) | ((with_reducible show wpAny _ _ (getMethod (Value.ref 53) _ _) _ _ _); refine PatAt.meth (pat_value (by k_in)) ?_)))
  k_with "x call builtin:re.Pattern.search" => (k_here; k_dflt (first | (refine call_search (pat_name (by k_in)) (name_fails (by assumption)) (by assumption) ?_) | (refine call_search (pat_value (by k_in)) (value_fails (by assumption)) (by assumption) ?_)))
  k_with "x call builtin:str.join" => (k_here; k_dflt (refine' m_join1 ?k1 ?k2 ?k3 ?k4 ?_; (case k1 => k_asm); (case k2 => k_mem); (case k3 => decide); (case k4 => assumption)); intro t'zq tk'zq)
  k_with "m enterC" => ((case kA => exact rfl); (case kF => exact rfl); (case kK => assumption); (case k1 => k_asm); (case k2 => k_asm); (case k3 => k_asm); (case k4 => k_asm); (case k5 => k_asm); (case k6 => k_is); (case k7 => k_is); (case k8 => first | exact room_up hdp (by decide) | k_room); (case k9 => exact BindsTo.of_eq rfl); (case kB => exact rfl); (case kD => decide +kernel); (case c2 => exact rfl); (case c3 => exact rfl); (case c4 => exact rfl); k_whole; intro g'zq L'zq h'zq tk'zq cells'zq FG'zq F'zq N'zq Y'zq B'zq X'zq T'zq l1zq; (have l9zq := l1zq); (try k_lt l1zq); k_cells Y'zq; (try simp only [List.cons_append, List.nil_append] at N'zq); (try dsimp only); (try k_fold))
  k_with "x call builtin:str.lower" => (k_here; (try dsimp only); (with_reducible show wpAny _ _ (call (Value.builtin "str.lower") [Value.str _ _]) _ _ _); (refine SCL.lower (by first | omega | exact Nat.le_trans (by assumption) (by decide)) ?_); intro _)
  k_with "m mem" => (repeat (first | assumption | apply List.mem_cons_of_mem))
  k_with "x subscriptTail" => (k_here; (with_reducible show wpAny _ _ (subscriptTail _ _ (Value.ref _) (Value.int _ _)) _ _ _); k_dflt (refine' item_tupleT (m_tup (by k_asm) ?hm) (by decide) (by decide) ?hj ?hv ?_; (case hm => first | k_mem | walk_at "m mem"); (case hj => rfl); (case hv => rfl)))
  k_with "m look" => first | exact rfl | assumption
  k_with "x eval Name" => (k_here; (with_reducible show wpAny _ _ (eval (PySem.Expr.Name _ _) (envOf _ _ _ _ _)) _ _ _); k_dflt (refine' ld ?k1 ?k2 ?_; (case k1 => k_asm); (case k2 => walk_at "m look"); k_whole))
  k_with "x eval Name" => (k_here; (with_reducible show wpAny _ _ (eval (PySem.Expr.Name (PySem.Str.ofString "divmod") _) _) _ _ _); (with_reducible rename Fr _ _ _ _ => kFzq); with_unfolding_all refine guard_global (by rfl) ?_; k_dflt (refine' name_B kFzq ?k1 ?k2 ?k3 ?k4 ?k5 ?_; (case k1 => k_asm); (case k2 => k_asm); (case k3 => k_is); (case k4 => first | exact boot_divmod); (case k5 => decide); k_whole))
  k_with "m size" => (simp only [PySem.Str.length_append, lit0, lit1, lit2, lit3, lit4, lit5, lit6, lit7, lit8, lit9, lit10, lit11, lit12, lit13, lit14, lit15, lit16, lit17, lit18, lit19, lit20, lit21, lit22, lit23, lit24, one_len]; rw [sizeLine_eq]; omega)
  k_with "x binaryOp Add str str" => (k_here; (with_reducible show wpAny _ _ (binaryOp Operator.Add (Value.str _ _) (Value.str _ _)) _ _ _); k_dflt (refine' PyProof.Rows.add_str ?h ?hz; (case hz => walk_at "m size")); intro t'zq tk'zq)
  k_with "m enterT" => ((case kA => exact rfl); (case kF => exact rfl); (case kK => assumption); (case kX => assumption); (case kT => assumption); (case kD => assumption); (case k1 => k_asm); (case k2 => k_asm); (case k3 => k_asm); (case k4 => k_asm); (case k5 => k_asm); (case k6 => k_is); (case k7 => k_is); (case k8 => first | exact room_up hdp (by decide) | k_room); (case k9 => exact BindsTo.of_eq rfl); (case c5 => decide); (case kB => exact locs rfl); (case c2 => exact rfl); (case c3 => exact rfl); (case c4 => exact rfl); k_whole; intro g'zq L'zq h'zq tk0zq FG'zq F'zq N'zq B'zq X'zq T'zq D'zq; (try dsimp only [List.reverse_cons, List.reverse_nil, List.nil_append, List.cons_append] at F'zq); (try k_fold))
  k_with "x call type:str" => (k_here; (with_reducible show wpAny _ _ (call (Value.type "str") [Value.ref _]) _ _ _); k_dflt (refine' str_caught ?kF ?kX ?kN ?kG ?kK ?ks ?ku ?_; (case kG => assumption); (case kN => assumption); (case kF => k_asm); (case kX => k_asm); (case kK => kts_isx); (case ks => k_is); (case ku => k_units); k_whole))
  k_with "x subscriptTail Name Name str int" => (k_here; (with_reducible show wpAny _ _ (subscriptTail _ _ (Value.str _ _) (Value.int _ _)) _ _ _); k_dflt (refine' m_item ?k0 ?k1 ?k2 ?_; (case k0 => omega); (case k1 => omega); (case k2 => first | assumption | omega)); (try simp only [Int.toNat_natCast, toNat_succ]))
  k_with "m size" => (simp only [PySem.Str.length_append, one_len]; rw [sizeLine_eq]; omega)
  have hxs : x.cps.size ≤ 60 := hx
  unfold SaysT
  intro dp un gd cn cs a ccd cl outer A₀ base h₀ L m s Q E B F X N T XB TB D hk hdp hun hret
  walk_at "m begin"
  k_dflt (refine' code_defT (binds := [("reply", .str x t)]) ?k1 ?k2 ?k3 ?k4 ?k5 ?kX ?kT ?kD ?kA ?kF ?kK ?k6 ?k7 ?k8 ?k9 ?kB ?_ ?c2 ?c3 ?c4 ?c5)
  k_dflt walk_at "m enterT"
  k_with "m while" => ((rename Fr _ _ _ _ => F9); (rename News _ _ _ _ => N9); refine m_while (n₀ := x.cps.size - 5) (fun j m nw => (∀ p ∈ news, p ∈ nw) ∧ ∃ (i : Nat) (d : Str) (t1 t2 t3 t4 : Tok), m "resp" = some (.str x t1) ∧ m "i" = some (.int i t2) ∧ m "n" = some (.int x.cps.size t3) ∧ m "dirname" = some (.str d t4) ∧ j = x.cps.size - i ∧ 5 ≤ i ∧ i ≤ x.cps.size ∧ d.length ≤ i ∧ d.cps.toList ++ P257 (x.cps.toList.drop i) = P257 (x.cps.toList.drop 5)) F9 N9 ?init ?turn (hE := by passes_own); (case init => k_dflt exact ⟨fun _ h => h, 5, Str.ofString "", _, _, _, _, rfl, rfl, rfl, rfl, rfl, Nat.le_refl _, hx5, by rw [lit19]; omega, by rw [show (Str.ofString "").cps.toList = [] from by decide +kernel, List.nil_append]⟩); (case' turn => (clear F9 N9; rintro j m9 nw h9 tk9 F9 N9 ⟨hnw, i, d, t1, t2, t3, t4, hresp, hi, hn, hdir, hj, hi5, hin, hdl, hP⟩; (try dsimp only))))
  k_steps
  all_goals (try (dsimp only; refine MStep.brk ?_; k_steps))
  all_goals try refine LeaveT.mk (by first | with_reducible assumption | exact KtsTurn.refl) (by with_reducible assumption) (News.sub (by with_reducible assumption) (by first | with_reducible assumption | exact fun _ h => h)) (fun h₁ T1 F1 N1 B1 X1 P1 D1 => hret _ _ _ _ h₁ T1 F1 N1 B1 X1 P1 D1 ⟨rfl, ?_⟩)
  all_goals (try dsimp only)
  all_goals first
  | exact readD_no (by with_reducible assumption)
  | exact readD_mt (by with_reducible assumption) (by with_reducible assumption)
  | exact readD_end (by with_reducible assumption) (by with_reducible assumption) (P_a hP (by with_reducible assumption))
  | exact readD_end (by with_reducible assumption) (by with_reducible assumption) (P_b hP (by with_reducible assumption) (by with_reducible assumption) (by with_reducible assumption))
  | exact readD_end (by with_reducible assumption) (by with_reducible assumption) (P_c hP (by with_reducible assumption) (by with_reducible assumption) (by with_reducible assumption) (by with_reducible assumption))
  | ((rename (x == x) = false => hx9); simp at hx9; done)
  | skip
  · (rename Fr _ _ _ _ => F9)
    (rename News _ _ _ _ => N9)
    exact MStep.next (n' := x.cps.size - (i + 2)) F9 N9 (by omega) ⟨hnw, i + 2, _, _, _, _, _, hresp, congrArg (fun z => some (Value.int z _)) (show (i : Int) + 1 + 1 = ((i + 2 : Nat) : Int) by omega), hn, rfl, rfl, by omega, by omega, by simp only [PySem.Str.length_append, one_len]; omega, P_d hP (by with_reducible assumption) (by with_reducible assumption) (by with_reducible assumption) (by with_reducible assumption)⟩
  · (rename Fr _ _ _ _ => F9)
    (rename News _ _ _ _ => N9)
    exact MStep.next (n' := x.cps.size - (i + 1)) F9 N9 (by omega) ⟨hnw, i + 1, _, _, _, _, _, hresp, congrArg (fun z => some (Value.int z _)) (show (i : Int) + 1 = ((i + 1 : Nat) : Int) by omega), hn, rfl, rfl, by omega, by omega, by simp only [PySem.Str.length_append, one_len]; omega, P_e hP (by with_reducible assumption) (by with_reducible assumption)⟩
end
section -- MUse
theorem After.mono {l l' tl : Led} (h : After l tl) (hs : ∀ p ∈ l', p ∈ l) : After l' tl := fun q hq p hp => h q (hs q hq) p hp
theorem After.cons {l tl : Led} {q : Addr × Obj} (h1 : After l [q]) (h2 : After l tl) : After l (q :: tl) := fun x hx p hp => by
  rcases List.mem_cons.mp hp with rfl | hp
  · exact h1 x hx _ (.head _)
  · exact h2 x hx p hp
section
variable {w : World} {mean : ExcName → Option Value} {mg mb : Str → Option Value} {R RD RL : Addr} {th : Tok} {vs : List Value} {ps : List (Str × Str)} {n : Nat} {nw : Led}
    {dp un : Nat} {gd : Option (List Code)} {cn : Str} {cs : Scope} {a : Addr} {ccd : Value} {cl : List (Str × Addr)} {outer : List Env} {A₀ : Around} {base h₀ : Heap} {L : Addr} {m : Str → Option Value} {s : Shared} {Q E : Value → Shared → Prop}
theorem keys_use (m1 : (R, instObj 184 RD) ∈ nw) (m2 : (RD, hdrD w th RL) ∈ nw) (m3 : (RL, listOf vs.toArray n) ∈ nw) (hD : DatAll nw vs (ps.map pairD)) (hv : ps.length < 1000)
    (B : Below A₀ base outer h₀) (F : Fr h₀ L s.heap m) (X : (P.heap_1 w.params).In h₀) (N : News h₀ L s.heap nw) (T : Top P.view_1 LO mean mg mb h₀) (hk : cs.kind = .function) (hd : dp < 30 + 300) (hu : un < 10 * 30)
    (ret : ∀ K ys h' tk', Fr h₀ L h' m → News h₀ L h' ((K, LCg.lst ys) :: nw) → StrsAre ys (ps.map Prod.fst) → After nw [(K, LCg.lst ys)] → Q (.ref K) { s with heap := h', toks := tk' }) :
    wpAny (model PySem.Challenge.rw_yh0023_01.row.prog w) (ktrTop dp un gd cn cs L a ccd cl outer) (call (.ref 136) [.ref R] []) Q E s := by
  have hsub : ∀ p ∈ (R, instObj 184 RD) :: (RD, hdrD w th RL) :: (RL, listOf vs.toArray n) :: nw, p ∈ nw := List.forall_mem_cons.mpr ⟨m1, List.forall_mem_cons.mpr ⟨m2, List.forall_mem_cons.mpr ⟨m3, fun _ h => h⟩⟩⟩
  refine Says.use (keys_says (R := R) (RD := RD) (RL := RL) (th := th) (vs := vs) (ps := ps) (n := n) (rest := nw) hD hv) B F X (News.sub N hsub) T hk hd hu ?_
  rintro r news' h' tk' F' N' ⟨K, ys, tl, rfl, rfl, hm, hy, ha⟩
  refine ret K ys h' tk' F' (News.sub N' (List.forall_mem_cons.mpr ⟨List.mem_append_right _ hm, fun p hp => List.mem_append_left _ (.tail _ (.tail _ (.tail _ hp)))⟩)) hy fun q hq p hp => ?_
  rw [List.mem_singleton.mp hp]
  exact ha q (.tail _ (.tail _ (.tail _ hq))) _ hm
theorem values_use (m1 : (R, instObj 184 RD) ∈ nw) (m2 : (RD, hdrD w th RL) ∈ nw) (m3 : (RL, listOf vs.toArray n) ∈ nw) (hD : DatAll nw vs (ps.map pairD)) (hv : ps.length < 1000)
    (B : Below A₀ base outer h₀) (F : Fr h₀ L s.heap m) (X : (P.heap_1 w.params).In h₀) (N : News h₀ L s.heap nw) (T : Top P.view_1 LO mean mg mb h₀) (hk : cs.kind = .function) (hd : dp < 30 + 300) (hu : un < 10 * 30)
    (ret : ∀ K ys h' tk', Fr h₀ L h' m → News h₀ L h' ((K, LCg.lst ys) :: nw) → StrsAre ys (ps.map Prod.snd) → After nw [(K, LCg.lst ys)] → Q (.ref K) { s with heap := h', toks := tk' }) :
    wpAny (model PySem.Challenge.rw_yh0023_01.row.prog w) (ktrTop dp un gd cn cs L a ccd cl outer) (call (.ref 141) [.ref R] []) Q E s := by
  have hsub : ∀ p ∈ (R, instObj 184 RD) :: (RD, hdrD w th RL) :: (RL, listOf vs.toArray n) :: nw, p ∈ nw := List.forall_mem_cons.mpr ⟨m1, List.forall_mem_cons.mpr ⟨m2, List.forall_mem_cons.mpr ⟨m3, fun _ h => h⟩⟩⟩
  refine Says.use (values_says (R := R) (RD := RD) (RL := RL) (th := th) (vs := vs) (ps := ps) (n := n) (rest := nw) hD hv) B F X (News.sub N hsub) T hk hd hu ?_
  rintro r news' h' tk' F' N' ⟨K, ys, tl, rfl, rfl, hm, hy, ha⟩
  refine ret K ys h' tk' F' (News.sub N' (List.forall_mem_cons.mpr ⟨List.mem_append_right _ hm, fun p hp => List.mem_append_left _ (.tail _ (.tail _ (.tail _ hp)))⟩)) hy fun q hq p hp => ?_
  rw [List.mem_singleton.mp hp]
  exact ha q (.tail _ (.tail _ (.tail _ hq))) _ hm
theorem items_use (m1 : (R, instObj 184 RD) ∈ nw) (m2 : (RD, hdrD w th RL) ∈ nw) (m3 : (RL, listOf vs.toArray n) ∈ nw) (hD : DatAll nw vs (ps.map pairD)) (hv : ps.length < 1000)
    (B : Below A₀ base outer h₀) (F : Fr h₀ L s.heap m) (X : (P.heap_1 w.params).In h₀) (N : News h₀ L s.heap nw) (T : Top P.view_1 LO mean mg mb h₀) (hk : cs.kind = .function) (hd : dp < 30 + 300) (hu : un < 10 * 30)
    (ret : ∀ K n' h' tk', Fr h₀ L h' m → News h₀ L h' ((K, listOf vs.toArray n') :: nw) → After nw [(K, listOf vs.toArray n')] → Q (.ref K) { s with heap := h', toks := tk' }) :
    wpAny (model PySem.Challenge.rw_yh0023_01.row.prog w) (ktrTop dp un gd cn cs L a ccd cl outer) (call (.ref 148) [.ref R] []) Q E s := by
  have hsub : ∀ p ∈ (R, instObj 184 RD) :: (RD, hdrD w th RL) :: (RL, listOf vs.toArray n) :: nw, p ∈ nw := List.forall_mem_cons.mpr ⟨m1, List.forall_mem_cons.mpr ⟨m2, List.forall_mem_cons.mpr ⟨m3, fun _ h => h⟩⟩⟩
  refine Says.use (items_says (R := R) (RD := RD) (RL := RL) (th := th) (vs := vs) (ps := ps) (n := n) (rest := nw) hD hv) B F X (News.sub N hsub) T hk hd hu ?_
  rintro r news' h' tk' F' N' ⟨K, n', tl, rfl, rfl, hm, ha⟩
  refine ret K n' h' tk' F' (News.sub N' (List.forall_mem_cons.mpr ⟨List.mem_append_right _ hm, fun p hp => List.mem_append_left _ (.tail _ (.tail _ (.tail _ hp)))⟩)) fun q hq p hp => ?_
  rw [List.mem_singleton.mp hp]
  exact ha q (.tail _ (.tail _ (.tail _ hq))) _ hm
end
theorem known_rest {tag w n k : Nat} (h1 : k ≤ n) (h2 : n ≤ k + w) : (k : Int) + Int.fmod (((tag + n % (w + 1) : Nat) : Int) - (tag : Int) - (k : Int)) ((w + 1 : Nat) : Int) = (n : Int) := by
  have e1 : ((tag + n % (w + 1) : Nat) : Int) - (tag : Int) - (k : Int) = ((n % (w + 1) : Nat) : Int) - (k : Int) := by omega
  rw [e1, Int.fmod_eq_emod_of_nonneg _ (by omega)]
  have e2 : (((n % (w + 1) : Nat) : Int) - (k : Int)) % ((w + 1 : Nat) : Int) = ((n : Int) - (k : Int)) % ((w + 1 : Nat) : Int) := by
    rw [Int.natCast_emod, Int.emod_sub_emod]
  rw [e2, Int.emod_eq_of_lt (by omega) (by omega)]
  omega
theorem strsDat {news : Led} : ∀ {ys : List Value} {xs : List Str}, StrsAre ys xs → DatAll news ys (xs.map Dat.str)
  | _, _, .nil => .nil
  | _, _, .cons x t r => .cons (.str x t) (strsDat r)
theorem seenA_cases {news : Led} {host : Str} {n k : Nat} {r : Value} (hk : k < 6) (h : DatIn news r (seenA host n k)) :
    (k < 3 ∧ ∃ TP th tp np, r = .ref TP ∧ (TP, ({ cls := .type "tuple", data := .seq #[.str host th, .int (n : Int) tp] np } : Obj)) ∈ news) ∨ (¬k < 3 ∧ ∃ y t, r = .str y t) := by
  have tup : DatIn news r (.tuple [.str host, .int n]) → ∃ TP th tp np, r = .ref TP ∧ (TP, ({ cls := .type "tuple", data := .seq #[.str host th, .int (n : Int) tp] np } : Obj)) ∈ news := by
    intro h
    cases h with
    | tuple hm hd =>
      cases hd with
      | cons h1 hd =>
        cases hd with
        | cons h2 hd =>
          cases hd
          cases h1
          cases h2
          exact ⟨_, _, _, _, rfl, hm⟩
  have str : ∀ x, DatIn news r (.str x) → ∃ y t, r = .str y t := by
    intro x h
    cases h
    exact ⟨_, _, rfl⟩
  match k, hk with
  | 0, _ => exact .inl ⟨by decide, tup h⟩
  | 1, _ => exact .inl ⟨by decide, tup h⟩
  | 2, _ => exact .inl ⟨by decide, tup h⟩
  | 3, _ => exact .inr ⟨by decide, str _ h⟩
  | 4, _ => exact .inr ⟨by decide, str _ h⟩
  | 5, _ => exact .inr ⟨by decide, str _ h⟩
theorem seenP_cases {news : Led} {x : Str} {k : Nat} {r : Value} (hk : k < 6) (h : DatIn news r (optD (seenO x k))) :
    (k < 3 ∧ ∃ t, r = .str x t) ∨ (¬k < 3 ∧ (r = .none ∨ ∃ t, r = .str (Str.ofString "") t)) := by
  match k, hk with
  | 0, _ => have h : DatIn news r (.str x) := h; cases h; exact .inl ⟨by decide, _, rfl⟩
  | 1, _ => have h : DatIn news r (.str x) := h; cases h; exact .inl ⟨by decide, _, rfl⟩
  | 2, _ => have h : DatIn news r (.str x) := h; cases h; exact .inl ⟨by decide, _, rfl⟩
  | 3, _ => have h : DatIn news r .none := h; cases h; exact .inr ⟨by decide, .inl rfl⟩
  | 4, _ => have h : DatIn news r (.str _) := h; cases h; exact .inr ⟨by decide, .inr ⟨_, rfl⟩⟩
  | 5, _ => have h : DatIn news r (.str _) := h; cases h; exact .inr ⟨by decide, .inr ⟨_, rfl⟩⟩
theorem stepS_3y {c : Par} {S : St} {e : Nat} {p : Pk} {r : List Pk} (hl : S.back = p :: r) (hk : p.k < 3) : stepS c 3 e S = { S with known := p.n } := by
  unfold stepS; rw [if_neg (by decide), if_neg (by decide), if_neg (by decide), if_pos rfl, hl]; exact if_pos hk
theorem stepS_3n {c : Par} {S : St} {e : Nat} {p : Pk} {r : List Pk} (hl : S.back = p :: r) (hk : ¬p.k < 3) : stepS c 3 e S = S := by
  unfold stepS; rw [if_neg (by decide), if_neg (by decide), if_neg (by decide), if_pos rfl, hl]; exact if_neg hk
theorem stepS_3nil {c : Par} {S : St} {e : Nat} (hl : S.back = []) : stepS c 3 e S = S := by
  unfold stepS; rw [if_neg (by decide), if_neg (by decide), if_neg (by decide), if_pos rfl, hl]
theorem stepD_3 {c : Par} {S : St} {p : Pk} {r : List Pk} (hl : S.back = p :: r) : stepD c 3 S = dueD (S.back.map c.word) (S.back.map c.atxt) (c.aseen p) := by
  unfold stepD; rw [if_neg (by decide), if_pos rfl, hl]
theorem stepD_3nil {c : Par} {S : St} (hl : S.back = []) : stepD c 3 S = .none := by
  unfold stepD; rw [if_neg (by decide), if_pos rfl, hl]
/-- what a reading tells, in the ledger -/
theorem due_in {news : Led} {TT K V : Addr} {ys zs : List Value} {ws xs : List Str} {r : Value} {seen : Dat} {n : Nat} (hT : (TT, ({ cls := .type "tuple", data := .seq #[.ref K, .ref V, r] n } : Obj)) ∈ news) (hK : (K, LCg.lst ys) ∈ news) (hV : (V, LCg.lst zs) ∈ news)
    (hy : StrsAre ys ws) (hz : StrsAre zs xs) (hr : DatIn news r seen) : DatIn news (.ref TT) (dueD ws xs seen) :=
  DatIn.tuple (vs := [.ref K, .ref V, r]) hT (.cons (.list hK (strsDat hy)) (.cons (.list hV (strsDat hz)) (.cons hr .nil)))
theorem after_all {D : Addr} {o : Obj} {l : Led} (h : ∀ p ∈ l, p.1 < D) : After l [(D, o)] := fun q hq p hp => by
  rw [List.mem_singleton.mp hp]; exact Nat.ne_of_gt (h q hq)
section
variable {w : World} {c : Par} {ad : Ad} {S S' : St} {due seen : Dat} {vs1 vs2 gv : List Value} {n1 n2 gn : Nat} {rest tl9 hd : Led} {X1 X2 X5 X6 X7 : Addr × Obj} {TA TT K V : Addr} {ys zs : List Value} {ws xs : List Str} {r : Value} {tk : Tok} {nt nt' : Nat} {z : Int}
theorem told_sub {qA qT qV qK : Addr × Obj} : ∀ p ∈ LD w ad vs1 vs2 gv n1 n2 gn (rest ++ (qA :: qT :: qV :: qK :: tl9)), p ∈ qA :: qT :: (hd ++ ((X1 :: X2 :: qV :: qK :: X5 :: X6 :: X7 :: LD w ad vs1 vs2 gv n1 n2 gn rest) ++ tl9)) := by
  intro p hp
  have hp' : p ∈ LD w ad vs1 vs2 gv n1 n2 gn rest ++ (qA :: qT :: qV :: qK :: tl9) := hp
  rcases List.mem_append.mp hp' with h | h
  · exact .tail _ (.tail _ (List.mem_append_right _ (List.mem_append_left _ (.tail _ (.tail _ (.tail _ (.tail _ (.tail _ (.tail _ (.tail _ h))))))))))
  · rcases List.mem_cons.mp h with rfl | h
    · exact .head _
    · rcases List.mem_cons.mp h with rfl | h
      · exact .tail _ (.head _)
      · rcases List.mem_cons.mp h with rfl | h
        · exact .tail _ (.tail _ (List.mem_append_right _ (List.mem_append_left _ (.tail _ (.tail _ (.head _))))))
        · rcases List.mem_cons.mp h with rfl | h
          · exact .tail _ (.tail _ (List.mem_append_right _ (List.mem_append_left _ (.tail _ (.tail _ (.tail _ (.head _)))))))
          · exact .tail _ (.tail _ (List.mem_append_right _ (List.mem_append_right _ h)))
theorem told_post (hl : S'.lane = S.lane) (hb : S'.back = S.back) (ht : S'.taken = S.taken) (H : Has c S vs1 vs2 gv rest) (aA : ∀ o, After (LD w ad vs1 vs2 gv n1 n2 gn rest) [(TA, o)]) (aT : ∀ o, After (LD w ad vs1 vs2 gv n1 n2 gn rest) [(TT, o)])
    (aV : After (LD w ad vs1 vs2 gv n1 n2 gn rest) [(V, LCg.lst zs)]) (aK : After (LD w ad vs1 vs2 gv n1 n2 gn rest) [(K, LCg.lst ys)]) (a9 : After (LD w ad vs1 vs2 gv n1 n2 gn rest) tl9)
    (hy : StrsAre ys ws) (hz : StrsAre zs xs) (hr : DatIn tl9 r seen) (hd : due = dueD ws xs seen) (hk : z = (S'.known : Int)) :
    DeedPost w c ad (LD w ad vs1 vs2 gv n1 n2 gn rest) rest S' due (LD w ad vs1 vs2 gv n1 n2 gn (rest ++ ((TA, { cls := .type "tuple", data := .seq #[.int z tk, .ref TT] nt }) :: (TT, { cls := .type "tuple", data := .seq #[.ref K, .ref V, r] nt' }) :: (V, LCg.lst zs) :: (K, LCg.lst ys) :: tl9))) (.ref TA) := by
  subst hk hd
  refine DeedPost.mk (After.cons (aA _) (After.cons (aT _) (After.cons aV (After.cons aK a9)))) (by rw [hl]; exact H.d1.mono fun p hp => List.mem_append_left _ hp) (by rw [hb]; exact H.d2.mono fun p hp => List.mem_append_left _ hp) (by rw [ht]; exact H.g) (.head _) ?_
  exact due_in (List.mem_append_right _ (.tail _ (.head _))) (List.mem_append_right _ (.tail _ (.tail _ (.tail _ (.head _))))) (List.mem_append_right _ (.tail _ (.tail _ (.head _)))) hy hz (hr.mono fun p hp => List.mem_append_right _ (.tail _ (.tail _ (.tail _ (.tail _ hp)))))
end
theorem map_ap1 {c : Par} {l : List Pk} : (l.map c.ap).map Prod.fst = l.map c.word := by rw [List.map_map]; rfl
theorem map_ap2 {c : Par} {l : List Pk} : (l.map c.ap).map Prod.snd = l.map c.atxt := by rw [List.map_map]; rfl
theorem map_pp1 {c : Par} {l : List Pk} : (l.map c.pp).map Prod.fst = l.map c.word := by rw [List.map_map]; rfl
theorem map_pp2 {c : Par} {l : List Pk} : (l.map c.pp).map Prod.snd = l.map c.ptxt := by rw [List.map_map]; rfl
end
section -- MI2A
set_option maxHeartbeats 4000000 in
theorem i2a_says {w : World} {mean : ExcName → Option Value} {mg mb : Str → Option Value} {n : Int} {t : Tok} {news : Led} (hn : n.natAbs < 1000) :
    Says w mean mg mb 30 246 [.int n t] [] news (fun news' r => news' = news ∧ ∃ u, r = .bytes (apF 3 n.natAbs).toArray u) := by
  k_with_none
  k_with "m depth" => (first | exact dep_up (by with_reducible assumption) (by decide) | ((try simp only [depth_mark, depth_under_make, depth_under_kw, depth_in1, depth_deeper, depth_caller] at *); (try dsimp only [ktrTop] at *); omega))
  k_with "m units" => (first | exact uni_up (by with_reducible assumption) (by decide) | ((try simp only [units_in1, units_deeper, Around.mark_units, units_caller] at *); (try dsimp only [ktrTop] at *); omega))
  k_with "m begin" => ((have flzq : P.heap_1 = P.heap_1 ∧ PySem.Challenge.rw_yh0023_01 = PySem.Challenge.rw_yh0023_01 := by (k_fill; exact fill)); (clear flzq); (refine wpAny_call ?_))
  k_with "m enter" => ((case kA => exact rfl); (case kF => exact rfl); (case kK => assumption); (case k1 => k_asm); (case k2 => k_asm); (case k3 => k_asm); (case k4 => k_asm); (case k5 => k_asm); (case k6 => k_is); (case k7 => k_is); (case k8 => first | exact room_up hdp (by decide) | k_room); (case k9 => exact BindsTo.of_eq rfl); (case c5 => decide); (case kB => exact locs rfl); (case c2 => exact rfl); (case c3 => exact rfl); (case c4 => exact rfl); k_whole; intro g'zq L'zq h'zq FG'zq F'zq N'zq B'zq X'zq T'zq; (try dsimp only [List.reverse_cons, List.reverse_nil, List.nil_append, List.cons_append] at F'zq); (try k_fold))
  k_with "x execs cons" => (k_here; (with_reducible refine wpAny_execs_cons ?_); k_fold)
  k_with "x call builtin:len" => (k_here; (with_reducible show wpAny _ _ (call (Value.builtin "len") [Value.ref _]) _ _ _); k_dflt (refine' m_len ?k1 ?k2 ?k3 ?_; (case k1 => k_asm); (case k2 => k_mem); (case k3 => omega)))
  k_with "x getMethod ref" => (k_here; k_dflt (first | ((with_reducible show wpAny _ _ (getMethod (Value.ref 48) _ _) _ _ _); refine PatAt.meth (pat_name (by k_in)) ?_) | ((with_reducible show wpAny _ _ (getMethod (Value.ref 53) _ _) _ _ _); refine PatAt.meth (pat_value (by k_in)) ?_)))
  k_with "x call builtin:re.Pattern.search" => (k_here; k_dflt (first | (refine call_search (pat_name (by k_in)) (name_fails (by assumption)) (by assumption) ?_) | (refine call_search (pat_value (by k_in)) (value_fails (by assumption)) (by assumption) ?_)))
  k_with "x call builtin:str.join" => (k_here; k_dflt (refine' m_join1 ?k1 ?k2 ?k3 ?k4 ?_; (case k1 => k_asm); (case k2 => k_mem); (case k3 => decide); (case k4 => assumption)); intro t'zq tk'zq)
  k_with "m enterC" => ((case kA => exact rfl); (case kF => exact rfl); (case kK => assumption); (case k1 => k_asm); (case k2 => k_asm); (case k3 => k_asm); (case k4 => k_asm); (case k5 => k_asm); (case k6 => k_is); (case k7 => k_is); (case k8 => first | exact room_up hdp (by decide) | k_room); (case k9 => exact BindsTo.of_eq rfl); (case kB => exact rfl); (case kD => decide +kernel); (case c2 => exact rfl); (case c3 => exact rfl); (case c4 => exact rfl); k_whole; intro g'zq L'zq h'zq tk'zq cells'zq FG'zq F'zq N'zq Y'zq B'zq X'zq T'zq l1zq; (have l9zq := l1zq); (try k_lt l1zq); k_cells Y'zq; (try simp only [List.cons_append, List.nil_append] at N'zq); (try dsimp only); (try k_fold))
  k_with "x call builtin:str.lower" => (k_here; (try dsimp only); (with_reducible show wpAny _ _ (call (Value.builtin "str.lower") [Value.str _ _]) _ _ _); (refine SCL.lower (by first | omega | exact Nat.le_trans (by assumption) (by decide)) ?_); intro _)
  k_with "m mem" => (repeat (first | assumption | apply List.mem_cons_of_mem))
  k_with "x subscriptTail" => (k_here; (with_reducible show wpAny _ _ (subscriptTail _ _ (Value.ref _) (Value.int _ _)) _ _ _); k_dflt (refine' item_tupleT (m_tup (by k_asm) ?hm) (by decide) (by decide) ?hj ?hv ?_; (case hm => first | k_mem | walk_at "m mem"); (case hj => rfl); (case hv => rfl)))
  k_with "m look" => first | exact rfl | assumption
  k_with "x eval Name" => (k_here; (with_reducible show wpAny _ _ (eval (PySem.Expr.Name _ _) (envOf _ _ _ _ _)) _ _ _); k_dflt (refine' ld ?k1 ?k2 ?_; (case k1 => k_asm); (case k2 => walk_at "m look"); k_whole))
  k_with "x eval Name" => (k_here; (with_reducible show wpAny _ _ (eval (PySem.Expr.Name (PySem.Str.ofString "divmod") _) _) _ _ _); (with_reducible rename Fr _ _ _ _ => kFzq); with_unfolding_all refine guard_global (by rfl) ?_; k_dflt (refine' name_B kFzq ?k1 ?k2 ?k3 ?k4 ?k5 ?_; (case k1 => k_asm); (case k2 => k_asm); (case k3 => k_is); (case k4 => first | exact boot_divmod); (case k5 => decide); k_whole))
  k_with "m size" => (simp only [PySem.Str.length_append, lit0, lit1, lit2, lit3, lit4, lit5, lit6, lit7, lit8, lit9, lit10, lit11, lit12, lit13, lit14, lit15, lit16, lit17, lit18, lit19, lit20, lit21, lit22, lit23, lit24, one_len]; rw [sizeLine_eq]; omega)
  k_with "x binaryOp Add str str" => (k_here; (with_reducible show wpAny _ _ (binaryOp Operator.Add (Value.str _ _) (Value.str _ _)) _ _ _); k_dflt (refine' PyProof.Rows.add_str ?h ?hz; (case hz => walk_at "m size")); intro t'zq tk'zq)
  k_with "m enterT" => ((case kA => exact rfl); (case kF => exact rfl); (case kK => assumption); (case kX => assumption); (case kT => assumption); (case kD => assumption); (case k1 => k_asm); (case k2 => k_asm); (case k3 => k_asm); (case k4 => k_asm); (case k5 => k_asm); (case k6 => k_is); (case k7 => k_is); (case k8 => first | exact room_up hdp (by decide) | k_room); (case k9 => exact BindsTo.of_eq rfl); (case c5 => decide); (case kB => exact locs rfl); (case c2 => exact rfl); (case c3 => exact rfl); (case c4 => exact rfl); k_whole; intro g'zq L'zq h'zq tk0zq FG'zq F'zq N'zq B'zq X'zq T'zq D'zq; (try dsimp only [List.reverse_cons, List.reverse_nil, List.nil_append, List.cons_append] at F'zq); (try k_fold))
  k_with "x call type:str" => (k_here; (with_reducible show wpAny _ _ (call (Value.type "str") [Value.ref _]) _ _ _); k_dflt (refine' str_caught ?kF ?kX ?kN ?kG ?kK ?ks ?ku ?_; (case kG => assumption); (case kN => assumption); (case kF => k_asm); (case kX => k_asm); (case kK => kts_isx); (case ks => k_is); (case ku => k_units); k_whole))
  k_with "x subscriptTail" => (k_here; (with_reducible show wpAny _ _ (subscriptTail _ (Expr.Slice _ _ none _) (Value.bytes _ _) (Value.ref _)) _ _ _); (with_reducible rename Fr _ _ _ _ => F'zq); (with_reducible rename News _ _ _ _ => N'zq); k_dflt (refine m_letter (s := ⟨_, _, _, _, _⟩) F'zq N'zq ?_); intro h'zq t'zq k'zq F''zq N''zq; (try dsimp only))
  k_with "x binaryOp Add" => (k_here; (with_reducible show wpAny _ _ (binaryOp _ (Value.bytes _ _) (Value.bytes _ _)) _ _ _); k_dflt (refine m_addb (by assumption) ?_); intro t'zq k'zq; (try dsimp only))
  unfold Says
  intro dp un gd cn cs a ccd cl outer A₀ base h₀ L m s Q E B F X N T hk hdp hun hret
  walk_at "m begin"
  k_dflt (refine' code_def (binds := [("num", .int n t)]) ?k1 ?k2 ?k3 ?k4 ?k5 ?kA ?kF ?kK ?k6 ?k7 ?k8 ?k9 ?kB ?_ ?c2 ?c3 ?c4 ?c5)
  k_dflt walk_at "m enter"
  k_with "m while" => ((rename Fr _ _ _ _ => F9); (rename News _ _ _ _ => N9); refine m_while (n₀ := n.natAbs) (fun j m nw => (∀ p ∈ news, p ∈ nw) ∧ ∃ (k : Nat) (v : Array UInt8) (t1 t2 t3 : Tok), m "num" = some (.int k t1) ∧ m "val" = some (.bytes v t2) ∧ m "AP" = some (.bytes APb t3) ∧ j = k ∧ k < 1000 ∧ apF 3 k ++ v.toList = apF 3 n.natAbs) F9 N9 ?init ?turn (hE := by passes_own); (case init => k_dflt exact ⟨fun _ h => h, n.natAbs, #[], _, _, _, congrArg (fun z => some (Value.int z _)) (show (if n < 0 then -n else n) = (n.natAbs : Int) by omega), rfl, rfl, rfl, hn, by simp⟩); (case' turn => (clear F9 N9; rintro j m9 nw h9 tk9 F9 N9 ⟨hnw, k, v, t1, t2, t3, hnum, hval, hAP, hj, hk1, hap⟩; (have hvz := apF_rest hap); (try dsimp only))))
  k_steps
  · (rename ((_ != _) = _) => hw9)
    have hk0 : k = 0 := by simpa using hw9
    subst hk0
    have hv9 : v = (apF 3 n.natAbs).toArray := by rw [← hap]; simp [apF]
    exact hret _ _ _ _ (by k_asm) (News.sub (by k_asm) hnw) ⟨rfl, _, by rw [hv9]⟩
  · (rename Fr _ _ _ _ => F9)
    (rename News _ _ _ _ => N9)
    (rename ((_ != _) = _) => hw9)
    have hk0 : k ≠ 0 := by simpa using hw9
    refine ⟨_, _, _, _, k / 16, rfl, F9, N9, by omega, ?_⟩
    k_dflt exact ⟨fun p hp => .tail _ (hnw p hp), k / 16, _, _, _, _, congrArg (fun z => some (Value.int z _)) (fdiv16 k), rfl, hAP, rfl, by omega, by
      rw [← hap, apF_step (by omega) hk0]; simp⟩
end
section -- MAns
set_option maxHeartbeats 4000000 in
theorem ans_says {w : World} {mean : ExcName → Option Value} {mg mb : Str → Option Value} {n : Nat} {t : Tok} {k : Nat} {u : Tok} {news : Led} (hk6 : k < 6) (hn : n < 320) (hp : (PySem.Str.ofString (toString (n : Int))).length ≤ 4) :
    Says w mean mg mb 30 272 [.int n t, .int k u] [] news (fun news' r => news' = news ∧ ∃ u, r = .str (ansS n k) u) := by
  k_with_none
  k_with "m depth" => (first | exact dep_up (by with_reducible assumption) (by decide) | ((try simp only [depth_mark, depth_under_make, depth_under_kw, depth_in1, depth_deeper, depth_caller] at *); (try dsimp only [ktrTop] at *); omega))
  k_with "m units" => (first | exact uni_up (by with_reducible assumption) (by decide) | ((try simp only [units_in1, units_deeper, Around.mark_units, units_caller] at *); (try dsimp only [ktrTop] at *); omega))
  k_with "m begin" => ((have flzq : P.heap_1 = P.heap_1 ∧ PySem.Challenge.rw_yh0023_01 = PySem.Challenge.rw_yh0023_01 := by (k_fill; exact fill)); (clear flzq); (refine wpAny_call ?_))
  k_with "m enter" => ((case kA => exact rfl); (case kF => exact rfl); (case kK => assumption); (case k1 => k_asm); (case k2 => k_asm); (case k3 => k_asm); (case k4 => k_asm); (case k5 => k_asm); (case k6 => k_is); (case k7 => k_is); (case k8 => first | exact room_up hdp (by decide) | k_room); (case k9 => exact BindsTo.of_eq rfl); (case c5 => decide); (case kB => exact locs rfl); (case c2 => exact rfl); (case c3 => exact rfl); (case c4 => exact rfl); k_whole; intro g'zq L'zq h'zq FG'zq F'zq N'zq B'zq X'zq T'zq; (try dsimp only [List.reverse_cons, List.reverse_nil, List.nil_append, List.cons_append] at F'zq); (try k_fold))
  k_with "x execs cons" => (k_here; (with_reducible refine wpAny_execs_cons ?_); k_fold)
  k_with "x call builtin:len" => (k_here; (with_reducible show wpAny _ _ (call (Value.builtin "len") [Value.ref _]) _ _ _); k_dflt (refine' m_len ?k1 ?k2 ?k3 ?_; (case k1 => k_asm); (case k2 => k_mem); (case k3 => omega)))
  k_with "x getMethod ref" => (k_here; k_dflt (first | ((with_reducible show wpAny _ _ (getMethod (Value.ref 48) _ _) _ _ _); refine PatAt.meth (pat_name (by k_in)) ?_) | ((with_reducible show wpAny _ _ (getMethod (Value.ref 53) _ _) _ _ _); refine PatAt.meth (pat_value (by k_in)) ?_)))
  k_with "x call builtin:re.Pattern.search" => (k_here; k_dflt (first | (refine call_search (pat_name (by k_in)) (name_fails (by assumption)) (by assumption) ?_) | (refine call_search (pat_value (by k_in)) (value_fails (by assumption)) (by assumption) ?_)))
  k_with "x call builtin:str.join" => (k_here; k_dflt (refine' m_join1 ?k1 ?k2 ?k3 ?k4 ?_; (case k1 => k_asm); (case k2 => k_mem); (case k3 => decide); (case k4 => assumption)); intro t'zq tk'zq)
  k_with "m enterC" => ((case kA => exact rfl); (case kF => exact rfl); (case kK => assumption); (case k1 => k_asm); (case k2 => k_asm); (case k3 => k_asm); (case k4 => k_asm); (case k5 => k_asm); (case k6 => k_is); (case k7 => k_is); (case k8 => first | exact room_up hdp (by decide) | k_room); (case k9 => exact BindsTo.of_eq rfl); (case kB => exact rfl); (case kD => decide +kernel); (case c2 => exact rfl); (case c3 => exact rfl); (case c4 => exact rfl); k_whole; intro g'zq L'zq h'zq tk'zq cells'zq FG'zq F'zq N'zq Y'zq B'zq X'zq T'zq l1zq; (have l9zq := l1zq); (try k_lt l1zq); k_cells Y'zq; (try simp only [List.cons_append, List.nil_append] at N'zq); (try dsimp only); (try k_fold))
  k_with "x call builtin:str.lower" => (k_here; (try dsimp only); (with_reducible show wpAny _ _ (call (Value.builtin "str.lower") [Value.str _ _]) _ _ _); (refine SCL.lower (by first | omega | exact Nat.le_trans (by assumption) (by decide)) ?_); intro _)
  k_with "m mem" => (repeat (first | assumption | apply List.mem_cons_of_mem))
  k_with "x subscriptTail" => (k_here; (with_reducible show wpAny _ _ (subscriptTail _ _ (Value.ref _) (Value.int _ _)) _ _ _); k_dflt (refine' item_tupleT (m_tup (by k_asm) ?hm) (by decide) (by decide) ?hj ?hv ?_; (case hm => first | k_mem | walk_at "m mem"); (case hj => rfl); (case hv => rfl)))
  k_with "m look" => first | exact rfl | assumption
  k_with "x eval Name" => (k_here; (with_reducible show wpAny _ _ (eval (PySem.Expr.Name _ _) (envOf _ _ _ _ _)) _ _ _); k_dflt (refine' ld ?k1 ?k2 ?_; (case k1 => k_asm); (case k2 => walk_at "m look"); k_whole))
  k_with "x eval Name" => (k_here; (with_reducible show wpAny _ _ (eval (PySem.Expr.Name (PySem.Str.ofString "divmod") _) _) _ _ _); (with_reducible rename Fr _ _ _ _ => kFzq); with_unfolding_all refine guard_global (by rfl) ?_; k_dflt (refine' name_B kFzq ?k1 ?k2 ?k3 ?k4 ?k5 ?_; (case k1 => k_asm); (case k2 => k_asm); (case k3 => k_is); (case k4 => first | exact boot_divmod); (case k5 => decide); k_whole))
  k_with "m size" => (simp only [PySem.Str.length_append, lit0, lit1, lit2, lit3, lit4, lit5, lit6, lit7, lit8, lit9, lit10, lit11, lit12, lit13, lit14, lit15, lit16, lit17, lit18, lit19, lit20, lit21, lit22, lit23, lit24, one_len]; rw [sizeLine_eq]; omega)
  k_with "x binaryOp Add str str" => (k_here; (with_reducible show wpAny _ _ (binaryOp Operator.Add (Value.str _ _) (Value.str _ _)) _ _ _); k_dflt (refine' PyProof.Rows.add_str ?h ?hz; (case hz => walk_at "m size")); intro t'zq tk'zq)
  k_with "m enterT" => ((case kA => exact rfl); (case kF => exact rfl); (case kK => assumption); (case kX => assumption); (case kT => assumption); (case kD => assumption); (case k1 => k_asm); (case k2 => k_asm); (case k3 => k_asm); (case k4 => k_asm); (case k5 => k_asm); (case k6 => k_is); (case k7 => k_is); (case k8 => first | exact room_up hdp (by decide) | k_room); (case k9 => exact BindsTo.of_eq rfl); (case c5 => decide); (case kB => exact locs rfl); (case c2 => exact rfl); (case c3 => exact rfl); (case c4 => exact rfl); k_whole; intro g'zq L'zq h'zq tk0zq FG'zq F'zq N'zq B'zq X'zq T'zq D'zq; (try dsimp only [List.reverse_cons, List.reverse_nil, List.nil_append, List.cons_append] at F'zq); (try k_fold))
  k_with "x call type:str" => (k_here; (with_reducible show wpAny _ _ (call (Value.type "str") [Value.ref _]) _ _ _); k_dflt (refine' str_caught ?kF ?kX ?kN ?kG ?kK ?ks ?ku ?_; (case kG => assumption); (case kN => assumption); (case kF => k_asm); (case kX => k_asm); (case kK => kts_isx); (case ks => k_is); (case ku => k_units); k_whole))
  k_with "x binaryOp Mult str int" => (k_here; k_dflt (refine m_marks ?_); intro t'zq tk'zq hmkzq)
  unfold Says
  intro dp un gd cn cs a ccd cl outer A₀ base h₀ L m s Q E B F X N T hk hdp hun hret
  walk_at "m begin"
  k_dflt (refine' code_def (binds := [("number", .int n t), ("kind", .int k u)]) ?k1 ?k2 ?k3 ?k4 ?k5 ?kA ?kF ?kK ?k6 ?k7 ?k8 ?k9 ?kB ?_ ?c2 ?c3 ?c4 ?c5)
  k_dflt walk_at "m enter"
  k_steps
  (rename News _ _ _ _ => N9)
  refine item_strsA (l := [_, _, _, _, _, _]) ⟨_, (N9 _ (.head _)).1, rfl, _, rfl⟩ (.cons _ _ (.cons _ _ (.cons _ _ (.cons _ _ (.cons _ _ (.cons _ _ .nil)))))) (by omega) (by simp only [List.length_cons, List.length_nil]; omega) (by omega) ?_
  intro t9
  (try dsimp only)
  k_steps
  exact hret _ _ _ _ (by k_asm) (News.sub (by k_asm) (fun p hp => by walk_at "m mem")) ⟨rfl, t9, rfl⟩
end
section -- MConv
set_option maxHeartbeats 4000000 in
theorem conv_says {w : World} {mean : ExcName → Option Value} {mg mb : Str → Option Value} {R : Addr} {x : Str} {t : Tok} {b : Bool} {news : Led} (hx : okText x) (hsz : x.cps.size ≤ 1000000) :
    Says w mean mg mb 40 83 [.ref R, .str x t] [("name", .bool b)] (news) (fun news' r => news' = news ∧ r = .str x t) := by
  k_with_none
  k_with "m depth" => (first | exact dep_up (by with_reducible assumption) (by decide) | ((try simp only [depth_mark, depth_under_make, depth_under_kw, depth_in1, depth_deeper, depth_caller] at *); (try dsimp only [ktrTop] at *); omega))
  k_with "m units" => (first | exact uni_up (by with_reducible assumption) (by decide) | ((try simp only [units_in1, units_deeper, Around.mark_units, units_caller] at *); (try dsimp only [ktrTop] at *); omega))
  k_with "m begin" => ((have flzq : P.heap_1 = P.heap_1 ∧ PySem.Challenge.rw_yh0023_01 = PySem.Challenge.rw_yh0023_01 := by (k_fill; exact fill)); (clear flzq); (refine wpAny_call ?_))
  k_with "m enter" => ((case kA => exact rfl); (case kF => exact rfl); (case kK => assumption); (case k1 => k_asm); (case k2 => k_asm); (case k3 => k_asm); (case k4 => k_asm); (case k5 => k_asm); (case k6 => k_is); (case k7 => k_is); (case k8 => first | exact room_up hdp (by decide) | k_room); (case k9 => exact BindsTo.of_eq rfl); (case c5 => decide); (case kB => exact locs rfl); (case c2 => exact rfl); (case c3 => exact rfl); (case c4 => exact rfl); k_whole; intro g'zq L'zq h'zq FG'zq F'zq N'zq B'zq X'zq T'zq; (try dsimp only [List.reverse_cons, List.reverse_nil, List.nil_append, List.cons_append] at F'zq); (try k_fold))
  k_with "x execs cons" => (k_here; (with_reducible refine wpAny_execs_cons ?_); k_fold)
  k_with "x call builtin:len" => (k_here; (with_reducible show wpAny _ _ (call (Value.builtin "len") [Value.ref _]) _ _ _); k_dflt (refine' m_len ?k1 ?k2 ?k3 ?_; (case k1 => k_asm); (case k2 => k_mem); (case k3 => omega)))
  k_with "x getMethod ref" => (k_here; k_dflt (first | ((with_reducible show wpAny _ _ (getMethod (Value.ref 48) _ _) _ _ _); refine PatAt.meth (pat_name (by k_in)) ?_) | ((with_reducible show wpAny _ _ (getMethod (Value.ref 53) _ _) _ _ _); refine PatAt.meth (pat_value (by k_in)) ?_)))
  k_with "x call builtin:re.Pattern.search" => (k_here; k_dflt (first | (refine call_search (pat_name (by k_in)) (name_fails (by assumption)) (by assumption) ?_) | (refine call_search (pat_value (by k_in)) (value_fails (by assumption)) (by assumption) ?_)))
  k_with "x call builtin:str.join" => (k_here; k_dflt (refine' m_join1 ?k1 ?k2 ?k3 ?k4 ?_; (case k1 => k_asm); (case k2 => k_mem); (case k3 => decide); (case k4 => assumption)); intro t'zq tk'zq)
  k_with "m enterC" => ((case kA => exact rfl); (case kF => exact rfl); (case kK => assumption); (case k1 => k_asm); (case k2 => k_asm); (case k3 => k_asm); (case k4 => k_asm); (case k5 => k_asm); (case k6 => k_is); (case k7 => k_is); (case k8 => first | exact room_up hdp (by decide) | k_room); (case k9 => exact BindsTo.of_eq rfl); (case kB => exact rfl); (case kD => decide +kernel); (case c2 => exact rfl); (case c3 => exact rfl); (case c4 => exact rfl); k_whole; intro g'zq L'zq h'zq tk'zq cells'zq FG'zq F'zq N'zq Y'zq B'zq X'zq T'zq l1zq; (have l9zq := l1zq); (try k_lt l1zq); k_cells Y'zq; (try simp only [List.cons_append, List.nil_append] at N'zq); (try dsimp only); (try k_fold))
  k_with "x call builtin:str.lower" => (k_here; (try dsimp only); (with_reducible show wpAny _ _ (call (Value.builtin "str.lower") [Value.str _ _]) _ _ _); (refine SCL.lower (by first | omega | exact Nat.le_trans (by assumption) (by decide)) ?_); intro _)
  k_with "m mem" => (repeat (first | assumption | apply List.mem_cons_of_mem))
  k_with "x subscriptTail" => (k_here; (with_reducible show wpAny _ _ (subscriptTail _ _ (Value.ref _) (Value.int _ _)) _ _ _); k_dflt (refine' item_tupleT (m_tup (by k_asm) ?hm) (by decide) (by decide) ?hj ?hv ?_; (case hm => first | k_mem | walk_at "m mem"); (case hj => rfl); (case hv => rfl)))
  k_with "m look" => first | exact rfl | assumption
  k_with "x eval Name" => (k_here; (with_reducible show wpAny _ _ (eval (PySem.Expr.Name _ _) (envOf _ _ _ _ _)) _ _ _); k_dflt (refine' ld ?k1 ?k2 ?_; (case k1 => k_asm); (case k2 => walk_at "m look"); k_whole))
  k_with "x eval Name" => (k_here; (with_reducible show wpAny _ _ (eval (PySem.Expr.Name (PySem.Str.ofString "divmod") _) _) _ _ _); (with_reducible rename Fr _ _ _ _ => kFzq); with_unfolding_all refine guard_global (by rfl) ?_; k_dflt (refine' name_B kFzq ?k1 ?k2 ?k3 ?k4 ?k5 ?_; (case k1 => k_asm); (case k2 => k_asm); (case k3 => k_is); (case k4 => first | exact boot_divmod); (case k5 => decide); k_whole))
  k_with "m size" => (simp only [PySem.Str.length_append, lit0, lit1, lit2, lit3, lit4, lit5, lit6, lit7, lit8, lit9, lit10, lit11, lit12, lit13, lit14, lit15, lit16, lit17, lit18, lit19, lit20, lit21, lit22, lit23, lit24, one_len]; rw [sizeLine_eq]; omega)
  k_with "x binaryOp Add str str" => (k_here; (with_reducible show wpAny _ _ (binaryOp Operator.Add (Value.str _ _) (Value.str _ _)) _ _ _); k_dflt (refine' PyProof.Rows.add_str ?h ?hz; (case hz => walk_at "m size")); intro t'zq tk'zq)
  k_with "m enterT" => ((case kA => exact rfl); (case kF => exact rfl); (case kK => assumption); (case kX => assumption); (case kT => assumption); (case kD => assumption); (case k1 => k_asm); (case k2 => k_asm); (case k3 => k_asm); (case k4 => k_asm); (case k5 => k_asm); (case k6 => k_is); (case k7 => k_is); (case k8 => first | exact room_up hdp (by decide) | k_room); (case k9 => exact BindsTo.of_eq rfl); (case c5 => decide); (case kB => exact locs rfl); (case c2 => exact rfl); (case c3 => exact rfl); (case c4 => exact rfl); k_whole; intro g'zq L'zq h'zq tk0zq FG'zq F'zq N'zq B'zq X'zq T'zq D'zq; (try dsimp only [List.reverse_cons, List.reverse_nil, List.nil_append, List.cons_append] at F'zq); (try k_fold))
  k_with "x call type:str" => (k_here; (with_reducible show wpAny _ _ (call (Value.type "str") [Value.ref _]) _ _ _); k_dflt (refine' str_caught ?kF ?kX ?kN ?kG ?kK ?ks ?ku ?_; (case kG => assumption); (case kN => assumption); (case kF => k_asm); (case kX => k_asm); (case kK => kts_isx); (case ks => k_is); (case ku => k_units); k_whole))
  k_with "x call ref" => (k_here; (with_reducible show wpAny _ _ (call (Value.ref 83) _ _) _ _ _); k_dflt (refine' Says.use (conv_says ?kx ?kz) ?k1 ?k2 ?k3 ?k4 ?k5 ?kK ?kd ?ku ?_; (case k1 => k_asm); (case k2 => k_asm); (case k3 => k_asm); (case k4 => k_asm); (case k5 => k_asm); (case kK => first | exact rfl | assumption); (case kd => walk_at "m depth"); (case ku => walk_at "m units"); (case kx => assumption); (case kz => first | assumption | omega); k_whole); intro r'zq news'zq h'zq tk'zq F'zq N'zq P'zq; obtain ⟨hn9zq, hr9zq⟩ := P'zq; subst hn9zq; subst hr9zq; (try dsimp only); (try k_fold))
  unfold Says
  intro dp un gd cn cs a ccd cl outer A₀ base h₀ L m s Q E B F X N T hk hdp hun hret
  walk_at "m begin"
  k_dflt (refine' code_def (binds := [("self", .ref R), ("value", .str x t), ("name", .bool b)]) ?k1 ?k2 ?k3 ?k4 ?k5 ?kA ?kF ?kK ?k6 ?k7 ?k8 ?k9 ?kB ?_ ?c2 ?c3 ?c4 ?c5)
  k_dflt walk_at "m enter"
  k_steps
  all_goals exact hret _ _ _ _ (by k_asm) (by k_asm) ⟨rfl, rfl⟩
end
section -- MAddH
set_option maxHeartbeats 4000000 in
theorem addh_says {w : World} {mean : ExcName → Option Value} {mg mb : Str → Option Value} {R RD RL : Addr} {th : Tok} {vs : List Value} {ps : List (Str × Str)} {n : Nat} {rest : Led} {x y : Str} {tx ty : Tok} (hx : okText x) (hxz : x.cps.size ≤ 1000000) (hy : okText y) (hyz : y.cps.size ≤ 1000000) (hD : DatAll rest vs (ps.map pairD)) (hv : ps.length < 1000) (h1 : R ≠ RL) (h2 : RD ≠ RL) (h3 : ∀ p ∈ rest, p.1 ≠ RL) :
    Says w mean mg mb 30 181 [.ref R, .str x tx, .str y ty] [] ((R, instObj 184 RD) :: (RD, hdrD w th RL) :: (RL, listOf vs.toArray n) :: rest)
      (fun news' r => r = .none ∧ ∃ vs' n' tl, news' = (R, instObj 184 RD) :: (RD, hdrD w th RL) :: (RL, listOf vs'.toArray n') :: (rest ++ tl) ∧ DatAll (rest ++ tl) vs' ((ps ++ [(x, y)]).map pairD) ∧ After ((R, instObj 184 RD) :: (RD, hdrD w th RL) :: (RL, listOf vs.toArray n) :: rest) tl) := by
  k_with_none
  k_with "m depth" => (first | exact dep_up (by with_reducible assumption) (by decide) | ((try simp only [depth_mark, depth_under_make, depth_under_kw, depth_in1, depth_deeper, depth_caller] at *); (try dsimp only [ktrTop] at *); omega))
  k_with "m units" => (first | exact uni_up (by with_reducible assumption) (by decide) | ((try simp only [units_in1, units_deeper, Around.mark_units, units_caller] at *); (try dsimp only [ktrTop] at *); omega))
  k_with "m begin" => ((have flzq : P.heap_1 = P.heap_1 ∧ PySem.Challenge.rw_yh0023_01 = PySem.Challenge.rw_yh0023_01 := by (k_fill; exact fill)); (clear flzq); (refine wpAny_call ?_))
  k_with "m enter" => ((case kA => exact rfl); (case kF => exact rfl); (case kK => assumption); (case k1 => k_asm); (case k2 => k_asm); (case k3 => k_asm); (case k4 => k_asm); (case k5 => k_asm); (case k6 => k_is); (case k7 => k_is); (case k8 => first | exact room_up hdp (by decide) | k_room); (case k9 => exact BindsTo.of_eq rfl); (case c5 => decide); (case kB => exact locs rfl); (case c2 => exact rfl); (case c3 => exact rfl); (case c4 => exact rfl); k_whole; intro g'zq L'zq h'zq FG'zq F'zq N'zq B'zq X'zq T'zq; (try dsimp only [List.reverse_cons, List.reverse_nil, List.nil_append, List.cons_append] at F'zq); (try k_fold))
  k_with "x execs cons" => (k_here; (with_reducible refine wpAny_execs_cons ?_); k_fold)
  k_with "x call builtin:len" => (k_here; (with_reducible show wpAny _ _ (call (Value.builtin "len") [Value.ref _]) _ _ _); k_dflt (refine' m_len ?k1 ?k2 ?k3 ?_; (case k1 => k_asm); (case k2 => k_mem); (case k3 => omega)))
  k_with "x getMethod ref" => (k_here; k_dflt (first | ((with_reducible show wpAny _ _ (getMethod (Value.ref 48) _ _) _ _ _); refine PatAt.meth (pat_name (by k_in)) ?_) | ((with_reducible show wpAny _ _ (getMethod (Value.ref 53) _ _) _ _ _); refine PatAt.meth (pat_value (by k_in)) ?_)))
  k_with "x call builtin:re.Pattern.search" => (k_here; k_dflt (first | (refine call_search (pat_name (by k_in)) (name_fails (by assumption)) (by assumption) ?_) | (refine call_search (pat_value (by k_in)) (value_fails (by assumption)) (by assumption) ?_)))
  k_with "x call builtin:str.join" => (k_here; k_dflt (refine' m_join1 ?k1 ?k2 ?k3 ?k4 ?_; (case k1 => k_asm); (case k2 => k_mem); (case k3 => decide); (case k4 => assumption)); intro t'zq tk'zq)
  k_with "m enterC" => ((case kA => exact rfl); (case kF => exact rfl); (case kK => assumption); (case k1 => k_asm); (case k2 => k_asm); (case k3 => k_asm); (case k4 => k_asm); (case k5 => k_asm); (case k6 => k_is); (case k7 => k_is); (case k8 => first | exact room_up hdp (by decide) | k_room); (case k9 => exact BindsTo.of_eq rfl); (case kB => exact rfl); (case kD => decide +kernel); (case c2 => exact rfl); (case c3 => exact rfl); (case c4 => exact rfl); k_whole; intro g'zq L'zq h'zq tk'zq cells'zq FG'zq F'zq N'zq Y'zq B'zq X'zq T'zq l1zq; (have l9zq := l1zq); (try k_lt l1zq); k_cells Y'zq; (try simp only [List.cons_append, List.nil_append] at N'zq); (try dsimp only); (try k_fold))
  k_with "x call builtin:str.lower" => (k_here; (try dsimp only); (with_reducible show wpAny _ _ (call (Value.builtin "str.lower") [Value.str _ _]) _ _ _); (refine SCL.lower (by first | omega | exact Nat.le_trans (by assumption) (by decide)) ?_); intro _)
  k_with "m mem" => (repeat (first | assumption | apply List.mem_cons_of_mem))
  k_with "x subscriptTail" => (k_here; (with_reducible show wpAny _ _ (subscriptTail _ _ (Value.ref _) (Value.int _ _)) _ _ _); k_dflt (refine' item_tupleT (m_tup (by k_asm) ?hm) (by decide) (by decide) ?hj ?hv ?_; (case hm => first | k_mem | walk_at "m mem"); (case hj => rfl); (case hv => rfl)))
  k_with "m look" => first | exact rfl | assumption
  k_with "x eval Name" => (k_here; (with_reducible show wpAny _ _ (eval (PySem.Expr.Name _ _) (envOf _ _ _ _ _)) _ _ _); k_dflt (refine' ld ?k1 ?k2 ?_; (case k1 => k_asm); (case k2 => walk_at "m look"); k_whole))
  k_with "x eval Name" => (k_here; (with_reducible show wpAny _ _ (eval (PySem.Expr.Name (PySem.Str.ofString "divmod") _) _) _ _ _); (with_reducible rename Fr _ _ _ _ => kFzq); with_unfolding_all refine guard_global (by rfl) ?_; k_dflt (refine' name_B kFzq ?k1 ?k2 ?k3 ?k4 ?k5 ?_; (case k1 => k_asm); (case k2 => k_asm); (case k3 => k_is); (case k4 => first | exact boot_divmod); (case k5 => decide); k_whole))
  k_with "m size" => (simp only [PySem.Str.length_append, lit0, lit1, lit2, lit3, lit4, lit5, lit6, lit7, lit8, lit9, lit10, lit11, lit12, lit13, lit14, lit15, lit16, lit17, lit18, lit19, lit20, lit21, lit22, lit23, lit24, one_len]; rw [sizeLine_eq]; omega)
  k_with "x binaryOp Add str str" => (k_here; (with_reducible show wpAny _ _ (binaryOp Operator.Add (Value.str _ _) (Value.str _ _)) _ _ _); k_dflt (refine' PyProof.Rows.add_str ?h ?hz; (case hz => walk_at "m size")); intro t'zq tk'zq)
  k_with "m enterT" => ((case kA => exact rfl); (case kF => exact rfl); (case kK => assumption); (case kX => assumption); (case kT => assumption); (case kD => assumption); (case k1 => k_asm); (case k2 => k_asm); (case k3 => k_asm); (case k4 => k_asm); (case k5 => k_asm); (case k6 => k_is); (case k7 => k_is); (case k8 => first | exact room_up hdp (by decide) | k_room); (case k9 => exact BindsTo.of_eq rfl); (case c5 => decide); (case kB => exact locs rfl); (case c2 => exact rfl); (case c3 => exact rfl); (case c4 => exact rfl); k_whole; intro g'zq L'zq h'zq tk0zq FG'zq F'zq N'zq B'zq X'zq T'zq D'zq; (try dsimp only [List.reverse_cons, List.reverse_nil, List.nil_append, List.cons_append] at F'zq); (try k_fold))
  k_with "x call type:str" => (k_here; (with_reducible show wpAny _ _ (call (Value.type "str") [Value.ref _]) _ _ _); k_dflt (refine' str_caught ?kF ?kX ?kN ?kG ?kK ?ks ?ku ?_; (case kG => assumption); (case kN => assumption); (case kF => k_asm); (case kX => k_asm); (case kK => kts_isx); (case ks => k_is); (case ku => k_units); k_whole))
  k_with "x call ref" => (k_here; (with_reducible show wpAny _ _ (call (Value.ref 83) _ _) _ _ _); k_dflt (refine' Says.use (conv_says ?kx ?kz) ?k1 ?k2 ?k3 ?k4 ?k5 ?kK ?kd ?ku ?_; (case k1 => k_asm); (case k2 => k_asm); (case k3 => k_asm); (case k4 => k_asm); (case k5 => k_asm); (case kK => first | exact rfl | assumption); (case kd => walk_at "m depth"); (case ku => walk_at "m units"); (case kx => assumption); (case kz => first | assumption | omega); k_whole); intro r'zq news'zq h'zq tk'zq F'zq N'zq P'zq; obtain ⟨hn9zq, hr9zq⟩ := P'zq; subst hn9zq; subst hr9zq; (try dsimp only); (try k_fold))
  have hlen : vs.length < 1000 := by rw [hD.length, List.length_map]; exact hv
  unfold Says
  intro dp un gd cn cs a ccd cl outer A₀ base h₀ L m s Q E B F X N T hk hdp hun hret
  walk_at "m begin"
  k_dflt (refine' kp_more (ex := []) (front := [("self", .ref R), ("_name", .str x tx), ("_value", .str y ty)]) ?k1 ?k2 ?k3 ?k4 ?k5 ?kA ?kF ?kK ?k6 ?k7 ?k8 ?kX ?kM ?kN ?kD ?kR ?kP ?kT ?kB ?_ ?c2 ?c3 ?c4 ?c5; (case kA => exact rfl); (case kF => exact rfl); (case kK => assumption); (case k1 => k_asm); (case k2 => k_asm); (case k3 => k_asm); (case k4 => k_asm); (case k5 => k_asm); (case k6 => k_is); (case k7 => k_is); (case k8 => ktr_room); (case kX => exact rfl); (case kM => exact rfl); (case kN => exact rfl); (case kD => exact PyProof.V.FlatPairs.nil); (case kR => exact rfl); (case kP => exact rfl); (case kT => exact fun _ => rfl); (case kB => exact fun _ => locs rfl); (case c5 => decide); (case c2 => exact rfl); (case c3 => exact rfl); (case c4 => exact rfl); k_whole; intro D' o' g' L' h' tk' l1 lo' hs' fs' FG' F' N' B' X' T'; (try k_lt l1); (try dsimp only [List.reverse_cons, List.reverse_nil, List.nil_append, List.cons_append] at F'); (try k_fold))
  k_steps
  (rename News _ _ _ _ => N9)
  (rename Fr _ _ _ _ => F9)
  refine m_append ((_, _) :: (R, _) :: (RD, _) :: rest) F9 N9 (by k_mem) (List.forall_mem_cons.mpr ⟨by k_mem, List.forall_mem_cons.mpr ⟨by k_mem, List.forall_mem_cons.mpr ⟨by k_mem, fun p hp => by (repeat (first | exact hp | apply List.mem_cons_of_mem))⟩⟩⟩) (List.forall_mem_cons.mpr ⟨by k_ne, List.forall_mem_cons.mpr ⟨h1, List.forall_mem_cons.mpr ⟨h2, h3⟩⟩⟩) (by omega) ?_
  intro h9 F' N'
  clear N9 F9
  k_steps
  (rename News _ _ _ _ => N9)
  have N8 : News h₀ L _ ((R, instObj 184 RD) :: (RD, hdrD w th RL) :: (RL, _) :: (rest ++ [(_, _)])) := News.sub N9 (List.forall_mem_cons.mpr ⟨by k_mem, List.forall_mem_cons.mpr ⟨by k_mem, List.forall_mem_cons.mpr ⟨.head _, fun p hp => by
    rcases List.mem_append.mp hp with hp | hp
    · exact .tail _ (.tail _ (.tail _ (.tail _ hp)))
    · rw [List.mem_singleton.mp hp]; exact .tail _ (.head _)⟩⟩⟩)
  refine hret _ _ _ _ (by k_asm) N8 ⟨rfl, _, _, _, rfl, ?_, after_hdr (by omega) (by omega) (by omega) (by simp [*])⟩
  rw [List.map_append]
  exact DatAll.append (hD.mono subA) (DatAll.one (pair_in (subB _ (.head _))))
end
section -- MUse2
theorem num_len {n : Nat} (h : n < 320) : (PySem.Str.ofString (toString (n : Int))).length ≤ 4 := by
  rw [num_dg h]
  have := dg_len n
  show (dg n).toArray.size ≤ 4
  rw [List.size_toArray]
  omega
theorem read_is {c : Par} (C : ParOk c) {p : Pk} (hn : p.n < 4) (hk : p.k < 6) : readD (c.ptxt p) = c.pseen p := by
  show optD (readO (pktS (c.ns.getD p.n Str.empty) p.k)) = _
  rw [(C.nm p.n hn).read p.k hk]
  rfl
theorem stepS_1y {c : Par} {S : St} {e : Nat} {p : Pk} {r : List Pk} (hl : S.lane = p :: r) (hk : p.k < 3) (hn : p.n = S.taken) : stepS c 1 e S = { S with taken := S.taken + 1, back := S.back ++ [mk (S.taken + 1) e] } := by
  unfold stepS; rw [if_neg (by decide), if_pos rfl, hl]
  show (if p.k < 3 then _ else _) = _
  rw [if_pos hk, if_pos hn]
theorem stepS_1m {c : Par} {S : St} {e : Nat} {p : Pk} {r : List Pk} (hl : S.lane = p :: r) (hk : p.k < 3) (hn : ¬p.n = S.taken) : stepS c 1 e S = { S with taken := S.taken, back := S.back ++ [mk S.taken e] } := by
  unfold stepS; rw [if_neg (by decide), if_pos rfl, hl]
  show (if p.k < 3 then _ else _) = _
  rw [if_pos hk, if_neg hn]
theorem stepS_1n {c : Par} {S : St} {e : Nat} {p : Pk} {r : List Pk} (hl : S.lane = p :: r) (hk : ¬p.k < 3) : stepS c 1 e S = S := by
  unfold stepS; rw [if_neg (by decide), if_pos rfl, hl]; exact if_neg hk
theorem stepS_1nil {c : Par} {S : St} {e : Nat} (hl : S.lane = []) : stepS c 1 e S = S := by
  unfold stepS; rw [if_neg (by decide), if_pos rfl, hl]
theorem stepD_1 {c : Par} {S : St} {p : Pk} {r : List Pk} (hl : S.lane = p :: r) : stepD c 1 S = dueD (S.lane.map c.word) (S.lane.map c.ptxt) (c.pseen p) := by
  unfold stepD; rw [if_pos rfl, hl]
theorem stepD_1nil {c : Par} {S : St} (hl : S.lane = []) : stepD c 1 S = .none := by
  unfold stepD; rw [if_pos rfl, hl]
/-- the rest tells the number within the window -/
theorem rest_eq {w n t : Nat} (h1 : t ≤ n + w) (h2 : n < t + w) (h : n % (w + 1) = t % (w + 1)) : n = t := by
  have d1 := Nat.div_add_mod n (w + 1)
  have d2 := Nat.div_add_mod t (w + 1)
  rw [h] at d1
  rcases Nat.lt_trichotomy (n / (w + 1)) (t / (w + 1)) with h3 | h3 | h3
  · have : (w + 1) * (n / (w + 1) + 1) ≤ (w + 1) * (t / (w + 1)) := Nat.mul_le_mul_left _ h3
    rw [Nat.mul_add, Nat.mul_one] at this
    omega
  · rw [h3] at d1; omega
  · have : (w + 1) * (t / (w + 1) + 1) ≤ (w + 1) * (n / (w + 1)) := Nat.mul_le_mul_left _ h3
    rw [Nat.mul_add, Nat.mul_one] at this
    omega
theorem tag_hit {c : Par} (C : ParOk c) {p : Pk} {t : Nat} (h1 : t ≤ p.n + c.w) (h2 : p.n < t + c.w) (h : (Txt.upper (c.word p) == word (c.tag + t % (c.w + 1))) = true) : p.n = t := by
  have e := eq_of_beq h
  unfold Par.word at e
  rw [wS_upper (Par.no_lt C _)] at e
  have e2 := word_inj (Par.no_lt C _) (Par.no_lt C t) e
  unfold Par.no at e2
  exact rest_eq h1 h2 (by omega)
theorem tag_miss {c : Par} (C : ParOk c) {p : Pk} {t : Nat} (h : (Txt.upper (c.word p) == word (c.tag + t % (c.w + 1))) = false) : ¬p.n = t := by
  rintro rfl
  unfold Par.word at h
  rw [wS_upper (Par.no_lt C _)] at h
  have : (word (c.no p.n) == word (c.no p.n)) = false := h
  simp at this
theorem took {c : Par} (C : ParOk c) {gv : List Value} {t n : Nat} {u : Tok} (hg : StrsAre gv (c.ns.take t)) (hn : n = t) (h4 : n < 4) : StrsAre (gv ++ [.str (c.nm n) u]) (c.ns.take (t + 1)) := by
  subst hn
  have e : c.ns[n]? = some (c.nm n) := by
    unfold Par.nm
    rw [List.getD_eq_getElem?_getD, List.getElem?_eq_getElem (by rw [C.len]; exact h4)]
    rfl
  rw [List.take_add_one, e]
  exact strs_snoc hg
theorem Has.gl {c : Par} {S : St} {vs1 vs2 gv : List Value} {rest : Led} (C : ParOk c) (I : Inv c S) (H : Has c S vs1 vs2 gv rest) : gv.length = S.taken := by
  rw [H.g.length, List.length_take, C.len]
  have := I.t4
  omega
section
variable {w : World} {c : Par} {ad : Ad} {S S' : St} {due seen : Dat} {vs1 vs2 vs9 gv gv' : List Value} {n1 n2 n9 gn gn' : Nat} {rest tl9 : Led} {TA TT K V : Addr} {ys zs : List Value} {ws xs : List Str} {r : Value} {tk : Tok} {nt nt' e t : Nat} {x : Str}
/-- a packet read and answered -/
theorem read_post (hS : S' = { S with taken := t, back := S.back ++ [mk t e] }) (H : Has c S vs1 vs2 gv rest) (hg : StrsAre gv' (c.ns.take t))
    (aA : ∀ o, After (LD w ad vs1 vs2 gv n1 n2 gn rest) [(TA, o)]) (aT : ∀ o, After (LD w ad vs1 vs2 gv n1 n2 gn rest) [(TT, o)])
    (aV : After (LD w ad vs1 vs2 gv n1 n2 gn rest) [(V, LCg.lst zs)]) (aK : After (LD w ad vs1 vs2 gv n1 n2 gn rest) [(K, LCg.lst ys)]) (a9 : After (LD w ad vs1 vs2 gv n1 n2 gn rest) tl9)
    (hy : StrsAre ys ws) (hz : StrsAre zs xs) (hr : DatIn [] r seen) (hd : due = dueD ws xs seen) (hx : x = c.word (mk t e))
    (h2 : DatAll (((ad.R1, instObj 184 ad.RD1) :: (ad.RD1, hdrD w ad.th1 ad.RL1) :: (ad.RL1, listOf vs1.toArray n1) :: (ad.G, listOf gv'.toArray gn') :: (TT, ({ cls := .type "tuple", data := .seq #[.ref K, .ref V, r] nt' } : Obj)) :: (V, LCg.lst zs) :: (K, LCg.lst ys) :: rest) ++ tl9) vs9 ((S.back.map c.ap ++ [(x, ansS (c.no t) (e % 6))]).map pairD)) :
    DeedPost w c ad (LD w ad vs1 vs2 gv n1 n2 gn rest) rest S' due (LD w ad vs1 vs9 gv' n1 n9 gn' (rest ++ ((TA, { cls := .type "tuple", data := .seq #[.int S.known tk, .ref TT] nt }) :: (TT, { cls := .type "tuple", data := .seq #[.ref K, .ref V, r] nt' }) :: (V, LCg.lst zs) :: (K, LCg.lst ys) :: tl9))) (.ref TA) := by
  subst hd hS hx
  have h3 := datAll_strip (hd := [_, _, _, _]) heads_no h2
  refine DeedPost.mk (After.cons (aA _) (After.cons (aT _) (After.cons aV (After.cons aK a9)))) (H.d1.mono fun p hp => List.mem_append_left _ hp) ?_ hg (.head _) ?_
  · show DatAll _ vs9 (((S.back ++ [mk t e]).map c.ap).map pairD)
    rw [List.map_append]
    refine h3.mono fun p hp => ?_
    have hp' : p ∈ ((TT, ({ cls := .type "tuple", data := .seq #[.ref K, .ref V, r] nt' } : Obj)) :: (V, LCg.lst zs) :: (K, LCg.lst ys) :: rest) ++ tl9 := hp
    rcases List.mem_append.mp hp' with hp | hp
    · rcases List.mem_cons.mp hp with rfl | hp
      · exact List.mem_append_right _ (.tail _ (.head _))
      · rcases List.mem_cons.mp hp with rfl | hp
        · exact List.mem_append_right _ (.tail _ (.tail _ (.head _)))
        · rcases List.mem_cons.mp hp with rfl | hp
          · exact List.mem_append_right _ (.tail _ (.tail _ (.tail _ (.head _))))
          · exact List.mem_append_left _ hp
    · exact List.mem_append_right _ (.tail _ (.tail _ (.tail _ (.tail _ hp))))
  · exact due_in (List.mem_append_right _ (.tail _ (.head _))) (List.mem_append_right _ (.tail _ (.tail _ (.tail _ (.head _))))) (List.mem_append_right _ (.tail _ (.tail _ (.head _)))) hy hz (hr.mono fun p hp => absurd hp List.not_mem_nil)
end
theorem seenP_in {news : Led} {x : Str} {k : Nat} {r : Value} (hk : k < 6) (h : DatIn news r (optD (seenO x k))) : DatIn [] r (optD (seenO x k)) := by
  cases e : seenO x k with
  | none =>
    rw [e] at h
    have h : DatIn news r .none := h
    cases h
    exact .none
  | some y =>
    rw [e] at h
    have h : DatIn news r (.str y) := h
    cases h
    exact .str _ _
section
variable {w : World} {ad : Ad} {vs1 vs9 gv' : List Value} {n1 n9 gn' : Nat} {rest tl9 : Led} {qA qT qV qK : Addr × Obj}
/-- the ledger behind an answer, in its order -/
theorem read_sub : ∀ p ∈ LD w ad vs1 vs9 gv' n1 n9 gn' (rest ++ (qA :: qT :: qV :: qK :: tl9)), p ∈ qA :: (ad.R2, instObj 184 ad.RD2) :: (ad.RD2, hdrD w ad.th2 ad.RL2) :: (ad.RL2, listOf vs9.toArray n9) :: (((ad.R1, instObj 184 ad.RD1) :: (ad.RD1, hdrD w ad.th1 ad.RL1) :: (ad.RL1, listOf vs1.toArray n1) :: (ad.G, listOf gv'.toArray gn') :: qT :: qV :: qK :: rest) ++ tl9) := by
  intro p hp
  have hp' : p ∈ LD w ad vs1 vs9 gv' n1 n9 gn' rest ++ (qA :: qT :: qV :: qK :: tl9) := hp
  rcases List.mem_append.mp hp' with h | h
  · have h2 := LD_q2 p h
    simp only [List.mem_cons] at h2
    rcases h2 with h | h | h | h | h | h | h | h
    · exact .tail _ (h ▸ .head _)
    · exact .tail _ (.tail _ (h ▸ .head _))
    · exact .tail _ (.tail _ (.tail _ (h ▸ .head _)))
    · exact .tail _ (.tail _ (.tail _ (.tail _ (h ▸ .head _))))
    · exact .tail _ (.tail _ (.tail _ (.tail _ (.tail _ (h ▸ .head _)))))
    · exact .tail _ (.tail _ (.tail _ (.tail _ (.tail _ (.tail _ (h ▸ .head _))))))
    · exact .tail _ (.tail _ (.tail _ (.tail _ (.tail _ (.tail _ (.tail _ (h ▸ .head _)))))))
    · exact .tail _ (.tail _ (.tail _ (.tail _ (List.mem_append_left _ (.tail _ (.tail _ (.tail _ (.tail _ (.tail _ (.tail _ (.tail _ h)))))))))))
  · rcases List.mem_cons.mp h with rfl | h
    · exact .head _
    · rcases List.mem_cons.mp h with rfl | h
      · exact .tail _ (.tail _ (.tail _ (.tail _ (List.mem_append_left _ (.tail _ (.tail _ (.tail _ (.tail _ (.head _)))))))))
      · rcases List.mem_cons.mp h with rfl | h
        · exact .tail _ (.tail _ (.tail _ (.tail _ (List.mem_append_left _ (.tail _ (.tail _ (.tail _ (.tail _ (.tail _ (.head _))))))))))
        · rcases List.mem_cons.mp h with rfl | h
          · exact .tail _ (.tail _ (.tail _ (.tail _ (List.mem_append_left _ (.tail _ (.tail _ (.tail _ (.tail _ (.tail _ (.tail _ (.head _)))))))))))
          · exact .tail _ (.tail _ (.tail _ (.tail _ (List.mem_append_right _ h))))
end
theorem LD_G {w : World} {ad : Ad} {vs1 vs2 gv : List Value} {n1 n2 gn : Nat} {rest : Led} : (ad.G, listOf gv.toArray gn) ∈ LD w ad vs1 vs2 gv n1 n2 gn rest := .tail _ (.tail _ (.tail _ (.tail _ (.tail _ (.tail _ (.head _))))))
theorem LD_L2 {w : World} {ad : Ad} {vs1 vs2 gv : List Value} {n1 n2 gn : Nat} {rest : Led} : (ad.RL2, listOf vs2.toArray n2) ∈ LD w ad vs1 vs2 gv n1 n2 gn rest := .tail _ (.tail _ (.tail _ (.tail _ (.tail _ (.head _)))))
theorem got_append {prog : Program} {w : World} {A : Around} {E : Value → Shared → Prop} {s : Shared} {h₀ : Heap} {L : Addr} {m : Str → Option Value} {ad : Ad} {vs1 vs2 gv : List Value} {n1 n2 gn : Nat} {rest : Led} {q qV qK : Addr × Obj} {v : Value} {Q : Value → Shared → Prop}
    (F : Fr h₀ L s.heap m) (N : News h₀ L s.heap (q :: qV :: qK :: LD w ad vs1 vs2 gv n1 n2 gn rest)) (O : AdOk ad rest) (hq : q.1 ≠ ad.G) (hV : qV.1 ≠ ad.G) (hK : qK.1 ≠ ad.G) (hsz : gv.length ≤ 1000000)
    (h : ∀ h', Fr h₀ L h' m → News h₀ L h' (q :: qV :: qK :: LD w ad vs1 vs2 (gv ++ [v]) n1 n2 (gn + 1) rest) → Q .none { s with heap := h' }) : wpAny (model prog w) A (call (.builtin "list.append") [.ref ad.G, v]) Q E s := by
  refine m_append (q :: qV :: qK :: (ad.R1, instObj 184 ad.RD1) :: (ad.RD1, hdrD w ad.th1 ad.RL1) :: (ad.RL1, listOf vs1.toArray n1) :: (ad.R2, instObj 184 ad.RD2) :: (ad.RD2, hdrD w ad.th2 ad.RL2) :: (ad.RL2, listOf vs2.toArray n2) :: rest) F N (.tail _ (.tail _ (.tail _ LD_G))) ?_ ?_ hsz ?_
  · intro p hp
    rcases List.mem_cons.mp hp with rfl | hp
    · exact .head _
    rcases List.mem_cons.mp hp with rfl | hp
    · exact .tail _ (.head _)
    rcases List.mem_cons.mp hp with rfl | hp
    · exact .tail _ (.tail _ (.head _))
    refine .tail _ (.tail _ (.tail _ ?_))
    show p ∈ LD w ad vs1 vs2 gv n1 n2 gn rest
    simp only [LD, List.mem_cons] at hp ⊢
    rcases hp with h | h | h | h | h | h | h
    · exact .inl h
    · exact .inr (.inl h)
    · exact .inr (.inr (.inl h))
    · exact .inr (.inr (.inr (.inl h)))
    · exact .inr (.inr (.inr (.inr (.inl h))))
    · exact .inr (.inr (.inr (.inr (.inr (.inl h)))))
    · exact .inr (.inr (.inr (.inr (.inr (.inr (.inr h))))))
  · exact List.forall_mem_cons.mpr ⟨hq, List.forall_mem_cons.mpr ⟨hV, List.forall_mem_cons.mpr ⟨hK, List.forall_mem_cons.mpr ⟨O.g.1, List.forall_mem_cons.mpr ⟨O.g.2.1, List.forall_mem_cons.mpr ⟨O.g.2.2.1, List.forall_mem_cons.mpr ⟨O.g.2.2.2.1, List.forall_mem_cons.mpr ⟨O.g.2.2.2.2.1, List.forall_mem_cons.mpr ⟨O.g.2.2.2.2.2, fun p hp => (O.rest p hp).2.2⟩⟩⟩⟩⟩⟩⟩⟩⟩
  · intro h' F' N'
    refine h h' F' (News.sub N' ?_)
    intro p hp
    rcases List.mem_cons.mp hp with rfl | hp
    · exact .tail _ (.head _)
    rcases List.mem_cons.mp hp with rfl | hp
    · exact .tail _ (.tail _ (.head _))
    rcases List.mem_cons.mp hp with rfl | hp
    · exact .tail _ (.tail _ (.tail _ (.head _)))
    simp only [LD, List.mem_cons] at hp ⊢
    rcases hp with h | h | h | h | h | h | h | h
    · exact .inr (.inr (.inr (.inr (.inl h))))
    · exact .inr (.inr (.inr (.inr (.inr (.inl h)))))
    · exact .inr (.inr (.inr (.inr (.inr (.inr (.inl h))))))
    · exact .inr (.inr (.inr (.inr (.inr (.inr (.inr (.inl h)))))))
    · exact .inr (.inr (.inr (.inr (.inr (.inr (.inr (.inr (.inl h))))))))
    · exact .inr (.inr (.inr (.inr (.inr (.inr (.inr (.inr (.inr (.inl h)))))))))
    · exact .inl h
    · exact .inr (.inr (.inr (.inr (.inr (.inr (.inr (.inr (.inr (.inr h)))))))))
theorem addh2_use {w : World} {mean : ExcName → Option Value} {mg mb : Str → Option Value} {c : Par} {S : St} {ad : Ad} {vs1 vs2 gv gv' : List Value} {n1 n2 gn gn' : Nat} {rest : Led} {q qV qK : Addr × Obj} {x y : Str} {tx ty : Tok}
    {dp un : Nat} {gd : Option (List Code)} {cn : Str} {cs : Scope} {a : Addr} {ccd : Value} {cl : List (Str × Addr)} {outer : List Env} {A₀ : Around} {base h₀ : Heap} {L : Addr} {m : Str → Option Value} {s : Shared} {Q E : Value → Shared → Prop}
    (H : Has c S vs1 vs2 gv rest) (O : AdOk ad rest) (hq : q.1 ≠ ad.RL2) (hV : qV.1 ≠ ad.RL2) (hK : qK.1 ≠ ad.RL2) (hx : okText x) (hxz : x.cps.size ≤ 1000000) (hy : okText y) (hyz : y.cps.size ≤ 1000000)
    (B : Below A₀ base outer h₀) (F : Fr h₀ L s.heap m) (X : (P.heap_1 w.params).In h₀) (N : News h₀ L s.heap (q :: qV :: qK :: LD w ad vs1 vs2 gv' n1 n2 gn' rest)) (T : Top P.view_1 LO mean mg mb h₀) (hk : cs.kind = .function) (hd : dp < 30 + 300) (hu : un < 10 * 30)
    (ret : ∀ vs9 n9 tl9 h' tk', Fr h₀ L h' m → News h₀ L h' ((ad.R2, instObj 184 ad.RD2) :: (ad.RD2, hdrD w ad.th2 ad.RL2) :: (ad.RL2, listOf vs9.toArray n9) :: (((ad.R1, instObj 184 ad.RD1) :: (ad.RD1, hdrD w ad.th1 ad.RL1) :: (ad.RL1, listOf vs1.toArray n1) :: (ad.G, listOf gv'.toArray gn') :: q :: qV :: qK :: rest) ++ tl9)) →
      DatAll (((ad.R1, instObj 184 ad.RD1) :: (ad.RD1, hdrD w ad.th1 ad.RL1) :: (ad.RL1, listOf vs1.toArray n1) :: (ad.G, listOf gv'.toArray gn') :: q :: qV :: qK :: rest) ++ tl9) vs9 ((S.back.map c.ap ++ [(x, y)]).map pairD) → After (LD w ad vs1 vs2 gv n1 n2 gn rest) tl9 → Q .none { s with heap := h', toks := tk' }) :
    wpAny (model PySem.Challenge.rw_yh0023_01.row.prog w) (ktrTop dp un gd cn cs L a ccd cl outer) (call (.ref 181) [.ref ad.R2, .str x tx, .str y ty] []) Q E s := by
  refine Says.use (addh_says (R := ad.R2) (RD := ad.RD2) (RL := ad.RL2) (th := ad.th2) (vs := vs2) (ps := S.back.map c.ap) (n := n2) (rest := (ad.R1, instObj 184 ad.RD1) :: (ad.RD1, hdrD w ad.th1 ad.RL1) :: (ad.RL1, listOf vs1.toArray n1) :: (ad.G, listOf gv'.toArray gn') :: q :: qV :: qK :: rest) hx hxz hy hyz
    (H.d2.mono fun p hp => .tail _ (.tail _ (.tail _ (.tail _ (.tail _ (.tail _ (.tail _ hp))))))) (by rw [List.length_map]; have := H.l2; omega) O.r2.2.2.2.1 O.r2.2.2.2.2.1
    (List.forall_mem_cons.mpr ⟨O.r2.1, List.forall_mem_cons.mpr ⟨O.r2.2.1, List.forall_mem_cons.mpr ⟨O.r2.2.2.1, List.forall_mem_cons.mpr ⟨O.r2.2.2.2.2.2, List.forall_mem_cons.mpr ⟨hq, List.forall_mem_cons.mpr ⟨hV, List.forall_mem_cons.mpr ⟨hK, fun p hp => (O.rest p hp).2.1⟩⟩⟩⟩⟩⟩⟩)) B F X (News.sub N ?_) T hk hd hu ?_
  · intro p hp
    have e : ∀ {l : Led}, p ∈ q :: qV :: qK :: l ↔ p = q ∨ p = qV ∨ p = qK ∨ p ∈ l := by intro l; simp only [List.mem_cons]
    rw [e]
    simp only [List.mem_cons] at hp
    rcases hp with h | h | h | h | h | h | h | h | h | h | h
    · exact .inr (.inr (.inr (LD_p2 _ (h ▸ .head _))))
    · exact .inr (.inr (.inr (LD_p2 _ (h ▸ .tail _ (.head _)))))
    · exact .inr (.inr (.inr (LD_p2 _ (h ▸ .tail _ (.tail _ (.head _))))))
    · exact .inr (.inr (.inr (LD_p2 _ (h ▸ .tail _ (.tail _ (.tail _ (.head _)))))))
    · exact .inr (.inr (.inr (LD_p2 _ (h ▸ .tail _ (.tail _ (.tail _ (.tail _ (.head _))))))))
    · exact .inr (.inr (.inr (LD_p2 _ (h ▸ .tail _ (.tail _ (.tail _ (.tail _ (.tail _ (.head _)))))))))
    · exact .inr (.inr (.inr (LD_p2 _ (h ▸ .tail _ (.tail _ (.tail _ (.tail _ (.tail _ (.tail _ (.head _))))))))))
    · exact .inl h
    · exact .inr (.inl h)
    · exact .inr (.inr (.inl h))
    · exact .inr (.inr (.inr (LD_p2 _ (.tail _ (.tail _ (.tail _ (.tail _ (.tail _ (.tail _ (.tail _ h))))))))))
  · rintro r news' h' tk' F' N' ⟨rfl, vs9, n9, tl9, rfl, hd9, ha9⟩
    refine ret vs9 n9 tl9 h' tk' F' N' hd9 ?_
    refine After.addr (l := LD w ad vs1 vs2 gv' n1 n2 gn' rest) (ha9.mono fun p hp => ?_) rfl
    have h2 := LD_q2 p hp
    simp only [List.mem_cons] at h2 ⊢
    rcases h2 with h | h | h | h | h | h | h | h
    · exact .inl h
    · exact .inr (.inl h)
    · exact .inr (.inr (.inl h))
    · exact .inr (.inr (.inr (.inl h)))
    · exact .inr (.inr (.inr (.inr (.inl h))))
    · exact .inr (.inr (.inr (.inr (.inr (.inl h)))))
    · exact .inr (.inr (.inr (.inr (.inr (.inr (.inl h))))))
    · exact .inr (.inr (.inr (.inr (.inr (.inr (.inr (.inr (.inr (.inr h)))))))))
theorem no_abs {c : Par} (C : ParOk c) (z : Nat) : ((c.tag + z % (c.w + 1) : Nat) : Int).natAbs < 1000 := by
  have := Par.no_lt C z
  unfold Par.no at this
  omega
theorem ans_ok2 {c : Par} (C : ParOk c) {z k : Nat} (hk : k < 6) : okText (ansS (c.tag + z % (c.w + 1)) k) := (ans_ok (host := c.host) (Par.no_lt C z) hk).ok
theorem ans_hi2 {c : Par} (C : ParOk c) {z k : Nat} (hk : k < 6) : (ansS (c.tag + z % (c.w + 1)) k).cps.size ≤ 1000000 := Nat.le_trans (ans_ok (host := c.host) (Par.no_lt C z) hk).hi (by decide)
theorem word_ok2 {c : Par} (C : ParOk c) {z : Nat} : okText (word (c.tag + z % (c.w + 1))) := word_okText (Par.no_lt C z)
theorem low_ok3 {c : Par} (C : ParOk c) {z : Nat} : okText (Txt.lower (word (c.tag + z % (c.w + 1)))) := low_okText (Par.no_lt C z)
theorem low_size3 {c : Par} (C : ParOk c) {z : Nat} : (Txt.lower (word (c.tag + z % (c.w + 1)))).cps.size ≤ 1000000 := low_size (Par.no_lt C z)
section
variable {w : World} {ad : Ad} {vs1 vs2 vs9 gv gv' : List Value} {n1 n2 n9 gn gn' : Nat} {rest tl9 : Led} {qA qT qV qK : Addr × Obj} {TA : Addr}
theorem aA_of (lA : AllLt TA ((ad.R2, instObj 184 ad.RD2) :: (ad.RD2, hdrD w ad.th2 ad.RL2) :: (ad.RL2, listOf vs9.toArray n9) :: (((ad.R1, instObj 184 ad.RD1) :: (ad.RD1, hdrD w ad.th1 ad.RL1) :: (ad.RL1, listOf vs1.toArray n1) :: (ad.G, listOf gv'.toArray gn') :: qT :: qV :: qK :: rest) ++ tl9))) (o : Obj) : After (LD w ad vs1 vs2 gv n1 n2 gn rest) [(TA, o)] := by
  refine After.addr (l := LD w ad vs1 vs9 gv' n1 n9 gn' rest) ((after_lt lA).mono ?_) rfl
  intro p h
  have h2 := LD_q2 p h
  simp only [List.mem_cons] at h2
  rcases h2 with h | h | h | h | h | h | h | h
  · exact h ▸ .head _
  · exact .tail _ (h ▸ .head _)
  · exact .tail _ (.tail _ (h ▸ .head _))
  · exact .tail _ (.tail _ (.tail _ (h ▸ .head _)))
  · exact .tail _ (.tail _ (.tail _ (.tail _ (h ▸ .head _))))
  · exact .tail _ (.tail _ (.tail _ (.tail _ (.tail _ (h ▸ .head _)))))
  · exact .tail _ (.tail _ (.tail _ (.tail _ (.tail _ (.tail _ (h ▸ .head _))))))
  · exact .tail _ (.tail _ (.tail _ (List.mem_append_left _ (.tail _ (.tail _ (.tail _ (.tail _ (.tail _ (.tail _ (.tail _ h))))))))))
theorem told_sub0 : ∀ p ∈ LD w ad vs1 vs2 gv n1 n2 gn (rest ++ [qA, qT, qV, qK]), p ∈ qA :: qT :: qV :: qK :: LD w ad vs1 vs2 gv n1 n2 gn rest := by
  intro p hp
  have hp' : p ∈ LD w ad vs1 vs2 gv n1 n2 gn rest ++ [qA, qT, qV, qK] := hp
  rcases List.mem_append.mp hp' with h | h
  · exact .tail _ (.tail _ (.tail _ (.tail _ h)))
  · rcases List.mem_cons.mp h with rfl | h
    · exact .head _
    · rcases List.mem_cons.mp h with rfl | h
      · exact .tail _ (.head _)
      · rcases List.mem_cons.mp h with rfl | h
        · exact .tail _ (.tail _ (.head _))
        · rw [List.mem_singleton.mp h]
          exact .tail _ (.tail _ (.tail _ (.head _)))
end
end
section -- MWh
open LCg LCp LCt
noncomputable abbrev quad (n : Int) (x y : Str) (d : Dat) : Dat := .tuple [.int n, .str x, .str y, d]
theorem quad_out {news : Led} {v : Value} {n : Int} {x y : Str} {d : Dat} (h : DatIn news v (quad n x y d)) : ∃ a k t1 t2 t3 sv, v = .ref a ∧ (a, ({ cls := .type "tuple", data := .seq #[.int n t1, .str x t2, .str y t3, sv] k } : Obj)) ∈ news ∧ DatIn news sv d := by
  obtain ⟨a, vs, k, rfl, hm, hd⟩ := datIn_tuple h
  obtain ⟨v1, vs1, rfl, h1, hd⟩ := datAll_cons hd
  obtain ⟨v2, vs2, rfl, h2, hd⟩ := datAll_cons hd
  obtain ⟨v3, vs3, rfl, h3, hd⟩ := datAll_cons hd
  obtain ⟨v4, vs4, rfl, h4, hd⟩ := datAll_cons hd
  obtain rfl := datAll_nil hd
  obtain ⟨t1, rfl⟩ := datIn_int h1
  obtain ⟨t2, rfl⟩ := datIn_str h2
  obtain ⟨t3, rfl⟩ := datIn_str h3
  exact ⟨_, _, _, _, _, _, rfl, hm, h4⟩
section
variable {prog : Program} {w : World} {A : Around} {h₀ : Heap} {L : Addr} {m : Str → Option Value} {env : Env} {ct elt : Expr} {x x₂ : Str} {scope : Scope} {cl : List (Str × Addr)} {s : Shared} {S : Led → Prop} {Fin : List Value → Led → Prop} {α : Type}
/-- texts taken out of a list of data -/
theorem mapD_rest {vs : List Value} {ps : List α} {news : Led} (f : α → Dat) (g : α → Str) (D : DatAll news vs (ps.map f)) (hS : S news)
    (turn : ∀ p v I oI C oC D m₂ h tk (E' : Value → Shared → Prop) ys, p ∈ ps → DatIn news v (f p) → NsObj oC m₂ → m₂ x = some v → Fr h₀ L h m → News h₀ L h ((I, oI) :: (C, oC) :: (D, lst ys) :: news) → Off3 I C D news → ((@Ne Nat I C) ∧ (@Ne Nat I D) ∧ (@Ne Nat C D)) →
      wpAny (model prog w) A (eval elt (compEnvC scope cl C env)) (fun y s' => (∃ t', y = .str (g p) t') ∧ ∃ tk', s' = { s with heap := h, toks := tk' }) E' { s with heap := h, toks := tk })
    (fin : ∀ ys, StrsAre ys (ps.map g) → Fin ys news) : CompRest prog w A h₀ L m env elt x scope cl s S (fun i v => vs.toArray[i]? = some v) Fin vs.toArray.size 0 [] news := by
  have hlen : vs.length = ps.length := by rw [D.length, List.length_map]
  refine rest_U (n := vs.toArray.size) (fun i ys nw => nw = news ∧ StrsAre ys ((ps.take i).map g)) ?_ ?_ _ _ _ _ (Nat.zero_add _) ⟨rfl, .nil⟩
  · rintro i v ys nw I oI C oC D' m₂ h tk E' hi hv ⟨rfl, hy⟩ hC hx F N off ne
    have hv' : vs[i]? = some v := by simpa using hv
    obtain ⟨d, hd', hin⟩ := all_get D hv'
    rw [List.getElem?_map] at hd'
    obtain ⟨p, hp, rfl⟩ := Option.map_eq_some_iff.mp hd'
    refine wpAny_mono (turn p v I oI C oC D' m₂ h tk E' ys (List.mem_of_getElem? hp) hin hC hx F N off ne) (fun y s₂ hq => ?_) fun _ _ e => e
    obtain ⟨⟨t', rfl⟩, tk', rfl⟩ := hq
    refine ⟨h, tk', nw, rfl, F, N, off, hS, rfl, ?_⟩
    rw [List.take_add_one, hp, List.map_append]
    exact strs_snoc hy
  · rintro ys nw ⟨rfl, hy⟩
    refine fin ys ?_
    rwa [List.size_toArray, hlen, List.take_length] at hy
/-- the texts at one place of the four in a list's tuples: `[one[j] for one in l]` -/
theorem mapQ_rest {px pj pa : Pos} {kj : Nat} {ji : Int} {vs : List Value} {ps : List α} {small news : Led} {j : Nat} (nf : α → Int) (xf yf : α → Str) (df : α → Dat) (g : α → Str) (D : DatAll small vs (ps.map fun p => quad (nf p) (xf p) (yf p) (df p))) (hsub : ∀ p ∈ small, p ∈ news) (hS : S news)
    (hj : j < 4) (hji : ji = (j : Int)) (hseq : seqIndex? (j : Int) 4 = some j) (hg : ∀ (p : α) t1 t2 t3 (sv : Value), ∃ t, ([.int (nf p) t1, .str (xf p) t2, .str (yf p) t3, sv] : List Value)[j]? = some (.str (g p) t))
    (hk : (compEnvC scope cl 0 env).scope.kind = .function) (hl : (compEnvC scope cl 0 env).kindOf x = some .local) (hd : (x == ("__debug__" : Str)) = false)
    (fin : ∀ ys, StrsAre ys (ps.map g) → Fin ys news) : CompRest prog w A h₀ L m env (.Subscript (.Name x px) (.Constant (.int ji) kj pj) pa) x scope cl s S (fun i v => vs.toArray[i]? = some v) Fin vs.toArray.size 0 [] news := by
  subst hji
  refine mapD_rest (fun p => quad (nf p) (xf p) (yf p) (df p)) g (D.mono hsub) hS ?_ fin
  intro p v I oI C oC D' m₂ h tk E' ys hp hin hC hx F N off ne
  obtain ⟨q, kq, t1, t2, t3, sv, rfl, hq, _⟩ := quad_out hin
  refine Subscript_ (LCgL.ld_own (oC := oC) N (.tail _ (.head _)) hC hx ?_ hk hl hd)
  refine wpAny_Constant_int ?_
  obtain ⟨t, ht⟩ := hg p t1 t2 t3 sv
  refine item_tupleT (m_tup N (.tail _ (.tail _ (.tail _ hq)))) (by omega) (by omega) (j := j) ?_ ht ?_
  · exact hseq
  · exact ⟨⟨t, rfl⟩, _, rfl⟩
/-- data of a list that are kept -/
theorem filtD_rest {px : Pos} {vs : List Value} {ps : List α} {small news : Led} (f : α → Dat) (hsub : ∀ p ∈ small, p ∈ news) (keepP : α → Bool) (hk : scope.kind = .function) (hl : scope.names.lookup x = some .local) (hd : (x == ("__debug__" : Str)) = false) (D : DatAll small vs (ps.map f)) (hS : S news)
    (turn : ∀ p v I oI C oC D m₂ h tk (E' : Value → Shared → Prop) ys, p ∈ ps → DatIn news v (f p) → NsObj oC m₂ → m₂ x = some v → Fr h₀ L h m → News h₀ L h ((I, oI) :: (C, oC) :: (D, lst ys) :: news) → Off3 I C D news → ((@Ne Nat I C) ∧ (@Ne Nat I D) ∧ (@Ne Nat C D)) →
      wpAny (model prog w) A (isTrue ct (compEnvC scope cl C env) (eval ct (compEnvC scope cl C env))) (fun ok s' => ok = keepP p ∧ ∃ tk', s' = { s with heap := h, toks := tk' }) E' { s with heap := h, toks := tk })
    (fin : ∀ ys, DatAll small ys ((ps.filter keepP).map f) → Fin ys news) : CompRestT prog w A h₀ L m env ct (.Name x px) x scope cl s S (fun i v => vs.toArray[i]? = some v) Fin vs.toArray.size 0 [] news := by
  have hlen : vs.length = ps.length := by rw [D.length, List.length_map]
  refine rest_T (n := vs.toArray.size) (fun i ys nw => nw = news ∧ DatAll small ys (((ps.take i).filter keepP).map f)) ?_ ?_ _ _ _ _ (Nat.zero_add _) ⟨rfl, .nil⟩
  · rintro i v ys nw I oI C oC D' m₂ h tk E' hi hv ⟨rfl, hy⟩ hC hx F N off ne
    have hv' : vs[i]? = some v := by simpa using hv
    obtain ⟨d, hd', hin⟩ := all_get D hv'
    rw [List.getElem?_map] at hd'
    obtain ⟨p, hp, rfl⟩ := Option.map_eq_some_iff.mp hd'
    refine wpAny_mono (turn p v I oI C oC D' m₂ h tk E' ys (List.mem_of_getElem? hp) (hin.mono hsub) hC hx F N off ne) (fun ok s₂ hq => ?_) fun _ _ e => e
    obtain ⟨rfl, tk', rfl⟩ := hq
    split
    · rename_i hkp
      refine own_name hk hl hd N (.tail _ (.head _)) hC hx ⟨h, tk', nw, rfl, F, N, off, hS, rfl, ?_⟩
      rw [List.take_add_one, hp, List.filter_append, List.map_append]
      simp only [Option.toList_some, List.filter_cons, hkp, if_true, List.filter_nil, List.map_cons, List.map_nil]
      exact DatAll.append hy (DatAll.one hin)
    · rename_i hkp
      refine ⟨h, tk', nw, rfl, F, N, off, hS, rfl, ?_⟩
      rw [List.take_add_one, hp, List.filter_append, List.map_append]
      rw [Bool.not_eq_true] at hkp
      simp only [Option.toList_some, List.filter_cons, hkp, Bool.false_eq_true, if_false, List.filter_nil, List.map_nil, List.append_nil]
      exact hy
  · rintro ys nw ⟨rfl, hy⟩
    refine fin ys ?_
    rwa [List.size_toArray, hlen, List.take_length] at hy
end
/-- what _law_whole gives back -/
inductive WholePost (c : Par) (LA₀ BA₀ : Addr) (nw : Led) (S' : St) (due : Dat) (news' : Led) (r : Value) : Prop
  | intro0 (tl : Led) (TA LA BA : Addr) (lv bv : List Value) (ln bn : Nat) (dv : Value) (t1 t2 : Tok) (nt : Nat) : r = .ref TA → news' = nw ++ tl → After nw tl → (TA, ({ cls := .type "tuple", data := .seq #[.ref LA, .ref BA, .int S'.taken t1, .int S'.known t2, dv] nt } : Obj)) ∈ tl →
    (LA, listOf lv.toArray ln) ∈ nw ++ tl → DatAll (nw ++ tl) lv (S'.lane.map c.pd) → (BA, listOf bv.toArray bn) ∈ nw ++ tl → DatAll (nw ++ tl) bv (S'.back.map c.ad) → DatIn (nw ++ tl) dv due → (LA = LA₀ ∨ ∃ o, (LA, o) ∈ tl) → (BA = BA₀ ∨ ∃ o, (BA, o) ∈ tl) → WholePost c LA₀ BA₀ nw S' due news' r
structure Lines (c : Par) (S : St) (LA BA : Addr) (lv bv : List Value) (ln bn : Nat) (nw : Led) : Prop where
  la : (LA, listOf lv.toArray ln) ∈ nw
  ba : (BA, listOf bv.toArray bn) ∈ nw
  dl : DatAll nw lv (S.lane.map c.pd)
  db : DatAll nw bv (S.back.map c.ad)
  l1 : S.lane.length < 900
  l2 : S.back.length < 900
  hok : okText c.host
theorem ok_str {x : Str} (h : okText x) : PyData.strOk x = true := by
  show x.cps.all (· < 0x110000) = true
  rw [Array.all_eq_true_iff_forall_mem]
  intro c hc
  have := h c (by simpa using hc)
  unfold okc at this
  simp only [decide_eq_true_eq]
  omega
theorem okText_right {x y : Str} (h : okText (x ++ y)) : okText y := fun c hc => h c (by
  rw [Str.cps_append]
  simp only [Array.toList_append, List.mem_append]
  exact .inr hc)
theorem nm_okText {c : Par} (C : ParOk c) {n : Nat} (h : n < 4) : okText (c.nm n) := okText_right (x := Str.ofString "257 ") ((C.nm n h).ok 5 (by decide))
theorem strD {x : Str} (h : okText x) (n : Nat) : kqdOk n (.str x) = true := by
  cases n <;> exact ok_str h
theorem litD {x : Str} (h : PyData.strOk x = true) (n : Nat) : kqdOk n (.str x) = true := by
  cases n <;> exact h
theorem seen_ok {c : Par} (C : ParOk c) {n k : Nat} (hn : n < 4) (hk : k < 6) (m : Nat) : kqdOk m (optD (seenO (c.nm n) k)) = true := by
  match k, hk with
  | 0, _ => exact strD (nm_okText C hn) m
  | 1, _ => exact strD (nm_okText C hn) m
  | 2, _ => exact strD (nm_okText C hn) m
  | 3, _ => cases m <;> rfl
  | 4, _ => exact litD (x := Str.ofString "") (by decide +kernel) m
  | 5, _ => exact litD (x := Str.ofString "") (by decide +kernel) m
theorem intD (i : Int) (n : Nat) : kqdOk n (.int i) = true := by cases n <;> rfl
theorem tupD {ds : List Dat} {n : Nat} (h : ∀ d ∈ ds, kqdOk n d = true) : kqdOk (n + 1) (.tuple ds) = true := by
  show ds.all (kqdOk n) = true
  exact List.all_eq_true.mpr h
theorem lisD {ds : List Dat} {n : Nat} (h : ∀ d ∈ ds, kqdOk n d = true) : kqdOk (n + 1) (.list ds) = true := by
  show ds.all (kqdOk n) = true
  exact List.all_eq_true.mpr h
theorem aseen_ok {host : Str} (H : okText host) {n k : Nat} (hk : k < 6) (m : Nat) : kqdOk (m + 1) (seenA host n k) = true := by
  have t : kqdOk (m + 1) (.tuple [.str host, .int n]) = true := tupD (by
    intro d hd
    simp only [List.mem_cons, List.not_mem_nil, or_false] at hd
    rcases hd with rfl | rfl
    · exact strD H m
    · exact intD _ m)
  match k, hk with
  | 0, _ => exact t
  | 1, _ => exact t
  | 2, _ => exact t
  | 3, _ => exact litD (x := Str.ofString "code") (by decide +kernel) _
  | 4, _ => exact litD (x := Str.ofString "marks") (by decide +kernel) _
  | 5, _ => exact litD (x := Str.ofString "marks") (by decide +kernel) _
theorem word_okP {c : Par} (C : ParOk c) (p : Pk) : okText (c.word p) := wS_okText (Par.no_lt C _)
theorem pd_ok {c : Par} (C : ParOk c) {S : St} (I : Inv c S) (m : Nat) : ∀ d ∈ S.lane.map c.pd, kqdOk (m + 2) d = true := by
  intro d hd
  obtain ⟨p, hp, rfl⟩ := List.mem_map.mp hd
  have hi := I.l4 p hp
  refine tupD ?_
  intro d hd
  simp only [List.mem_cons, List.not_mem_nil, or_false] at hd
  rcases hd with rfl | rfl | rfl | rfl
  · exact intD _ _
  · exact strD (word_okP C p) _
  · exact strD ((C.nm p.n hi.1).ok p.k hi.2.1) _
  · exact seen_ok C hi.1 hi.2.1 _
theorem ad_ok {c : Par} (C : ParOk c) (H : okText c.host) {S : St} (I : Inv c S) (m : Nat) : ∀ d ∈ S.back.map c.ad, kqdOk (m + 2) d = true := by
  intro d hd
  obtain ⟨p, hp, rfl⟩ := List.mem_map.mp hd
  have hi := I.b4 p hp
  refine tupD ?_
  intro d hd
  simp only [List.mem_cons, List.not_mem_nil, or_false] at hd
  rcases hd with rfl | rfl | rfl | rfl
  · exact intD _ _
  · exact strD (word_okP C p) _
  · exact strD (ans_ok (host := c.host) (Par.no_lt C _) hi.1).ok _
  · exact aseen_ok H hi.1 _
open Classical in
theorem m_neNil {prog : Program} {w : World} {A : Around} {E : Value → Shared → Prop} {s : Shared} {h₀ : Heap} {L a b : Addr} {news : Led} {xs : List Value} {ka kb : Nat} {ds : List Dat} {Q : Value → Shared → Prop} (N : News h₀ L s.heap news) (ma : (a, listOf xs.toArray ka) ∈ news) (Da : DatAll news xs ds) (mb : (b, listOf #[] kb) ∈ news)
    (ha : ∀ d ∈ ds, kqdOk 8 d = true) (hu : A.units + 64 < cLine) (h : Q (.bool (decide (0 < ds.length))) s) : wpAny (model prog w) A (compareOp .NotEq (.ref a) (.ref b)) Q E s := by
  refine kqd_ne N ma rfl rfl Da (fun p hp => hp) mb rfl (ys := []) rfl DatAll.nil (fun p hp => hp) ha (by intro d hd; exact absurd hd List.not_mem_nil) hu ?_
  cases ds with
  | nil => simpa using h
  | cons d r => simpa using h
theorem m_neT {α : Type} {f : α → Dat} {l r : List α} {p : α} {prog : Program} {w : World} {A : Around} {E : Value → Shared → Prop} {s : Shared} {h₀ : Heap} {L a b : Addr} {news : Led} {xs : List Value} {ka kb : Nat} {Q : Value → Shared → Prop} (hl : l = p :: r) (N : News h₀ L s.heap news) (ma : (a, listOf xs.toArray ka) ∈ news) (Da : DatAll news xs (l.map f)) (mb : (b, listOf #[] kb) ∈ news)
    (ha : ∀ d ∈ l.map f, kqdOk 8 d = true) (hu : A.units + 64 < cLine) (h : Q (.bool true) s) : wpAny (model prog w) A (compareOp .NotEq (.ref a) (.ref b)) Q E s := by
  subst hl
  exact m_neNil N ma Da mb ha hu h
theorem m_neF {α : Type} {f : α → Dat} {l : List α} {prog : Program} {w : World} {A : Around} {E : Value → Shared → Prop} {s : Shared} {h₀ : Heap} {L a b : Addr} {news : Led} {xs : List Value} {ka kb : Nat} {Q : Value → Shared → Prop} (hl : l = []) (N : News h₀ L s.heap news) (ma : (a, listOf xs.toArray ka) ∈ news) (Da : DatAll news xs (l.map f)) (mb : (b, listOf #[] kb) ∈ news)
    (ha : ∀ d ∈ l.map f, kqdOk 8 d = true) (hu : A.units + 64 < cLine) (h : Q (.bool false) s) : wpAny (model prog w) A (compareOp .NotEq (.ref a) (.ref b)) Q E s := by
  subst hl
  exact m_neNil N ma Da mb ha hu h
theorem head_in {α : Type} {news : Led} {vs : List Value} {l : List α} {f : α → Dat} {p : α} {r : List α} (D : DatAll news vs (l.map f)) (hl : l = p :: r) : ∃ v vs', vs = v :: vs' ∧ DatIn news v (f p) := by
  subst hl
  cases D with
  | cons h1 h2 => exact ⟨_, _, rfl, h1⟩
theorem m_head {prog : Program} {w : World} {A : Around} {E : Value → Shared → Prop} {s : Shared} {h₀ : Heap} {L : Addr} {news : Led} {K : Addr} {vs vs' : List Value} {v : Value} {n : Nat} {value slice : PySem.Expr} {u : Tok} {Q : Value → Shared → Prop}
    (N : News h₀ L s.heap news) (hm : (K, listOf vs.toArray n) ∈ news) (hv : vs = v :: vs') (h : Q v s)
    (he : subscripted slice false (.ref K) (.int 0 u) = operate [.ref K, .int 0 u] (getItem (.ref K) (.int 0 u)) := by with_unfolding_all rfl) :
    wpAny (model prog w) A (subscriptTail value slice (.ref K) (.int 0 u)) Q E s :=
  item_listR (items := vs.toArray) (k := 0) ⟨_, (N _ hm).1, rfl, _, rfl⟩ (by decide) (by decide) (by rw [hv]; rfl) h he
theorem sub_rest {w a b : Nat} : (decide (Int.fmod ((a : Int) - (b : Int)) ((w + 1 : Nat) : Int) ≠ 0)) = decide (a % (w + 1) ≠ b % (w + 1)) := by
  have e : Int.fmod ((a : Int) - (b : Int)) ((w + 1 : Nat) : Int) = 0 ↔ a % (w + 1) = b % (w + 1) := by
    rw [Int.fmod_eq_emod_of_nonneg _ (by omega), ← Int.emod_emod_of_dvd _ (Int.dvd_refl _), Int.sub_emod, ← Int.natCast_emod, ← Int.natCast_emod]
    have h1 : a % (w + 1) < w + 1 := Nat.mod_lt _ (by omega)
    have h2 : b % (w + 1) < w + 1 := Nat.mod_lt _ (by omega)
    constructor
    · intro h
      rw [Int.emod_emod_of_dvd _ (Int.dvd_refl _)] at h
      obtain ⟨k, hk⟩ := Int.dvd_of_emod_eq_zero h
      have : k = 0 := by
        rcases Int.lt_trichotomy k 0 with h3 | h3 | h3
        · have : ((w + 1 : Nat) : Int) * k ≤ ((w + 1 : Nat) : Int) * (-1) := Int.mul_le_mul_of_nonneg_left (by omega) (by omega)
          omega
        · exact h3
        · have : ((w + 1 : Nat) : Int) * 1 ≤ ((w + 1 : Nat) : Int) * k := Int.mul_le_mul_of_nonneg_left (by omega) (by omega)
          omega
      subst this
      omega
    · intro h
      rw [h]
      simp
  exact decide_eq_decide.mpr (not_congr e)
theorem ne_dec (x : Int) : (x != 0) = decide (x ≠ 0) := by
  by_cases h : x = 0
  · subst h; rfl
  · have h1 : (x != 0) = true := by simpa using h
    rw [h1, decide_eq_true h]
theorem sub_ne {w a b : Nat} : (Int.fmod ((a : Int) - (b : Int)) ((w + 1 : Nat) : Int) != 0) = decide (a % (w + 1) ≠ b % (w + 1)) := (ne_dec _).trans sub_rest
section
variable {c : Par} {S S' : St} {lv bv ys : List Value} {ln bn : Nat} {nw : Led} {LA BA D K : Addr} {due : Dat} {t1 t2 : Tok} {nt : Nat}
theorem whole_still (hS : S' = S) (hd : due = .none) (G : Lines c S LA BA lv bv ln bn nw) (l1 : AllLt D nw) :
    WholePost c LA BA nw S' due (nw ++ [(D, { cls := .type "tuple", data := .seq #[.ref LA, .ref BA, .int S.taken t1, .int S.known t2, .none] nt })]) (.ref D) := by
  subst hS hd
  exact ⟨_, D, LA, BA, lv, bv, ln, bn, .none, t1, t2, nt, rfl, rfl, after_lt l1, .head _, List.mem_append_left _ G.la, G.dl.mono fun p hp => List.mem_append_left _ hp, List.mem_append_left _ G.ba, G.db.mono fun p hp => List.mem_append_left _ hp, .none, .inl rfl, .inl rfl⟩
theorem whole_cut1 {e : Nat} {p : Pk} {r : List Pk} (hl : S.lane = p :: r) (G : Lines c S LA BA lv bv ln bn nw) (l1 : AllLt D nw) (oK : After nw [(K, LCg.lst ys)]) (hy : DatAll nw ys ((S.lane.filter fun q => decide (q.n % (c.w + 1) ≠ p.n % (c.w + 1))).map c.pd)) :
    WholePost c LA BA nw (stepS c 2 e S) (stepD c 2 S) (nw ++ [(D, { cls := .type "tuple", data := .seq #[.ref K, .ref BA, .int S.taken t1, .int S.known t2, .none] nt }), (K, LCg.lst ys)]) (.ref D) := by
  rw [stepS_2]
  refine ⟨_, D, K, BA, ys, bv, _, bn, .none, t1, t2, nt, rfl, rfl, After.cons (after_lt l1) oK, .head _, List.mem_append_right _ (.tail _ (.head _)), ?_, List.mem_append_left _ G.ba, G.db.mono fun p hp => List.mem_append_left _ hp, .none, .inr ⟨_, .tail _ (.head _)⟩, .inl rfl⟩
  show DatAll _ ys ((cut c.w S.lane).map c.pd)
  rw [hl] at hy ⊢
  exact hy.mono fun p hp => List.mem_append_left _ hp
theorem whole_cut2 {e : Nat} {p : Pk} {r : List Pk} (hl : S.back = p :: r) (G : Lines c S LA BA lv bv ln bn nw) (l1 : AllLt D nw) (oK : After nw [(K, LCg.lst ys)]) (hy : DatAll nw ys ((S.back.filter fun q => decide (q.n % (c.w + 1) ≠ p.n % (c.w + 1))).map c.ad)) :
    WholePost c LA BA nw (stepS c 4 e S) (stepD c 4 S) (nw ++ [(D, { cls := .type "tuple", data := .seq #[.ref LA, .ref K, .int S.taken t1, .int S.known t2, .none] nt }), (K, LCg.lst ys)]) (.ref D) := by
  rw [stepS_4]
  refine ⟨_, D, LA, K, lv, ys, ln, _, .none, t1, t2, nt, rfl, rfl, After.cons (after_lt l1) oK, .head _, List.mem_append_left _ G.la, G.dl.mono fun p hp => List.mem_append_left _ hp, List.mem_append_right _ (.tail _ (.head _)), ?_, .none, .inl rfl, .inr ⟨_, .tail _ (.head _)⟩⟩
  show DatAll _ ys ((cut c.w S.back).map c.ad)
  rw [hl] at hy ⊢
  exact hy.mono fun p hp => List.mem_append_left _ hp
end
theorem m_pickD {prog : Program} {w : World} {A : Around} {E : Value → Shared → Prop} {s : Shared} {h₀ : Heap} {L : Addr} {news : Led} {K : Addr} {vs : List Value} {ds : List Dat} {n k : Nat} {value slice : PySem.Expr} {u : Tok} {Q : Value → Shared → Prop}
    (N : News h₀ L s.heap news) (hm : (K, listOf vs.toArray n) ∈ news) (hD : DatAll [] vs ds) (hk : k < ds.length) (hz : ds.length < 1000) (h : ∀ v, DatIn [] v (ds.getD k .none) → Q v s)
    (he : subscripted slice false (.ref K) (.int (k : Int) u) = operate [.ref K, .int (k : Int) u] (getItem (.ref K) (.int (k : Int) u)) := by with_unfolding_all rfl) :
    wpAny (model prog w) A (subscriptTail value slice (.ref K) (.int (k : Int) u)) Q E s := by
  have hl : vs.length = ds.length := hD.length
  obtain ⟨v, hv⟩ : ∃ v, vs[k]? = some v := ⟨_, List.getElem?_eq_getElem (by omega)⟩
  obtain ⟨d, hd, hin⟩ := all_get hD hv
  refine item_listR (items := vs.toArray) (k := (k : Int)) ⟨_, (N _ hm).1, rfl, _, rfl⟩ (by omega) (by omega) (by simpa using hv) (h v ?_) he
  rw [List.getD_eq_getElem?_getD, hd]
  exact hin
theorem seen_get {x : Str} {k : Nat} (hk : k < 6) : ([.str x, .str x, .str x, .none, .str (Str.ofString ""), .str (Str.ofString "")] : List Dat).getD k .none = optD (seenO x k) := by
  match k, hk with
  | 0, _ => rfl
  | 1, _ => rfl
  | 2, _ => rfl
  | 3, _ => rfl
  | 4, _ => rfl
  | 5, _ => rfl
theorem m_seen {prog : Program} {w : World} {A : Around} {E : Value → Shared → Prop} {s : Shared} {h₀ : Heap} {L : Addr} {news : Led} {K : Addr} {x : Str} {t1 t2 t3 t4 t5 : Tok} {n k : Nat} {value slice : PySem.Expr} {u : Tok} {Q : Value → Shared → Prop}
    (N : News h₀ L s.heap news) (hm : (K, listOf #[.str x t1, .str x t2, .str x t3, .none, .str (Str.ofString "") t4, .str (Str.ofString "") t5] n) ∈ news) (hk : k < 6) (h : ∀ v, DatIn [] v (optD (seenO x k)) → Q v s)
    (he : subscripted slice false (.ref K) (.int (k : Int) u) = operate [.ref K, .int (k : Int) u] (getItem (.ref K) (.int (k : Int) u)) := by with_unfolding_all rfl) :
    wpAny (model prog w) A (subscriptTail value slice (.ref K) (.int (k : Int) u)) Q E s :=
  m_pickD (vs := [.str x t1, .str x t2, .str x t3, .none, .str (Str.ofString "") t4, .str (Str.ofString "") t5]) (ds := [.str x, .str x, .str x, .none, .str (Str.ofString ""), .str (Str.ofString "")]) N hm (.cons (.str _ _) (.cons (.str _ _) (.cons (.str _ _) (.cons .none (.cons (.str _ _) (.cons (.str _ _) .nil)))))) hk (by show (6 : Nat) < 1000; decide) (fun v hv => h v (seen_get hk ▸ hv)) he
theorem m_cat {prog : Program} {w : World} {A : Around} {E : Value → Shared → Prop} {s : Shared} {h₀ : Heap} {L a b : Addr} {m : Str → Option Value} {news : Led} {vs : List Value} {v : Value} {n k : Nat} {Q : Value → Shared → Prop} (F : Fr h₀ L s.heap m) (N : News h₀ L s.heap news) (ha : (a, listOf vs.toArray n) ∈ news) (hb : (b, listOf #[v] k) ∈ news) (hz : vs.length < 1000)
    (h : ∀ D h', Fr h₀ L h' m → News h₀ L h' ((D, listOf (vs ++ [v]).toArray 0) :: news) → (∀ p ∈ news, p.1 < D) → Q (.ref D) { s with heap := h' }) : wpAny (model prog w) A (binaryOp .Add (.ref a) (.ref b)) Q E s :=
  kmk_add_lit (its := vs.toArray) (its2 := #[v]) (zs := vs ++ [v]) F N ⟨_, (N _ ha).1, rfl, _, rfl⟩ ⟨_, (N _ hb).1, rfl, _, rfl⟩ (by simp) h (by rw [sizeLine_eq]; simp; omega)
theorem whole_laid {c : Par} {S : St} {lv bv : List Value} {ln bn : Nat} {nw : Led} {LA BA D X q : Addr} {t1 t2 t3 t4 t5 : Tok} {nt kq e : Nat} {x : Str} {sv : Value} (hlt : S.known + e / 12 % c.w < 4) (G : Lines c S LA BA lv bv ln bn nw) (l1 : AllLt D nw) (lX : After nw [(X, listOf (lv ++ [Value.ref q]).toArray 0)]) (lq : AllLt q nw) (hx : x = c.word (mk (S.known + e / 12 % c.w) e))
    (hs : DatIn [] sv (optD (seenO (c.ns.getD (S.known + e / 12 % c.w) Str.empty) (e % 6)))) :
    WholePost c LA BA nw (stepS c 0 e S) (stepD c 0 S) (nw ++ [(D, { cls := .type "tuple", data := .seq #[.ref X, .ref BA, .int S.taken t1, .int S.known t2, .none] nt }), (X, listOf (lv ++ [Value.ref q]).toArray 0),
      (q, { cls := .type "tuple", data := .seq #[.int ((S.known + e / 12 % c.w : Nat) : Int) t3, .str x t4, .str (pktS (c.ns.getD (S.known + e / 12 % c.w) Str.empty) (e % 6)) t5, sv] kq })]) (.ref D) := by
  rw [stepS_0y hlt]
  subst hx
  refine ⟨_, D, X, BA, lv ++ [.ref q], bv, 0, bn, .none, t1, t2, nt, rfl, rfl, After.cons (after_lt l1) (After.cons lX (after_lt lq)), .head _, List.mem_append_right _ (.tail _ (.head _)), ?_, List.mem_append_left _ G.ba, G.db.mono fun p hp => List.mem_append_left _ hp, .none, .inr ⟨_, .tail _ (.head _)⟩, .inl rfl⟩
  show DatAll _ _ ((S.lane ++ [mk (S.known + e / 12 % c.w) e]).map c.pd)
  rw [List.map_append]
  refine DatAll.append (G.dl.mono fun p hp => List.mem_append_left _ hp) (DatAll.one ?_)
  exact DatIn.tuple (vs := [.int ((S.known + e / 12 % c.w : Nat) : Int) t3, .str _ t4, .str _ t5, sv]) (List.mem_append_right _ (.tail _ (.tail _ (.head _)))) (.cons (.int _ _) (.cons (.str _ _) (.cons (.str _ _) (.cons (hs.mono fun p hp => absurd hp List.not_mem_nil) .nil))))
end
section -- MWh2
open LCg LCp LCt
section
variable {c : Par} {S S' : St} {lv bv ys zs : List Value} {ln bn : Nat} {nw : Led} {LA BA D T K V X q : Addr} {due seen : Dat} {ws xs : List Str} {t1 t2 t3 t4 t5 : Tok} {nt nt' kq : Nat} {r sv : Value} {z1 z2 : Int}
theorem whole_told (hl : S'.lane = S.lane) (hb : S'.back = S.back) (h1 : z1 = (S'.taken : Int)) (h2 : z2 = (S'.known : Int)) (hd : due = dueD ws xs seen) (G : Lines c S LA BA lv bv ln bn nw) (lD : AllLt D nw) (lT : AllLt T nw) (aV : After nw [(V, LCg.lst zs)]) (aK : After nw [(K, LCg.lst ys)])
    (hy : StrsAre ys ws) (hz : StrsAre zs xs) (hr : DatIn nw r seen) :
    WholePost c LA BA nw S' due (nw ++ [(D, { cls := .type "tuple", data := .seq #[.ref LA, .ref BA, .int z1 t1, .int z2 t2, .ref T] nt }), (T, { cls := .type "tuple", data := .seq #[.ref K, .ref V, r] nt' }), (V, LCg.lst zs), (K, LCg.lst ys)]) (.ref D) := by
  subst hd h1 h2
  refine ⟨_, D, LA, BA, lv, bv, ln, bn, .ref T, t1, t2, nt, rfl, rfl, After.cons (after_lt lD) (After.cons (after_lt lT) (After.cons aV aK)), .head _, List.mem_append_left _ G.la, ?_, List.mem_append_left _ G.ba, ?_, ?_, .inl rfl, .inl rfl⟩
  · rw [hl]; exact G.dl.mono fun p hp => List.mem_append_left _ hp
  · rw [hb]; exact G.db.mono fun p hp => List.mem_append_left _ hp
  · exact due_in (List.mem_append_right _ (.tail _ (.head _))) (List.mem_append_right _ (.tail _ (.tail _ (.tail _ (.head _))))) (List.mem_append_right _ (.tail _ (.tail _ (.head _)))) hy hz (hr.mono fun p hp => List.mem_append_left _ hp)
/-- a packet read: an answer is laid -/
theorem whole_read {e t : Nat} {x : Str} {P1 P2 P3 : Addr} {oP1 oP2 oP3 : Obj} (hS : S' = { S with taken := t, back := S.back ++ [mk t e] }) (h1 : z1 = (t : Int)) (h2 : z2 = (t : Int)) (hd : due = dueD ws xs seen) (G : Lines c S LA BA lv bv ln bn nw) (lD : AllLt D nw) (lX : After nw [(X, listOf (bv ++ [Value.ref q]).toArray 0)]) (lq : AllLt q nw)
    (l1 : AllLt P1 nw) (l2 : AllLt P2 nw) (l3 : AllLt P3 nw) (lT : AllLt T nw) (aV : After nw [(V, LCg.lst zs)]) (aK : After nw [(K, LCg.lst ys)]) (hx : x = c.word (mk t e))
    (hy : StrsAre ys ws) (hz : StrsAre zs xs) (hr : DatIn nw r seen) (hs : DatIn [(P1, oP1), (P2, oP2), (P3, oP3)] sv (seenA c.host (c.no t) (e % 6))) :
    WholePost c LA BA nw S' due (nw ++ [(D, { cls := .type "tuple", data := .seq #[.ref LA, .ref X, .int z1 t1, .int S.known t2, .ref T] nt }), (X, listOf (bv ++ [Value.ref q]).toArray 0),
      (q, { cls := .type "tuple", data := .seq #[.int z2 t3, .str x t4, .str (ansS (c.no t) (e % 6)) t5, sv] kq }), (P1, oP1), (P2, oP2), (P3, oP3),
      (T, { cls := .type "tuple", data := .seq #[.ref K, .ref V, r] nt' }), (V, LCg.lst zs), (K, LCg.lst ys)]) (.ref D) := by
  subst hd hS hx h1 h2
  refine ⟨_, D, LA, X, lv, bv ++ [.ref q], ln, 0, .ref T, t1, t2, nt, rfl, rfl, After.cons (after_lt lD) (After.cons lX (After.cons (after_lt lq) (After.cons (after_lt l1) (After.cons (after_lt l2) (After.cons (after_lt l3) (After.cons (after_lt lT) (After.cons aV aK))))))), .head _, List.mem_append_left _ G.la, G.dl.mono fun p hp => List.mem_append_left _ hp, List.mem_append_right _ (.tail _ (.head _)), ?_, ?_, .inl rfl, .inr ⟨_, .tail _ (.head _)⟩⟩
  · show DatAll _ _ ((S.back ++ [mk t e]).map c.ad)
    rw [List.map_append]
    refine DatAll.append (G.db.mono fun p hp => List.mem_append_left _ hp) (DatAll.one ?_)
    refine DatIn.tuple (vs := [.int (t : Int) t3, .str _ t4, .str _ t5, sv]) (List.mem_append_right _ (.tail _ (.tail _ (.head _)))) (.cons (.int _ _) (.cons (.str _ _) (.cons (.str _ _) (.cons (hs.mono fun p hp => List.mem_append_right _ (.tail _ (.tail _ (.tail _ ?_)))) .nil))))
    simp only [List.mem_cons, List.not_mem_nil, or_false] at hp
    rcases hp with rfl | rfl | rfl
    · exact .head _
    · exact .tail _ (.head _)
    · exact .tail _ (.tail _ (.head _))
  · exact due_in (List.mem_append_right _ (.tail _ (.tail _ (.tail _ (.tail _ (.tail _ (.tail _ (.head _)))))))) (List.mem_append_right _ (.tail _ (.tail _ (.tail _ (.tail _ (.tail _ (.tail _ (.tail _ (.tail _ (.head _)))))))))) (List.mem_append_right _ (.tail _ (.tail _ (.tail _ (.tail _ (.tail _ (.tail _ (.tail _ (.head _))))))))) hy hz (hr.mono fun p hp => List.mem_append_left _ hp)
end
theorem sub_end {nw : Led} (pre mid : Led) : ∀ p ∈ nw ++ pre, p ∈ pre ++ (mid ++ nw) := fun p hp => (List.mem_append.mp hp).elim (fun h => List.mem_append_right _ (List.mem_append_right _ h)) fun h => List.mem_append_left _ h
theorem sub9 {nw : Led} {D X l q b P1 P2 P3 T V K : Addr × Obj} (mid : Led) : ∀ p ∈ nw ++ [D, X, q, P1, P2, P3, T, V, K], p ∈ D :: X :: l :: q :: b :: P3 :: P2 :: P1 :: T :: V :: K :: (mid ++ nw) := by
  intro p hp
  rcases List.mem_append.mp hp with h | h
  · exact (.tail _ (.tail _ (.tail _ (.tail _ (.tail _ (.tail _ (.tail _ (.tail _ (.tail _ (.tail _ (.tail _ (List.mem_append_right _ h))))))))))))
  · simp only [List.mem_cons, List.not_mem_nil, or_false] at h
    rcases h with rfl | rfl | rfl | rfl | rfl | rfl | rfl | rfl | rfl
    · exact (.head _)
    · exact (.tail _ (.head _))
    · exact (.tail _ (.tail _ (.tail _ (.head _))))
    · exact (.tail _ (.tail _ (.tail _ (.tail _ (.tail _ (.tail _ (.tail _ (.head _))))))))
    · exact (.tail _ (.tail _ (.tail _ (.tail _ (.tail _ (.tail _ (.head _)))))))
    · exact (.tail _ (.tail _ (.tail _ (.tail _ (.tail _ (.head _))))))
    · exact (.tail _ (.tail _ (.tail _ (.tail _ (.tail _ (.tail _ (.tail _ (.tail _ (.head _)))))))))
    · exact (.tail _ (.tail _ (.tail _ (.tail _ (.tail _ (.tail _ (.tail _ (.tail _ (.tail _ (.head _))))))))))
    · exact (.tail _ (.tail _ (.tail _ (.tail _ (.tail _ (.tail _ (.tail _ (.tail _ (.tail _ (.tail _ (.head _)))))))))))
theorem m_pickG {prog : Program} {w : World} {A : Around} {E : Value → Shared → Prop} {s : Shared} {h₀ : Heap} {L : Addr} {news small : Led} {K : Addr} {vs : List Value} {ds : List Dat} {n k : Nat} {value slice : PySem.Expr} {u : Tok} {Q : Value → Shared → Prop}
    (N : News h₀ L s.heap news) (hm : (K, listOf vs.toArray n) ∈ news) (hD : DatAll small vs ds) (hk : k < ds.length) (hz : ds.length < 1000) (h : ∀ v, DatIn small v (ds.getD k .none) → Q v s)
    (he : subscripted slice false (.ref K) (.int (k : Int) u) = operate [.ref K, .int (k : Int) u] (getItem (.ref K) (.int (k : Int) u)) := by with_unfolding_all rfl) :
    wpAny (model prog w) A (subscriptTail value slice (.ref K) (.int (k : Int) u)) Q E s := by
  have hl : vs.length = ds.length := hD.length
  obtain ⟨v, hv⟩ : ∃ v, vs[k]? = some v := ⟨_, List.getElem?_eq_getElem (by omega)⟩
  obtain ⟨d, hd, hin⟩ := all_get hD hv
  refine item_listR (items := vs.toArray) (k := (k : Int)) ⟨_, (N _ hm).1, rfl, _, rfl⟩ (by omega) (by omega) (by simpa using hv) (h v ?_) he
  rw [List.getD_eq_getElem?_getD, hd]
  exact hin
noncomputable abbrev pairO (x : Str) (n : Int) (t u : Tok) (k : Nat) : Obj := { cls := .type "tuple", data := .seq #[.str x t, .int n u] k }
theorem m_seenA {prog : Program} {w : World} {A : Around} {E : Value → Shared → Prop} {s : Shared} {h₀ : Heap} {L : Addr} {news : Led} {K P1 P2 P3 : Addr} {x : Str} {p : Nat} {z : Int} {a1 a2 b1 b2 c1 c2 t3 t4 t5 : Tok} {n k n1 n2 n3 : Nat} {value slice : PySem.Expr} {u : Tok} {Q : Value → Shared → Prop}
    (N : News h₀ L s.heap news) (hm : (K, listOf #[.ref P1, .ref P2, .ref P3, .str (Str.ofString "code") t3, .str (Str.ofString "marks") t4, .str (Str.ofString "marks") t5] n) ∈ news) (h1 : (P1, pairO x z a1 a2 n1) ∈ news) (h2 : (P2, pairO x z b1 b2 n2) ∈ news) (h3 : (P3, pairO x z c1 c2 n3) ∈ news) (hz : z = (p : Int)) (hk : k < 6)
    (h : ∀ v, DatIn [(P1, pairO x z a1 a2 n1), (P2, pairO x z b1 b2 n2), (P3, pairO x z c1 c2 n3)] v (seenA x p k) → Q v s)
    (he : subscripted slice false (.ref K) (.int (k : Int) u) = operate [.ref K, .int (k : Int) u] (getItem (.ref K) (.int (k : Int) u)) := by with_unfolding_all rfl) :
    wpAny (model prog w) A (subscriptTail value slice (.ref K) (.int (k : Int) u)) Q E s := by
  subst hz
  refine m_pickG (small := [(P1, pairO x p a1 a2 n1), (P2, pairO x p b1 b2 n2), (P3, pairO x p c1 c2 n3)]) (vs := [.ref P1, .ref P2, .ref P3, .str (Str.ofString "code") t3, .str (Str.ofString "marks") t4, .str (Str.ofString "marks") t5])
    (ds := [.tuple [.str x, .int p], .tuple [.str x, .int p], .tuple [.str x, .int p], .str (Str.ofString "code"), .str (Str.ofString "marks"), .str (Str.ofString "marks")]) N hm ?_ hk (by show (6 : Nat) < 1000; decide) (fun v hv => h v hv) he
  exact .cons (DatIn.tuple (vs := [.str x a1, .int p a2]) (.head _) (.cons (.str _ _) (.cons (.int _ _) .nil))) (.cons (DatIn.tuple (vs := [.str x b1, .int p b2]) (.tail _ (.head _)) (.cons (.str _ _) (.cons (.int _ _) .nil))) (.cons (DatIn.tuple (vs := [.str x c1, .int p c2]) (.tail _ (.tail _ (.head _))) (.cons (.str _ _) (.cons (.int _ _) .nil))) (.cons (.str _ _) (.cons (.str _ _) (.cons (.str _ _) .nil)))))
end
section -- MLaw1
open LCg LCp LCt
theorem Fr.back {h₀ h₁ h' : Heap} {L : Addr} {m : Str → Option Value} (F : Fr h₁ L h' m) (K : KtsTurn [] h₀ h₁) : Fr h₀ L h' m :=
  ⟨F.ns, fun b o e => F.keep b o (K.other b o e (fun h => nomatch h)), by rw [← K.size]; exact F.above⟩
theorem News.back {h₀ h₁ h' : Heap} {L : Addr} {news : Led} (N : News h₁ L h' news) (K : KtsTurn [] h₀ h₁) : News h₀ L h' news := fun p hp => ⟨(N p hp).1, (N p hp).2.1, by
  cases q : h₀.get? p.1 with
  | none => rfl
  | some o =>
    have e := K.other _ _ q (fun h => nomatch h)
    rw [(N p hp).2.2] at e
    cases e⟩
/-- a contract in the law's own frame -/
theorem SaysT.law {w : World} {mean : ExcName → Option Value} {mg mb : Str → Option Value} {D : Nat} {f : Addr} {vs : List Value} {kw : List (Str × Value)} {news : Led} {Post : Led → Value → Prop} (C : SaysT w mean mg mb D f vs kw news Post)
    {dp un : Nat} {gd : Option (List Code)} {cn : Str} {cs : Scope} {a : Addr} {ccd : Value} {cl : List (Str × Addr)} {A₀ : Around} {h₀ : Heap} {L : Addr} {m : Str → Option Value} {s : Shared}
    {Q E : Value → Shared → Prop} (B : Below A₀ h₀ [] h₀) (F : Fr h₀ L s.heap m) (X : (P.heap_1 w.params).In h₀) (N : News h₀ L s.heap news) (T : Top P.view_1 LO mean mg mb h₀) (hk : cs.kind = .function) (hd : dp < D + 300) (hu : un < 10 * D)
    (ret : ∀ r news' h' tk', Fr h₀ L h' m → News h₀ L h' news' → Post news' r → Q r { s with heap := h', toks := tk' }) :
    wpAny (model PySem.Challenge.rw_yh0023_01.row.prog w) (ktrTop dp un gd cn cs L a ccd cl []) (call (.ref f) vs kw) Q E s :=
  SaysT.use C B F X N T X T (fun b hb => nomatch hb) hk hd hu fun r news' h' tk' _ K F' N' _ _ _ _ p => ret r news' h' tk' (Fr.back F' K) (News.back N' K) p
section
variable {prog : Program} {w : World} {A : Around} {h₀ : Heap} {L : Addr} {m : Str → Option Value} {env : Env} {ct elt : Expr} {x : Str} {scope : Scope} {cl : List (Str × Addr)} {s : Shared} {Fin : List Value → Led → Prop}
/-- a comprehension over a range: what is true of each item -/
theorem rng_rest {n : Nat} {news : Led} (G : Nat → Value → Prop)
    (turn : ∀ i t I oI C oC D m₂ h tk (E' : Value → Shared → Prop) ys, i < n → NsObj oC m₂ → m₂ x = some (.int (i : Int) t) → Fr h₀ L h m → News h₀ L h ((I, oI) :: (C, oC) :: (D, lst ys) :: news) → Off3 I C D news → ((@Ne Nat I C) ∧ (@Ne Nat I D) ∧ (@Ne Nat C D)) →
      wpAny (model prog w) A (eval elt (compEnvC scope cl C env)) (fun y s' => G i y ∧ ∃ h' tk', s' = { s with heap := h', toks := tk' } ∧ Fr h₀ L h' m ∧ News h₀ L h' ((I, oI) :: (C, oC) :: (D, lst ys) :: news)) E' { s with heap := h, toks := tk })
    (fin : ∀ ys : List Value, ys.length = n → (∀ i v, ys[i]? = some v → G i v) → Fin ys news) : CompRest prog w A h₀ L m env elt x scope cl s (fun _ => True) (fun i v => ∃ t, v = .int (0 + (i : Int)) t) Fin n 0 [] news := by
  refine rest_U (n := n) (fun i ys nw => nw = news ∧ ys.length = i ∧ ∀ j v, ys[j]? = some v → G j v) ?_ ?_ _ _ _ _ (Nat.zero_add _) ⟨rfl, rfl, fun j v h => by simp at h⟩
  · rintro i v ys nw I oI C oC D m₂ h tk E' hi ⟨t, rfl⟩ ⟨rfl, hl, hy⟩ hC hx F N off ne
    rw [Int.zero_add] at hx
    refine wpAny_mono (turn i t I oI C oC D m₂ h tk E' ys hi hC hx F N off ne) (fun y s₂ hq => ?_) fun _ _ e => e
    obtain ⟨hG, h', tk', rfl, F', N'⟩ := hq
    refine ⟨h', tk', nw, rfl, F', N', off, trivial, rfl, by rw [List.length_append, hl]; rfl, fun j v hv => ?_⟩
    by_cases hj : j < ys.length
    · rw [List.getElem?_append_left hj] at hv
      exact hy j v hv
    · rw [List.getElem?_append_right (Nat.not_lt.mp hj)] at hv
      have hj' : j - ys.length = 0 := by
        rcases Nat.eq_zero_or_pos (j - ys.length) with h | h
        · exact h
        · rw [List.getElem?_eq_none (show [y].length ≤ j - ys.length from h)] at hv
          cases hv
      rw [hj'] at hv
      have e : y = v := by simpa using hv
      have : j = i := by omega
      rw [this, ← e]
      exact hG
  · rintro ys nw ⟨rfl, hl, hy⟩
    exact fin ys hl hy
end
section
variable {prog : Program} {w : World} {A : Around} {E : Value → Shared → Prop} {s : Shared} {env : Env} {h₀ : Heap} {x : Str} {body : List Stmt} {Q : Flow → Shared → Prop}
/-- what a loop's turn leaves -/
noncomputable def TurnJ (h₀ : Heap) (L : Addr) (own : Led) (s : Shared) (J : (Str → Option Value) → Led → Prop) (Q : Flow → Shared → Prop) (f : Flow) (s₂ : Shared) : Prop :=
  match f with
  | .ret v => Q (.ret v) s₂
  | .brk => Q .next s₂
  | _ => ∃ h' tk m₂ news₂, s₂ = { s with heap := h', toks := tk } ∧ Fr h₀ L h' m₂ ∧ News h₀ L h' (own ++ news₂) ∧ (∀ q ∈ own, ∀ p ∈ news₂, p.1 ≠ q.1) ∧ J m₂ news₂
theorem TurnJ.next {h₀ : Heap} {L : Addr} {own : Led} {s : Shared} {J : (Str → Option Value) → Led → Prop} {h' : Heap} {tk : Nat} {m₂ : Str → Option Value} {news₂ : Led} (F : Fr h₀ L h' m₂) (N : News h₀ L h' (own ++ news₂)) (ha : ∀ q ∈ own, ∀ p ∈ news₂, p.1 ≠ q.1) (hJ : J m₂ news₂) :
    TurnJ h₀ L own s J Q .next { s with heap := h', toks := tk } := ⟨h', tk, m₂, news₂, rfl, F, N, ha, hJ⟩
theorem m_forR {r : Addr} {b : Int} {t₀ u₀ v₀ : Tok} {n : Nat} {m₀ : Str → Option Value} {news : Led} (J : Nat → (Str → Option Value) → Led → Prop)
    (hh : A.handled = none) (hr : IsRange s.heap r 0 b 1 t₀ u₀ v₀) (hsmall : Builtin.Range.small 0 b 1 = true) (hn : Builtin.Range.rangeSize 0 b 1 = (n : Int)) (F : Fr h₀ env.locals s.heap m₀) (N : News h₀ env.locals s.heap news) (hJ : J 0 m₀ news)
    (turn : ∀ i t m₁ news₁ h tk I oI, i < n → oI.cls ≠ .type "tuple" → J i m₁ news₁ → (∀ p ∈ news₁, p.1 ≠ I) → Fr h₀ env.locals h (fun y => if y = x then some (.int (i : Int) t) else m₁ y) → News h₀ env.locals h ((I, oI) :: news₁) →
      wpAny (model prog w) A (execs body env) (TurnJ h₀ env.locals [(I, oI)] { s with heap := h, toks := tk } (J (i + 1)) Q) E { s with heap := h, toks := tk })
    (done : ∀ m₁ news₁ h tk, J n m₁ news₁ → Fr h₀ env.locals h m₁ → News h₀ env.locals h news₁ → Q .next { s with heap := h, toks := tk }) :
    wpAny (model prog w) A (pyIter (.ref r)) (fun it s₂ => LoopAtV prog w A h₀ env x body Q E it s₂) E s := by
  refine wpAny_pyIter_range hr hsmall ?_
  have W : Walks prog w A s.heap.objs.size [s.heap.objs.size] [s.heap.objs.size] n (fun i v => i < n ∧ ∃ t, v = .int (0 + i * 1) t)
      (fun i h => IsRangeIter h s.heap.objs.size (0 + (i : Nat) * 1) ((n : Int) - (i : Nat)) 1) := (Walks.range hh _ 0 1 n).bound
  refine ⟨_, _, _, n, _, _, m₀, news, J, rfl, W, ?_, ?_, ?_, (by show IsRangeIter _ _ _ _ _; rw [hn]; simpa using Heap.get?_push_size _ rfl), F.push _, (fun p hp => ⟨Heap.get?_push_of_some _ (N p hp).1, (N p hp).2⟩), hJ, ?_, ?_⟩
  · intro hm
    exact absurd F.ns.lt ((List.mem_singleton.mp hm) ▸ Nat.lt_irrefl _)
  · intro b hb
    rw [List.mem_singleton.mp hb]
    exact next_is_new F
  · intro p hp hI
    exact absurd (Heap.lt_size (N p hp).1) ((List.mem_singleton.mp hI) ▸ Nat.lt_irrefl _)
  · rintro i v m₁ news₁ s₁ own ⟨hh', tk', rfl⟩ hin ⟨_, t, rfl⟩ hJ' hoff hown hlive hall hst F₁ N₁
    have hI₀ : h₀.get? s.heap.objs.size = none := next_is_new F
    obtain ⟨oI, heI, hcI⟩ : ∃ o, hh'.get? s.heap.objs.size = some o ∧ o.cls ≠ .type "tuple" := ⟨_, hst, by simp⟩
    have hmI := hall _ (List.mem_singleton.mpr rfl) hI₀ oI heI
    have hoff' : ∀ p ∈ news₁, p.1 ≠ s.heap.objs.size := fun p hp e => hoff p hp (List.mem_singleton.mpr e)
    have N₂ : News h₀ env.locals hh' ((s.heap.objs.size, oI) :: news₁) := fun p hp => by
      rcases List.mem_cons.mp hp with rfl | hp
      · exact N₁ _ (List.mem_append_left _ hmI)
      · exact N₁ _ (List.mem_append_right _ hp)
    have e0 : (0 : Int) + (i : Int) * 1 = (i : Int) := by omega
    rw [e0] at F₁
    refine wpAny_mono (turn i t m₁ news₁ hh' tk' _ oI hin hcI hJ' hoff' F₁ N₂) (fun f s₂ p => ?_) fun _ _ e => e
    have fin : (∃ h' tk m₂ news₂, s₂ = ({ s with heap := h', toks := tk } : Shared) ∧ Fr h₀ env.locals h' m₂ ∧ News h₀ env.locals h' ([(s.heap.objs.size, oI)] ++ news₂) ∧ (∀ q ∈ [(s.heap.objs.size, oI)], ∀ p ∈ news₂, p.1 ≠ q.1) ∧ J (i + 1) m₂ news₂) →
        LoopStepU h₀ env.locals [s.heap.objs.size] own (J (i + 1)) { s with heap := hh', toks := tk' } .next s₂ := by
      rintro ⟨h', tk, m₂, news₂, rfl, F', N', hne, hj⟩
      refine ⟨rfl, h', tk, m₂, news₂, rfl, F', fun p hp => ?_, fun p hp hq => hne _ (List.mem_singleton.mpr rfl) p hp (List.mem_singleton.mp hq), hj⟩
      rcases List.mem_append.mp hp with hp | hp
      · have e1 := List.mem_singleton.mp (hown p hp)
        have e2 := hlive p hp
        rw [e1, heI] at e2
        have e3 : p = (s.heap.objs.size, oI) := Prod.ext e1 (Option.some.inj e2).symm
        rw [e3]
        exact N' _ (.head _)
      · exact N' p (List.mem_append_right _ hp)
    cases f with
    | ret v => exact .ret p
    | brk => exact .brk p
    | next => exact .next (fin p)
    | cont => exact .cont (fin p)
  · rintro h' tk m' news' F' N' _ hJ'
    exact done m' news' h' tk hJ' F' N'
theorem m_forL {l : Addr} {items : Array Value} {k : Nat} {m₀ : Str → Option Value} {news : Led} (J : Nat → (Str → Option Value) → Led → Prop)
    (hh : A.handled = none) (hl : (l, ({ cls := .type "list", data := .seq items k } : Obj)) ∈ news) (F : Fr h₀ env.locals s.heap m₀) (N : News h₀ env.locals s.heap news) (small : Led) (hsub : ∀ p ∈ small, p ∈ news) (hJ : J 0 m₀ small)
    (turn : ∀ i v m₁ news₁ h tk I oI, items[i]? = some v → oI.cls ≠ .type "tuple" → J i m₁ news₁ → (∀ p ∈ news₁, p.1 ≠ I) → Fr h₀ env.locals h (fun y => if y = x then some v else m₁ y) → News h₀ env.locals h ((I, oI) :: (l, { cls := .type "list", data := .seq items k }) :: news₁) →
      wpAny (model prog w) A (execs body env) (TurnJ h₀ env.locals [(I, oI), (l, { cls := .type "list", data := .seq items k })] { s with heap := h, toks := tk } (J (i + 1)) Q) E { s with heap := h, toks := tk })
    (done : ∀ m₁ news₁ h tk, J items.size m₁ news₁ → Fr h₀ env.locals h m₁ → News h₀ env.locals h news₁ → Q .next { s with heap := h, toks := tk }) :
    wpAny (model prog w) A (pyIter (.ref l)) (fun it s₂ => LoopAtV prog w A h₀ env x body Q E it s₂) E s := by
  have hls : s.heap.IsList l items := ⟨_, (N _ hl).1, rfl, _, rfl⟩
  have hlt : l < s.heap.objs.size := Heap.lt_size (N _ hl).1
  have hne : l ≠ s.heap.objs.size := Nat.ne_of_lt hlt
  have hl₀ : h₀.get? l = none := (N _ hl).2.2
  have hlL : l ≠ env.locals := (N _ hl).2.1
  refine wpAny_pyIter_list hls ?_
  have W := Walks.list (prog := prog) (w := w) hh s.heap.objs.size l hne items
  let J' : Nat → (Str → Option Value) → Led → Prop := fun i m₁ news₁ => (∃ nw, news₁ = (l, { cls := .type "list", data := .seq items k }) :: nw ∧ J i m₁ nw)
  refine ⟨_, _, _, items.size, _, _, m₀, (l, { cls := .type "list", data := .seq items k }) :: small, J', rfl, W, ?_, ?_, ?_, ⟨⟨_, Heap.get?_push_size _ rfl, rfl, rfl⟩, hls.at fun o e => Heap.get?_push_of_some _ e⟩, F.push _, (fun p hp => ?_), ⟨small, rfl, hJ⟩, ?_, ?_⟩
  · intro hm
    rcases List.mem_cons.mp hm with e | hm
    · exact absurd F.ns.lt (e ▸ Nat.lt_irrefl _)
    · exact hlL (List.mem_singleton.mp hm).symm
  · intro b hb
    rw [List.mem_singleton.mp hb]
    exact next_is_new F
  · intro p hp hI
    have hp' : p ∈ news := by
      rcases List.mem_cons.mp hp with rfl | hp
      · exact hl
      · exact hsub p hp
    exact absurd (Heap.lt_size (N p hp').1) ((List.mem_singleton.mp hI) ▸ Nat.lt_irrefl _)
  · have hp' : p ∈ news := by
      rcases List.mem_cons.mp hp with rfl | hp
      · exact hl
      · exact hsub p hp
    exact ⟨Heap.get?_push_of_some _ (N p hp').1, (N p hp').2⟩
  · rintro i v m₁ news₁ s₁ own ⟨hh', tk', rfl⟩ hin hv ⟨nw, rfl, hJ'⟩ hoff hown hlive hall hst F₁ N₁
    have hI₀ : h₀.get? s.heap.objs.size = none := next_is_new F
    obtain ⟨oI, heI, hcI⟩ : ∃ o, hh'.get? s.heap.objs.size = some o ∧ o.cls ≠ .type "tuple" := ⟨_, hst.1.choose_spec.1, by rw [hst.1.choose_spec.2.1]; simp⟩
    have hmI := hall _ (.head _) hI₀ oI heI
    have hoff' : ∀ p ∈ nw, p.1 ≠ s.heap.objs.size := fun p hp e => hoff p (.tail _ hp) (List.mem_singleton.mpr e)
    have N₂ : News h₀ env.locals hh' ((s.heap.objs.size, oI) :: (l, { cls := .type "list", data := .seq items k }) :: nw) := fun p hp => by
      rcases List.mem_cons.mp hp with rfl | hp
      · exact N₁ _ (List.mem_append_left _ hmI)
      · exact N₁ _ (List.mem_append_right _ hp)
    refine wpAny_mono (turn i v m₁ nw hh' tk' _ oI hv hcI hJ' hoff' F₁ N₂) (fun f s₂ p => ?_) fun _ _ e => e
    have fin : (∃ h' tk m₂ news₂, s₂ = ({ s with heap := h', toks := tk } : Shared) ∧ Fr h₀ env.locals h' m₂ ∧ News h₀ env.locals h' ([(s.heap.objs.size, oI), (l, { cls := .type "list", data := .seq items k })] ++ news₂) ∧ (∀ q ∈ [(s.heap.objs.size, oI), (l, ({ cls := .type "list", data := .seq items k } : Obj))], ∀ p ∈ news₂, p.1 ≠ q.1) ∧ J (i + 1) m₂ news₂) →
        LoopStepU h₀ env.locals [s.heap.objs.size] own (J' (i + 1)) { s with heap := hh', toks := tk' } .next s₂ := by
      rintro ⟨h', tk, m₂, news₂, rfl, F', N', hne', hj⟩
      have hll := (N' (l, { cls := .type "list", data := .seq items k }) (.tail _ (.head _)))
      refine ⟨rfl, h', tk, m₂, (l, { cls := .type "list", data := .seq items k }) :: news₂, rfl, F', fun p hp => ?_, fun p hp hq => ?_, ⟨news₂, rfl, hj⟩⟩
      · rcases List.mem_append.mp hp with hp | hp
        · rcases List.mem_cons.mp (hown p hp) with e1 | e1
          · have e2 := hlive p hp
            rw [e1, heI] at e2
            have e3 : p = (s.heap.objs.size, oI) := Prod.ext e1 (Option.some.inj e2).symm
            rw [e3]
            exact N' _ (.head _)
          · have e1 := List.mem_singleton.mp e1
            have e2 := hlive p hp
            have e4 := (N₂ _ (.tail _ (.head _))).1
            rw [e1] at e2
            rw [show hh'.get? l = _ from e4] at e2
            have e3 : p = (l, { cls := .type "list", data := .seq items k }) := Prod.ext e1 (Option.some.inj e2).symm
            rw [e3]
            exact hll
        · exact N' p (.tail _ hp)
      · have hq := List.mem_singleton.mp hq
        rcases List.mem_cons.mp hp with rfl | hp
        · exact hne hq
        · exact hne' _ (.head _) p hp hq
    cases f with
    | ret v => exact .ret p
    | brk => exact .brk p
    | next => exact .next (fin p)
    | cont => exact .cont (fin p)
  · rintro h' tk m' news' F' N' _ ⟨nw, rfl, hJ'⟩
    exact done m' nw h' tk hJ' F' fun p hp => N' p (.tail _ hp)
end
theorem m_sumPick {prog : Program} {w : World} {A : Around} {E : Value → Shared → Prop} {s : Shared} {h₀ : Heap} {L l : Addr} {m : Str → Option Value} {news : Led} {vs : List Value} {ns : List Int} {lo hi st : Option Int} {k : Nat} {Q : Value → Shared → Prop}
    (F : Fr h₀ L s.heap m) (N : News h₀ L s.heap news) (hh : A.handled = none) (hm : (l, ({ cls := .type "list", data := .seq (slicePick vs.toArray lo hi st) k } : Obj)) ∈ news) (hI : IntsAre vs ns)
    (h : ∀ h' tk c t', Fr h₀ L h' m → News h₀ L h' news → Q (.int c t') { s with heap := h', toks := tk }) : wpAny (model prog w) A (call (.builtin "sum") [.ref l]) Q E s :=
  LSm.sum_ints (vs := (slicePick vs.toArray lo hi st).toList) F N hh ⟨_, (N _ hm).1, rfl, _, rfl⟩ (hI.pick lo hi st) fun h' tk t' => h h' tk _ t'
theorem len_cons {α : Type} {l : List α} {n : Nat} (h : l.length = n + 1) : ∃ a r, l = a :: r ∧ r.length = n := by
  cases l with
  | nil => cases h
  | cons a r => exact ⟨a, r, rfl, Nat.succ.inj h⟩
theorem len4 {α : Type} {l : List α} (h : l.length = 4) : ∃ a b c d, l = [a, b, c, d] := by
  obtain ⟨a, l1, rfl, h1⟩ := len_cons h
  obtain ⟨b, l2, rfl, h2⟩ := len_cons h1
  obtain ⟨c, l3, rfl, h3⟩ := len_cons h2
  obtain ⟨d, l4, rfl, h4⟩ := len_cons h3
  obtain rfl := List.eq_nil_of_length_eq_zero h4
  exact ⟨_, _, _, _, rfl⟩
theorem four_ints {ys : List Value} (hl : ys.length = 4) (hy : ∀ (i : Nat) (v : Value), ys[i]? = some v → ∃ (c : Int) (t : Tok), v = Value.int c t) : ∃ (c0 c1 c2 c3 : Int) (t0 t1 t2 t3 : Tok), ys = [.int c0 t0, .int c1 t1, .int c2 t2, .int c3 t3] := by
  obtain ⟨a, b, c, d, rfl⟩ := len4 hl
  obtain ⟨c0, t0, rfl⟩ := hy 0 a rfl
  obtain ⟨c1, t1, rfl⟩ := hy 1 b rfl
  obtain ⟨c2, t2, rfl⟩ := hy 2 c rfl
  obtain ⟨c3, t3, rfl⟩ := hy 3 d rfl
  exact ⟨_, _, _, _, _, _, _, _, rfl⟩
noncomputable abbrev NatsAre (vs : List Value) (ns : List Nat) : Prop := IntsAre vs (ns.map (fun n : Nat => (n : Int)))
section
variable {prog : Program} {w : World} {A : Around} {E : Value → Shared → Prop} {s : Shared} {Q : Value → Shared → Prop}
theorem m_digit {a y : Int} {n : Nat} {t u : Tok} (hy : y = (n : Int)) (hn : 0 < n) (h : ∀ d : Nat, d < n → Q (.int (d : Int) s.toks) { s with toks := s.toks + 1 }) : wpAny (model prog w) A (binaryOp .Mod (.int a t) (.int y u)) Q E s := by
  subst hy
  refine mod_int' (by omega) ?_
  have h0 : 0 ≤ Int.fmod a (n : Int) := Int.fmod_nonneg_of_pos _ (by omega)
  have h1 : Int.fmod a (n : Int) < (n : Int) := Int.fmod_lt_of_pos _ (by omega)
  obtain ⟨d, hd⟩ := Int.eq_ofNat_of_zero_le h0
  rw [hd] at h1 ⊢
  exact h d (by omega)
theorem m_powN {b : Int} {k : Nat} {t u : Tok} (hb : (Builtin.Int.intBits b : Int) ≤ 10) (h2 : 0 < b) (h3 : b < 100) (hk : k < 14) (h : ∀ p : Nat, 0 < p → p < 2 ^ 200 → Q (.int (p : Int) s.toks) { s with toks := s.toks + 1 }) : wpAny (model prog w) A (binaryOp .Pow (.int b t) (.int (k : Int) u)) Q E s := by
  refine pow_int (by omega) ?_ ?_
  · have h4 : (Builtin.Int.intBits b : Int) * (k : Int) ≤ 10 * (k : Int) := Int.mul_le_mul_of_nonneg_right hb (by omega)
    have h5 : (10 : Int) * (k : Int) ≤ 2 ^ 27 := by omega
    omega
  · obtain ⟨n, rfl⟩ := Int.eq_ofNat_of_zero_le (Int.le_of_lt h2)
    have e : ((n : Int) ^ ((k : Int).toNat)) = ((n ^ k : Nat) : Int) := by
      rw [Int.toNat_natCast, Int.natCast_pow]
    rw [e]
    refine h _ (Nat.pow_pos (by omega)) ?_
    have e1 : n ^ k ≤ 128 ^ k := Nat.pow_le_pow_left (by omega) k
    have e2 : 128 ^ k ≤ 128 ^ 14 := Nat.pow_le_pow_right (by omega) (by omega)
    have e3 : (128 : Nat) ^ 14 < 2 ^ 200 := by decide
    omega
theorem m_divF {a y : Int} {p : Nat} {t u : Tok} (hy : y = (p : Int)) (hp : 0 < p) (h2 : p < 2 ^ 200) (h : ∀ q : Int, Q (.int q s.toks) { s with toks := s.toks + 1 }) : wpAny (model prog w) A (binaryOp .FloorDiv (.int a t) (.int y u)) Q E s := by
  subst hy
  refine floordiv_int (by omega) (h _) (Or.inl (PyProof.noPylong_of_log2 ?_))
  rw [Int.natAbs_natCast]
  have := (Nat.log2_lt (by omega)).mpr h2
  omega
theorem m_one {d : Nat} {t u : Tok} (h : Q (.int ((1 + d : Nat) : Int) s.toks) { s with toks := s.toks + 1 }) : wpAny (model prog w) A (binaryOp .Add (.int 1 t) (.int (d : Int) u)) Q E s := by
  refine add_int ?_
  have e : (1 : Int) + (d : Int) = ((1 + d : Nat) : Int) := by omega
  rw [e]
  exact h
theorem dg_lo {n : Nat} (hn : n < 320) : ∀ c ∈ dg n, 48 ≤ c ∧ c ≤ 57 := by
  intro c hc
  unfold dg at hc
  split at hc
  · simp only [List.mem_cons, List.not_mem_nil, or_false] at hc; omega
  · split at hc
    · simp only [List.mem_cons, List.not_mem_nil, or_false] at hc; omega
    · simp only [List.mem_cons, List.not_mem_nil, or_false] at hc; omega
theorem nat_host {n : Nat} (hn : n < 320) : okText (Str.ofString "host" ++ Str.ofString (toString (n : Int))) ∧ (Str.ofString "host" ++ Str.ofString (toString (n : Int))).length ≤ 20 := by
  have hl := num_len hn
  have e4 : (Str.ofString "host").length = 4 := by decide +kernel
  refine ⟨?_, ?_⟩
  · intro c hc
    rw [Str.cps_append] at hc
    simp only [Array.toList_append, List.mem_append] at hc
    rcases hc with hc | hc
    · have : ∀ c ∈ (Str.ofString "host").cps.toList, okc c := by
        show ∀ c ∈ (Str.ofString "host").cps.toList, _
        decide +kernel
      exact this c hc
    · rw [num_dg hn] at hc
      have : ∀ c ∈ dg n, 48 ≤ c ∧ c ≤ 57 := dg_lo hn
      have := this c (by simpa using hc)
      exact ⟨by omega, by omega⟩
  · rw [PySem.Str.length_append]; omega
theorem m_host {n : Nat} {t u : Tok} (hn : n < 320) (h : ∀ (host : Str) t', okText host → host.length ≤ 20 → ∀ tk, Q (.str host t') { s with toks := tk }) : wpAny (model prog w) A (binaryOp .Add (.str (Str.ofString "host") t) (.str (Str.ofString (toString (n : Int))) u)) Q E s := by
  obtain ⟨h1, h2⟩ := nat_host hn
  refine PyProof.Rows.add_str (fun t' tk => h _ t' h1 h2 tk) ?_
  rw [PySem.Str.length_append] at h2
  rw [sizeLine_eq]
  omega
end
section
variable {prog : Program} {w : World} {A : Around} {E : Value → Shared → Prop} {s : Shared} {h₀ : Heap} {L a b l : Addr} {m : Str → Option Value} {news : Led} {vs ws : List Value} {ns ms : List Nat} {n k : Nat} {Q : Value → Shared → Prop}
theorem nats_rep (h : NatsAre vs ns) : ∀ j : Nat, NatsAre (List.replicate j vs).flatten (List.replicate j ns).flatten
  | 0 => .nil
  | j + 1 => by
    rw [List.replicate_succ, List.replicate_succ, List.flatten_cons, List.flatten_cons]
    show IntsAre _ (List.map _ _)
    rw [List.map_append]
    exact IntsAre.append h (nats_rep h j)
theorem m_rep {x : Int} {u : Tok} {j : Nat} (F : Fr h₀ L s.heap m) (N : News h₀ L s.heap news) (hm : (l, listOf vs.toArray k) ∈ news) (hI : NatsAre vs ns) (hx : x = (j : Int)) (hj : vs.length * j ≤ 256) (hj2 : j ≤ 256)
    (h : ∀ D h' xs, NatsAre xs (List.replicate j ns).flatten → Fr h₀ L h' m → News h₀ L h' ((D, listOf xs.toArray 0) :: news) → (∀ p ∈ news, p.1 < D) → Q (.ref D) { s with heap := h' }) : wpAny (model prog w) A (binaryOp .Mult (.ref l) (.int x u)) Q E s := by
  subst hx
  refine KMa.mul (vs := vs) F N ⟨_, (N _ hm).1, rfl, _, rfl⟩ (by omega) (by omega) (by rw [Int.toNat_natCast]; exact hj) rfl fun D h' F' N' l1 => ?_
  rw [Int.toNat_natCast] at N'
  exact h D h' _ (nats_rep hI j) F' N' l1
theorem m_catN {ka kb : Nat} (F : Fr h₀ L s.heap m) (N : News h₀ L s.heap news) (ha : (a, ({ cls := .type "list", data := .seq vs.toArray ka } : Obj)) ∈ news) (hb : (b, ({ cls := .type "list", data := .seq ws.toArray kb } : Obj)) ∈ news) (hv : NatsAre vs ns) (hw : NatsAre ws ms) (h1 : ns.length ≤ 100) (h2 : ms.length ≤ 100)
    (h : ∀ D h' xs, NatsAre xs (ns ++ ms) → Fr h₀ L h' m → News h₀ L h' ((D, listOf xs.toArray 0) :: news) → (∀ p ∈ news, p.1 < D) → Q (.ref D) { s with heap := h' }) : wpAny (model prog w) A (binaryOp .Add (.ref a) (.ref b)) Q E s := by
  refine kmk_add_lit (its := vs.toArray) (its2 := ws.toArray) (zs := vs ++ ws) F N ⟨_, (N _ ha).1, rfl, _, rfl⟩ ⟨_, (N _ hb).1, rfl, _, rfl⟩ rfl (fun D h' F' N' l1 => h D h' _ ?_ F' N' l1) ?_
  · show IntsAre _ (List.map _ _)
    rw [List.map_append]
    exact IntsAre.append hv hw
  · have e1 := hv.length
    have e2 := hw.length
    rw [List.length_map] at e1 e2
    rw [sizeLine_eq]
    show vs.length + ws.length ≤ _
    omega
end
theorem nats_of {B : Nat} : ∀ {ys : List Value}, (∀ (i : Nat) (v : Value), ys[i]? = some v → ∃ (d : Nat) (t : Tok), v = Value.int (d : Int) t ∧ d < B) → ∃ ns : List Nat, NatsAre ys ns ∧ ns.length = ys.length ∧ ∀ n ∈ ns, n < B
  | [], _ => ⟨[], .nil, rfl, by simp⟩
  | v :: ys, h => by
    obtain ⟨d, t, rfl, hd⟩ := h 0 v rfl
    obtain ⟨ns, h1, h2, h3⟩ := nats_of (ys := ys) fun i v hv => h (i + 1) v (by simpa using hv)
    exact ⟨d :: ns, .cons _ _ h1, by simp [h2], fun n hn => (List.mem_cons.mp hn).elim (fun e => e ▸ hd) (h3 n)⟩
theorem four_names {ys : List Value} (hl : ys.length = 4) (hy : ∀ (i : Nat) (v : Value), ys[i]? = some v → ∃ (f : Nat) (t : Tok), v = Value.str (nameS i f) t ∧ f < 16) : ∃ ns : List Str, StrsAre ys ns ∧ ns.length = 4 ∧ ∀ i < 4, NmOk (ns.getD i Str.empty) := by
  obtain ⟨a, b, c, d, rfl⟩ := len4 hl
  obtain ⟨f0, t0, rfl, h0⟩ := hy 0 a rfl
  obtain ⟨f1, t1, rfl, h1⟩ := hy 1 b rfl
  obtain ⟨f2, t2, rfl, h2⟩ := hy 2 c rfl
  obtain ⟨f3, t3, rfl, h3⟩ := hy 3 d rfl
  refine ⟨[nameS 0 f0, nameS 1 f1, nameS 2 f2, nameS 3 f3], .cons _ _ (.cons _ _ (.cons _ _ (.cons _ _ .nil))), rfl, fun i hi => ?_⟩
  match i, hi with
    | 0, _ => exact nm_ok (by decide) h0
    | 1, _ => exact nm_ok (by decide) h1
    | 2, _ => exact nm_ok (by decide) h2
    | 3, _ => exact nm_ok (by decide) h3
theorem nat4 : (4 : Int) = ((4 : Nat) : Int) := rfl
theorem nat5 : (5 : Int) = ((5 : Nat) : Int) := rfl
theorem nat16 : (16 : Int) = ((16 : Nat) : Int) := rfl
theorem nat24 : (24 : Int) = ((24 : Nat) : Int) := rfl
theorem nat300 : (300 : Int) = ((300 : Nat) : Int) := rfl
theorem rep_len {α : Type} (j : Nat) (ns : List α) : (List.replicate j ns).flatten.length = j * ns.length := by
  rw [List.length_flatten, List.map_replicate, List.sum_replicate_nat]
section
variable {t0 t1 t2 t3 t4 : Tok}
theorem natsL0 : NatsAre [.int 0 t0] [0] := IntsAre.cons _ _ .nil
theorem natsL12 : NatsAre [.int 1 t0, .int 2 t1] [1, 2] := IntsAre.cons _ _ (IntsAre.cons _ _ .nil)
theorem natsL34 : NatsAre [.int 3 t0, .int 4 t1] [3, 4] := IntsAre.cons _ _ (IntsAre.cons _ _ .nil)
theorem natsL5 : NatsAre [.int 0 t0, .int 1 t1, .int 2 t2, .int 3 t3, .int 4 t4] [0, 1, 2, 3, 4] := IntsAre.cons _ _ (IntsAre.cons _ _ (IntsAre.cons _ _ (IntsAre.cons _ _ (IntsAre.cons _ _ .nil))))
end
end
section -- MPlain
/-- the state behind the first i deeds -/
noncomputable def runN (c : Par) (ds es : List Nat) : Nat → St
  | 0 => ⟨[], [], 0, 0⟩
  | i + 1 => stepS c (ds.getD i 0) (es.getD i 0) (runN c ds es i)
theorem runN_inv {c : Par} (C : ParOk c) (ds es : List Nat) : ∀ i, Inv c (runN c ds es i)
  | 0 => Inv.start c
  | i + 1 => (runN_inv C ds es i).step C
theorem step_len {c : Par} {d e : Nat} {S : St} : (stepS c d e S).lane.length ≤ S.lane.length + 1 ∧ (stepS c d e S).back.length ≤ S.back.length + 1 := by
  unfold stepS
  by_cases h0 : d = 0
  · rw [if_pos h0]
    split
    · exact ⟨by simp, by simp⟩
    · exact ⟨by simp, by simp⟩
  rw [if_neg h0]
  by_cases h1 : d = 1
  · rw [if_pos h1]
    split
    · exact ⟨by simp, by simp⟩
    · split
      · exact ⟨by simp, by simp⟩
      · exact ⟨by simp, by simp⟩
  rw [if_neg h1]
  by_cases h2 : d = 2
  · rw [if_pos h2]
    exact ⟨Nat.le_succ_of_le (cut_sub.length_le), by simp⟩
  rw [if_neg h2]
  by_cases h3 : d = 3
  · rw [if_pos h3]
    split
    · exact ⟨by simp, by simp⟩
    · split
      · exact ⟨by simp, by simp⟩
      · exact ⟨by simp, by simp⟩
  rw [if_neg h3]
  exact ⟨by simp, Nat.le_succ_of_le (cut_sub.length_le)⟩
theorem runN_len {c : Par} {ds es : List Nat} : ∀ i, (runN c ds es i).lane.length ≤ i ∧ (runN c ds es i).back.length ≤ i
  | 0 => ⟨Nat.le_refl _, Nat.le_refl _⟩
  | i + 1 => by
    have h := runN_len (c := c) (ds := ds) (es := es) i
    have h2 := step_len (c := c) (d := ds.getD i 0) (e := es.getD i 0) (S := runN c ds es i)
    exact ⟨Nat.le_trans h2.1 (Nat.succ_le_succ h.1), Nat.le_trans h2.2 (Nat.succ_le_succ h.2)⟩
/-- what is left behind j strikings -/
noncomputable def cuts (w : Nat) : Nat → List Pk → List Pk
  | 0, l => l
  | j + 1, l => cuts w j (cut w l)
theorem cut_mem {w : Nat} {l : List Pk} {q : Pk} (h : q ∈ cut w l) : q ∈ l ∧ ∃ p r, l = p :: r ∧ q.n % (w + 1) ≠ p.n % (w + 1) := by
  cases l with
  | nil => exact absurd h (by simp [cut])
  | cons p r =>
    have h' : q ∈ (p :: r).filter fun q => decide (q.n % (w + 1) ≠ p.n % (w + 1)) := h
    rw [List.mem_filter] at h'
    exact ⟨h'.1, p, r, rfl, by simpa using h'.2⟩
theorem head_of {l : List Pk} {q : Pk} (h : q ∈ l) : ∃ p r, l = p :: r ∧ p ∈ l := by
  cases l with
  | nil => cases h
  | cons p r => exact ⟨p, r, rfl, .head _⟩
theorem pig2 {a b c : Nat} (ha : a < 2) (hb : b < 2) (hc : c < 2) (h1 : a ≠ b) (h2 : a ≠ c) (h3 : b ≠ c) : False := by
  have k : ∀ x : Fin 2, ∀ y : Fin 2, ∀ z : Fin 2, x = y ∨ x = z ∨ y = z := by decide
  rcases k ⟨a, ha⟩ ⟨b, hb⟩ ⟨c, hc⟩ with h | h | h
  · exact h1 (Fin.mk.inj h)
  · exact h2 (Fin.mk.inj h)
  · exact h3 (Fin.mk.inj h)
theorem pig3 {a b c d : Nat} (ha : a < 3) (hb : b < 3) (hc : c < 3) (hd : d < 3) (h1 : a ≠ b) (h2 : a ≠ c) (h3 : a ≠ d) (h4 : b ≠ c) (h5 : b ≠ d) (h6 : c ≠ d) : False := by
  have k : ∀ x : Fin 3, ∀ y : Fin 3, ∀ z : Fin 3, ∀ t : Fin 3, x = y ∨ x = z ∨ x = t ∨ y = z ∨ y = t ∨ z = t := by decide
  rcases k ⟨a, ha⟩ ⟨b, hb⟩ ⟨c, hc⟩ ⟨d, hd⟩ with h | h | h | h | h | h
  · exact h1 (Fin.mk.inj h)
  · exact h2 (Fin.mk.inj h)
  · exact h3 (Fin.mk.inj h)
  · exact h4 (Fin.mk.inj h)
  · exact h5 (Fin.mk.inj h)
  · exact h6 (Fin.mk.inj h)
theorem cut2 {l : List Pk} : cut 1 (cut 1 l) = [] := by
  rcases h : cut 1 (cut 1 l) with _ | ⟨q, r⟩
  · rfl
  · exfalso
    have hq : q ∈ cut 1 (cut 1 l) := by rw [h]; exact .head _
    obtain ⟨h1, p1, r1, e1, n1⟩ := cut_mem hq
    obtain ⟨h2, p2, r2, e2, n2⟩ := cut_mem h1
    have hp : p1 ∈ cut 1 l := by rw [e1]; exact .head _
    obtain ⟨_, p3, r3, e3, n3⟩ := cut_mem hp
    rw [e2] at e3
    cases e3
    exact pig2 (Nat.mod_lt _ (by decide)) (Nat.mod_lt _ (by decide)) (Nat.mod_lt _ (by decide)) n1 n2 n3
theorem cut3 {l : List Pk} : cut 2 (cut 2 (cut 2 l)) = [] := by
  rcases h : cut 2 (cut 2 (cut 2 l)) with _ | ⟨q, r⟩
  · rfl
  · exfalso
    have hq : q ∈ cut 2 (cut 2 (cut 2 l)) := by rw [h]; exact .head _
    obtain ⟨h1, p1, r1, e1, n1⟩ := cut_mem hq
    obtain ⟨h2, p2, r2, e2, n2⟩ := cut_mem h1
    obtain ⟨h3, p3, r3, e3, n3⟩ := cut_mem h2
    have hp : p1 ∈ cut 2 (cut 2 l) := by rw [e1]; exact .head _
    obtain ⟨hp', p4, r4, e4, n4⟩ := cut_mem hp
    rw [e2] at e4
    cases e4
    obtain ⟨_, p5, r5, e5, n5⟩ := cut_mem hp'
    rw [e3] at e5
    cases e5
    have hp2 : p2 ∈ cut 2 l := by rw [e2]; exact .head _
    obtain ⟨_, p6, r6, e6, n6⟩ := cut_mem hp2
    rw [e3] at e6
    cases e6
    exact pig3 (Nat.mod_lt _ (by decide)) (Nat.mod_lt _ (by decide)) (Nat.mod_lt _ (by decide)) (Nat.mod_lt _ (by decide)) n1 n2 n3 n4 n5 n6
theorem lane_1 {c : Par} {e : Nat} {S : St} : (stepS c 1 e S).lane = S.lane := by
  unfold stepS
  rw [if_neg (by decide), if_pos rfl]
  split
  · rfl
  · split <;> rfl
theorem lane_2 {c : Par} {e : Nat} {S : St} : (stepS c 2 e S).lane = cut c.w S.lane := by
  unfold stepS
  rw [if_neg (by decide), if_neg (by decide), if_pos rfl]
theorem lane_3 {c : Par} {e : Nat} {S : St} : (stepS c 3 e S).lane = S.lane := by
  unfold stepS
  rw [if_neg (by decide), if_neg (by decide), if_neg (by decide), if_pos rfl]
  split
  · rfl
  · split <;> rfl
theorem back_3 {c : Par} {e : Nat} {S : St} : (stepS c 3 e S).back = S.back := by
  unfold stepS
  rw [if_neg (by decide), if_neg (by decide), if_neg (by decide), if_pos rfl]
  split
  · rfl
  · split <;> rfl
theorem lane_4 {c : Par} {e : Nat} {S : St} : (stepS c 4 e S).lane = S.lane := by
  unfold stepS
  rw [if_neg (by decide), if_neg (by decide), if_neg (by decide), if_neg (by decide)]
theorem back_4 {c : Par} {e : Nat} {S : St} : (stepS c 4 e S).back = cut c.w S.back := by
  unfold stepS
  rw [if_neg (by decide), if_neg (by decide), if_neg (by decide), if_neg (by decide)]
/-- the deeds' list: fourteen, and what is under way read and struck out -/
noncomputable def allDeeds (ds : List Nat) (w : Nat) : List Nat := ds ++ (List.replicate (w + 1) [1, 2]).flatten ++ (List.replicate (w + 1) [3, 4]).flatten
theorem runN_at {c : Par} {ds es : List Nat} {i d : Nat} (h : ds.getD i 0 = d) : runN c ds es (i + 1) = stepS c d (es.getD i 0) (runN c ds es i) := by
  rw [← h]; rfl
theorem getD_app {l r : List Nat} {k : Nat} : (l ++ r).getD (l.length + k) 0 = r.getD k 0 := by
  rw [List.getD_eq_getElem?_getD, List.getD_eq_getElem?_getD, List.getElem?_append_right (Nat.le_add_right _ _), Nat.add_sub_cancel_left]
theorem emptied1 {c : Par} (hw : c.w = 1) {ds es : List Nat} (hl : ds.length = 14) : (runN c (allDeeds ds 1) es 22).lane = [] ∧ (runN c (allDeeds ds 1) es 22).back = [] := by
  have hd : ∀ k, (allDeeds ds 1).getD (14 + k) 0 = ([1, 2, 1, 2, 3, 4, 3, 4] : List Nat).getD k 0 := fun k => by
    unfold allDeeds
    rw [List.append_assoc, ← hl]
    exact getD_app
  have s0 := runN_at (c := c) (es := es) (hd 0)
  have s1 := runN_at (c := c) (es := es) (hd 1)
  have s2 := runN_at (c := c) (es := es) (hd 2)
  have s3 := runN_at (c := c) (es := es) (hd 3)
  have s4 := runN_at (c := c) (es := es) (hd 4)
  have s5 := runN_at (c := c) (es := es) (hd 5)
  have s6 := runN_at (c := c) (es := es) (hd 6)
  have s7 := runN_at (c := c) (es := es) (hd 7)
  simp only [List.getD_cons_zero, List.getD_cons_succ] at s0 s1 s2 s3 s4 s5 s6 s7
  have L4 : (runN c (allDeeds ds 1) es 18).lane = [] := by
    rw [show (18 : Nat) = 14 + 3 + 1 from rfl, s3, lane_2, s2, lane_1, s1, lane_2, s0, lane_1, hw]
    exact cut2
  refine ⟨?_, ?_⟩
  · rw [show (22 : Nat) = 14 + 7 + 1 from rfl, s7, lane_4, s6, lane_3, s5, lane_4, s4, lane_3]
    exact L4
  · rw [show (22 : Nat) = 14 + 7 + 1 from rfl, s7, back_4, s6, back_3, s5, back_4, s4, back_3, hw]
    exact cut2
theorem emptied2 {c : Par} (hw : c.w = 2) {ds es : List Nat} (hl : ds.length = 14) : (runN c (allDeeds ds 2) es 26).lane = [] ∧ (runN c (allDeeds ds 2) es 26).back = [] := by
  have hd : ∀ k, (allDeeds ds 2).getD (14 + k) 0 = ([1, 2, 1, 2, 1, 2, 3, 4, 3, 4, 3, 4] : List Nat).getD k 0 := fun k => by
    unfold allDeeds
    rw [List.append_assoc, ← hl]
    exact getD_app
  have s0 := runN_at (c := c) (es := es) (hd 0)
  have s1 := runN_at (c := c) (es := es) (hd 1)
  have s2 := runN_at (c := c) (es := es) (hd 2)
  have s3 := runN_at (c := c) (es := es) (hd 3)
  have s4 := runN_at (c := c) (es := es) (hd 4)
  have s5 := runN_at (c := c) (es := es) (hd 5)
  have s6 := runN_at (c := c) (es := es) (hd 6)
  have s7 := runN_at (c := c) (es := es) (hd 7)
  have s8 := runN_at (c := c) (es := es) (hd 8)
  have s9 := runN_at (c := c) (es := es) (hd 9)
  have s10 := runN_at (c := c) (es := es) (hd 10)
  have s11 := runN_at (c := c) (es := es) (hd 11)
  simp only [List.getD_cons_zero, List.getD_cons_succ] at s0 s1 s2 s3 s4 s5 s6 s7 s8 s9 s10 s11
  have L4 : (runN c (allDeeds ds 2) es 20).lane = [] := by
    rw [show (20 : Nat) = 14 + 5 + 1 from rfl, s5, lane_2, s4, lane_1, s3, lane_2, s2, lane_1, s1, lane_2, s0, lane_1, hw]
    exact cut3
  refine ⟨?_, ?_⟩
  · rw [show (26 : Nat) = 14 + 11 + 1 from rfl, s11, lane_4, s10, lane_3, s9, lane_4, s8, lane_3, s7, lane_4, s6, lane_3]
    exact L4
  · rw [show (26 : Nat) = 14 + 11 + 1 from rfl, s11, back_4, s10, back_3, s9, back_4, s8, back_3, s7, back_4, s6, back_3, hw]
    exact cut3
theorem all_len {ds : List Nat} (hl : ds.length = 14) (w : Nat) : (allDeeds ds w).length = 18 + 4 * w := by
  unfold allDeeds
  rw [List.length_append, List.length_append, hl, List.length_flatten, List.length_flatten, List.map_replicate, List.map_replicate, List.sum_replicate_nat, List.sum_replicate_nat]
  show 14 + (w + 1) * 2 + (w + 1) * 2 = _
  omega
theorem all_lt {ds : List Nat} (h : ∀ d ∈ ds, d < 5) (w : Nat) : ∀ d ∈ allDeeds ds w, d < 5 := by
  intro d hd
  unfold allDeeds at hd
  rcases List.mem_append.mp hd with hd | hd
  · rcases List.mem_append.mp hd with hd | hd
    · exact h d hd
    · obtain ⟨l, hl, hd⟩ := List.mem_flatten.mp hd
      rw [(List.mem_replicate.mp hl).2] at hd
      simp only [List.mem_cons, List.not_mem_nil, or_false] at hd
      omega
  · obtain ⟨l, hl, hd⟩ := List.mem_flatten.mp hd
    rw [(List.mem_replicate.mp hl).2] at hd
    simp only [List.mem_cons, List.not_mem_nil, or_false] at hd
    omega
theorem emptied {c : Par} (C : ParOk c) {ds es : List Nat} (hl : ds.length = 14) : (runN c (allDeeds ds c.w) es (18 + 4 * c.w)).lane = [] ∧ (runN c (allDeeds ds c.w) es (18 + 4 * c.w)).back = [] := by
  have h1 := C.w1
  have h2 := C.w2
  have hw : c.w = 1 ∨ c.w = 2 := by omega
  rcases hw with hw | hw
  · have := emptied1 hw (es := es) hl
    rw [hw]
    exact this
  · have := emptied2 hw (es := es) hl
    rw [hw]
    exact this
/-- a plain round -/
noncomputable def rnd (c : Par) (S : St) : St := stepS c 4 0 (stepS c 3 0 (stepS c 2 0 (stepS c 1 0 (stepS c 0 0 S))))
theorem rnd_eq {c : Par} {t k : Nat} (hk : k ≤ t) (h4 : t ≤ 4) : rnd c ⟨[], [], t, k⟩ = ⟨[], [], if k < 4 then (if k = t then t + 1 else t) else t, if k < 4 then (if k = t then t + 1 else t) else k⟩ := by
  unfold rnd
  by_cases h : k < 4
  · have e0 : stepS c 0 0 ⟨[], [], t, k⟩ = ⟨[⟨k, 0, 0⟩], [], t, k⟩ := by
      unfold stepS
      rw [if_pos rfl]
      simp only [Nat.zero_div, Nat.zero_mod, Nat.add_zero]
      rw [if_pos h]
      simp [mk]
    have e1 : stepS c 1 0 ⟨[⟨k, 0, 0⟩], [], t, k⟩ = ⟨[⟨k, 0, 0⟩], [⟨if k = t then t + 1 else t, 0, 0⟩], if k = t then t + 1 else t, k⟩ := by
      unfold stepS
      rw [if_neg (by decide), if_pos rfl]
      simp [mk]
    rw [e0, e1, if_pos h, if_pos h]
    simp [stepS, cut]
  · have e0 : stepS c 0 0 ⟨[], [], t, k⟩ = ⟨[], [], t, k⟩ := by
      unfold stepS
      rw [if_pos rfl]
      simp only [Nat.zero_div, Nat.zero_mod, Nat.add_zero]
      rw [if_neg h]
    rw [e0, if_neg h, if_neg h]
    simp [stepS, cut]
/-- the state behind the first i deeds of the plain rounds -/
noncomputable def runP (c : Par) (S : St) : Nat → St
  | 0 => S
  | i + 1 => stepS c (i % 5) 0 (runP c S i)
theorem runP_inv {c : Par} (C : ParOk c) {S : St} (I : Inv c S) : ∀ i, Inv c (runP c S i)
  | 0 => I
  | i + 1 => (runP_inv C I i).step C
theorem runP_len {c : Par} {S : St} : ∀ i, (runP c S i).lane.length ≤ S.lane.length + i ∧ (runP c S i).back.length ≤ S.back.length + i
  | 0 => ⟨Nat.le_refl _, Nat.le_refl _⟩
  | i + 1 => by
    have h := runP_len (c := c) (S := S) i
    have h2 := step_len (c := c) (d := i % 5) (e := 0) (S := runP c S i)
    exact ⟨by have := h2.1; have := h.1; show (stepS c (i % 5) 0 (runP c S i)).lane.length ≤ _; omega, by have := h2.2; have := h.2; show (stepS c (i % 5) 0 (runP c S i)).back.length ≤ _; omega⟩
theorem ended {c : Par} {S : St} (I : Inv c S) (hl : S.lane = []) (hb : S.back = []) : runP c S 20 = ⟨[], [], 4, 4⟩ := by
  obtain ⟨lane, back, t, k⟩ := S
  simp only at hl hb
  subst hl hb
  have h1 : k ≤ t := I.kt
  have h2 : t ≤ 4 := I.t4
  have e : runP c ⟨[], [], t, k⟩ 20 = rnd c (rnd c (rnd c (rnd c ⟨[], [], t, k⟩))) := rfl
  rw [e, rnd_eq h1 h2]
  have hk : k = 0 ∨ k = 1 ∨ k = 2 ∨ k = 3 ∨ k = 4 := by omega
  have ht : t = 0 ∨ t = 1 ∨ t = 2 ∨ t = 3 ∨ t = 4 := by omega
  rcases hk with rfl | rfl | rfl | rfl | rfl <;> rcases ht with rfl | rfl | rfl | rfl | rfl <;> first
    | (exfalso; omega)
    | (simp only [Nat.reduceLT, if_true, if_false, Nat.reduceEqDiff, Nat.reduceAdd]
       rw [rnd_eq (by decide) (by decide)]
       simp only [Nat.reduceLT, if_true, if_false, Nat.reduceEqDiff, Nat.reduceAdd]
       rw [rnd_eq (by decide) (by decide)]
       simp only [Nat.reduceLT, if_true, if_false, Nat.reduceEqDiff, Nat.reduceAdd]
       rw [rnd_eq (by decide) (by decide)]
       simp)
end
section -- MPkt
set_option maxHeartbeats 4000000 in
theorem pkt_says {w : World} {mean : ExcName → Option Value} {mg mb : Str → Option Value} {x : Str} {t : Tok} {k : Nat} {u : Tok} {news : Led} (hk6 : k < 6) (hx : x.length ≤ 20) (hq : (Txt.replace x "\"" "\"\"").length ≤ 40) :
    Says w mean mg mb 30 265 [.str x t, .int k u] [] news (fun news' r => news' = news ∧ ∃ u, r = .str (pktS x k) u) := by
  k_with_none
  k_with "m depth" => (first | exact dep_up (by with_reducible assumption) (by decide) | ((try simp only [depth_mark, depth_under_make, depth_under_kw, depth_in1, depth_deeper, depth_caller] at *); (try dsimp only [ktrTop] at *); omega))
  k_with "m units" => (first | exact uni_up (by with_reducible assumption) (by decide) | ((try simp only [units_in1, units_deeper, Around.mark_units, units_caller] at *); (try dsimp only [ktrTop] at *); omega))
  k_with "m begin" => ((have flzq : P.heap_1 = P.heap_1 ∧ PySem.Challenge.rw_yh0023_01 = PySem.Challenge.rw_yh0023_01 := by (k_fill; exact fill)); (clear flzq); (refine wpAny_call ?_))
  k_with "m enter" => ((case kA => exact rfl); (case kF => exact rfl); (case kK => assumption); (case k1 => k_asm); (case k2 => k_asm); (case k3 => k_asm); (case k4 => k_asm); (case k5 => k_asm); (case k6 => k_is); (case k7 => k_is); (case k8 => first | exact room_up hdp (by decide) | k_room); (case k9 => exact BindsTo.of_eq rfl); (case c5 => decide); (case kB => exact locs rfl); (case c2 => exact rfl); (case c3 => exact rfl); (case c4 => exact rfl); k_whole; intro g'zq L'zq h'zq FG'zq F'zq N'zq B'zq X'zq T'zq; (try dsimp only [List.reverse_cons, List.reverse_nil, List.nil_append, List.cons_append] at F'zq); (try k_fold))
  k_with "x execs cons" => (k_here; (with_reducible refine wpAny_execs_cons ?_); k_fold)
  k_with "x call builtin:len" => (k_here; (with_reducible show wpAny _ _ (call (Value.builtin "len") [Value.ref _]) _ _ _); k_dflt (refine' m_len ?k1 ?k2 ?k3 ?_; (case k1 => k_asm); (case k2 => k_mem); (case k3 => omega)))
  k_with "x getMethod ref" => (k_here; k_dflt (first | ((with_reducible show wpAny _ _ (getMethod (Value.ref 48) _ _) _ _ _); refine PatAt.meth (pat_name (by k_in)) ?_) | ((with_reducible show wpAny _ _ (getMethod (Value.ref 53) _ _) _ _ _); refine PatAt.meth (pat_value (by k_in)) ?_)))
  k_with "x call builtin:re.Pattern.search" => (k_here; k_dflt (first | (refine call_search (pat_name (by k_in)) (name_fails (by assumption)) (by assumption) ?_) | (refine call_search (pat_value (by k_in)) (value_fails (by assumption)) (by assumption) ?_)))
  k_with "x call builtin:str.join" => (k_here; k_dflt (refine' m_join1 ?k1 ?k2 ?k3 ?k4 ?_; (case k1 => k_asm); (case k2 => k_mem); (case k3 => decide); (case k4 => assumption)); intro t'zq tk'zq)
  k_with "m enterC" => ((case kA => exact rfl); (case kF => exact rfl); (case kK => assumption); (case k1 => k_asm); (case k2 => k_asm); (case k3 => k_asm); (case k4 => k_asm); (case k5 => k_asm); (case k6 => k_is); (case k7 => k_is); (case k8 => first | exact room_up hdp (by decide) | k_room); (case k9 => exact BindsTo.of_eq rfl); (case kB => exact rfl); (case kD => decide +kernel); (case c2 => exact rfl); (case c3 => exact rfl); (case c4 => exact rfl); k_whole; intro g'zq L'zq h'zq tk'zq cells'zq FG'zq F'zq N'zq Y'zq B'zq X'zq T'zq l1zq; (have l9zq := l1zq); (try k_lt l1zq); k_cells Y'zq; (try simp only [List.cons_append, List.nil_append] at N'zq); (try dsimp only); (try k_fold))
  k_with "x call builtin:str.lower" => (k_here; (try dsimp only); (with_reducible show wpAny _ _ (call (Value.builtin "str.lower") [Value.str _ _]) _ _ _); (refine SCL.lower (by first | omega | exact Nat.le_trans (by assumption) (by decide)) ?_); intro _)
  k_with "m mem" => (repeat (first | assumption | apply List.mem_cons_of_mem))
  k_with "x subscriptTail" => (k_here; (with_reducible show wpAny _ _ (subscriptTail _ _ (Value.ref _) (Value.int _ _)) _ _ _); k_dflt (refine' item_tupleT (m_tup (by k_asm) ?hm) (by decide) (by decide) ?hj ?hv ?_; (case hm => first | k_mem | walk_at "m mem"); (case hj => rfl); (case hv => rfl)))
  k_with "m look" => first | exact rfl | assumption
  k_with "x eval Name" => (k_here; (with_reducible show wpAny _ _ (eval (PySem.Expr.Name _ _) (envOf _ _ _ _ _)) _ _ _); k_dflt (refine' ld ?k1 ?k2 ?_; (case k1 => k_asm); (case k2 => walk_at "m look"); k_whole))
  k_with "x eval Name" => (k_here; (with_reducible show wpAny _ _ (eval (PySem.Expr.Name (PySem.Str.ofString "divmod") _) _) _ _ _); (with_reducible rename Fr _ _ _ _ => kFzq); with_unfolding_all refine guard_global (by rfl) ?_; k_dflt (refine' name_B kFzq ?k1 ?k2 ?k3 ?k4 ?k5 ?_; (case k1 => k_asm); (case k2 => k_asm); (case k3 => k_is); (case k4 => first | exact boot_divmod); (case k5 => decide); k_whole))
  k_with "m size" => (simp only [PySem.Str.length_append, lit0, lit1, lit2, lit3, lit4, lit5, lit6, lit7, lit8, lit9, lit10, lit11, lit12, lit13, lit14, lit15, lit16, lit17, lit18, lit19, lit20, lit21, lit22, lit23, lit24, one_len]; rw [sizeLine_eq]; omega)
  k_with "x binaryOp Add str str" => (k_here; (with_reducible show wpAny _ _ (binaryOp Operator.Add (Value.str _ _) (Value.str _ _)) _ _ _); k_dflt (refine' PyProof.Rows.add_str ?h ?hz; (case hz => walk_at "m size")); intro t'zq tk'zq)
  k_with "m enterT" => ((case kA => exact rfl); (case kF => exact rfl); (case kK => assumption); (case kX => assumption); (case kT => assumption); (case kD => assumption); (case k1 => k_asm); (case k2 => k_asm); (case k3 => k_asm); (case k4 => k_asm); (case k5 => k_asm); (case k6 => k_is); (case k7 => k_is); (case k8 => first | exact room_up hdp (by decide) | k_room); (case k9 => exact BindsTo.of_eq rfl); (case c5 => decide); (case kB => exact locs rfl); (case c2 => exact rfl); (case c3 => exact rfl); (case c4 => exact rfl); k_whole; intro g'zq L'zq h'zq tk0zq FG'zq F'zq N'zq B'zq X'zq T'zq D'zq; (try dsimp only [List.reverse_cons, List.reverse_nil, List.nil_append, List.cons_append] at F'zq); (try k_fold))
  k_with "x call type:str" => (k_here; (with_reducible show wpAny _ _ (call (Value.type "str") [Value.ref _]) _ _ _); k_dflt (refine' str_caught ?kF ?kX ?kN ?kG ?kK ?ks ?ku ?_; (case kG => assumption); (case kN => assumption); (case kF => k_asm); (case kX => k_asm); (case kK => kts_isx); (case ks => k_is); (case ku => k_units); k_whole))
  unfold Says
  intro dp un gd cn cs a ccd cl outer A₀ base h₀ L m s Q E B F X N T hk hdp hun hret
  walk_at "m begin"
  k_dflt (refine' code_def (binds := [("text", .str x t), ("kind", .int k u)]) ?k1 ?k2 ?k3 ?k4 ?k5 ?kA ?kF ?kK ?k6 ?k7 ?k8 ?k9 ?kB ?_ ?c2 ?c3 ?c4 ?c5)
  k_dflt walk_at "m enter"
  k_steps
  (rename News _ _ _ _ => N9)
  refine item_strsA (l := [_, _, _, _, _, _]) ⟨_, (N9 _ (.head _)).1, rfl, _, rfl⟩ (.cons _ _ (.cons _ _ (.cons _ _ (.cons _ _ (.cons _ _ (.cons _ _ .nil)))))) (by omega) (by simp only [List.length_cons, List.length_nil]; omega) (by omega) ?_
  intro t9
  (try dsimp only)
  k_steps
  exact hret _ _ _ _ (by k_asm) (News.sub (by k_asm) (fun p hp => by walk_at "m mem")) ⟨rfl, t9, rfl⟩
end
section -- MDel
set_option maxHeartbeats 4000000 in
theorem del_says {w : World} {mean : ExcName → Option Value} {mg mb : Str → Option Value} {R RD RL : Addr} {th : Tok} {vs : List Value} {ps : List (Str × Str)} {n : Nat} {rest : Led} (hD : DatAll rest vs (ps.map pairD)) (hv : ps.length < 1000) {x : Str} {tx : Tok} (hx : okText (Txt.lower x)) (hxz : (Txt.lower x).cps.size ≤ 1000000) (hxl : x.length ≤ 1000) (hps : ∀ p ∈ ps, p.1.length ≤ 1000) (h1 : R ≠ RL) (h2 : RD ≠ RL) (h3 : ∀ p ∈ rest, p.1 ≠ RL) :
    Says w mean mg mb 30 102 [.ref R, .str x tx] [] ((R, instObj 184 RD) :: (RD, hdrD w th RL) :: (RL, listOf vs.toArray n) :: rest) (fun news' r => r = .none ∧ ∃ vs' n', news' = (R, instObj 184 RD) :: (RD, hdrD w th RL) :: (RL, listOf vs'.toArray n') :: rest ∧ DatAll rest vs' ((ps.filter fun p => Txt.lower p.1 != Txt.lower x).map pairD)) := by
  k_with_none
  k_with "m depth" => (first | exact dep_up (by with_reducible assumption) (by decide) | ((try simp only [depth_mark, depth_under_make, depth_under_kw, depth_in1, depth_deeper, depth_caller] at *); (try dsimp only [ktrTop] at *); omega))
  k_with "m units" => (first | exact uni_up (by with_reducible assumption) (by decide) | ((try simp only [units_in1, units_deeper, Around.mark_units, units_caller] at *); (try dsimp only [ktrTop] at *); omega))
  k_with "m begin" => ((have flzq : P.heap_1 = P.heap_1 ∧ PySem.Challenge.rw_yh0023_01 = PySem.Challenge.rw_yh0023_01 := by (k_fill; exact fill)); (clear flzq); (refine wpAny_call ?_))
  k_with "m enter" => ((case kA => exact rfl); (case kF => exact rfl); (case kK => assumption); (case k1 => k_asm); (case k2 => k_asm); (case k3 => k_asm); (case k4 => k_asm); (case k5 => k_asm); (case k6 => k_is); (case k7 => k_is); (case k8 => first | exact room_up hdp (by decide) | k_room); (case k9 => exact BindsTo.of_eq rfl); (case c5 => decide); (case kB => exact locs rfl); (case c2 => exact rfl); (case c3 => exact rfl); (case c4 => exact rfl); k_whole; intro g'zq L'zq h'zq FG'zq F'zq N'zq B'zq X'zq T'zq; (try dsimp only [List.reverse_cons, List.reverse_nil, List.nil_append, List.cons_append] at F'zq); (try k_fold))
  k_with "x execs cons" => (k_here; (with_reducible refine wpAny_execs_cons ?_); k_fold)
  k_with "x call builtin:len" => (k_here; (with_reducible show wpAny _ _ (call (Value.builtin "len") [Value.ref _]) _ _ _); k_dflt (refine' m_len ?k1 ?k2 ?k3 ?_; (case k1 => k_asm); (case k2 => k_mem); (case k3 => omega)))
  k_with "x getMethod ref" => (k_here; k_dflt (first | ((with_reducible show wpAny _ _ (getMethod (Value.ref 48) _ _) _ _ _); refine PatAt.meth (pat_name (by k_in)) ?_) | ((with_reducible show wpAny _ _ (getMethod (Value.ref 53) _ _) _ _ _); refine PatAt.meth (pat_value (by k_in)) ?_)))
  k_with "x call builtin:re.Pattern.search" => (k_here; k_dflt (first | (refine call_search (pat_name (by k_in)) (name_fails (by assumption)) (by assumption) ?_) | (refine call_search (pat_value (by k_in)) (value_fails (by assumption)) (by assumption) ?_)))
  k_with "x call builtin:str.join" => (k_here; k_dflt (refine' m_join1 ?k1 ?k2 ?k3 ?k4 ?_; (case k1 => k_asm); (case k2 => k_mem); (case k3 => decide); (case k4 => assumption)); intro t'zq tk'zq)
  k_with "m enterC" => ((case kA => exact rfl); (case kF => exact rfl); (case kK => assumption); (case k1 => k_asm); (case k2 => k_asm); (case k3 => k_asm); (case k4 => k_asm); (case k5 => k_asm); (case k6 => k_is); (case k7 => k_is); (case k8 => first | exact room_up hdp (by decide) | k_room); (case k9 => exact BindsTo.of_eq rfl); (case kB => exact rfl); (case kD => decide +kernel); (case c2 => exact rfl); (case c3 => exact rfl); (case c4 => exact rfl); k_whole; intro g'zq L'zq h'zq tk'zq cells'zq FG'zq F'zq N'zq Y'zq B'zq X'zq T'zq l1zq; (have l9zq := l1zq); (try k_lt l1zq); k_cells Y'zq; (try simp only [List.cons_append, List.nil_append] at N'zq); (try dsimp only); (try k_fold))
  k_with "x call builtin:str.lower" => (k_here; (try dsimp only); (with_reducible show wpAny _ _ (call (Value.builtin "str.lower") [Value.str _ _]) _ _ _); (refine SCL.lower (by first | omega | exact Nat.le_trans (by assumption) (by decide)) ?_); intro _)
  k_with "m mem" => (repeat (first | assumption | apply List.mem_cons_of_mem))
  k_with "x subscriptTail" => (k_here; (with_reducible show wpAny _ _ (subscriptTail _ _ (Value.ref _) (Value.int _ _)) _ _ _); k_dflt (refine' item_tupleT (m_tup (by k_asm) ?hm) (by decide) (by decide) ?hj ?hv ?_; (case hm => first | k_mem | walk_at "m mem"); (case hj => rfl); (case hv => rfl)))
  k_with "m look" => first | exact rfl | assumption
  k_with "x eval Name" => (k_here; (with_reducible show wpAny _ _ (eval (PySem.Expr.Name _ _) (envOf _ _ _ _ _)) _ _ _); k_dflt (refine' ld ?k1 ?k2 ?_; (case k1 => k_asm); (case k2 => walk_at "m look"); k_whole))
  k_with "x eval Name" => (k_here; (with_reducible show wpAny _ _ (eval (PySem.Expr.Name (PySem.Str.ofString "divmod") _) _) _ _ _); (with_reducible rename Fr _ _ _ _ => kFzq); with_unfolding_all refine guard_global (by rfl) ?_; k_dflt (refine' name_B kFzq ?k1 ?k2 ?k3 ?k4 ?k5 ?_; (case k1 => k_asm); (case k2 => k_asm); (case k3 => k_is); (case k4 => first | exact boot_divmod); (case k5 => decide); k_whole))
  k_with "m size" => (simp only [PySem.Str.length_append, lit0, lit1, lit2, lit3, lit4, lit5, lit6, lit7, lit8, lit9, lit10, lit11, lit12, lit13, lit14, lit15, lit16, lit17, lit18, lit19, lit20, lit21, lit22, lit23, lit24, one_len]; rw [sizeLine_eq]; omega)
  k_with "x binaryOp Add str str" => (k_here; (with_reducible show wpAny _ _ (binaryOp Operator.Add (Value.str _ _) (Value.str _ _)) _ _ _); k_dflt (refine' PyProof.Rows.add_str ?h ?hz; (case hz => walk_at "m size")); intro t'zq tk'zq)
  k_with "m enterT" => ((case kA => exact rfl); (case kF => exact rfl); (case kK => assumption); (case kX => assumption); (case kT => assumption); (case kD => assumption); (case k1 => k_asm); (case k2 => k_asm); (case k3 => k_asm); (case k4 => k_asm); (case k5 => k_asm); (case k6 => k_is); (case k7 => k_is); (case k8 => first | exact room_up hdp (by decide) | k_room); (case k9 => exact BindsTo.of_eq rfl); (case c5 => decide); (case kB => exact locs rfl); (case c2 => exact rfl); (case c3 => exact rfl); (case c4 => exact rfl); k_whole; intro g'zq L'zq h'zq tk0zq FG'zq F'zq N'zq B'zq X'zq T'zq D'zq; (try dsimp only [List.reverse_cons, List.reverse_nil, List.nil_append, List.cons_append] at F'zq); (try k_fold))
  k_with "x call type:str" => (k_here; (with_reducible show wpAny _ _ (call (Value.type "str") [Value.ref _]) _ _ _); k_dflt (refine' str_caught ?kF ?kX ?kN ?kG ?kK ?ks ?ku ?_; (case kG => assumption); (case kN => assumption); (case kF => k_asm); (case kX => k_asm); (case kK => kts_isx); (case ks => k_is); (case ku => k_units); k_whole))
  k_with "x call ref" => (k_here; (with_reducible show wpAny _ _ (call (Value.ref 83) _ _) _ _ _); k_dflt (refine' Says.use (conv_says ?kx ?kz) ?k1 ?k2 ?k3 ?k4 ?k5 ?kK ?kd ?ku ?_; (case k1 => k_asm); (case k2 => k_asm); (case k3 => k_asm); (case k4 => k_asm); (case k5 => k_asm); (case kK => first | exact rfl | assumption); (case kd => walk_at "m depth"); (case ku => walk_at "m units"); (case kx => assumption); (case kz => first | assumption | omega); k_whole); intro r'zq news'zq h'zq tk'zq F'zq N'zq P'zq; obtain ⟨hn9zq, hr9zq⟩ := P'zq; subst hn9zq; subst hr9zq; (try dsimp only); (try k_fold))
  k_with "x eval ListComp" => (k_here; lct_look; k_dflt (refine LCt.ListComp_T (F₀ := by k_asm) (by with_unfolding_all rfl) (by decide) (by rfl) (by decide) (by rfl) ?_); k_dflt lct_toSrc)
  have hlen : vs.length < 1000 := by rw [hD.length, List.length_map]; exact hv
  unfold Says
  intro dp un gd cn cs a ccd cl outer A₀ base h₀ L m s Q E B F X N T hk hdp hun hret
  walk_at "m begin"
  k_dflt (refine' code_defC (binds := [("self", .ref R), ("name", .str x tx)]) ?k1 ?k2 ?k3 ?k4 ?k5 ?kA ?kF ?kK ?k6 ?k7 ?k8 ?k9 ?kB ?kD ?_ ?c2 ?c3 ?c4)
  k_dflt walk_at "m enterC"
  k_with "m compT" => (k_dflt (refine LCt.CompSrcT.ledger (by rfl) (by k_asm) (by k_asm) (by k_mem) (by rw [List.size_toArray]; refine Nat.le_trans (Nat.le_of_lt (by assumption)) (by decide)) ?_; intro g'; refine filt_rest (fun p hp => List.mem_cons_of_mem _ (List.mem_cons_of_mem _ (List.mem_cons_of_mem _ (List.mem_cons_of_mem _ hp)))) (fun p => Txt.lower p.1 != Txt.lower x) rfl rfl (by decide) hD (Or.inr ⟨_, by k_mem, rfl, _, rfl⟩) ?turn ?fin; (case' turn => (intro p9 a9 n9 t9 u9 I9 oI9 C9 oC9 D9 m9 h9 tk9 E9 ys9 hp9 hm9 hC9 hx9 F9 N9 off9 ne9; have hpl := hps _ hp9; (try dsimp only))); (case' fin => (intro ys9 hy9; unfold LCg.FinE; intro D9 h9 tk9 F9 N9 o9; (try dsimp only)))))
  k_steps
  refine m_setAll ((R, _) :: (RD, _) :: rest) F9 N9 (by k_mem) (.head _) (List.forall_mem_cons.mpr ⟨by k_mem, List.forall_mem_cons.mpr ⟨by k_mem, fun p hp => by walk_at "m mem"⟩⟩) (List.forall_mem_cons.mpr ⟨h1, List.forall_mem_cons.mpr ⟨h2, h3⟩⟩) o9.2.2.2.1 (by omega) (by rw [hy9.length, List.length_map]; exact Nat.le_trans (List.length_filter_le _ _) (by omega)) ?_
  intro h8 n8 F' N'
  clear N9 F9
  k_steps
  (rename News h₀ L _ _ => N9)
  exact hret _ _ _ _ (by k_asm) (News.sub N9 (List.forall_mem_cons.mpr ⟨by k_mem, List.forall_mem_cons.mpr ⟨by k_mem, List.forall_mem_cons.mpr ⟨.head _, fun p hp => by walk_at "m mem"⟩⟩⟩)) ⟨rfl, _, _, rfl, hy9⟩
end
section -- MDA
noncomputable def StopD (P : Prop) : Prop := P
theorem m_stopD {P : Prop} (h : StopD P) : P := h
set_option maxHeartbeats 40000000 in
theorem deed_says {w : World} {mean : ExcName → Option Value} {mg mb : Str → Option Value} {c : Par} {ad : Ad} {S : St} {vs1 vs2 gv nv : List Value} {n1 n2 gn : Nat} {rest : Led} {PL NL : Addr} {z : Int} {d e : Nat} {td te tb : Tok} (hz : z = (d : Int)) (hd : d < 5) (C : ParOk c) (I : Inv c S) (O : AdOk ad rest) (H : Has c S vs1 vs2 gv rest) (PP : Plan c PL NL nv rest) (he : e < 24)  :
    SaysT w mean mg mb 20 293 [.int z td, .int e te, .ref ad.R1, .ref ad.R2, .ref ad.G, .int S.known tb, .ref PL] [] (LD w ad vs1 vs2 gv n1 n2 gn rest) (DeedPost w c ad (LD w ad vs1 vs2 gv n1 n2 gn rest) rest (stepS c d e S) (stepD c d S)) := by
  k_with_none
  k_with "m depth" => (first | exact dep_up (by with_reducible assumption) (by decide) | ((try simp only [depth_mark, depth_under_make, depth_under_kw, depth_in1, depth_deeper, depth_caller] at *); (try dsimp only [ktrTop] at *); omega))
  k_with "m units" => (first | exact uni_up (by with_reducible assumption) (by decide) | ((try simp only [units_in1, units_deeper, Around.mark_units, units_caller] at *); (try dsimp only [ktrTop] at *); omega))
  k_with "m begin" => ((have flzq : P.heap_1 = P.heap_1 ∧ PySem.Challenge.rw_yh0023_01 = PySem.Challenge.rw_yh0023_01 := by (k_fill; exact fill)); (clear flzq); (refine wpAny_call ?_))
  k_with "m enter" => ((case kA => exact rfl); (case kF => exact rfl); (case kK => assumption); (case k1 => k_asm); (case k2 => k_asm); (case k3 => k_asm); (case k4 => k_asm); (case k5 => k_asm); (case k6 => k_is); (case k7 => k_is); (case k8 => first | exact room_up hdp (by decide) | k_room); (case k9 => exact BindsTo.of_eq rfl); (case c5 => decide); (case kB => exact locs rfl); (case c2 => exact rfl); (case c3 => exact rfl); (case c4 => exact rfl); k_whole; intro g'zq L'zq h'zq FG'zq F'zq N'zq B'zq X'zq T'zq; (try dsimp only [List.reverse_cons, List.reverse_nil, List.nil_append, List.cons_append] at F'zq); (try k_fold))
  k_with "x execs cons" => (k_here; (with_reducible refine wpAny_execs_cons ?_); k_fold)
  k_with "x call builtin:len" => (k_here; (with_reducible show wpAny _ _ (call (Value.builtin "len") [Value.ref _]) _ _ _); k_dflt (refine' m_len ?k1 ?k2 ?k3 ?_; (case k1 => k_asm); (case k2 => k_mem); (case k3 => omega)))
  k_with "x getMethod ref" => (k_here; k_dflt (first | ((with_reducible show wpAny _ _ (getMethod (Value.ref 48) _ _) _ _ _); refine PatAt.meth (pat_name (by k_in)) ?_) | ((with_reducible show wpAny _ _ (getMethod (Value.ref 53) _ _) _ _ _); refine PatAt.meth (pat_value (by k_in)) ?_)))
  k_with "x call builtin:re.Pattern.search" => (k_here; k_dflt (first | (refine call_search (pat_name (by k_in)) (name_fails (by assumption)) (by assumption) ?_) | (refine call_search (pat_value (by k_in)) (value_fails (by assumption)) (by assumption) ?_)))
  k_with "x call builtin:str.join" => (k_here; k_dflt (refine' m_join1 ?k1 ?k2 ?k3 ?k4 ?_; (case k1 => k_asm); (case k2 => k_mem); (case k3 => decide); (case k4 => assumption)); intro t'zq tk'zq)
  k_with "m enterC" => ((case kA => exact rfl); (case kF => exact rfl); (case kK => assumption); (case k1 => k_asm); (case k2 => k_asm); (case k3 => k_asm); (case k4 => k_asm); (case k5 => k_asm); (case k6 => k_is); (case k7 => k_is); (case k8 => first | exact room_up hdp (by decide) | k_room); (case k9 => exact BindsTo.of_eq rfl); (case kB => exact rfl); (case kD => decide +kernel); (case c2 => exact rfl); (case c3 => exact rfl); (case c4 => exact rfl); k_whole; intro g'zq L'zq h'zq tk'zq cells'zq FG'zq F'zq N'zq Y'zq B'zq X'zq T'zq l1zq; (have l9zq := l1zq); (try k_lt l1zq); k_cells Y'zq; (try simp only [List.cons_append, List.nil_append] at N'zq); (try dsimp only); (try k_fold))
  k_with "x call builtin:str.lower" => (k_here; (try dsimp only); (with_reducible show wpAny _ _ (call (Value.builtin "str.lower") [Value.str _ _]) _ _ _); (refine SCL.lower (by first | omega | exact Nat.le_trans (by assumption) (by decide)) ?_); intro _)
  k_with "m mem" => (repeat (first | assumption | apply List.mem_cons_of_mem))
  k_with "x subscriptTail" => (k_here; (with_reducible show wpAny _ _ (subscriptTail _ _ (Value.ref _) (Value.int _ _)) _ _ _); k_dflt (refine' item_tupleT (m_tup (by k_asm) ?hm) (by decide) (by decide) ?hj ?hv ?_; (case hm => first | k_mem | walk_at "m mem"); (case hj => rfl); (case hv => rfl)))
  k_with "m look" => first | exact rfl | assumption
  k_with "x eval Name" => (k_here; (with_reducible show wpAny _ _ (eval (PySem.Expr.Name _ _) (envOf _ _ _ _ _)) _ _ _); k_dflt (refine' ld ?k1 ?k2 ?_; (case k1 => k_asm); (case k2 => walk_at "m look"); k_whole))
  k_with "x eval Name" => (k_here; (with_reducible show wpAny _ _ (eval (PySem.Expr.Name (PySem.Str.ofString "divmod") _) _) _ _ _); (with_reducible rename Fr _ _ _ _ => kFzq); with_unfolding_all refine guard_global (by rfl) ?_; k_dflt (refine' name_B kFzq ?k1 ?k2 ?k3 ?k4 ?k5 ?_; (case k1 => k_asm); (case k2 => k_asm); (case k3 => k_is); (case k4 => first | exact boot_divmod); (case k5 => decide); k_whole))
  k_with "m size" => (simp only [PySem.Str.length_append, lit0, lit1, lit2, lit3, lit4, lit5, lit6, lit7, lit8, lit9, lit10, lit11, lit12, lit13, lit14, lit15, lit16, lit17, lit18, lit19, lit20, lit21, lit22, lit23, lit24, one_len]; rw [sizeLine_eq]; omega)
  k_with "x binaryOp Add str str" => (k_here; (with_reducible show wpAny _ _ (binaryOp Operator.Add (Value.str _ _) (Value.str _ _)) _ _ _); k_dflt (refine' PyProof.Rows.add_str ?h ?hz; (case hz => walk_at "m size")); intro t'zq tk'zq)
  k_with "m enterT" => ((case kA => exact rfl); (case kF => exact rfl); (case kK => assumption); (case kX => assumption); (case kT => assumption); (case kD => assumption); (case k1 => k_asm); (case k2 => k_asm); (case k3 => k_asm); (case k4 => k_asm); (case k5 => k_asm); (case k6 => k_is); (case k7 => k_is); (case k8 => first | exact room_up hdp (by decide) | k_room); (case k9 => exact BindsTo.of_eq rfl); (case c5 => decide); (case kB => exact locs rfl); (case c2 => exact rfl); (case c3 => exact rfl); (case c4 => exact rfl); k_whole; intro g'zq L'zq h'zq tk0zq FG'zq F'zq N'zq B'zq X'zq T'zq D'zq; (try dsimp only [List.reverse_cons, List.reverse_nil, List.nil_append, List.cons_append] at F'zq); (try k_fold))
  k_with "x call type:str" => (k_here; (with_reducible show wpAny _ _ (call (Value.type "str") [Value.ref _]) _ _ _); k_dflt (refine' str_caught ?kF ?kX ?kN ?kG ?kK ?ks ?ku ?_; (case kG => assumption); (case kN => assumption); (case kF => k_asm); (case kX => k_asm); (case kK => kts_isx); (case ks => k_is); (case ku => k_units); k_whole))
  k_with "m om" => (first | with_reducible assumption | exact z0 (by with_reducible assumption) | exact z1 (by with_reducible assumption) | omega)
  k_with "m nat" => first | exact nat2 | exact nat6 | exact nat12 | exact nat1 _ | exact rfl
  k_with "x binaryOp Add int int" => ((with_reducible show wpAny _ _ (binaryOp Operator.Add (Value.int _ _) (Value.int _ _)) _ _ _); first | refine m_addN ?_ | refine m_add1 ?_)
  k_with "x binaryOp Mod int int" => ((with_reducible show wpAny _ _ (binaryOp Operator.Mod (Value.int _ _) (Value.int _ _)) _ _ _); k_dflt (refine' m_modN ?k1 ?k2 ?k3 ?_; (case k1 => walk_at "m nat"); (case k2 => walk_at "m nat"); (case k3 => walk_at "m om")))
  k_with "x binaryOp FloorDiv int int" => ((with_reducible show wpAny _ _ (binaryOp Operator.FloorDiv (Value.int _ _) (Value.int _ _)) _ _ _); k_dflt (refine' m_divN ?k1 ?k2 ?k3 ?k4 ?_; (case k1 => walk_at "m nat"); (case k2 => walk_at "m nat"); (case k3 => walk_at "m om"); (case k4 => walk_at "m om")))
  k_with "x call builtin:bytes.decode" => (k_here; refine m_decode (by walk_at "m om") ?_; intro t'zq tk'zq hl'zq)
  k_with "m use" => ((case k1 => k_asm); (case k2 => k_asm); (case k3 => k_asm); (case k4 => k_asm); (case k5 => k_asm); (case kK => first | exact rfl | assumption); (case kd => walk_at "m depth"); (case ku => walk_at "m units"); k_whole)
  k_with "m useN" => ((case k1 => k_asm); (case k2 => k_asm); (case k3 => k_asm); (case k5 => k_asm); (case kK => first | exact rfl | assumption); (case kd => walk_at "m depth"); (case ku => walk_at "m units"); k_whole)
  k_with "m memR" => (repeat (first | with_reducible assumption | with_reducible apply List.mem_cons_of_mem))
  k_with "x call builtin:str.swapcase" => (k_here; (try dsimp only); (with_reducible show wpAny _ _ (call (Value.builtin "str.swapcase") [Value.str _ _]) _ _ _); (refine SCL.swapcase (by walk_at "m om") ?_); intro _)
  k_with "x call builtin:str.upper" => (k_here; (try dsimp only); (with_reducible show wpAny _ _ (call (Value.builtin "str.upper") [Value.str _ _]) _ _ _); (refine SCL.upper (by walk_at "m om") ?_); intro _)
  k_with "x delItem ref" => (k_here; (with_reducible show wpAny _ _ (delItem (Value.ref _) _) _ _ _); k_dflt (refine' m_delItem ?F ?X ?I ?hQ ?hS ?hF ?_; (case F => k_asm); (case X => k_asm); (case I => k_inst); (case hS => k_is); (case hF => k_is); (case hQ => k_is); k_whole))
  k_with "m memK" => (repeat (first | with_reducible exact List.mem_cons_self | with_reducible apply List.mem_cons_of_mem))
  k_with "m use2" => ((case m1 => walk_at "m memK"); (case m2 => walk_at "m memK"); (case m3 => walk_at "m memK"); (case k1 => k_asm); (case k2 => k_asm); (case k3 => k_asm); (case k5 => k_asm); (case kK => first | exact rfl | assumption); (case kd => walk_at "m depth"); (case ku => walk_at "m units"); k_whole)
  k_with "m useT" => ((case k1 => k_asm); (case k2 => k_asm); (case k3 => k_asm); (case k5 => k_asm); (case kX => assumption); (case kT => assumption); (case kD => assumption); (case kK => first | exact rfl | assumption); (case kd => walk_at "m depth"); (case ku => walk_at "m units"); k_whole)
  k_with "x eval Name" => (k_here; (with_reducible show wpAny _ _ (eval (PySem.Expr.Name _ _) _) _ _ _); (with_reducible rename Fr _ _ _ _ => kFzq); k_dflt (refine' ld kFzq ?k2 ?_ ?k3 ?k4; (case k3 => rfl); (case k4 => rfl); (case k2 => walk_at "m look"); k_whole))
  k_with "x execs cons" => (k_here; (with_reducible show wpAny _ _ (execs (PySem.Stmt.If (PySem.Expr.BoolOp PySem.BoolOp.And (PySem.Expr.Compare _ [PySem.CmpOp.Eq] [PySem.Expr.Constant (PySem.Const.int _) _ _] _ :: _) _) _ [] _ :: _) _) _ _ _); (with_reducible rename Fr _ _ _ _ => kFzq); k_dflt (refine' m_skipO kFzq ?k1 ?k2 ?_; (case k1 => walk_at "m look"); (case k2 => exact rfl); k_whole))
  k_with "x execs cons" => (k_here; (with_reducible show wpAny _ _ (execs [PySem.Stmt.Return (some (PySem.Expr.Tuple _ _ _)) _] _) _ _ _); (with_reducible rename Fr _ _ _ _ => kFzq); k_dflt (refine' m_ret2O kFzq ?k1 ?k2 ?_; (case k1 => walk_at "m look"); (case k2 => walk_at "m look"); k_whole))
  k_with "x exec If BoolOp" => (k_here; (with_reducible rename Fr _ _ _ _ => kFzq); k_dflt (refine' m_enterO kFzq ?k1 ?k2 ?_; (case k1 => walk_at "m look"); (case k2 => exact rfl); k_whole))
  k_with "x exec If" => (k_here; (with_reducible show wpAny _ _ (exec (PySem.Stmt.If (PySem.Expr.BoolOp PySem.BoolOp.And (PySem.Expr.Compare _ [PySem.CmpOp.Eq] [PySem.Expr.Constant (PySem.Const.int _) _ _] _ :: _) _) _ _ _) _) _ _ _); (with_reducible rename Fr _ _ _ _ => kFzq); k_dflt (refine' m_enterO kFzq ?k1 ?k2 ?_; (case k1 => walk_at "m look"); (case k2 => exact rfl); k_whole))
  k_with "x exec Assign" => ((with_reducible show wpAny _ _ (exec (PySem.Stmt.Assign [PySem.Expr.Name (PySem.Str.ofString "told") _] (PySem.Expr.Constant _ _ _) _) _) _ _ _); k_extra "m told")
  k_with "x subscriptTail" => ((with_reducible show wpAny _ _ (subscriptTail _ _ (Value.ref _) (Value.int 0 _)) _ _ _); (with_reducible rename News _ _ _ _ => N9zq); k_dflt (refine' m_item0 N9zq ?m ?h ?_; (case m => walk_at "m memK"); (case h => with_reducible assumption)); intro t'zq)
  k_with "x truthy str" => ((with_reducible show wpAny _ _ (PySem.truthy (Value.str _ _)) _ _ _); (refine KXt.truthy_pos (by with_reducible assumption) (by with_reducible assumption) (by decide) ?_); intro _)
  obtain ⟨⟨tw, tt, th, npl, hpl⟩, ⟨nnl, hnl⟩, hns⟩ := PP
  unfold SaysT
  intro dp un gd cn cs a ccd cl outer A₀ base h₀ L m s Q E B F X N T XB TB D hk hdp hun hret
  walk_at "m begin"
  k_dflt (refine' code_defT (binds := [("deed", .int z td), ("dress", .int e te), ("road", .ref ad.R1), ("answers", .ref ad.R2), ("got", .ref ad.G), ("begun", .int S.known tb), ("plan", .ref PL)]) ?k1 ?k2 ?k3 ?k4 ?k5 ?kX ?kT ?kD ?kA ?kF ?kK ?k6 ?k7 ?k8 ?k9 ?kB ?_ ?c2 ?c3 ?c4 ?c5)
  k_dflt walk_at "m enterT"
  (rename News _ _ _ (LD _ _ _ _ _ _ _ _ _) => N8)
  (rename Fr _ _ _ _ => F8)
  have N9 := News.sub (news' := (PL, _) :: (NL, _) :: LD w ad vs1 vs2 gv n1 n2 gn rest) N8 (List.forall_mem_cons.mpr ⟨by walk_at "m mem", List.forall_mem_cons.mpr ⟨by walk_at "m mem", fun p hp => hp⟩⟩)
  have hw1 := C.w1
  have hw2 := C.w2
  have hn4 : nv.length = 4 := by rw [hns.length, C.len]
  have hm : (S.known + e / 12 % c.w) % (c.w + 1) < c.w + 1 := Nat.mod_lt _ (Nat.succ_pos c.w)
  have htg := C.tag
  have hC4 := C.len
  have hkn := I.kt
  have ht4 := I.t4
  have hv1 := H.v1
  have hv2 := H.v2
  have hb1 := H.l1
  have hb2 := H.l2
  have hgl := H.gl C I
  have hz9 : gv.length % (c.w + 1) < c.w + 1 := Nat.mod_lt _ (Nat.succ_pos _)
  have he6 : e % 6 < 6 := Nat.mod_lt _ (by decide)
  have hw3 : c.w + 1 ≠ 0 := Nat.succ_ne_zero _
  have hw4 : ((c.w + 1 : Nat) : Int) ≠ 0 := Int.ofNat_ne_zero.mpr hw3
  have hx1 : vs1.length < 2 ^ 63 := by omega
  have hx2 : vs2.length < 2 ^ 63 := by omega
  have hx3 : gv.length < 2 ^ 63 := by omega
  have hx4 : nv.length < 2 ^ 63 := by omega
  have hx5 : S.lane.length < 1000 := Nat.lt_trans hb1 (by decide)
  have hx6 : S.back.length < 1000 := Nat.lt_trans hb2 (by decide)
  have hx7 : c.tag + gv.length % (c.w + 1) < 320 := by omega
  have hx8 : c.tag + (S.known + e / 12 % c.w) % (c.w + 1) < 320 := by omega
  k_with "m told" => refine m_stopD ?_
  k_steps
  unfold StopD
  refine tokX ?_
  intro tk9
  k_with_none
  k_with "m depth" => (first | exact dep_up (by with_reducible assumption) (by decide) | ((try simp only [depth_mark, depth_under_make, depth_under_kw, depth_in1, depth_deeper, depth_caller] at *); (try dsimp only [ktrTop] at *); omega))
  k_with "m units" => (first | exact uni_up (by with_reducible assumption) (by decide) | ((try simp only [units_in1, units_deeper, Around.mark_units, units_caller] at *); (try dsimp only [ktrTop] at *); omega))
  k_with "m begin" => ((have flzq : P.heap_1 = P.heap_1 ∧ PySem.Challenge.rw_yh0023_01 = PySem.Challenge.rw_yh0023_01 := by (k_fill; exact fill)); (clear flzq); (refine wpAny_call ?_))
  k_with "m enter" => ((case kA => exact rfl); (case kF => exact rfl); (case kK => assumption); (case k1 => k_asm); (case k2 => k_asm); (case k3 => k_asm); (case k4 => k_asm); (case k5 => k_asm); (case k6 => k_is); (case k7 => k_is); (case k8 => first | exact room_up hdp (by decide) | k_room); (case k9 => exact BindsTo.of_eq rfl); (case c5 => decide); (case kB => exact locs rfl); (case c2 => exact rfl); (case c3 => exact rfl); (case c4 => exact rfl); k_whole; intro g'zq L'zq h'zq FG'zq F'zq N'zq B'zq X'zq T'zq; (try dsimp only [List.reverse_cons, List.reverse_nil, List.nil_append, List.cons_append] at F'zq); (try k_fold))
  k_with "x execs cons" => (k_here; (with_reducible refine wpAny_execs_cons ?_); k_fold)
  k_with "x call builtin:len" => (k_here; (with_reducible show wpAny _ _ (call (Value.builtin "len") [Value.ref _]) _ _ _); k_dflt (refine' m_len ?k1 ?k2 ?k3 ?_; (case k1 => k_asm); (case k2 => k_mem); (case k3 => omega)))
  k_with "x getMethod ref" => (k_here; k_dflt (first | ((with_reducible show wpAny _ _ (getMethod (Value.ref 48) _ _) _ _ _); refine PatAt.meth (pat_name (by k_in)) ?_) | ((with_reducible show wpAny _ _ (getMethod (Value.ref 53) _ _) _ _ _); refine PatAt.meth (pat_value (by k_in)) ?_)))
  k_with "x call builtin:re.Pattern.search" => (k_here; k_dflt (first | (refine call_search (pat_name (by k_in)) (name_fails (by assumption)) (by assumption) ?_) | (refine call_search (pat_value (by k_in)) (value_fails (by assumption)) (by assumption) ?_)))
  k_with "x call builtin:str.join" => (k_here; k_dflt (refine' m_join1 ?k1 ?k2 ?k3 ?k4 ?_; (case k1 => k_asm); (case k2 => k_mem); (case k3 => decide); (case k4 => assumption)); intro t'zq tk'zq)
  k_with "m enterC" => ((case kA => exact rfl); (case kF => exact rfl); (case kK => assumption); (case k1 => k_asm); (case k2 => k_asm); (case k3 => k_asm); (case k4 => k_asm); (case k5 => k_asm); (case k6 => k_is); (case k7 => k_is); (case k8 => first | exact room_up hdp (by decide) | k_room); (case k9 => exact BindsTo.of_eq rfl); (case kB => exact rfl); (case kD => decide +kernel); (case c2 => exact rfl); (case c3 => exact rfl); (case c4 => exact rfl); k_whole; intro g'zq L'zq h'zq tk'zq cells'zq FG'zq F'zq N'zq Y'zq B'zq X'zq T'zq l1zq; (have l9zq := l1zq); (try k_lt l1zq); k_cells Y'zq; (try simp only [List.cons_append, List.nil_append] at N'zq); (try dsimp only); (try k_fold))
  k_with "x call builtin:str.lower" => (k_here; (try dsimp only); (with_reducible show wpAny _ _ (call (Value.builtin "str.lower") [Value.str _ _]) _ _ _); (refine SCL.lower (by first | omega | exact Nat.le_trans (by assumption) (by decide)) ?_); intro _)
  k_with "m mem" => (repeat (first | assumption | apply List.mem_cons_of_mem))
  k_with "x subscriptTail" => (k_here; (with_reducible show wpAny _ _ (subscriptTail _ _ (Value.ref _) (Value.int _ _)) _ _ _); k_dflt (refine' item_tupleT (m_tup (by k_asm) ?hm) (by decide) (by decide) ?hj ?hv ?_; (case hm => first | k_mem | walk_at "m mem"); (case hj => rfl); (case hv => rfl)))
  k_with "m look" => first | exact rfl | assumption
  k_with "x eval Name" => (k_here; (with_reducible show wpAny _ _ (eval (PySem.Expr.Name _ _) (envOf _ _ _ _ _)) _ _ _); k_dflt (refine' ld ?k1 ?k2 ?_; (case k1 => k_asm); (case k2 => walk_at "m look"); k_whole))
  k_with "x eval Name" => (k_here; (with_reducible show wpAny _ _ (eval (PySem.Expr.Name (PySem.Str.ofString "divmod") _) _) _ _ _); (with_reducible rename Fr _ _ _ _ => kFzq); with_unfolding_all refine guard_global (by rfl) ?_; k_dflt (refine' name_B kFzq ?k1 ?k2 ?k3 ?k4 ?k5 ?_; (case k1 => k_asm); (case k2 => k_asm); (case k3 => k_is); (case k4 => first | exact boot_divmod); (case k5 => decide); k_whole))
  k_with "m size" => (simp only [PySem.Str.length_append, lit0, lit1, lit2, lit3, lit4, lit5, lit6, lit7, lit8, lit9, lit10, lit11, lit12, lit13, lit14, lit15, lit16, lit17, lit18, lit19, lit20, lit21, lit22, lit23, lit24, one_len]; rw [sizeLine_eq]; omega)
  k_with "x binaryOp Add str str" => (k_here; (with_reducible show wpAny _ _ (binaryOp Operator.Add (Value.str _ _) (Value.str _ _)) _ _ _); k_dflt (refine' PyProof.Rows.add_str ?h ?hz; (case hz => walk_at "m size")); intro t'zq tk'zq)
  k_with "m enterT" => ((case kA => exact rfl); (case kF => exact rfl); (case kK => assumption); (case kX => assumption); (case kT => assumption); (case kD => assumption); (case k1 => k_asm); (case k2 => k_asm); (case k3 => k_asm); (case k4 => k_asm); (case k5 => k_asm); (case k6 => k_is); (case k7 => k_is); (case k8 => first | exact room_up hdp (by decide) | k_room); (case k9 => exact BindsTo.of_eq rfl); (case c5 => decide); (case kB => exact locs rfl); (case c2 => exact rfl); (case c3 => exact rfl); (case c4 => exact rfl); k_whole; intro g'zq L'zq h'zq tk0zq FG'zq F'zq N'zq B'zq X'zq T'zq D'zq; (try dsimp only [List.reverse_cons, List.reverse_nil, List.nil_append, List.cons_append] at F'zq); (try k_fold))
  k_with "x call type:str" => (k_here; (with_reducible show wpAny _ _ (call (Value.type "str") [Value.ref _]) _ _ _); k_dflt (refine' str_caught ?kF ?kX ?kN ?kG ?kK ?ks ?ku ?_; (case kG => assumption); (case kN => assumption); (case kF => k_asm); (case kX => k_asm); (case kK => kts_isx); (case ks => k_is); (case ku => k_units); k_whole))
  k_with "m om" => (first | with_reducible assumption | exact z0 (by with_reducible assumption) | exact z1 (by with_reducible assumption) | omega)
  k_with "m nat" => first | exact nat2 | exact nat6 | exact nat12 | exact nat1 _ | exact rfl
  k_with "x binaryOp Add int int" => ((with_reducible show wpAny _ _ (binaryOp Operator.Add (Value.int _ _) (Value.int _ _)) _ _ _); first | refine m_addN ?_ | refine m_add1 ?_)
  k_with "x binaryOp Mod int int" => ((with_reducible show wpAny _ _ (binaryOp Operator.Mod (Value.int _ _) (Value.int _ _)) _ _ _); k_dflt (refine' m_modN ?k1 ?k2 ?k3 ?_; (case k1 => walk_at "m nat"); (case k2 => walk_at "m nat"); (case k3 => walk_at "m om")))
  k_with "x binaryOp FloorDiv int int" => ((with_reducible show wpAny _ _ (binaryOp Operator.FloorDiv (Value.int _ _) (Value.int _ _)) _ _ _); k_dflt (refine' m_divN ?k1 ?k2 ?k3 ?k4 ?_; (case k1 => walk_at "m nat"); (case k2 => walk_at "m nat"); (case k3 => walk_at "m om"); (case k4 => walk_at "m om")))
  k_with "x call builtin:bytes.decode" => (k_here; refine m_decode (by walk_at "m om") ?_; intro t'zq tk'zq hl'zq)
  k_with "m use" => ((case k1 => k_asm); (case k2 => k_asm); (case k3 => k_asm); (case k4 => k_asm); (case k5 => k_asm); (case kK => first | exact rfl | assumption); (case kd => walk_at "m depth"); (case ku => walk_at "m units"); k_whole)
  k_with "m useN" => ((case k1 => k_asm); (case k2 => k_asm); (case k3 => k_asm); (case k5 => k_asm); (case kK => first | exact rfl | assumption); (case kd => walk_at "m depth"); (case ku => walk_at "m units"); k_whole)
  k_with "m memR" => (repeat (first | with_reducible assumption | with_reducible apply List.mem_cons_of_mem))
  k_with "x call builtin:str.swapcase" => (k_here; (try dsimp only); (with_reducible show wpAny _ _ (call (Value.builtin "str.swapcase") [Value.str _ _]) _ _ _); (refine SCL.swapcase (by walk_at "m om") ?_); intro _)
  k_with "x call builtin:str.upper" => (k_here; (try dsimp only); (with_reducible show wpAny _ _ (call (Value.builtin "str.upper") [Value.str _ _]) _ _ _); (refine SCL.upper (by walk_at "m om") ?_); intro _)
  k_with "x delItem ref" => (k_here; (with_reducible show wpAny _ _ (delItem (Value.ref _) _) _ _ _); k_dflt (refine' m_delItem ?F ?X ?I ?hQ ?hS ?hF ?_; (case F => k_asm); (case X => k_asm); (case I => k_inst); (case hS => k_is); (case hF => k_is); (case hQ => k_is); k_whole))
  k_with "m memK" => (repeat (first | with_reducible exact List.mem_cons_self | with_reducible apply List.mem_cons_of_mem))
  k_with "m use2" => ((case m1 => walk_at "m memK"); (case m2 => walk_at "m memK"); (case m3 => walk_at "m memK"); (case k1 => k_asm); (case k2 => k_asm); (case k3 => k_asm); (case k5 => k_asm); (case kK => first | exact rfl | assumption); (case kd => walk_at "m depth"); (case ku => walk_at "m units"); k_whole)
  k_with "m useT" => ((case k1 => k_asm); (case k2 => k_asm); (case k3 => k_asm); (case k5 => k_asm); (case kX => assumption); (case kT => assumption); (case kD => assumption); (case kK => first | exact rfl | assumption); (case kd => walk_at "m depth"); (case ku => walk_at "m units"); k_whole)
  k_with "x eval Name" => (k_here; (with_reducible show wpAny _ _ (eval (PySem.Expr.Name _ _) _) _ _ _); (with_reducible rename Fr _ _ _ _ => kFzq); k_dflt (refine' ld kFzq ?k2 ?_ ?k3 ?k4; (case k3 => rfl); (case k4 => rfl); (case k2 => walk_at "m look"); k_whole))
  k_with "x execs cons" => (k_here; (with_reducible show wpAny _ _ (execs (PySem.Stmt.If (PySem.Expr.BoolOp PySem.BoolOp.And (PySem.Expr.Compare _ [PySem.CmpOp.Eq] [PySem.Expr.Constant (PySem.Const.int _) _ _] _ :: _) _) _ [] _ :: _) _) _ _ _); (with_reducible rename Fr _ _ _ _ => kFzq); k_dflt (refine' m_skipO kFzq ?k1 ?k2 ?_; (case k1 => walk_at "m look"); (case k2 => exact rfl); k_whole))
  k_with "x execs cons" => (k_here; (with_reducible show wpAny _ _ (execs [PySem.Stmt.Return (some (PySem.Expr.Tuple _ _ _)) _] _) _ _ _); (with_reducible rename Fr _ _ _ _ => kFzq); k_dflt (refine' m_ret2O kFzq ?k1 ?k2 ?_; (case k1 => walk_at "m look"); (case k2 => walk_at "m look"); k_whole))
  k_with "x exec If BoolOp" => (k_here; (with_reducible rename Fr _ _ _ _ => kFzq); k_dflt (refine' m_enterO kFzq ?k1 ?k2 ?_; (case k1 => walk_at "m look"); (case k2 => exact rfl); k_whole))
  k_with "x exec If" => (k_here; (with_reducible show wpAny _ _ (exec (PySem.Stmt.If (PySem.Expr.BoolOp PySem.BoolOp.And (PySem.Expr.Compare _ [PySem.CmpOp.Eq] [PySem.Expr.Constant (PySem.Const.int _) _ _] _ :: _) _) _ _ _) _) _ _ _); (with_reducible rename Fr _ _ _ _ => kFzq); k_dflt (refine' m_enterO kFzq ?k1 ?k2 ?_; (case k1 => walk_at "m look"); (case k2 => exact rfl); k_whole))
  k_with "x exec Assign" => ((with_reducible show wpAny _ _ (exec (PySem.Stmt.Assign [PySem.Expr.Name (PySem.Str.ofString "told") _] (PySem.Expr.Constant _ _ _) _) _) _ _ _); k_extra "m told")
  k_with "x subscriptTail" => ((with_reducible show wpAny _ _ (subscriptTail _ _ (Value.ref _) (Value.int 0 _)) _ _ _); (with_reducible rename News _ _ _ _ => N9zq); k_dflt (refine' m_item0 N9zq ?m ?h ?_; (case m => walk_at "m memK"); (case h => with_reducible assumption)); intro t'zq)
  k_with "x truthy str" => ((with_reducible show wpAny _ _ (PySem.truthy (Value.str _ _)) _ _ _); (refine KXt.truthy_pos (by with_reducible assumption) (by with_reducible assumption) (by decide) ?_); intro _)
  (rename Fr _ _ _ _ => F9)
  refine frX F9 ?_
  intro m9 hm9 F7
  have eq01 : m9 "deed" = some (.int z td) := by rw [hm9]; rfl
  have eq02 : m9 "road" = some (.ref ad.R1) := by rw [hm9]; rfl
  have eq03 : m9 "answers" = some (.ref ad.R2) := by rw [hm9]; rfl
  have eq04 : m9 "got" = some (.ref ad.G) := by rw [hm9]; rfl
  have eq05 : m9 "begun" = some (.int S.known tb) := by rw [hm9]; rfl
  have eq06 : m9 "names" = some (.ref NL) := by rw [hm9]; rfl
  have eq07 : m9 "tag" = some (.int c.tag tt) := by rw [hm9]; rfl
  have eq08 : m9 "host" = some (.str c.host th) := by rw [hm9]; rfl
  have eq12 : m9 "window" = some (.int c.w tw) := by rw [hm9]; rfl
  obtain ⟨tkA, eq09⟩ : ∃ t, m9 "kind" = some (.int ((e % 6 : Nat) : Int) t) := ⟨_, by rw [hm9]; rfl⟩
  obtain ⟨tkB, eq10⟩ : ∃ t, m9 "size" = some (.int ((e / 6 % 2 : Nat) : Int) t) := ⟨_, by rw [hm9]; rfl⟩
  obtain ⟨tkC, eq11⟩ : ∃ t, m9 "step" = some (.int ((e / 12 % c.w : Nat) : Int) t) := ⟨_, by rw [hm9]; rfl⟩
  clear hm9 F9
  k_with "m look" => first | exact rfl | exact eq01 | exact eq02 | exact eq03 | exact eq04 | exact eq05 | exact eq06 | exact eq07 | exact eq08 | exact eq09 | exact eq10 | exact eq11 | exact eq12
  (rename News _ _ _ _ => N0)
  refine newsX2 N0 ?_
  clear N0
  intro oD9 oP9 N9
  have hd5 : d = 0 ∨ d = 1 ∨ d = 2 ∨ d = 3 ∨ d = 4 := by omega
  rcases hd5 with rfl | rfl | rfl | rfl | rfl
  · have hz5 : z = 0 := hz
    subst hz5
    k_with "subscriptTail Name BinOp ref int" => ((with_reducible show wpAny _ _ (subscriptTail _ _ (Value.ref NL) (Value.int _ _)) _ _ _); (with_reducible rename News _ _ _ _ => N9); k_dflt (refine m_name (n := nnl) N9 (by walk_at "m mem") hns (by walk_at "m om") (by walk_at "m om") ?_); intro t')
    k_with "call ref" => (first
      | ((with_reducible show wpAny _ _ (call (Value.ref 246) _ _) _ _ _); k_dflt (refine' Says.use (i2a_says (by walk_at "m om")) ?k1 ?k2 ?k3 ?k4 ?k5 ?kK ?kd ?ku ?_; walk_at "m use"); intro r' news' h' tk' F' N' P'; obtain ⟨hn9, u9, hr9⟩ := P'; subst hn9; subst hr9; (try simp only [nabs, Int.natAbs_natCast]); (try dsimp only))
      | ((with_reducible show wpAny _ _ (call (Value.ref 265) _ _) _ _ _); (have nm9 := C.nm (S.known + e / 12 % c.w) (by walk_at "m om")); k_dflt (refine' Says.use (pkt_says (by walk_at "m om") nm9.len nm9.rep) ?k1 ?k2 ?k3 ?k4 ?k5 ?kK ?kd ?ku ?_; walk_at "m use"); intro r' news' h' tk' F' N' P'; obtain ⟨hn9, u9, hr9⟩ := P'; subst hn9; subst hr9; (try dsimp only))
      | ((with_reducible show wpAny _ _ (call (Value.ref 181) _ _) _ _ _); (with_reducible rename News _ _ _ _ => N9); k_dflt (refine' Says.use (addh_says (R := ad.R1) (RD := ad.RD1) (RL := ad.RL1) (th := ad.th1) (vs := vs1) (ps := S.lane.map c.pp) (n := n1) (rest := (ad.R2, instObj 184 ad.RD2) :: (ad.RD2, hdrD w ad.th2 ad.RL2) :: (ad.RL2, listOf vs2.toArray n2) :: (ad.G, listOf gv.toArray gn) :: rest) (by first | with_reducible exact word_okText (by walk_at "m om") | with_reducible exact low_okText (by walk_at "m om")) (by first | with_reducible exact word_size | with_reducible exact low_size (by walk_at "m om")) (nm9.ok _ (by walk_at "m om")) (Nat.le_trans (nm9.hi _ (by walk_at "m om")) (by decide)) (H.d1.mono fun p hp => .tail _ (.tail _ (.tail _ (.tail _ hp)))) (by rw [List.length_map]; have := H.l1; omega) O.r1.1 O.r1.2.1 (List.forall_mem_cons.mpr ⟨O.r1.2.2.1, List.forall_mem_cons.mpr ⟨O.r1.2.2.2.1, List.forall_mem_cons.mpr ⟨O.r1.2.2.2.2.1, List.forall_mem_cons.mpr ⟨O.r1.2.2.2.2.2, fun p hp => (O.rest p hp).1⟩⟩⟩⟩)) ?k1 ?k2 ?k3 (News.sub N9 ?k4) ?k5 ?kK ?kd ?ku ?_; (case k4 => exact fun p hp => List.Mem.tail _ (List.Mem.tail _ (List.Mem.tail _ hp))); walk_at "m useN"); intro r' news' h' tk' F' N' P'; clear N9; obtain ⟨hr9, vs9, n9, tl9, hn9, hd9, ha9⟩ := P'; subst hr9; subst hn9; (try dsimp only)))
    k_steps
    · (rename (_ < _ ∧ _) => l19)
      (rename News _ _ _ _ => N9)
      exact LeaveT.mk (news' := LD w ad vs9 vs2 gv n9 n2 gn (rest ++ (tl9 ++ [(_, _)]))) KtsTurn.refl (by with_reducible assumption) (News.sub N9 (LD_sub2 fun p hp => hp)) (fun h₁ T1 F1 N1 B1 X1 P1 D1 => hret _ _ _ _ h₁ T1 F1 N1 B1 X1 P1 D1 (laid (by walk_at "m om") H ha9 hd9 (wS_hi (by walk_at "m om")).symm l19))
    · (rename (_ < _ ∧ _) => l19)
      (rename News _ _ _ _ => N9)
      exact LeaveT.mk (news' := LD w ad vs9 vs2 gv n9 n2 gn (rest ++ (tl9 ++ [(_, _)]))) KtsTurn.refl (by with_reducible assumption) (News.sub N9 (LD_sub2 fun p hp => hp)) (fun h₁ T1 F1 N1 B1 X1 P1 D1 => hret _ _ _ _ h₁ T1 F1 N1 B1 X1 P1 D1 (laid (by walk_at "m om") H ha9 hd9 (wS_lo (by walk_at "m om")).symm l19))
    · (rename (_ < _ ∧ _) => l19)
      (rename News _ _ _ _ => N9)
      exact LeaveT.mk (news' := LD w ad vs1 vs2 gv n1 n2 gn (rest ++ [(_, _)])) KtsTurn.refl (by with_reducible assumption) (News.sub N9 (LD_sub1 fun p hp => .tail _ (.tail _ (.tail _ hp)))) (fun h₁ T1 F1 N1 B1 X1 P1 D1 => hret _ _ _ _ h₁ T1 F1 N1 B1 X1 P1 D1 (still (stepS_0n (by walk_at "m om")) rfl H l19.2.2.2))
  · have hz5 : z = 1 := hz
    subst hz5
    k_with "call builtin:list.append" => k_dflt ((with_reducible rename Fr _ _ _ _ => F9); (with_reducible rename News _ _ _ _ => N9); (with_reducible rename (_ < _ ∧ _ < _ ∧ _) => l19); (with_reducible rename ((_ == _) = true) => hq9); rw [hgl] at hq9; (have ht9 := tag_hit C (I.l2 p9 hp9) (Nat.lt_of_lt_of_le (I.l1 p9 hp9) (by walk_at "m om")) hq9); refine got_append F9 N9 O (Nat.ne_of_gt l19.2.2.2.2.2.2.2.2.1) (hb9 (ad.G, _) (.tail _ (.tail _ (.tail _ (.tail _ LD_G)))) _ (.head _)) (ha9 (ad.G, _) (.tail _ (.tail _ (.tail _ LD_G))) _ (.head _)) (by walk_at "m om") ?_; intro h8 F8 N8; obtain ⟨gv8, hgv8⟩ : ∃ g, g = gv ++ [.str (c.nm p9.n) t8] := ⟨_, rfl⟩; rw [← hgv8] at N8; (have hgl8 : gv8.length = S.taken + 1 := by rw [hgv8, List.length_append, hgl]; rfl); (have hz8 : gv8.length % (c.w + 1) < c.w + 1 := Nat.mod_lt _ (Nat.succ_pos _)); clear N9 F9; (try dsimp only))
    k_with "call ref" => (first
      | k_dflt ((with_reducible show wpAny _ _ (call (Value.ref 136) _ _) _ _ _); (with_reducible rename News _ _ _ _ => N9); refine' keys_use (R := ad.R1) (RD := ad.RD1) (RL := ad.RL1) (th := ad.th1) (vs := vs1) (ps := S.lane.map c.pp) (n := n1) ?m1 ?m2 ?m3 ?mD (by rw [List.length_map]; omega) ?k1 ?k2 ?k3 N9 ?k5 ?kK ?kd ?ku ?_; (case mD => exact H.d1.mono fun p hp => by (repeat (first | with_reducible assumption | with_reducible apply List.mem_cons_of_mem))); walk_at "m use2"; intro K9 ys9 hK9 tK9 F' N' hy9 ha9; obtain ⟨p9, r9, hl9⟩ := some_of (l := S.lane) (by walk_at "m om"); (have hp9 : p9 ∈ S.lane := by rw [hl9]; exact .head _); (have hi9 := I.l4 p9 hp9); (have nm9 := C.nm p9.n hi9.1); (have hwl9 : (c.word p9).length ≤ 3 := wS_len (Par.no_lt C _)); (have hy8 : StrsAre ys9 (c.word p9 :: (r9.map c.pp).map Prod.fst) := by have z := hy9; rw [hl9] at z; exact z); (have hq8 : 1 ≤ (c.nm p9.n).length := Nat.pos_of_ne_zero nm9.ne); (have hl8 : (c.nm p9.n).length ≤ 20 := nm9.len); (try dsimp only))
      | k_dflt ((with_reducible show wpAny _ _ (call (Value.ref 141) _ _) _ _ _); (have _ := hb9); (with_reducible rename News _ _ _ _ => N9); refine' values_use (R := ad.R1) (RD := ad.RD1) (RL := ad.RL1) (th := ad.th1) (vs := vs1) (ps := S.lane.map c.pp) (n := n1) ?m1 ?m2 ?m3 ?mD (by rw [List.length_map]; omega) ?k1 ?k2 ?k3 N9 ?k5 ?kK ?kd ?ku ?_; (case mD => exact H.d1.mono fun p hp => by (repeat (first | with_reducible assumption | with_reducible apply List.mem_cons_of_mem))); walk_at "m use2"; intro U9 us9 hU9 tU9 F' N' hu9 hc9; (have hu8 : StrsAre us9 (c.ptxt p9 :: (r9.map c.pp).map Prod.snd) := by have z := hu9; rw [hl9] at z; exact z); (try dsimp only))
      | k_dflt ((with_reducible show wpAny _ _ (call (Value.ref 141) _ _) _ _ _); (with_reducible rename News _ _ _ _ => N9); refine' values_use (R := ad.R1) (RD := ad.RD1) (RL := ad.RL1) (th := ad.th1) (vs := vs1) (ps := S.lane.map c.pp) (n := n1) ?m1 ?m2 ?m3 ?mD (by rw [List.length_map]; omega) ?k1 ?k2 ?k3 N9 ?k5 ?kK ?kd ?ku ?_; (case mD => exact H.d1.mono fun p hp => by (repeat (first | with_reducible assumption | with_reducible apply List.mem_cons_of_mem))); walk_at "m use2"; intro V9 zs9 hV9 tV9 F' N' hz9 hb9; (try dsimp only))
      | k_dflt ((with_reducible show wpAny _ _ (call (Value.ref 279) _ _) _ _ _); (with_reducible rename News _ _ _ _ => N9); refine' SaysT.use (read_says (x := c.ptxt p9) (nm9.hi _ hi9.2.1) (nm9.lo _ hi9.2.1)) ?k1 ?k2 ?k3 N9 ?k5 ?kX ?kT ?kD ?kK ?kd ?ku ?_; walk_at "m useT"; rintro r' news' h' tk' h₁ T1 F1 N1 B1 X1 P1 D1 ⟨hn9, hd9⟩; subst hn9; rw [read_is C hi9.1 hi9.2.1] at hd9; (have hs9 := seenP_in hi9.2.1 hd9); (have N8 := News.sub (news' := (V9, LCg.lst zs9) :: (K9, LCg.lst ys9) :: LD w ad vs1 vs2 gv n1 n2 gn rest) N1 (List.forall_mem_cons.mpr ⟨.tail _ (.head _), List.forall_mem_cons.mpr ⟨.tail _ (.tail _ (.head _)), fun p hp => .tail _ (.tail _ (.tail _ (.tail _ (.tail _ (.tail _ hp)))))⟩⟩)); clear N1 N9; rcases seenP_cases hi9.2.1 hd9 with ⟨hk3, t8, hr8⟩ | ⟨hk3, hr8 | ⟨t8, hr8⟩⟩; (all_goals subst hr8); (all_goals try dsimp only))
      | k_dflt ((with_reducible show wpAny _ _ (call (Value.ref 246) _ _) _ _ _); k_dflt (refine' Says.use (i2a_says (no_abs C _)) ?k1 ?k2 ?k3 ?k4 ?k5 ?kK ?kd ?ku ?_; walk_at "m use"); intro r' news' h' tk' F' N' P'; obtain ⟨hn9, u9, hr9⟩ := P'; subst hn9; subst hr9; (try simp only [Int.natAbs_natCast]); (try dsimp only))
      | k_dflt ((with_reducible show wpAny _ _ (call (Value.ref 272) _ _) _ _ _); k_dflt (refine' Says.use (ans_says (by walk_at "m om") (Par.no_lt C _) (num_len (Par.no_lt C _))) ?k1 ?k2 ?k3 ?k4 ?k5 ?kK ?kd ?ku ?_; walk_at "m use"); intro r' news' h' tk' F' N' P'; obtain ⟨hn9, u9, hr9⟩ := P'; subst hn9; subst hr9; (try dsimp only))
      | k_dflt ((with_reducible show wpAny _ _ (call (Value.ref 181) _ _) _ _ _); (with_reducible rename News _ _ _ _ => N9); (with_reducible rename (_ < _ ∧ _ < _ ∧ _) => l19); refine' addh2_use (c := c) (S := S) (gn := gn) H O (Nat.ne_of_gt l19.2.2.2.2.2.2.2.1) (hb9 (ad.RL2, _) (.tail _ (.tail _ (.tail _ (.tail _ LD_L2)))) _ (.head _)) (ha9 (ad.RL2, _) (.tail _ (.tail _ (.tail _ LD_L2))) _ (.head _)) (by first | with_reducible exact word_ok2 C | with_reducible exact low_ok3 C) (by first | with_reducible exact word_size | with_reducible exact low_size3 C) (ans_ok2 C (by walk_at "m om")) (ans_hi2 C (by walk_at "m om")) ?k1 ?k2 ?k3 N9 ?k5 ?kK ?kd ?ku ?_; walk_at "m useN"; intro vs9 n9 tl9 h' tk' F' N' hd2 ht2; clear N9; (try dsimp only))
    )
    k_steps
    · (with_reducible rename (_ < _ ∧ _ < _ ∧ _ < _ ∧ AllLt _ _) => lA)
      (rename News _ _ _ _ => N9)
      rw [hgl8] at hd2
      exact LeaveT.mk (by with_reducible assumption) (by with_reducible assumption) (News.sub N9 read_sub) (fun h₁ T1 F1 N1 B1 X1 P1 D1 => hret _ _ _ _ h₁ T1 F1 N1 B1 X1 P1 D1 (read_post (stepS_1y hl9 hk3 ht9) H (by rw [hgv8]; exact took C H.g ht9 hi9.1) (aA_of (vs9 := vs9) (n9 := n9) lA) (fun o => after_lt l19.2.2) (hb9.mono fun p hp => .tail _ (.tail _ (.tail _ (.tail _ hp)))) (ha9.mono fun p hp => .tail _ (.tail _ (.tail _ hp))) ht2 (map_pp1 ▸ hy9) (map_pp2 ▸ hz9) hs9 (stepD_1 hl9) (wS_hi (by walk_at "m om")).symm hd2))
    · (with_reducible rename (_ < _ ∧ _ < _ ∧ _ < _ ∧ AllLt _ _) => lA)
      (rename News _ _ _ _ => N9)
      rw [hgl8] at hd2
      exact LeaveT.mk (by with_reducible assumption) (by with_reducible assumption) (News.sub N9 read_sub) (fun h₁ T1 F1 N1 B1 X1 P1 D1 => hret _ _ _ _ h₁ T1 F1 N1 B1 X1 P1 D1 (read_post (stepS_1y hl9 hk3 ht9) H (by rw [hgv8]; exact took C H.g ht9 hi9.1) (aA_of (vs9 := vs9) (n9 := n9) lA) (fun o => after_lt l19.2.2) (hb9.mono fun p hp => .tail _ (.tail _ (.tail _ (.tail _ hp)))) (ha9.mono fun p hp => .tail _ (.tail _ (.tail _ hp))) ht2 (map_pp1 ▸ hy9) (map_pp2 ▸ hz9) hs9 (stepD_1 hl9) (wS_lo (by walk_at "m om")).symm hd2))
    · (with_reducible rename (_ < _ ∧ _ < _ ∧ _ < _ ∧ AllLt _ _) => lA)
      (rename News _ _ _ _ => N9)
      (with_reducible rename ((_ == _) = false) => hq9)
      rw [hgl] at hq9
      rw [hgl] at hd2
      exact LeaveT.mk (by with_reducible assumption) (by with_reducible assumption) (News.sub N9 read_sub) (fun h₁ T1 F1 N1 B1 X1 P1 D1 => hret _ _ _ _ h₁ T1 F1 N1 B1 X1 P1 D1 (read_post (stepS_1m hl9 hk3 (tag_miss C hq9)) H H.g (aA_of (vs9 := vs9) (n9 := n9) lA) (fun o => after_lt l19.2.2) (hb9.mono fun p hp => .tail _ (.tail _ (.tail _ (.tail _ hp)))) (ha9.mono fun p hp => .tail _ (.tail _ (.tail _ hp))) ht2 (map_pp1 ▸ hy9) (map_pp2 ▸ hz9) hs9 (stepD_1 hl9) (wS_hi (by walk_at "m om")).symm hd2))
    · (with_reducible rename (_ < _ ∧ _ < _ ∧ _ < _ ∧ AllLt _ _) => lA)
      (rename News _ _ _ _ => N9)
      (with_reducible rename ((_ == _) = false) => hq9)
      rw [hgl] at hq9
      rw [hgl] at hd2
      exact LeaveT.mk (by with_reducible assumption) (by with_reducible assumption) (News.sub N9 read_sub) (fun h₁ T1 F1 N1 B1 X1 P1 D1 => hret _ _ _ _ h₁ T1 F1 N1 B1 X1 P1 D1 (read_post (stepS_1m hl9 hk3 (tag_miss C hq9)) H H.g (aA_of (vs9 := vs9) (n9 := n9) lA) (fun o => after_lt l19.2.2) (hb9.mono fun p hp => .tail _ (.tail _ (.tail _ (.tail _ hp)))) (ha9.mono fun p hp => .tail _ (.tail _ (.tail _ hp))) ht2 (map_pp1 ▸ hy9) (map_pp2 ▸ hz9) hs9 (stepD_1 hl9) (wS_lo (by walk_at "m om")).symm hd2))
    · (with_reducible rename (_ < _ ∧ _ < _ ∧ _ < _ ∧ ad.R1 < _ ∧ _) => lA)
      (with_reducible rename (_ < _ ∧ _ < _ ∧ ad.R1 < _ ∧ _) => lT)
      (rename News _ _ _ _ => N9)
      exact LeaveT.mk (by with_reducible assumption) (by with_reducible assumption) (News.sub N9 told_sub0) (fun h₁ T1 F1 N1 B1 X1 P1 D1 => hret _ _ _ _ h₁ T1 F1 N1 B1 X1 P1 D1 (told_post (by rw [stepS_1n hl9 hk3]) (by rw [stepS_1n hl9 hk3]) (by rw [stepS_1n hl9 hk3]) H (fun o => after_lt lA.2.2.2) (fun o => after_lt lT.2.2) (hb9.mono fun p hp => .tail _ (.tail _ (.tail _ (.tail _ hp)))) (ha9.mono fun p hp => .tail _ (.tail _ (.tail _ hp))) After.nil (map_pp1 ▸ hy9) (map_pp2 ▸ hz9) hs9 (stepD_1 hl9) (by rw [stepS_1n hl9 hk3])))
    · (with_reducible rename (_ < _ ∧ _ < _ ∧ _ < _ ∧ ad.R1 < _ ∧ _) => lA)
      (with_reducible rename (_ < _ ∧ _ < _ ∧ ad.R1 < _ ∧ _) => lT)
      (rename News _ _ _ _ => N9)
      exact LeaveT.mk (by with_reducible assumption) (by with_reducible assumption) (News.sub N9 told_sub0) (fun h₁ T1 F1 N1 B1 X1 P1 D1 => hret _ _ _ _ h₁ T1 F1 N1 B1 X1 P1 D1 (told_post (by rw [stepS_1n hl9 hk3]) (by rw [stepS_1n hl9 hk3]) (by rw [stepS_1n hl9 hk3]) H (fun o => after_lt lA.2.2.2) (fun o => after_lt lT.2.2) (hb9.mono fun p hp => .tail _ (.tail _ (.tail _ (.tail _ hp)))) (ha9.mono fun p hp => .tail _ (.tail _ (.tail _ hp))) After.nil (map_pp1 ▸ hy9) (map_pp2 ▸ hz9) hs9 (stepD_1 hl9) (by rw [stepS_1n hl9 hk3])))
    · (rename (_ < _ ∧ _) => l19)
      (rename News _ _ _ _ => N9)
      exact LeaveT.mk (news' := LD w ad vs1 vs2 gv n1 n2 gn (rest ++ [(_, _)])) KtsTurn.refl (by with_reducible assumption) (News.sub N9 (LD_sub1 fun p hp => .tail _ (.tail _ (.tail _ hp)))) (fun h₁ T1 F1 N1 B1 X1 P1 D1 => hret _ _ _ _ h₁ T1 F1 N1 B1 X1 P1 D1 (still (stepS_1nil (none_of (by walk_at "m om"))) (stepD_1nil (none_of (by walk_at "m om"))) H l19.2.2.2))
  · have hz5 : z = 2 := hz
    subst hz5
    k_with "call ref" => (first
      | k_dflt ((with_reducible show wpAny _ _ (call (Value.ref 136) _ _) _ _ _); (with_reducible rename News _ _ _ _ => N9); k_dflt (refine' Says.use (keys_says (R := ad.R1) (RD := ad.RD1) (RL := ad.RL1) (th := ad.th1) (vs := vs1) (ps := S.lane.map c.pp) (n := n1) (rest := (ad.R2, instObj 184 ad.RD2) :: (ad.RD2, hdrD w ad.th2 ad.RL2) :: (ad.RL2, listOf vs2.toArray n2) :: (ad.G, listOf gv.toArray gn) :: rest) (H.d1.mono fun p hp => .tail _ (.tail _ (.tail _ (.tail _ hp)))) (by rw [List.length_map]; have := H.l1; omega)) ?k1 ?k2 ?k3 (News.sub N9 ?k4) ?k5 ?kK ?kd ?ku ?_; (case k4 => exact fun p hp => List.Mem.tail _ (List.Mem.tail _ (List.Mem.tail _ hp))); walk_at "m useN"); intro r' news' h' tk' F' N' P'; obtain ⟨K9, ys9, tl9, hr9, hn9, hm9, hy9, ha9⟩ := P'; subst hr9; subst hn9; obtain ⟨p9, r9, hl9⟩ := some_of (l := S.lane) (by walk_at "m om"); (have hwl9 : (c.word p9).length ≤ 3 := wS_len (Par.no_lt C _)); rw [hl9] at hy9; (have hy8 : StrsAre ys9 (c.word p9 :: _) := hy9); (have N8 := News.sub (news' := (K9, _) :: LD w ad vs1 vs2 gv n1 n2 gn rest) N' (List.forall_mem_cons.mpr ⟨List.mem_append_right _ hm9, fun p hp => List.mem_append_left _ hp⟩)); clear N' N9 hy9; (try dsimp only))
      | k_dflt ((with_reducible show wpAny _ _ (call (Value.ref 102) _ _) _ _ _); (with_reducible rename News _ _ _ _ => N9); k_dflt (refine' Says.use (del_says (R := ad.R1) (RD := ad.RD1) (RL := ad.RL1) (th := ad.th1) (vs := vs1) (ps := S.lane.map c.pp) (n := n1) (rest := (ad.R2, instObj 184 ad.RD2) :: (ad.RD2, hdrD w ad.th2 ad.RL2) :: (ad.RL2, listOf vs2.toArray n2) :: (ad.G, listOf gv.toArray gn) :: rest) (H.d1.mono fun p hp => .tail _ (.tail _ (.tail _ (.tail _ hp)))) (by rw [List.length_map]; have := H.l1; omega) (x := Txt.swapcase (c.word p9)) (low_ok2 (Par.no_lt C _)) (low_size2 (Par.no_lt C _)) (wS_swap_len (Par.no_lt C _)) (pp_len C) O.r1.1 O.r1.2.1 (List.forall_mem_cons.mpr ⟨O.r1.2.2.1, List.forall_mem_cons.mpr ⟨O.r1.2.2.2.1, List.forall_mem_cons.mpr ⟨O.r1.2.2.2.2.1, List.forall_mem_cons.mpr ⟨O.r1.2.2.2.2.2, fun p hp => (O.rest p hp).1⟩⟩⟩⟩)) ?k1 ?k2 ?k3 (News.sub N9 ?k4) ?k5 ?kK ?kd ?ku ?_; (case k4 => exact fun p hp => List.Mem.tail _ hp); walk_at "m useN"); intro r' news' h' tk' F' N' P'; obtain ⟨hr9, vs9, n9, hn9, hd9⟩ := P'; subst hr9; subst hn9; clear N9; (try dsimp only)))
    k_steps
    · (rename (_ < _ ∧ _) => l19)
      (rename News _ _ _ _ => N9)
      exact LeaveT.mk (news' := LD w ad vs9 vs2 gv n9 n2 gn (rest ++ [(_, _)])) KtsTurn.refl (by with_reducible assumption) (News.sub N9 (LD_sub1 fun p hp => hp)) (fun h₁ T1 F1 N1 B1 X1 P1 D1 => hret _ _ _ _ h₁ T1 F1 N1 B1 X1 P1 D1 (struck C hl9 H hd9 l19))
    · (rename (_ < _ ∧ _) => l19)
      (rename News _ _ _ _ => N9)
      exact LeaveT.mk (news' := LD w ad vs1 vs2 gv n1 n2 gn (rest ++ [(_, _)])) KtsTurn.refl (by with_reducible assumption) (News.sub N9 (LD_sub1 fun p hp => .tail _ (.tail _ (.tail _ hp)))) (fun h₁ T1 F1 N1 B1 X1 P1 D1 => hret _ _ _ _ h₁ T1 F1 N1 B1 X1 P1 D1 (still (stepS_2nil (none_of (by walk_at "m om"))) rfl H l19.2.2.2))
  · have hz5 : z = 3 := hz
    subst hz5
    k_with "call ref" => (first
      | k_dflt ((with_reducible show wpAny _ _ (call (Value.ref 136) _ _) _ _ _); (with_reducible rename News _ _ _ _ => N9); refine' keys_use (R := ad.R2) (RD := ad.RD2) (RL := ad.RL2) (th := ad.th2) (vs := vs2) (ps := S.back.map c.ap) (n := n2) ?m1 ?m2 ?m3 ?mD (by rw [List.length_map]; omega) ?k1 ?k2 ?k3 N9 ?k5 ?kK ?kd ?ku ?_; (case mD => exact H.d2.mono fun p hp => by (repeat (first | with_reducible assumption | with_reducible apply List.mem_cons_of_mem))); walk_at "m use2"; intro K9 ys9 hK9 tK9 F' N' hy9 ha9; obtain ⟨p9, r9, hl9⟩ := some_of (l := S.back) (by walk_at "m om"); (have hA9 : AnsOk c.host (c.no p9.n) p9.k := ans_ok (Par.no_lt C _) (I.b4 p9 (by rw [hl9]; exact .head _)).1); (try dsimp only))
      | k_dflt ((with_reducible show wpAny _ _ (call (Value.ref 141) _ _) _ _ _); (have _ := hb9); (with_reducible rename News _ _ _ _ => N9); refine' values_use (R := ad.R2) (RD := ad.RD2) (RL := ad.RL2) (th := ad.th2) (vs := vs2) (ps := S.back.map c.ap) (n := n2) ?m1 ?m2 ?m3 ?mD (by rw [List.length_map]; omega) ?k1 ?k2 ?k3 N9 ?k5 ?kK ?kd ?ku ?_; (case mD => exact H.d2.mono fun p hp => by (repeat (first | with_reducible assumption | with_reducible apply List.mem_cons_of_mem))); walk_at "m use2"; intro U9 us9 hU9 tU9 F' N' hu9 hc9; rw [hl9] at hu9; (have hu8 : StrsAre us9 (c.atxt p9 :: _) := hu9); (try dsimp only))
      | k_dflt ((with_reducible show wpAny _ _ (call (Value.ref 141) _ _) _ _ _); (with_reducible rename News _ _ _ _ => N9); refine' values_use (R := ad.R2) (RD := ad.RD2) (RL := ad.RL2) (th := ad.th2) (vs := vs2) (ps := S.back.map c.ap) (n := n2) ?m1 ?m2 ?m3 ?mD (by rw [List.length_map]; omega) ?k1 ?k2 ?k3 N9 ?k5 ?kK ?kd ?ku ?_; (case mD => exact H.d2.mono fun p hp => by (repeat (first | with_reducible assumption | with_reducible apply List.mem_cons_of_mem))); walk_at "m use2"; intro V9 zs9 hV9 tV9 F' N' hz9 hb9; (try dsimp only))
      | k_dflt ((with_reducible show wpAny _ _ (call (Value.ref 286) _ _) _ _ _); (obtain ⟨l8, r8, a1, a2, a3, a4, a5, a6⟩ := hA9.br); (with_reducible rename News _ _ _ _ => N9); refine' SaysT.use (told_says (host := c.host) hA9.hi (.head _) a1 a2 a3 a4 a5) ?k1 ?k2 ?k3 N9 ?k5 ?kX ?kT ?kD ?kK ?kd ?ku ?_; walk_at "m useT"; rintro r' news' h' tk' h₁ T1 F1 N1 B1 X1 P1 D1 ⟨tl9, hn9, ht9, hd9⟩; subst hn9; rw [a6] at hd9; rcases seenA_cases (I.b4 p9 (by rw [hl9]; exact .head _)).1 hd9 with ⟨hk3, TP9, th8, tp8, np8, hr8, hm8⟩ | ⟨hk3, y8, t8, hr8⟩; (case' inl => (subst hr8; (have N8 := News.sub (news' := (TP9, _) :: _) N1 (List.forall_mem_cons.mpr ⟨List.mem_append_right _ hm8, fun p hp => hp⟩)); clear N1 N9; (try dsimp only))); (case' inr => (subst hr8; clear N9; (try dsimp only)))))
    k_steps
    · (with_reducible rename (_ < _ ∧ AllLt _ _) => lA)
      (with_reducible rename (∀ p, p ∈ _ → _ < _) => lT)
      (rename News _ _ _ _ => N9)
      exact LeaveT.mk (by with_reducible assumption) (by with_reducible assumption) (News.sub N9 (told_sub (hd := []))) (fun h₁ T1 F1 N1 B1 X1 P1 D1 => hret _ _ _ _ h₁ T1 F1 N1 B1 X1 P1 D1 (told_post (by rw [stepS_3n hl9 hk3]) (by rw [stepS_3n hl9 hk3]) (by rw [stepS_3n hl9 hk3]) H (fun o => (after_lt lA.2).mono fun p hp => List.mem_append_left _ (.tail _ (.tail _ (.tail _ (.tail _ (.tail _ (.tail _ (.tail _ hp)))))))) (fun o => (after_all lT).mono fun p hp => List.mem_append_left _ (.tail _ (.tail _ (.tail _ (.tail _ (.tail _ (.tail _ (.tail _ hp)))))))) (hb9.mono fun p hp => .tail _ (.tail _ (.tail _ (.tail _ hp)))) (ha9.mono fun p hp => .tail _ (.tail _ (.tail _ hp))) (ht9.mono fun p hp => .tail _ (.tail _ (.tail _ (.tail _ (.tail _ (.tail _ (.tail _ hp))))))) (map_ap1 ▸ hy9) (map_ap2 ▸ hz9) hd9 (stepD_3 hl9) (by rw [stepS_3n hl9 hk3])))
    · (with_reducible rename (_ < _ ∧ _ < _ ∧ AllLt _ _) => lA)
      (with_reducible rename (_ < _ ∧ AllLt _ _) => lT)
      (rename News _ _ _ _ => N9)
      exact LeaveT.mk (by with_reducible assumption) (by with_reducible assumption) (News.sub N9 (told_sub (hd := [_]))) (fun h₁ T1 F1 N1 B1 X1 P1 D1 => hret _ _ _ _ h₁ T1 F1 N1 B1 X1 P1 D1 (told_post (by rw [stepS_3y hl9 hk3]) (by rw [stepS_3y hl9 hk3]) (by rw [stepS_3y hl9 hk3]) H (fun o => (after_lt lA.2.2).mono fun p hp => List.mem_append_left _ (.tail _ (.tail _ (.tail _ (.tail _ (.tail _ (.tail _ (.tail _ hp)))))))) (fun o => (after_lt lT.2).mono fun p hp => List.mem_append_left _ (.tail _ (.tail _ (.tail _ (.tail _ (.tail _ (.tail _ (.tail _ hp)))))))) (hb9.mono fun p hp => .tail _ (.tail _ (.tail _ (.tail _ hp)))) (ha9.mono fun p hp => .tail _ (.tail _ (.tail _ hp))) (ht9.mono fun p hp => .tail _ (.tail _ (.tail _ (.tail _ (.tail _ (.tail _ (.tail _ hp))))))) (map_ap1 ▸ hy9) (map_ap2 ▸ hz9) hd9 (stepD_3 hl9) (by rw [stepS_3y hl9 hk3]; exact known_rest (I.b1 p9 (by rw [hl9]; exact .head _)).1 (Nat.le_trans (I.b1 p9 (by rw [hl9]; exact .head _)).2 I.tk))))
    · (rename (_ < _ ∧ _) => l19)
      (rename News _ _ _ _ => N9)
      exact LeaveT.mk (news' := LD w ad vs1 vs2 gv n1 n2 gn (rest ++ [(_, _)])) KtsTurn.refl (by with_reducible assumption) (News.sub N9 (LD_sub1 fun p hp => .tail _ (.tail _ (.tail _ hp)))) (fun h₁ T1 F1 N1 B1 X1 P1 D1 => hret _ _ _ _ h₁ T1 F1 N1 B1 X1 P1 D1 (still (stepS_3nil (none_of (by walk_at "m om"))) (stepD_3nil (none_of (by walk_at "m om"))) H l19.2.2.2))
  · have hz5 : z = 4 := hz
    subst hz5
    k_with "call ref" => (first
      | k_dflt ((with_reducible show wpAny _ _ (call (Value.ref 136) _ _) _ _ _); (with_reducible rename News _ _ _ _ => N9); k_dflt (refine' Says.use (keys_says (R := ad.R2) (RD := ad.RD2) (RL := ad.RL2) (th := ad.th2) (vs := vs2) (ps := S.back.map c.ap) (n := n2) (rest := (ad.R1, instObj 184 ad.RD1) :: (ad.RD1, hdrD w ad.th1 ad.RL1) :: (ad.RL1, listOf vs1.toArray n1) :: (ad.G, listOf gv.toArray gn) :: rest) (H.d2.mono fun p hp => .tail _ (.tail _ (.tail _ (.tail _ hp)))) (by rw [List.length_map]; have := H.l2; omega)) ?k1 ?k2 ?k3 (News.sub N9 ?k4) ?k5 ?kK ?kd ?ku ?_; (case k4 => exact fun p hp => List.Mem.tail _ (List.Mem.tail _ (List.Mem.tail _ (LD_p2 p hp)))); walk_at "m useN"); intro r' news' h' tk' F' N' P'; obtain ⟨K9, ys9, tl9, hr9, hn9, hm9, hy9, ha9⟩ := P'; subst hr9; subst hn9; obtain ⟨p9, r9, hl9⟩ := some_of (l := S.back) (by walk_at "m om"); (have hwl9 : (c.word p9).length ≤ 3 := wS_len (Par.no_lt C _)); rw [hl9] at hy9; (have hy8 : StrsAre ys9 (c.word p9 :: _) := hy9); (have N8 := News.sub (news' := (K9, _) :: LD w ad vs1 vs2 gv n1 n2 gn rest) N' (List.forall_mem_cons.mpr ⟨List.mem_append_right _ hm9, fun p hp => List.mem_append_left _ (LD_q2 p hp)⟩)); clear N' N9 hy9; (try dsimp only))
      | k_dflt ((with_reducible show wpAny _ _ (call (Value.ref 102) _ _) _ _ _); (with_reducible rename News _ _ _ _ => N9); k_dflt (refine' Says.use (del_says (R := ad.R2) (RD := ad.RD2) (RL := ad.RL2) (th := ad.th2) (vs := vs2) (ps := S.back.map c.ap) (n := n2) (rest := (ad.R1, instObj 184 ad.RD1) :: (ad.RD1, hdrD w ad.th1 ad.RL1) :: (ad.RL1, listOf vs1.toArray n1) :: (ad.G, listOf gv.toArray gn) :: rest) (H.d2.mono fun p hp => .tail _ (.tail _ (.tail _ (.tail _ hp)))) (by rw [List.length_map]; have := H.l2; omega) (x := Txt.swapcase (c.word p9)) (low_ok2 (Par.no_lt C _)) (low_size2 (Par.no_lt C _)) (wS_swap_len (Par.no_lt C _)) (ap_len C) O.r2.2.2.2.1 O.r2.2.2.2.2.1 (List.forall_mem_cons.mpr ⟨O.r2.1, List.forall_mem_cons.mpr ⟨O.r2.2.1, List.forall_mem_cons.mpr ⟨O.r2.2.2.1, List.forall_mem_cons.mpr ⟨O.r2.2.2.2.2.2, fun p hp => (O.rest p hp).2.1⟩⟩⟩⟩)) ?k1 ?k2 ?k3 (News.sub N9 ?k4) ?k5 ?kK ?kd ?ku ?_; (case k4 => exact fun p hp => List.Mem.tail _ (LD_p2 p hp)); walk_at "m useN"); intro r' news' h' tk' F' N' P'; obtain ⟨hr9, vs9, n9, hn9, hd9⟩ := P'; subst hr9; subst hn9; clear N9; (try dsimp only)))
    k_steps
    · (rename (_ < _ ∧ _) => l19)
      (rename News _ _ _ _ => N9)
      exact LeaveT.mk (news' := LD w ad vs1 vs9 gv n1 n9 gn (rest ++ [(_, _)])) KtsTurn.refl (by with_reducible assumption) (News.sub N9 (LD_sub1 fun p hp => LD_q2 p hp)) (fun h₁ T1 F1 N1 B1 X1 P1 D1 => hret _ _ _ _ h₁ T1 F1 N1 B1 X1 P1 D1 (struck2 C hl9 H hd9 ⟨l19.2.2.2.1, l19.2.2.2.2.1, l19.2.2.2.2.2.1, l19.1, l19.2.1, l19.2.2.1, l19.2.2.2.2.2.2⟩))
    · (rename (_ < _ ∧ _) => l19)
      (rename News _ _ _ _ => N9)
      exact LeaveT.mk (news' := LD w ad vs1 vs2 gv n1 n2 gn (rest ++ [(_, _)])) KtsTurn.refl (by with_reducible assumption) (News.sub N9 (LD_sub1 fun p hp => .tail _ (.tail _ (.tail _ hp)))) (fun h₁ T1 F1 N1 B1 X1 P1 D1 => hret _ _ _ _ h₁ T1 F1 N1 B1 X1 P1 D1 (still (stepS_4nil (none_of (by walk_at "m om"))) rfl H l19.2.2.2))
end
section -- MWord
set_option maxHeartbeats 4000000 in
theorem word_says {w : World} {mean : ExcName → Option Value} {mg mb : Str → Option Value} {n : Nat} {t : Tok} {b : Nat} {u : Tok} {news : Led} (hn : n < 320) :
    Says w mean mg mb 30 251 [.int n t, .int b u] [] news (fun news' r => news' = news ∧ ∃ u, r = .str (if b = 0 then word n else Txt.lower (word n)) u) := by
  k_with_none
  k_with "m depth" => (first | exact dep_up (by with_reducible assumption) (by decide) | ((try simp only [depth_mark, depth_under_make, depth_under_kw, depth_in1, depth_deeper, depth_caller] at *); (try dsimp only [ktrTop] at *); omega))
  k_with "m units" => (first | exact uni_up (by with_reducible assumption) (by decide) | ((try simp only [units_in1, units_deeper, Around.mark_units, units_caller] at *); (try dsimp only [ktrTop] at *); omega))
  k_with "m begin" => ((have flzq : P.heap_1 = P.heap_1 ∧ PySem.Challenge.rw_yh0023_01 = PySem.Challenge.rw_yh0023_01 := by (k_fill; exact fill)); (clear flzq); (refine wpAny_call ?_))
  k_with "m enter" => ((case kA => exact rfl); (case kF => exact rfl); (case kK => assumption); (case k1 => k_asm); (case k2 => k_asm); (case k3 => k_asm); (case k4 => k_asm); (case k5 => k_asm); (case k6 => k_is); (case k7 => k_is); (case k8 => first | exact room_up hdp (by decide) | k_room); (case k9 => exact BindsTo.of_eq rfl); (case c5 => decide); (case kB => exact locs rfl); (case c2 => exact rfl); (case c3 => exact rfl); (case c4 => exact rfl); k_whole; intro g'zq L'zq h'zq FG'zq F'zq N'zq B'zq X'zq T'zq; (try dsimp only [List.reverse_cons, List.reverse_nil, List.nil_append, List.cons_append] at F'zq); (try k_fold))
  k_with "x execs cons" => (k_here; (with_reducible refine wpAny_execs_cons ?_); k_fold)
  k_with "x call builtin:len" => (k_here; (with_reducible show wpAny _ _ (call (Value.builtin "len") [Value.ref _]) _ _ _); k_dflt (refine' m_len ?k1 ?k2 ?k3 ?_; (case k1 => k_asm); (case k2 => k_mem); (case k3 => omega)))
  k_with "x getMethod ref" => (k_here; k_dflt (first | ((with_reducible show wpAny _ _ (getMethod (Value.ref 48) _ _) _ _ _); refine PatAt.meth (pat_name (by k_in)) ?_) | ((with_reducible show wpAny _ _ (getMethod (Value.ref 53) _ _) _ _ _); refine PatAt.meth (pat_value (by k_in)) ?_)))
  k_with "x call builtin:re.Pattern.search" => (k_here; k_dflt (first | (refine call_search (pat_name (by k_in)) (name_fails (by assumption)) (by assumption) ?_) | (refine call_search (pat_value (by k_in)) (value_fails (by assumption)) (by assumption) ?_)))
  k_with "x call builtin:str.join" => (k_here; k_dflt (refine' m_join1 ?k1 ?k2 ?k3 ?k4 ?_; (case k1 => k_asm); (case k2 => k_mem); (case k3 => decide); (case k4 => assumption)); intro t'zq tk'zq)
  k_with "m enterC" => ((case kA => exact rfl); (case kF => exact rfl); (case kK => assumption); (case k1 => k_asm); (case k2 => k_asm); (case k3 => k_asm); (case k4 => k_asm); (case k5 => k_asm); (case k6 => k_is); (case k7 => k_is); (case k8 => first | exact room_up hdp (by decide) | k_room); (case k9 => exact BindsTo.of_eq rfl); (case kB => exact rfl); (case kD => decide +kernel); (case c2 => exact rfl); (case c3 => exact rfl); (case c4 => exact rfl); k_whole; intro g'zq L'zq h'zq tk'zq cells'zq FG'zq F'zq N'zq Y'zq B'zq X'zq T'zq l1zq; (have l9zq := l1zq); (try k_lt l1zq); k_cells Y'zq; (try simp only [List.cons_append, List.nil_append] at N'zq); (try dsimp only); (try k_fold))
  k_with "x call builtin:str.lower" => (k_here; (try dsimp only); (with_reducible show wpAny _ _ (call (Value.builtin "str.lower") [Value.str _ _]) _ _ _); (refine SCL.lower (by first | omega | exact Nat.le_trans (by assumption) (by decide)) ?_); intro _)
  k_with "m mem" => (repeat (first | assumption | apply List.mem_cons_of_mem))
  k_with "x subscriptTail" => (k_here; (with_reducible show wpAny _ _ (subscriptTail _ _ (Value.ref _) (Value.int _ _)) _ _ _); k_dflt (refine' item_tupleT (m_tup (by k_asm) ?hm) (by decide) (by decide) ?hj ?hv ?_; (case hm => first | k_mem | walk_at "m mem"); (case hj => rfl); (case hv => rfl)))
  k_with "m look" => first | exact rfl | assumption
  k_with "x eval Name" => (k_here; (with_reducible show wpAny _ _ (eval (PySem.Expr.Name _ _) (envOf _ _ _ _ _)) _ _ _); k_dflt (refine' ld ?k1 ?k2 ?_; (case k1 => k_asm); (case k2 => walk_at "m look"); k_whole))
  k_with "x eval Name" => (k_here; (with_reducible show wpAny _ _ (eval (PySem.Expr.Name (PySem.Str.ofString "divmod") _) _) _ _ _); (with_reducible rename Fr _ _ _ _ => kFzq); with_unfolding_all refine guard_global (by rfl) ?_; k_dflt (refine' name_B kFzq ?k1 ?k2 ?k3 ?k4 ?k5 ?_; (case k1 => k_asm); (case k2 => k_asm); (case k3 => k_is); (case k4 => first | exact boot_divmod); (case k5 => decide); k_whole))
  k_with "m size" => (simp only [PySem.Str.length_append, lit0, lit1, lit2, lit3, lit4, lit5, lit6, lit7, lit8, lit9, lit10, lit11, lit12, lit13, lit14, lit15, lit16, lit17, lit18, lit19, lit20, lit21, lit22, lit23, lit24, one_len]; rw [sizeLine_eq]; omega)
  k_with "x binaryOp Add str str" => (k_here; (with_reducible show wpAny _ _ (binaryOp Operator.Add (Value.str _ _) (Value.str _ _)) _ _ _); k_dflt (refine' PyProof.Rows.add_str ?h ?hz; (case hz => walk_at "m size")); intro t'zq tk'zq)
  k_with "m enterT" => ((case kA => exact rfl); (case kF => exact rfl); (case kK => assumption); (case kX => assumption); (case kT => assumption); (case kD => assumption); (case k1 => k_asm); (case k2 => k_asm); (case k3 => k_asm); (case k4 => k_asm); (case k5 => k_asm); (case k6 => k_is); (case k7 => k_is); (case k8 => first | exact room_up hdp (by decide) | k_room); (case k9 => exact BindsTo.of_eq rfl); (case c5 => decide); (case kB => exact locs rfl); (case c2 => exact rfl); (case c3 => exact rfl); (case c4 => exact rfl); k_whole; intro g'zq L'zq h'zq tk0zq FG'zq F'zq N'zq B'zq X'zq T'zq D'zq; (try dsimp only [List.reverse_cons, List.reverse_nil, List.nil_append, List.cons_append] at F'zq); (try k_fold))
  k_with "x call type:str" => (k_here; (with_reducible show wpAny _ _ (call (Value.type "str") [Value.ref _]) _ _ _); k_dflt (refine' str_caught ?kF ?kX ?kN ?kG ?kK ?ks ?ku ?_; (case kG => assumption); (case kN => assumption); (case kF => k_asm); (case kX => k_asm); (case kK => kts_isx); (case ks => k_is); (case ku => k_units); k_whole))
  k_with "x eval ListComp" => (k_here; lct_look; k_dflt (refine ListComp_TT (F₀ := by k_asm) (by with_unfolding_all rfl) (by decide) (by rfl) (by decide) (by rfl) ?_))
  k_with "x call builtin:str.join" => fail "mine"
  have hwl := word_len n
  unfold Says
  intro dp un gd cn cs a ccd cl outer A₀ base h₀ L m s Q E B F X N T hk hdp hun hret
  walk_at "m begin"
  k_dflt (refine' code_defC (binds := [("number", .int n t), ("size", .int b u)]) ?k1 ?k2 ?k3 ?k4 ?k5 ?kA ?kF ?kK ?k6 ?k7 ?k8 ?k9 ?kB ?kD ?_ ?c2 ?c3 ?c4)
  k_dflt walk_at "m enterC"
  k_steps
  refine SrcTT.ledger (by rfl) (by k_asm) (by k_asm) (by k_mem) (Nat.le_of_ble_eq_true rfl) ?_
  intro g9
  refine testS_rest (its := [_, _, _]) (ks := [2, 1, 0]) (fun k => decide (16 ^ k.toNat ≤ (n : Int))) (fun k => Txt.item "ABCDEFGHIJKLMNOP" (Int.fmod (Int.fdiv (n : Int) (16 ^ k.toNat)) 16)) (.cons 2 _ (.cons 1 _ (.cons 0 _ .nil))) ⟨_, by k_mem⟩ ?turn ?fin
  · intro k9 t9 I9 oI9 C9 oC9 D9 m9 h9 tk9 E9 ys9 hp9 hC9 hx9 F9 N9 off9 ne9
    (try dsimp only)
    simp only [List.mem_cons, List.not_mem_nil, or_false] at hp9
    rcases hp9 with rfl | rfl | rfl
    all_goals k_steps
  · intro ys9 hy9
    rw [ABs_eq] at hy9
    unfold LCg.FinE
    intro D9 h9 tk9 F9 N9 o9
    (try dsimp only)
    k_steps
    refine' m_joinS (y := word n) (ys := ys9) (l := D9) ?n1 ?n4 hy9 ?n2 (wlist_ok ⟨n, hn⟩).1 ?n3 ?_
    case n1 => exact N9
    case n4 => exact .head _
    case n2 => decide
    case n3 => (rw [empty_eq]; exact (wlist_ok ⟨n, hn⟩).2)
    intro t8 k8
    (try dsimp only)
    k_steps
    · have hb : b ≠ 0 := by omega
      exact hret _ _ _ _ (by k_asm) (News.sub (by k_asm) (fun p hp => by walk_at "m mem")) ⟨rfl, _, by rw [if_neg hb]⟩
    · have hb : b = 0 := by omega
      exact hret _ _ _ _ (by k_asm) (News.sub (by k_asm) (fun p hp => by walk_at "m mem")) ⟨rfl, _, by rw [if_pos hb]⟩
end
section -- MWA
noncomputable def StopW (P : Prop) : Prop := P
theorem m_stopW {P : Prop} (h : StopW P) : P := h
set_option maxHeartbeats 40000000 in
theorem whole_says {w : World} {mean : ExcName → Option Value} {mg mb : Str → Option Value} {c : Par} {S : St} {lv bv nv : List Value} {ln bn : Nat} {nw : Led} {LA BA PL NL : Addr} {z : Int} {d e : Nat} {td te tt0 tk0 : Tok} (hz : z = (d : Int)) (hd : d < 5) (C : ParOk c) (I : Inv c S) (G : Lines c S LA BA lv bv ln bn nw) (PP : Plan c PL NL nv nw) (he : e < 24) :
    Says w mean mg mb 20 298 [.int z td, .int e te, .ref LA, .ref BA, .int S.taken tt0, .int S.known tk0, .ref PL] [] nw (WholePost c LA BA nw (stepS c d e S) (stepD c d S)) := by
  k_with_none
  k_with "m depth" => (first | exact dep_up (by with_reducible assumption) (by decide) | ((try simp only [depth_mark, depth_under_make, depth_under_kw, depth_in1, depth_deeper, depth_caller] at *); (try dsimp only [ktrTop] at *); omega))
  k_with "m units" => (first | exact uni_up (by with_reducible assumption) (by decide) | ((try simp only [units_in1, units_deeper, Around.mark_units, units_caller] at *); (try dsimp only [ktrTop] at *); omega))
  k_with "m begin" => ((have flzq : P.heap_1 = P.heap_1 ∧ PySem.Challenge.rw_yh0023_01 = PySem.Challenge.rw_yh0023_01 := by (k_fill; exact fill)); (clear flzq); (refine wpAny_call ?_))
  k_with "m enter" => ((case kA => exact rfl); (case kF => exact rfl); (case kK => assumption); (case k1 => k_asm); (case k2 => k_asm); (case k3 => k_asm); (case k4 => k_asm); (case k5 => k_asm); (case k6 => k_is); (case k7 => k_is); (case k8 => first | exact room_up hdp (by decide) | k_room); (case k9 => exact BindsTo.of_eq rfl); (case c5 => decide); (case kB => exact locs rfl); (case c2 => exact rfl); (case c3 => exact rfl); (case c4 => exact rfl); k_whole; intro g'zq L'zq h'zq FG'zq F'zq N'zq B'zq X'zq T'zq; (try dsimp only [List.reverse_cons, List.reverse_nil, List.nil_append, List.cons_append] at F'zq); (try k_fold))
  k_with "x execs cons" => (k_here; (with_reducible refine wpAny_execs_cons ?_); k_fold)
  k_with "x call builtin:len" => (k_here; (with_reducible show wpAny _ _ (call (Value.builtin "len") [Value.ref _]) _ _ _); k_dflt (refine' m_len ?k1 ?k2 ?k3 ?_; (case k1 => k_asm); (case k2 => k_mem); (case k3 => omega)))
  k_with "x getMethod ref" => (k_here; k_dflt (first | ((with_reducible show wpAny _ _ (getMethod (Value.ref 48) _ _) _ _ _); refine PatAt.meth (pat_name (by k_in)) ?_) | ((with_reducible show wpAny _ _ (getMethod (Value.ref 53) _ _) _ _ _); refine PatAt.meth (pat_value (by k_in)) ?_)))
  k_with "x call builtin:re.Pattern.search" => (k_here; k_dflt (first | (refine call_search (pat_name (by k_in)) (name_fails (by assumption)) (by assumption) ?_) | (refine call_search (pat_value (by k_in)) (value_fails (by assumption)) (by assumption) ?_)))
  k_with "x call builtin:str.join" => (k_here; k_dflt (refine' m_join1 ?k1 ?k2 ?k3 ?k4 ?_; (case k1 => k_asm); (case k2 => k_mem); (case k3 => decide); (case k4 => assumption)); intro t'zq tk'zq)
  k_with "m enterC" => ((case kA => exact rfl); (case kF => exact rfl); (case kK => assumption); (case k1 => k_asm); (case k2 => k_asm); (case k3 => k_asm); (case k4 => k_asm); (case k5 => k_asm); (case k6 => k_is); (case k7 => k_is); (case k8 => first | exact room_up hdp (by decide) | k_room); (case k9 => exact BindsTo.of_eq rfl); (case kB => exact rfl); (case kD => decide +kernel); (case c2 => exact rfl); (case c3 => exact rfl); (case c4 => exact rfl); k_whole; intro g'zq L'zq h'zq tk'zq cells'zq FG'zq F'zq N'zq Y'zq B'zq X'zq T'zq l1zq; (have l9zq := l1zq); (try k_lt l1zq); k_cells Y'zq; (try simp only [List.cons_append, List.nil_append] at N'zq); (try dsimp only); (try k_fold))
  k_with "x call builtin:str.lower" => (k_here; (try dsimp only); (with_reducible show wpAny _ _ (call (Value.builtin "str.lower") [Value.str _ _]) _ _ _); (refine SCL.lower (by first | omega | exact Nat.le_trans (by assumption) (by decide)) ?_); intro _)
  k_with "m mem" => (repeat (first | assumption | apply List.mem_cons_of_mem))
  k_with "x subscriptTail" => (k_here; (with_reducible show wpAny _ _ (subscriptTail _ _ (Value.ref _) (Value.int _ _)) _ _ _); k_dflt (refine' item_tupleT (m_tup (by k_asm) ?hm) (by decide) (by decide) ?hj ?hv ?_; (case hm => first | k_mem | walk_at "m mem"); (case hj => rfl); (case hv => rfl)))
  k_with "m look" => first | exact rfl | assumption
  k_with "x eval Name" => (k_here; (with_reducible show wpAny _ _ (eval (PySem.Expr.Name _ _) (envOf _ _ _ _ _)) _ _ _); k_dflt (refine' ld ?k1 ?k2 ?_; (case k1 => k_asm); (case k2 => walk_at "m look"); k_whole))
  k_with "x eval Name" => (k_here; (with_reducible show wpAny _ _ (eval (PySem.Expr.Name (PySem.Str.ofString "divmod") _) _) _ _ _); (with_reducible rename Fr _ _ _ _ => kFzq); with_unfolding_all refine guard_global (by rfl) ?_; k_dflt (refine' name_B kFzq ?k1 ?k2 ?k3 ?k4 ?k5 ?_; (case k1 => k_asm); (case k2 => k_asm); (case k3 => k_is); (case k4 => first | exact boot_divmod); (case k5 => decide); k_whole))
  k_with "m size" => (simp only [PySem.Str.length_append, lit0, lit1, lit2, lit3, lit4, lit5, lit6, lit7, lit8, lit9, lit10, lit11, lit12, lit13, lit14, lit15, lit16, lit17, lit18, lit19, lit20, lit21, lit22, lit23, lit24, one_len]; rw [sizeLine_eq]; omega)
  k_with "x binaryOp Add str str" => (k_here; (with_reducible show wpAny _ _ (binaryOp Operator.Add (Value.str _ _) (Value.str _ _)) _ _ _); k_dflt (refine' PyProof.Rows.add_str ?h ?hz; (case hz => walk_at "m size")); intro t'zq tk'zq)
  k_with "m enterT" => ((case kA => exact rfl); (case kF => exact rfl); (case kK => assumption); (case kX => assumption); (case kT => assumption); (case kD => assumption); (case k1 => k_asm); (case k2 => k_asm); (case k3 => k_asm); (case k4 => k_asm); (case k5 => k_asm); (case k6 => k_is); (case k7 => k_is); (case k8 => first | exact room_up hdp (by decide) | k_room); (case k9 => exact BindsTo.of_eq rfl); (case c5 => decide); (case kB => exact locs rfl); (case c2 => exact rfl); (case c3 => exact rfl); (case c4 => exact rfl); k_whole; intro g'zq L'zq h'zq tk0zq FG'zq F'zq N'zq B'zq X'zq T'zq D'zq; (try dsimp only [List.reverse_cons, List.reverse_nil, List.nil_append, List.cons_append] at F'zq); (try k_fold))
  k_with "x call type:str" => (k_here; (with_reducible show wpAny _ _ (call (Value.type "str") [Value.ref _]) _ _ _); k_dflt (refine' str_caught ?kF ?kX ?kN ?kG ?kK ?ks ?ku ?_; (case kG => assumption); (case kN => assumption); (case kF => k_asm); (case kX => k_asm); (case kK => kts_isx); (case ks => k_is); (case ku => k_units); k_whole))
  k_with "x execs cons" => (k_here; (with_reducible refine wpAny_execs_cons ?_); (try (with_reducible refine tokX ?_; intro tk'zq)); k_fold)
  k_with "m om" => (first | with_reducible assumption | exact z0 (by with_reducible assumption) | exact z1 (by with_reducible assumption) | omega)
  k_with "m nat" => first | exact nat2 | exact nat6 | exact nat12 | exact nat1 _ | exact rfl
  k_with "x binaryOp Add int int" => ((with_reducible show wpAny _ _ (binaryOp Operator.Add (Value.int _ _) (Value.int _ _)) _ _ _); first | refine m_addN ?_ | refine m_add1 ?_)
  k_with "x binaryOp Mod int int" => ((with_reducible show wpAny _ _ (binaryOp Operator.Mod (Value.int _ _) (Value.int _ _)) _ _ _); k_dflt (refine' m_modN ?k1 ?k2 ?k3 ?_; (case k1 => walk_at "m nat"); (case k2 => walk_at "m nat"); (case k3 => walk_at "m om")))
  k_with "x binaryOp FloorDiv int int" => ((with_reducible show wpAny _ _ (binaryOp Operator.FloorDiv (Value.int _ _) (Value.int _ _)) _ _ _); k_dflt (refine' m_divN ?k1 ?k2 ?k3 ?k4 ?_; (case k1 => walk_at "m nat"); (case k2 => walk_at "m nat"); (case k3 => walk_at "m om"); (case k4 => walk_at "m om")))
  k_with "x call builtin:bytes.decode" => (k_here; refine m_decode (by walk_at "m om") ?_; intro t'zq tk'zq hl'zq)
  k_with "m use" => ((case k1 => k_asm); (case k2 => k_asm); (case k3 => k_asm); (case k4 => k_asm); (case k5 => k_asm); (case kK => first | exact rfl | assumption); (case kd => walk_at "m depth"); (case ku => walk_at "m units"); k_whole)
  k_with "m useN" => ((case k1 => k_asm); (case k2 => k_asm); (case k3 => k_asm); (case k5 => k_asm); (case kK => first | exact rfl | assumption); (case kd => walk_at "m depth"); (case ku => walk_at "m units"); k_whole)
  k_with "m memR" => (repeat (first | with_reducible assumption | with_reducible apply List.mem_cons_of_mem))
  k_with "x call builtin:str.swapcase" => (k_here; (try dsimp only); (with_reducible show wpAny _ _ (call (Value.builtin "str.swapcase") [Value.str _ _]) _ _ _); (refine SCL.swapcase (by walk_at "m om") ?_); intro _)
  k_with "x call builtin:str.upper" => (k_here; (try dsimp only); (with_reducible show wpAny _ _ (call (Value.builtin "str.upper") [Value.str _ _]) _ _ _); (refine SCL.upper (by walk_at "m om") ?_); intro _)
  k_with "x delItem ref" => (k_here; (with_reducible show wpAny _ _ (delItem (Value.ref _) _) _ _ _); k_dflt (refine' m_delItem ?F ?X ?I ?hQ ?hS ?hF ?_; (case F => k_asm); (case X => k_asm); (case I => k_inst); (case hS => k_is); (case hF => k_is); (case hQ => k_is); k_whole))
  k_with "m memK" => (repeat (first | with_reducible exact List.mem_cons_self | with_reducible apply List.mem_cons_of_mem))
  k_with "m use2" => ((case m1 => walk_at "m memK"); (case m2 => walk_at "m memK"); (case m3 => walk_at "m memK"); (case k1 => k_asm); (case k2 => k_asm); (case k3 => k_asm); (case k5 => k_asm); (case kK => first | exact rfl | assumption); (case kd => walk_at "m depth"); (case ku => walk_at "m units"); k_whole)
  k_with "m useT" => ((case k1 => k_asm); (case k2 => k_asm); (case k3 => k_asm); (case k5 => k_asm); (case kX => assumption); (case kT => assumption); (case kD => assumption); (case kK => first | exact rfl | assumption); (case kd => walk_at "m depth"); (case ku => walk_at "m units"); k_whole)
  k_with "x eval Name" => (k_here; (with_reducible show wpAny _ _ (eval (PySem.Expr.Name _ _) _) _ _ _); (with_reducible rename Fr _ _ _ _ => kFzq); k_dflt (refine' nameX_L kFzq ?k2 ?_ ?k3 ?k4; (case k3 => rfl); (case k4 => rfl); (case k2 => walk_at "m look"); k_whole))
  k_with "x execs cons" => (k_here; (with_reducible show wpAny _ _ (execs (PySem.Stmt.If (PySem.Expr.BoolOp PySem.BoolOp.And (PySem.Expr.Compare _ [PySem.CmpOp.Eq] [PySem.Expr.Constant (PySem.Const.int _) _ _] _ :: _) _) _ [] _ :: _) _) _ _ _); (with_reducible rename Fr _ _ _ _ => kFzq); k_dflt (refine' m_skipX kFzq ?k1 ?k2 ?_; (case k1 => walk_at "m look"); (case k2 => exact rfl); k_whole))
  k_with "x execs cons" => (k_here; (with_reducible show wpAny _ _ (execs [PySem.Stmt.Return (some (PySem.Expr.Tuple _ _ _)) _] _) _ _ _); (with_reducible rename Fr _ _ _ _ => kFzq); k_dflt (refine' m_ret5X kFzq ?k1 ?k2 ?k3 ?k4 ?k5 ?_; (case k1 => walk_at "m look"); (case k2 => walk_at "m look"); (case k3 => walk_at "m look"); (case k4 => walk_at "m look"); (case k5 => walk_at "m look"); k_whole))
  k_with "x exec If BoolOp" => (k_here; (with_reducible rename Fr _ _ _ _ => kFzq); k_dflt (refine' m_enterX kFzq ?k1 ?k2 ?_; (case k1 => walk_at "m look"); (case k2 => exact rfl); k_whole))
  k_with "x exec If" => (k_here; (with_reducible show wpAny _ _ (exec (PySem.Stmt.If (PySem.Expr.BoolOp PySem.BoolOp.And (PySem.Expr.Compare _ [PySem.CmpOp.Eq] [PySem.Expr.Constant (PySem.Const.int _) _ _] _ :: _) _) _ _ _) _) _ _ _); (with_reducible rename Fr _ _ _ _ => kFzq); k_dflt (refine' m_enterX kFzq ?k1 ?k2 ?_; (case k1 => walk_at "m look"); (case k2 => exact rfl); k_whole))
  k_with "x subscriptTail" => ((with_reducible show wpAny _ _ (subscriptTail _ _ (Value.ref _) (Value.int ((_ % 6 : Nat) : Int) _)) _ _ _); k_extra "m seen")
  k_with "x exec Assign" => ((with_reducible show wpAny _ _ (exec (PySem.Stmt.Assign [PySem.Expr.Name (PySem.Str.ofString "due") _] (PySem.Expr.Constant _ _ _) _) _) _ _ _); k_extra "m due")
  k_with "x truthy str" => ((with_reducible show wpAny _ _ (PySem.truthy (Value.str _ _)) _ _ _); (refine KXt.truthy_pos (by with_reducible assumption) (by with_reducible assumption) (by decide) ?_); intro _)
  k_with "x eval ListComp" => (k_here; lct_look; k_dflt (refine LCt.ListComp_T (F₀ := by k_asm) (by with_unfolding_all rfl) (by decide) (by rfl) (by decide) (by rfl) ?_); k_dflt lct_toSrc)
  k_with "x eval ListComp" => (k_here; lcg_look; k_dflt (refine LCg.ListComp_U (F₀ := by k_asm) (by with_unfolding_all rfl) (by decide) (by rfl) (by decide) (by rfl) ?_); k_dflt lcg_toSrc)
  obtain ⟨⟨tw, tt, th, npl, hpl⟩, ⟨nnl, hnl⟩, hns⟩ := PP
  unfold Says
  intro dp un gd cn cs a ccd cl outer A₀ base h₀ L m s Q E B F X N T hk hdp hun hret
  walk_at "m begin"
  k_dflt (refine' code_defC (binds := [("deed", .int z td), ("dress", .int e te), ("lane", .ref LA), ("back", .ref BA), ("taken", .int S.taken tt0), ("known", .int S.known tk0), ("plan", .ref PL)]) ?k1 ?k2 ?k3 ?k4 ?k5 ?kA ?kF ?kK ?k6 ?k7 ?k8 ?k9 ?kB ?kD ?_ ?c2 ?c3 ?c4)
  k_dflt walk_at "m enterC"
  (rename News _ _ _ _ => N8)
  (rename Fr _ _ _ _ => F8)
  have hw1 := C.w1
  have hw2 := C.w2
  have hn4 : nv.length = 4 := by rw [hns.length, C.len]
  have htg := C.tag
  have hC4 := C.len
  have hkn := I.kt
  have ht4 := I.t4
  (rename (∀ p, p ∈ nw → p.1 < _) => l9)
  have fPL := ltN (l9 _ hpl)
  have fNL := ltN (l9 _ hnl)
  have fLA := ltN (l9 _ G.la)
  have fBA := ltN (l9 _ G.ba)
  dsimp only at fPL fNL fLA fBA
  have hlv : lv.length = S.lane.length := by rw [G.dl.length, List.length_map]
  have hbv : bv.length = S.back.length := by rw [G.db.length, List.length_map]
  have hl1 := G.l1
  have hl2 := G.l2
  have N9 := News.sub (news' := (_, _) :: (_, _) :: (PL, _) :: (NL, _) :: (LA, _) :: (BA, _) :: nw) N8 (List.forall_mem_cons.mpr ⟨.head _, List.forall_mem_cons.mpr ⟨.tail _ (.head _), List.forall_mem_cons.mpr ⟨.tail _ (.tail _ hpl), List.forall_mem_cons.mpr ⟨.tail _ (.tail _ hnl), List.forall_mem_cons.mpr ⟨.tail _ (.tail _ G.la), List.forall_mem_cons.mpr ⟨.tail _ (.tail _ G.ba), fun p hp => .tail _ (.tail _ hp)⟩⟩⟩⟩⟩⟩)
  clear N8
  have hm : (S.known + e / 12 % c.w) % (c.w + 1) < c.w + 1 := Nat.mod_lt _ (Nat.succ_pos c.w)
  have he6 : e % 6 < 6 := Nat.mod_lt _ (by decide)
  have hw3 : c.w + 1 ≠ 0 := Nat.succ_ne_zero _
  have hw4 : ((c.w + 1 : Nat) : Int) ≠ 0 := Int.ofNat_ne_zero.mpr hw3
  have hx1 : lv.length < 1000 := hlv ▸ Nat.lt_trans hl1 (by decide)
  have hx2 : bv.length < 1000 := hbv ▸ Nat.lt_trans hl2 (by decide)
  have hx4 : nv.length < 2 ^ 63 := by omega
  have hx5 : S.lane.length < 1000 := Nat.lt_trans hl1 (by decide)
  have hx6 : S.back.length < 1000 := Nat.lt_trans hl2 (by decide)
  k_with "m due" => refine m_stopW ?_
  k_steps
  unfold StopW
  refine tokX ?_
  intro tk9
  k_with_none
  k_with "m depth" => (first | exact dep_up (by with_reducible assumption) (by decide) | ((try simp only [depth_mark, depth_under_make, depth_under_kw, depth_in1, depth_deeper, depth_caller] at *); (try dsimp only [ktrTop] at *); omega))
  k_with "m units" => (first | exact uni_up (by with_reducible assumption) (by decide) | ((try simp only [units_in1, units_deeper, Around.mark_units, units_caller] at *); (try dsimp only [ktrTop] at *); omega))
  k_with "m begin" => ((have flzq : P.heap_1 = P.heap_1 ∧ PySem.Challenge.rw_yh0023_01 = PySem.Challenge.rw_yh0023_01 := by (k_fill; exact fill)); (clear flzq); (refine wpAny_call ?_))
  k_with "m enter" => ((case kA => exact rfl); (case kF => exact rfl); (case kK => assumption); (case k1 => k_asm); (case k2 => k_asm); (case k3 => k_asm); (case k4 => k_asm); (case k5 => k_asm); (case k6 => k_is); (case k7 => k_is); (case k8 => first | exact room_up hdp (by decide) | k_room); (case k9 => exact BindsTo.of_eq rfl); (case c5 => decide); (case kB => exact locs rfl); (case c2 => exact rfl); (case c3 => exact rfl); (case c4 => exact rfl); k_whole; intro g'zq L'zq h'zq FG'zq F'zq N'zq B'zq X'zq T'zq; (try dsimp only [List.reverse_cons, List.reverse_nil, List.nil_append, List.cons_append] at F'zq); (try k_fold))
  k_with "x execs cons" => (k_here; (with_reducible refine wpAny_execs_cons ?_); k_fold)
  k_with "x call builtin:len" => (k_here; (with_reducible show wpAny _ _ (call (Value.builtin "len") [Value.ref _]) _ _ _); k_dflt (refine' m_len ?k1 ?k2 ?k3 ?_; (case k1 => k_asm); (case k2 => k_mem); (case k3 => omega)))
  k_with "x getMethod ref" => (k_here; k_dflt (first | ((with_reducible show wpAny _ _ (getMethod (Value.ref 48) _ _) _ _ _); refine PatAt.meth (pat_name (by k_in)) ?_) | ((with_reducible show wpAny _ _ (getMethod (Value.ref 53) _ _) _ _ _); refine PatAt.meth (pat_value (by k_in)) ?_)))
  k_with "x call builtin:re.Pattern.search" => (k_here; k_dflt (first | (refine call_search (pat_name (by k_in)) (name_fails (by assumption)) (by assumption) ?_) | (refine call_search (pat_value (by k_in)) (value_fails (by assumption)) (by assumption) ?_)))
  k_with "x call builtin:str.join" => (k_here; k_dflt (refine' m_join1 ?k1 ?k2 ?k3 ?k4 ?_; (case k1 => k_asm); (case k2 => k_mem); (case k3 => decide); (case k4 => assumption)); intro t'zq tk'zq)
  k_with "m enterC" => ((case kA => exact rfl); (case kF => exact rfl); (case kK => assumption); (case k1 => k_asm); (case k2 => k_asm); (case k3 => k_asm); (case k4 => k_asm); (case k5 => k_asm); (case k6 => k_is); (case k7 => k_is); (case k8 => first | exact room_up hdp (by decide) | k_room); (case k9 => exact BindsTo.of_eq rfl); (case kB => exact rfl); (case kD => decide +kernel); (case c2 => exact rfl); (case c3 => exact rfl); (case c4 => exact rfl); k_whole; intro g'zq L'zq h'zq tk'zq cells'zq FG'zq F'zq N'zq Y'zq B'zq X'zq T'zq l1zq; (have l9zq := l1zq); (try k_lt l1zq); k_cells Y'zq; (try simp only [List.cons_append, List.nil_append] at N'zq); (try dsimp only); (try k_fold))
  k_with "x call builtin:str.lower" => (k_here; (try dsimp only); (with_reducible show wpAny _ _ (call (Value.builtin "str.lower") [Value.str _ _]) _ _ _); (refine SCL.lower (by first | omega | exact Nat.le_trans (by assumption) (by decide)) ?_); intro _)
  k_with "m mem" => (repeat (first | assumption | apply List.mem_cons_of_mem))
  k_with "x subscriptTail" => (k_here; (with_reducible show wpAny _ _ (subscriptTail _ _ (Value.ref _) (Value.int _ _)) _ _ _); k_dflt (refine' item_tupleT (m_tup (by k_asm) ?hm) (by decide) (by decide) ?hj ?hv ?_; (case hm => first | k_mem | walk_at "m mem"); (case hj => rfl); (case hv => rfl)))
  k_with "m look" => first | exact rfl | assumption
  k_with "x eval Name" => (k_here; (with_reducible show wpAny _ _ (eval (PySem.Expr.Name _ _) (envOf _ _ _ _ _)) _ _ _); k_dflt (refine' ld ?k1 ?k2 ?_; (case k1 => k_asm); (case k2 => walk_at "m look"); k_whole))
  k_with "x eval Name" => (k_here; (with_reducible show wpAny _ _ (eval (PySem.Expr.Name (PySem.Str.ofString "divmod") _) _) _ _ _); (with_reducible rename Fr _ _ _ _ => kFzq); with_unfolding_all refine guard_global (by rfl) ?_; k_dflt (refine' name_B kFzq ?k1 ?k2 ?k3 ?k4 ?k5 ?_; (case k1 => k_asm); (case k2 => k_asm); (case k3 => k_is); (case k4 => first | exact boot_divmod); (case k5 => decide); k_whole))
  k_with "m size" => (simp only [PySem.Str.length_append, lit0, lit1, lit2, lit3, lit4, lit5, lit6, lit7, lit8, lit9, lit10, lit11, lit12, lit13, lit14, lit15, lit16, lit17, lit18, lit19, lit20, lit21, lit22, lit23, lit24, one_len]; rw [sizeLine_eq]; omega)
  k_with "x binaryOp Add str str" => (k_here; (with_reducible show wpAny _ _ (binaryOp Operator.Add (Value.str _ _) (Value.str _ _)) _ _ _); k_dflt (refine' PyProof.Rows.add_str ?h ?hz; (case hz => walk_at "m size")); intro t'zq tk'zq)
  k_with "m enterT" => ((case kA => exact rfl); (case kF => exact rfl); (case kK => assumption); (case kX => assumption); (case kT => assumption); (case kD => assumption); (case k1 => k_asm); (case k2 => k_asm); (case k3 => k_asm); (case k4 => k_asm); (case k5 => k_asm); (case k6 => k_is); (case k7 => k_is); (case k8 => first | exact room_up hdp (by decide) | k_room); (case k9 => exact BindsTo.of_eq rfl); (case c5 => decide); (case kB => exact locs rfl); (case c2 => exact rfl); (case c3 => exact rfl); (case c4 => exact rfl); k_whole; intro g'zq L'zq h'zq tk0zq FG'zq F'zq N'zq B'zq X'zq T'zq D'zq; (try dsimp only [List.reverse_cons, List.reverse_nil, List.nil_append, List.cons_append] at F'zq); (try k_fold))
  k_with "x call type:str" => (k_here; (with_reducible show wpAny _ _ (call (Value.type "str") [Value.ref _]) _ _ _); k_dflt (refine' str_caught ?kF ?kX ?kN ?kG ?kK ?ks ?ku ?_; (case kG => assumption); (case kN => assumption); (case kF => k_asm); (case kX => k_asm); (case kK => kts_isx); (case ks => k_is); (case ku => k_units); k_whole))
  k_with "x execs cons" => (k_here; (with_reducible refine wpAny_execs_cons ?_); (try (with_reducible refine tokX ?_; intro tk'zq)); k_fold)
  k_with "m om" => (first | with_reducible assumption | exact z0 (by with_reducible assumption) | exact z1 (by with_reducible assumption) | omega)
  k_with "m nat" => first | exact nat2 | exact nat6 | exact nat12 | exact nat1 _ | exact rfl
  k_with "x binaryOp Add int int" => ((with_reducible show wpAny _ _ (binaryOp Operator.Add (Value.int _ _) (Value.int _ _)) _ _ _); first | refine m_addN ?_ | refine m_add1 ?_)
  k_with "x binaryOp Mod int int" => ((with_reducible show wpAny _ _ (binaryOp Operator.Mod (Value.int _ _) (Value.int _ _)) _ _ _); k_dflt (refine' m_modN ?k1 ?k2 ?k3 ?_; (case k1 => walk_at "m nat"); (case k2 => walk_at "m nat"); (case k3 => walk_at "m om")))
  k_with "x binaryOp FloorDiv int int" => ((with_reducible show wpAny _ _ (binaryOp Operator.FloorDiv (Value.int _ _) (Value.int _ _)) _ _ _); k_dflt (refine' m_divN ?k1 ?k2 ?k3 ?k4 ?_; (case k1 => walk_at "m nat"); (case k2 => walk_at "m nat"); (case k3 => walk_at "m om"); (case k4 => walk_at "m om")))
  k_with "x call builtin:bytes.decode" => (k_here; refine m_decode (by walk_at "m om") ?_; intro t'zq tk'zq hl'zq)
  k_with "m use" => ((case k1 => k_asm); (case k2 => k_asm); (case k3 => k_asm); (case k4 => k_asm); (case k5 => k_asm); (case kK => first | exact rfl | assumption); (case kd => walk_at "m depth"); (case ku => walk_at "m units"); k_whole)
  k_with "m useN" => ((case k1 => k_asm); (case k2 => k_asm); (case k3 => k_asm); (case k5 => k_asm); (case kK => first | exact rfl | assumption); (case kd => walk_at "m depth"); (case ku => walk_at "m units"); k_whole)
  k_with "m memR" => (repeat (first | with_reducible assumption | with_reducible apply List.mem_cons_of_mem))
  k_with "x call builtin:str.swapcase" => (k_here; (try dsimp only); (with_reducible show wpAny _ _ (call (Value.builtin "str.swapcase") [Value.str _ _]) _ _ _); (refine SCL.swapcase (by walk_at "m om") ?_); intro _)
  k_with "x call builtin:str.upper" => (k_here; (try dsimp only); (with_reducible show wpAny _ _ (call (Value.builtin "str.upper") [Value.str _ _]) _ _ _); (refine SCL.upper (by walk_at "m om") ?_); intro _)
  k_with "x delItem ref" => (k_here; (with_reducible show wpAny _ _ (delItem (Value.ref _) _) _ _ _); k_dflt (refine' m_delItem ?F ?X ?I ?hQ ?hS ?hF ?_; (case F => k_asm); (case X => k_asm); (case I => k_inst); (case hS => k_is); (case hF => k_is); (case hQ => k_is); k_whole))
  k_with "m memK" => (repeat (first | with_reducible exact List.mem_cons_self | with_reducible apply List.mem_cons_of_mem))
  k_with "m use2" => ((case m1 => walk_at "m memK"); (case m2 => walk_at "m memK"); (case m3 => walk_at "m memK"); (case k1 => k_asm); (case k2 => k_asm); (case k3 => k_asm); (case k5 => k_asm); (case kK => first | exact rfl | assumption); (case kd => walk_at "m depth"); (case ku => walk_at "m units"); k_whole)
  k_with "m useT" => ((case k1 => k_asm); (case k2 => k_asm); (case k3 => k_asm); (case k5 => k_asm); (case kX => assumption); (case kT => assumption); (case kD => assumption); (case kK => first | exact rfl | assumption); (case kd => walk_at "m depth"); (case ku => walk_at "m units"); k_whole)
  k_with "x eval Name" => (k_here; (with_reducible show wpAny _ _ (eval (PySem.Expr.Name _ _) _) _ _ _); (with_reducible rename Fr _ _ _ _ => kFzq); k_dflt (refine' nameX_L kFzq ?k2 ?_ ?k3 ?k4; (case k3 => rfl); (case k4 => rfl); (case k2 => walk_at "m look"); k_whole))
  k_with "x execs cons" => (k_here; (with_reducible show wpAny _ _ (execs (PySem.Stmt.If (PySem.Expr.BoolOp PySem.BoolOp.And (PySem.Expr.Compare _ [PySem.CmpOp.Eq] [PySem.Expr.Constant (PySem.Const.int _) _ _] _ :: _) _) _ [] _ :: _) _) _ _ _); (with_reducible rename Fr _ _ _ _ => kFzq); k_dflt (refine' m_skipX kFzq ?k1 ?k2 ?_; (case k1 => walk_at "m look"); (case k2 => exact rfl); k_whole))
  k_with "x execs cons" => (k_here; (with_reducible show wpAny _ _ (execs [PySem.Stmt.Return (some (PySem.Expr.Tuple _ _ _)) _] _) _ _ _); (with_reducible rename Fr _ _ _ _ => kFzq); k_dflt (refine' m_ret5X kFzq ?k1 ?k2 ?k3 ?k4 ?k5 ?_; (case k1 => walk_at "m look"); (case k2 => walk_at "m look"); (case k3 => walk_at "m look"); (case k4 => walk_at "m look"); (case k5 => walk_at "m look"); k_whole))
  k_with "x exec If BoolOp" => (k_here; (with_reducible rename Fr _ _ _ _ => kFzq); k_dflt (refine' m_enterX kFzq ?k1 ?k2 ?_; (case k1 => walk_at "m look"); (case k2 => exact rfl); k_whole))
  k_with "x exec If" => (k_here; (with_reducible show wpAny _ _ (exec (PySem.Stmt.If (PySem.Expr.BoolOp PySem.BoolOp.And (PySem.Expr.Compare _ [PySem.CmpOp.Eq] [PySem.Expr.Constant (PySem.Const.int _) _ _] _ :: _) _) _ _ _) _) _ _ _); (with_reducible rename Fr _ _ _ _ => kFzq); k_dflt (refine' m_enterX kFzq ?k1 ?k2 ?_; (case k1 => walk_at "m look"); (case k2 => exact rfl); k_whole))
  k_with "x subscriptTail" => ((with_reducible show wpAny _ _ (subscriptTail _ _ (Value.ref _) (Value.int ((_ % 6 : Nat) : Int) _)) _ _ _); k_extra "m seen")
  k_with "x exec Assign" => ((with_reducible show wpAny _ _ (exec (PySem.Stmt.Assign [PySem.Expr.Name (PySem.Str.ofString "due") _] (PySem.Expr.Constant _ _ _) _) _) _ _ _); k_extra "m due")
  k_with "x truthy str" => ((with_reducible show wpAny _ _ (PySem.truthy (Value.str _ _)) _ _ _); (refine KXt.truthy_pos (by with_reducible assumption) (by with_reducible assumption) (by decide) ?_); intro _)
  k_with "x eval ListComp" => (k_here; lct_look; k_dflt (refine LCt.ListComp_T (F₀ := by k_asm) (by with_unfolding_all rfl) (by decide) (by rfl) (by decide) (by rfl) ?_); k_dflt lct_toSrc)
  k_with "x eval ListComp" => (k_here; lcg_look; k_dflt (refine LCg.ListComp_U (F₀ := by k_asm) (by with_unfolding_all rfl) (by decide) (by rfl) (by decide) (by rfl) ?_); k_dflt lcg_toSrc)
  (rename Fr _ _ _ _ => F9)
  refine frX F9 ?_
  intro m9 hm9 F7
  have eq01 : m9 "deed" = some (.int z td) := by rw [hm9]; rfl
  have eq02 : m9 "lane" = some (.ref LA) := by rw [hm9]; rfl
  have eq03 : m9 "back" = some (.ref BA) := by rw [hm9]; rfl
  have eq04 : m9 "taken" = some (.int S.taken tt0) := by rw [hm9]; rfl
  have eq05 : m9 "known" = some (.int S.known tk0) := by rw [hm9]; rfl
  have eq06 : m9 "names" = some (.ref NL) := by rw [hm9]; rfl
  have eq07 : m9 "tag" = some (.int c.tag tt) := by rw [hm9]; rfl
  have eq08 : m9 "host" = some (.str c.host th) := by rw [hm9]; rfl
  obtain ⟨tkA, eq09⟩ : ∃ t, m9 "kind" = some (.int ((e % 6 : Nat) : Int) t) := ⟨_, by rw [hm9]; rfl⟩
  obtain ⟨tkB, eq10⟩ : ∃ t, m9 "size" = some (.int ((e / 6 % 2 : Nat) : Int) t) := ⟨_, by rw [hm9]; rfl⟩
  obtain ⟨tkC, eq11⟩ : ∃ t, m9 "step" = some (.int ((e / 12 % c.w : Nat) : Int) t) := ⟨_, by rw [hm9]; rfl⟩
  clear hm9 F9
  k_with "m look" => first | exact rfl | exact eq01 | exact eq02 | exact eq03 | exact eq04 | exact eq05 | exact eq06 | exact eq07 | exact eq08 | exact eq09 | exact eq10 | exact eq11
  (rename News _ _ _ _ => N0)
  refine newsX N0 ?_
  clear N0
  intro oD9 oP9 N9
  have hd5 : d = 0 ∨ d = 1 ∨ d = 2 ∨ d = 3 ∨ d = 4 := by omega
  rcases hd5 with rfl | rfl | rfl | rfl | rfl
  · have hz5 : z = 0 := hz
    subst hz5
    k_with "subscriptTail Name BinOp ref int" => ((with_reducible show wpAny _ _ (subscriptTail _ _ (Value.ref NL) (Value.int _ _)) _ _ _); (with_reducible rename News _ _ _ _ => N9); k_dflt (refine m_name (n := nnl) N9 (by (repeat (first | with_reducible exact List.mem_cons_self | with_reducible apply List.mem_cons_of_mem))) hns (by walk_at "m om") (by walk_at "m om") ?_); intro t')
    k_with "m cat" => k_dflt ((with_reducible show wpAny _ _ (binaryOp Operator.Add (Value.ref LA) (Value.ref _)) _ _ _); (with_reducible rename Fr _ _ _ _ => F9); (with_reducible rename News _ _ _ _ => N9); (with_reducible rename (_ < _ ∧ _ < _ ∧ _) => lL9); revert lL9; (with_reducible rename (_ < _ ∧ _ < _ ∧ _) => lQ9); intro lL9; refine m_cat F9 N9 (by (repeat (first | with_reducible exact List.mem_cons_self | with_reducible apply List.mem_cons_of_mem))) (.head _) (by walk_at "m om") ?_; intro X9 h' F' N' lX9; (have lX8 := lX9); (try k_lt lX9); (try k_sweep))
    k_with "m seen" => k_dflt ((with_reducible show wpAny _ _ (subscriptTail _ _ (Value.ref _) (Value.int _ _)) _ _ _); (with_reducible rename News _ _ _ _ => N9); refine m_seen N9 (.head _) (by walk_at "m om") ?_; intro sv9 hs9; (try dsimp only))
    k_with "call ref" => (first
      | k_dflt ((with_reducible show wpAny _ _ (call (Value.ref 251) _ _) _ _ _); k_dflt (refine' Says.use (word_says (Par.no_lt C _)) ?k1 ?k2 ?k3 ?k4 ?k5 ?kK ?kd ?ku ?_; walk_at "m use"); intro r' news' h' tk' F' N' P'; obtain ⟨hn9, u9, hr9⟩ := P'; subst hn9; subst hr9; (try dsimp only))
      | k_dflt ((with_reducible show wpAny _ _ (call (Value.ref 265) _ _) _ _ _); (have nm9 := C.nm (S.known + e / 12 % c.w) (by walk_at "m om")); k_dflt (refine' Says.use (pkt_says (by walk_at "m om") nm9.len nm9.rep) ?k1 ?k2 ?k3 ?k4 ?k5 ?kK ?kd ?ku ?_; walk_at "m use"); intro r' news' h' tk' F' N' P'; obtain ⟨hn9, u9, hr9⟩ := P'; subst hn9; subst hr9; (try dsimp only)))
    k_steps
    · (with_reducible rename (X9 < _ ∧ _) => l19)
      (rename News h₀ _ _ _ => N9)
      exact hret _ _ _ _ (by with_reducible assumption) (News.sub (news' := nw ++ [(_, _), (X9, _), (_, _)]) N9 (fun p hp => (List.mem_append.mp hp).elim (fun hp => (.tail _ (.tail _ (.tail _ (.tail _ (.tail _ (.tail _ (.tail _ (.tail _ (.tail _ (.tail _ (.tail _ (.tail _ (hp)))))))))))))) (fun hp => (List.mem_cons.mp hp).elim (fun h => List.mem_cons.mpr (.inl h)) (fun h => .tail _ ((List.mem_cons.mp h).elim (fun h => List.mem_cons.mpr (.inl h)) (fun h => .tail _ (.tail _ (List.mem_cons.mpr (.inl (List.mem_singleton.mp h)))))))))) (whole_laid (by walk_at "m om") G l19.2.2.2.2.2.2.2.2.2.2.2 ((after_all lX8).mono fun p hp => (.tail _ (.tail _ (.tail _ (.tail _ (.tail _ (.tail _ (.tail _ (.tail _ (.tail _ (.tail _ (hp)))))))))))) lQ9.2.2.2.2.2.2.2.2 rfl hs9)
    · (rename (_ < _ ∧ _) => l19)
      (rename News h₀ _ _ _ => N9)
      exact hret _ _ _ _ (by with_reducible assumption) (News.sub N9 (fun p hp => (List.mem_append.mp hp).elim (fun hp => (.tail _ (.tail _ (.tail _ (.tail _ (.tail _ (.tail _ (.tail _ (.tail _ (hp)))))))))) (fun hp => List.mem_cons.mpr (.inl (List.mem_singleton.mp hp))))) (whole_still (stepS_0n (by walk_at "m om")) rfl G l19.2.2.2.2.2.2.2)
  · have hz5 : z = 1 := hz
    subst hz5
    rcases hl9 : S.lane with _ | ⟨p9, r9⟩
    · have hlen9 : S.lane.length = 0 := by rw [hl9]; rfl
      k_with "m neq" => k_dflt ((with_reducible show wpAny _ _ (compareOp CmpOp.NotEq (Value.ref _) (Value.ref _)) _ _ _); (with_reducible rename News _ _ _ _ => N9); (first | refine' m_neT hl9 N9 ?m1 ?m2 ?m3 (pd_ok C I 6) ?ku ?_ | refine' m_neF hl9 N9 ?m1 ?m2 ?m3 (pd_ok C I 6) ?ku ?_); (case m1 => walk_at "m memK"); (case m2 => exact (G.dl.mono fun p hp => (by (repeat (first | with_reducible assumption | with_reducible apply List.mem_cons_of_mem))))); (case m3 => walk_at "m memK"); (case ku => k_units); (try dsimp only))
      k_steps
      (rename (_ < _ ∧ _) => l19)
      (rename News h₀ _ _ _ => N9)
      exact hret _ _ _ _ (by with_reducible assumption) (News.sub N9 (fun p hp => (List.mem_append.mp hp).elim (fun hp => (.tail _ (.tail _ (.tail _ (.tail _ (.tail _ (.tail _ (.tail _ (.tail _ (.tail _ (hp))))))))))) (fun hp => List.mem_cons.mpr (.inl (List.mem_singleton.mp hp))))) (whole_still (stepS_1nil hl9) (stepD_1nil hl9) G l19.2.2.2.2.2.2.2.2)
    obtain ⟨v9, lv9, hv9, hi9⟩ := head_in G.dl hl9
    obtain ⟨q9, kq9, y1, y2, y3, sv9, rfl, hq9, hs9⟩ := quad_out hi9
    have hlen9 : S.lane.length = r9.length + 1 := by rw [hl9]; rfl
    have fq9 := ltN (l9 _ hq9)
    dsimp only at fq9
    have N7 := News.sub (news' := (_, _) :: (_, _) :: (_, _) :: (q9, _) :: (PL, _) :: (NL, _) :: (LA, _) :: (BA, _) :: nw) N9 (List.forall_mem_cons.mpr ⟨.head _, List.forall_mem_cons.mpr ⟨.tail _ (.head _), List.forall_mem_cons.mpr ⟨.tail _ (.tail _ (.head _)), List.forall_mem_cons.mpr ⟨.tail _ (.tail _ (.tail _ (.tail _ (.tail _ (.tail _ (.tail _ hq9)))))), fun p hp => .tail _ (.tail _ (.tail _ hp))⟩⟩⟩⟩)
    clear N9
    have hp9 : p9 ∈ S.lane := by rw [hl9]; exact .head _
    have hb9 := I.l4 p9 hp9
    have nm9 := C.nm p9.n hb9.1
    have hq8 : 1 ≤ (c.nm p9.n).length := Nat.pos_of_ne_zero nm9.ne
    have hl8 : (c.nm p9.n).length ≤ 20 := nm9.len
    rcases seenP_cases hb9.2.1 hs9 with ⟨hk3, t8, hr8⟩ | ⟨hk3, hr8 | ⟨t8, hr8⟩⟩
    · subst hr8
      k_with "m neq" => k_dflt ((with_reducible show wpAny _ _ (compareOp CmpOp.NotEq (Value.ref _) (Value.ref _)) _ _ _); (with_reducible rename News _ _ _ _ => N9); (first | refine' m_neT hl9 N9 ?m1 ?m2 ?m3 (pd_ok C I 6) ?ku ?_ | refine' m_neF hl9 N9 ?m1 ?m2 ?m3 (pd_ok C I 6) ?ku ?_); (case m1 => walk_at "m memK"); (case m2 => exact (G.dl.mono fun p hp => (by (repeat (first | with_reducible assumption | with_reducible apply List.mem_cons_of_mem))))); (case m3 => walk_at "m memK"); (case ku => k_units); (try dsimp only))
      k_with "subscriptTail Name Constant ref int" => k_dflt ((with_reducible show wpAny _ _ (subscriptTail _ _ (Value.ref LA) (Value.int 0 _)) _ _ _); (with_reducible rename News _ _ _ _ => N9); refine m_head N9 (by (repeat (first | with_reducible exact List.mem_cons_self | with_reducible apply List.mem_cons_of_mem))) hv9 ?_; (try dsimp only))
      k_with "m comp" => k_dflt (first | ((with_reducible have _ := hy1); (refine LCg.CompSrc.ledger (by rfl) (by k_asm) (by k_asm) (by (repeat (first | with_reducible exact List.mem_cons_self | with_reducible apply List.mem_cons_of_mem))) (by rw [List.size_toArray]; refine Nat.le_trans (Nat.le_of_lt (show lv.length < 1000 by omega)) (by decide)) ?_; intro g'; refine mapQ_rest (j := 2) (fun p => (p.n : Int)) c.word c.ptxt c.pseen c.ptxt (D := G.dl) (fun p hp => (by (repeat (first | with_reducible assumption | with_reducible apply List.mem_cons_of_mem)))) (Or.inr ⟨_, (by (repeat (first | with_reducible exact List.mem_cons_self | with_reducible apply List.mem_cons_of_mem))), rfl, _, rfl⟩) (by decide) rfl rfl (fun _ t1 t2 t3 _ => ⟨t3, rfl⟩) rfl rfl (by decide) ?finoa2; (case' finoa2 => (intro ys2 hy2; unfold LCg.FinE; intro D9 h9 tk9 F9 N9 o9; (try dsimp only))))) | (refine LCg.CompSrc.ledger (by rfl) (by k_asm) (by k_asm) (by (repeat (first | with_reducible exact List.mem_cons_self | with_reducible apply List.mem_cons_of_mem))) (by rw [List.size_toArray]; refine Nat.le_trans (Nat.le_of_lt (show lv.length < 1000 by omega)) (by decide)) ?_; intro g'; refine mapQ_rest (j := 1) (fun p => (p.n : Int)) c.word c.ptxt c.pseen c.word (D := G.dl) (fun p hp => (by (repeat (first | with_reducible assumption | with_reducible apply List.mem_cons_of_mem)))) (Or.inr ⟨_, (by (repeat (first | with_reducible exact List.mem_cons_self | with_reducible apply List.mem_cons_of_mem))), rfl, _, rfl⟩) (by decide) rfl rfl (fun _ t1 t2 t3 _ => ⟨t2, rfl⟩) rfl rfl (by decide) ?finoa1; (case' finoa1 => (intro ys1 hy1; unfold LCg.FinE; intro D9 h9 tk9 F9 N9 o9; (try dsimp only)))))
      k_with "m seen" => k_dflt ((with_reducible rename News _ _ _ _ => N9); refine m_seenA N9 (.head _) (by (repeat (first | with_reducible exact List.mem_cons_self | with_reducible apply List.mem_cons_of_mem))) (by (repeat (first | with_reducible exact List.mem_cons_self | with_reducible apply List.mem_cons_of_mem))) (by (repeat (first | with_reducible exact List.mem_cons_self | with_reducible apply List.mem_cons_of_mem))) rfl (by walk_at "m om") ?_; intro sv8 hs8; (try dsimp only))
      k_with "m cat" => k_dflt ((with_reducible rename Fr _ _ _ _ => F9); (with_reducible rename News _ _ _ _ => N9); refine m_cat F9 N9 (by (repeat (first | with_reducible exact List.mem_cons_self | with_reducible apply List.mem_cons_of_mem))) (.head _) (by walk_at "m om") ?_; intro X9 h' F' N' lX9; (have lX8 := lX9); (try k_lt lX9); (try k_sweep))
      k_with "call ref" => (first
      | k_dflt ((with_reducible show wpAny _ _ (call (Value.ref 251) _ _) _ _ _); k_dflt (refine' Says.use (word_says (Par.no_lt C _)) ?k1 ?k2 ?k3 ?k4 ?k5 ?kK ?kd ?ku ?_; walk_at "m use"); intro r' news' h' tk' F' N' P'; obtain ⟨hn9, u9, hr9⟩ := P'; subst hn9; subst hr9; (try dsimp only))
      | k_dflt ((with_reducible show wpAny _ _ (call (Value.ref 272) _ _) _ _ _); k_dflt (refine' Says.use (ans_says (by walk_at "m om") (Par.no_lt C _) (num_len (Par.no_lt C _))) ?k1 ?k2 ?k3 ?k4 ?k5 ?kK ?kd ?ku ?_; walk_at "m use"); intro r' news' h' tk' F' N' P'; obtain ⟨hn9, u9, hr9⟩ := P'; subst hn9; subst hr9; (try dsimp only)))
      k_steps
      · (rename (∀ p : Addr × Obj, p ∈ _ → p.1 < _) => lX8)
        (rename DatIn _ _ (seenA _ _ _) => hs8)
        (with_reducible rename (_ < _ ∧ _ < _ ∧ _) => lQ9)
        have kD := lQ9.2.2.2.2.2.2.2.2.2.2.2.2.2.2.2.2.2.2.2
        clear lQ9
        (with_reducible rename (_ < _ ∧ _ < _ ∧ _) => lQ9)
        clear lQ9
        (with_reducible rename (_ < _ ∧ _ < _ ∧ _) => lQ9)
        clear lQ9
        (with_reducible rename (_ < _ ∧ _ < _ ∧ _) => lQ9)
        have kq := lQ9.2.2.2.2.2.2.2.2.2.2.2.2.2.2.2.2
        clear lQ9
        (with_reducible rename (_ < _ ∧ _ < _ ∧ _) => lQ9)
        clear lQ9
        (with_reducible rename (_ < _ ∧ _ < _ ∧ _) => lQ9)
        have k3 := lQ9.2.2.2.2.2.2.2.2.2.2.2.2.2.2
        clear lQ9
        (with_reducible rename (_ < _ ∧ _ < _ ∧ _) => lQ9)
        have k2 := lQ9.2.2.2.2.2.2.2.2.2.2.2.2.2
        clear lQ9
        (with_reducible rename (_ < _ ∧ _ < _ ∧ _) => lQ9)
        have k1 := lQ9.2.2.2.2.2.2.2.2.2.2.2.2
        clear lQ9
        (with_reducible rename (_ < _ ∧ _ < _ ∧ _) => lQ9)
        have kT := lQ9.2.2.2.2.2.2.2.2.2.2.2
        clear lQ9
        have aV9 := after_off (o := LCg.lst ys2) o9
        clear o9
        (rename LCg.Off1 _ _ => oK9)
        have aK9 := after_off (o := LCg.lst ys1) oK9
        (rename News h₀ _ _ _ => N9)
        exact hret _ _ _ _ (by with_reducible assumption) (News.sub (news' := nw ++ [(_, _), (_, _), (_, _), (_, _), (_, _), (_, _), (_, _), (_, _), (_, _)]) N9 (sub9 [_, _, _, _, _, _, _, _, _])) (whole_read (t := S.taken + 1) (stepS_1y hl9 hk3 (by walk_at "m om")) rfl rfl (stepD_1 hl9) G kD ((after_all lX8).mono fun p hp => (.tail _ (.tail _ (.tail _ (.tail _ (.tail _ (.tail _ (.tail _ (.tail _ (.tail _ (.tail _ (.tail _ (.tail _ (.tail _ (.tail _ (.tail _ (.tail _ (.tail _ (.tail _ (hp)))))))))))))))))))) kq k1 k2 k3 kT (aV9.mono fun p hp => (.tail _ (.tail _ (.tail _ (.tail _ (.tail _ (.tail _ (.tail _ (.tail _ (.tail _ (.tail _ (hp)))))))))))) (aK9.mono fun p hp => (.tail _ (.tail _ (.tail _ (.tail _ (.tail _ (.tail _ (.tail _ (.tail _ (.tail _ (hp))))))))))) rfl hy1 hy2 hs9 hs8)
      · (rename (∀ p : Addr × Obj, p ∈ _ → p.1 < _) => lX8)
        (rename DatIn _ _ (seenA _ _ _) => hs8)
        (with_reducible rename (_ < _ ∧ _ < _ ∧ _) => lQ9)
        have kD := lQ9.2.2.2.2.2.2.2.2.2.2.2.2.2.2.2.2.2.2.2
        clear lQ9
        (with_reducible rename (_ < _ ∧ _ < _ ∧ _) => lQ9)
        clear lQ9
        (with_reducible rename (_ < _ ∧ _ < _ ∧ _) => lQ9)
        clear lQ9
        (with_reducible rename (_ < _ ∧ _ < _ ∧ _) => lQ9)
        have kq := lQ9.2.2.2.2.2.2.2.2.2.2.2.2.2.2.2.2
        clear lQ9
        (with_reducible rename (_ < _ ∧ _ < _ ∧ _) => lQ9)
        clear lQ9
        (with_reducible rename (_ < _ ∧ _ < _ ∧ _) => lQ9)
        have k3 := lQ9.2.2.2.2.2.2.2.2.2.2.2.2.2.2
        clear lQ9
        (with_reducible rename (_ < _ ∧ _ < _ ∧ _) => lQ9)
        have k2 := lQ9.2.2.2.2.2.2.2.2.2.2.2.2.2
        clear lQ9
        (with_reducible rename (_ < _ ∧ _ < _ ∧ _) => lQ9)
        have k1 := lQ9.2.2.2.2.2.2.2.2.2.2.2.2
        clear lQ9
        (with_reducible rename (_ < _ ∧ _ < _ ∧ _) => lQ9)
        have kT := lQ9.2.2.2.2.2.2.2.2.2.2.2
        clear lQ9
        have aV9 := after_off (o := LCg.lst ys2) o9
        clear o9
        (rename LCg.Off1 _ _ => oK9)
        have aK9 := after_off (o := LCg.lst ys1) oK9
        (rename News h₀ _ _ _ => N9)
        exact hret _ _ _ _ (by with_reducible assumption) (News.sub (news' := nw ++ [(_, _), (_, _), (_, _), (_, _), (_, _), (_, _), (_, _), (_, _), (_, _)]) N9 (sub9 [_, _, _, _, _, _, _, _, _])) (whole_read (t := S.taken) (stepS_1m hl9 hk3 (by walk_at "m om")) rfl rfl (stepD_1 hl9) G kD ((after_all lX8).mono fun p hp => (.tail _ (.tail _ (.tail _ (.tail _ (.tail _ (.tail _ (.tail _ (.tail _ (.tail _ (.tail _ (.tail _ (.tail _ (.tail _ (.tail _ (.tail _ (.tail _ (.tail _ (.tail _ (hp)))))))))))))))))))) kq k1 k2 k3 kT (aV9.mono fun p hp => (.tail _ (.tail _ (.tail _ (.tail _ (.tail _ (.tail _ (.tail _ (.tail _ (.tail _ (.tail _ (hp)))))))))))) (aK9.mono fun p hp => (.tail _ (.tail _ (.tail _ (.tail _ (.tail _ (.tail _ (.tail _ (.tail _ (.tail _ (hp))))))))))) rfl hy1 hy2 hs9 hs8)
    · subst hr8
      k_with "m neq" => k_dflt ((with_reducible show wpAny _ _ (compareOp CmpOp.NotEq (Value.ref _) (Value.ref _)) _ _ _); (with_reducible rename News _ _ _ _ => N9); (first | refine' m_neT hl9 N9 ?m1 ?m2 ?m3 (pd_ok C I 6) ?ku ?_ | refine' m_neF hl9 N9 ?m1 ?m2 ?m3 (pd_ok C I 6) ?ku ?_); (case m1 => walk_at "m memK"); (case m2 => exact (G.dl.mono fun p hp => (by (repeat (first | with_reducible assumption | with_reducible apply List.mem_cons_of_mem))))); (case m3 => walk_at "m memK"); (case ku => k_units); (try dsimp only))
      k_with "subscriptTail Name Constant ref int" => k_dflt ((with_reducible show wpAny _ _ (subscriptTail _ _ (Value.ref LA) (Value.int 0 _)) _ _ _); (with_reducible rename News _ _ _ _ => N9); refine m_head N9 (by (repeat (first | with_reducible exact List.mem_cons_self | with_reducible apply List.mem_cons_of_mem))) hv9 ?_; (try dsimp only))
      k_with "m comp" => k_dflt (first | ((with_reducible have _ := hy1); (refine LCg.CompSrc.ledger (by rfl) (by k_asm) (by k_asm) (by (repeat (first | with_reducible exact List.mem_cons_self | with_reducible apply List.mem_cons_of_mem))) (by rw [List.size_toArray]; refine Nat.le_trans (Nat.le_of_lt (show lv.length < 1000 by omega)) (by decide)) ?_; intro g'; refine mapQ_rest (j := 2) (fun p => (p.n : Int)) c.word c.ptxt c.pseen c.ptxt (D := G.dl) (fun p hp => (by (repeat (first | with_reducible assumption | with_reducible apply List.mem_cons_of_mem)))) (Or.inr ⟨_, (by (repeat (first | with_reducible exact List.mem_cons_self | with_reducible apply List.mem_cons_of_mem))), rfl, _, rfl⟩) (by decide) rfl rfl (fun _ t1 t2 t3 _ => ⟨t3, rfl⟩) rfl rfl (by decide) ?finob2; (case' finob2 => (intro ys2 hy2; unfold LCg.FinE; intro D9 h9 tk9 F9 N9 o9; (try dsimp only))))) | (refine LCg.CompSrc.ledger (by rfl) (by k_asm) (by k_asm) (by (repeat (first | with_reducible exact List.mem_cons_self | with_reducible apply List.mem_cons_of_mem))) (by rw [List.size_toArray]; refine Nat.le_trans (Nat.le_of_lt (show lv.length < 1000 by omega)) (by decide)) ?_; intro g'; refine mapQ_rest (j := 1) (fun p => (p.n : Int)) c.word c.ptxt c.pseen c.word (D := G.dl) (fun p hp => (by (repeat (first | with_reducible assumption | with_reducible apply List.mem_cons_of_mem)))) (Or.inr ⟨_, (by (repeat (first | with_reducible exact List.mem_cons_self | with_reducible apply List.mem_cons_of_mem))), rfl, _, rfl⟩) (by decide) rfl rfl (fun _ t1 t2 t3 _ => ⟨t2, rfl⟩) rfl rfl (by decide) ?finob1; (case' finob1 => (intro ys1 hy1; unfold LCg.FinE; intro D9 h9 tk9 F9 N9 o9; (try dsimp only)))))
      k_steps
      (with_reducible rename (D9 < _ ∧ _) => lT9)
      (with_reducible rename (_ < _ ∧ D9 < _ ∧ _) => lD9)
      have aV9 := after_off (o := LCg.lst ys2) o9
      clear o9
      (rename LCg.Off1 _ _ => oK9)
      have aK9 := after_off (o := LCg.lst ys1) oK9
      (rename News h₀ _ _ _ => N9)
      exact hret _ _ _ _ (by with_reducible assumption) (News.sub (news' := nw ++ [(_, _), (_, _), (_, _), (_, _)]) N9 (sub_end [_, _, _, _] [_, _, _, _, _, _, _, _, _])) (whole_told (by rw [stepS_1n hl9 hk3]) (by rw [stepS_1n hl9 hk3]) (by rw [stepS_1n hl9 hk3]) (by rw [stepS_1n hl9 hk3]) (stepD_1 hl9) G lD9.2.2.2.2.2.2.2.2.2.2.2.2 lT9.2.2.2.2.2.2.2.2.2.2.2 (aV9.mono fun p hp => (.tail _ (.tail _ (.tail _ (.tail _ (.tail _ (.tail _ (.tail _ (.tail _ (.tail _ (.tail _ (hp)))))))))))) (aK9.mono fun p hp => (.tail _ (.tail _ (.tail _ (.tail _ (.tail _ (.tail _ (.tail _ (.tail _ (.tail _ (hp))))))))))) hy1 hy2 hs9)
    · subst hr8
      k_with "m neq" => k_dflt ((with_reducible show wpAny _ _ (compareOp CmpOp.NotEq (Value.ref _) (Value.ref _)) _ _ _); (with_reducible rename News _ _ _ _ => N9); (first | refine' m_neT hl9 N9 ?m1 ?m2 ?m3 (pd_ok C I 6) ?ku ?_ | refine' m_neF hl9 N9 ?m1 ?m2 ?m3 (pd_ok C I 6) ?ku ?_); (case m1 => walk_at "m memK"); (case m2 => exact (G.dl.mono fun p hp => (by (repeat (first | with_reducible assumption | with_reducible apply List.mem_cons_of_mem))))); (case m3 => walk_at "m memK"); (case ku => k_units); (try dsimp only))
      k_with "subscriptTail Name Constant ref int" => k_dflt ((with_reducible show wpAny _ _ (subscriptTail _ _ (Value.ref LA) (Value.int 0 _)) _ _ _); (with_reducible rename News _ _ _ _ => N9); refine m_head N9 (by (repeat (first | with_reducible exact List.mem_cons_self | with_reducible apply List.mem_cons_of_mem))) hv9 ?_; (try dsimp only))
      k_with "m comp" => k_dflt (first | ((with_reducible have _ := hy1); (refine LCg.CompSrc.ledger (by rfl) (by k_asm) (by k_asm) (by (repeat (first | with_reducible exact List.mem_cons_self | with_reducible apply List.mem_cons_of_mem))) (by rw [List.size_toArray]; refine Nat.le_trans (Nat.le_of_lt (show lv.length < 1000 by omega)) (by decide)) ?_; intro g'; refine mapQ_rest (j := 2) (fun p => (p.n : Int)) c.word c.ptxt c.pseen c.ptxt (D := G.dl) (fun p hp => (by (repeat (first | with_reducible assumption | with_reducible apply List.mem_cons_of_mem)))) (Or.inr ⟨_, (by (repeat (first | with_reducible exact List.mem_cons_self | with_reducible apply List.mem_cons_of_mem))), rfl, _, rfl⟩) (by decide) rfl rfl (fun _ t1 t2 t3 _ => ⟨t3, rfl⟩) rfl rfl (by decide) ?finoc2; (case' finoc2 => (intro ys2 hy2; unfold LCg.FinE; intro D9 h9 tk9 F9 N9 o9; (try dsimp only))))) | (refine LCg.CompSrc.ledger (by rfl) (by k_asm) (by k_asm) (by (repeat (first | with_reducible exact List.mem_cons_self | with_reducible apply List.mem_cons_of_mem))) (by rw [List.size_toArray]; refine Nat.le_trans (Nat.le_of_lt (show lv.length < 1000 by omega)) (by decide)) ?_; intro g'; refine mapQ_rest (j := 1) (fun p => (p.n : Int)) c.word c.ptxt c.pseen c.word (D := G.dl) (fun p hp => (by (repeat (first | with_reducible assumption | with_reducible apply List.mem_cons_of_mem)))) (Or.inr ⟨_, (by (repeat (first | with_reducible exact List.mem_cons_self | with_reducible apply List.mem_cons_of_mem))), rfl, _, rfl⟩) (by decide) rfl rfl (fun _ t1 t2 t3 _ => ⟨t2, rfl⟩) rfl rfl (by decide) ?finoc1; (case' finoc1 => (intro ys1 hy1; unfold LCg.FinE; intro D9 h9 tk9 F9 N9 o9; (try dsimp only)))))
      k_steps
      (with_reducible rename (D9 < _ ∧ _) => lT9)
      (with_reducible rename (_ < _ ∧ D9 < _ ∧ _) => lD9)
      have aV9 := after_off (o := LCg.lst ys2) o9
      clear o9
      (rename LCg.Off1 _ _ => oK9)
      have aK9 := after_off (o := LCg.lst ys1) oK9
      (rename News h₀ _ _ _ => N9)
      exact hret _ _ _ _ (by with_reducible assumption) (News.sub (news' := nw ++ [(_, _), (_, _), (_, _), (_, _)]) N9 (sub_end [_, _, _, _] [_, _, _, _, _, _, _, _, _])) (whole_told (by rw [stepS_1n hl9 hk3]) (by rw [stepS_1n hl9 hk3]) (by rw [stepS_1n hl9 hk3]) (by rw [stepS_1n hl9 hk3]) (stepD_1 hl9) G lD9.2.2.2.2.2.2.2.2.2.2.2.2 lT9.2.2.2.2.2.2.2.2.2.2.2 (aV9.mono fun p hp => (.tail _ (.tail _ (.tail _ (.tail _ (.tail _ (.tail _ (.tail _ (.tail _ (.tail _ (.tail _ (hp)))))))))))) (aK9.mono fun p hp => (.tail _ (.tail _ (.tail _ (.tail _ (.tail _ (.tail _ (.tail _ (.tail _ (.tail _ (hp))))))))))) hy1 hy2 hs9)
  · have hz5 : z = 2 := hz
    subst hz5
    rcases hl9 : S.lane with _ | ⟨p9, r9⟩
    · have hlen9 : S.lane.length = 0 := by rw [hl9]; rfl
      k_with "m neq" => k_dflt ((with_reducible show wpAny _ _ (compareOp CmpOp.NotEq (Value.ref _) (Value.ref _)) _ _ _); (with_reducible rename News _ _ _ _ => N9); (first | refine' m_neT hl9 N9 ?m1 ?m2 ?m3 (pd_ok C I 6) ?ku ?_ | refine' m_neF hl9 N9 ?m1 ?m2 ?m3 (pd_ok C I 6) ?ku ?_); (case m1 => walk_at "m memK"); (case m2 => exact (G.dl.mono fun p hp => (by (repeat (first | with_reducible assumption | with_reducible apply List.mem_cons_of_mem))))); (case m3 => walk_at "m memK"); (case ku => k_units); (try dsimp only))
      k_steps
      (rename (_ < _ ∧ _) => l19)
      (rename News h₀ _ _ _ => N9)
      exact hret _ _ _ _ (by with_reducible assumption) (News.sub N9 (fun p hp => (List.mem_append.mp hp).elim (fun hp => (.tail _ (.tail _ (.tail _ (.tail _ (.tail _ (.tail _ (.tail _ (.tail _ (.tail _ (hp))))))))))) (fun hp => List.mem_cons.mpr (.inl (List.mem_singleton.mp hp))))) (whole_still (stepS_2nil hl9) rfl G l19.2.2.2.2.2.2.2.2)
    obtain ⟨v9, lv9, hv9, hi9⟩ := head_in G.dl hl9
    obtain ⟨q9, kq9, y1, y2, y3, sv9, rfl, hq9, hs9⟩ := quad_out hi9
    have hlen9 : S.lane.length = r9.length + 1 := by rw [hl9]; rfl
    have fq9 := ltN (l9 _ hq9)
    dsimp only at fq9
    have N7 := News.sub (news' := (_, _) :: (_, _) :: (_, _) :: (q9, _) :: (PL, _) :: (NL, _) :: (LA, _) :: (BA, _) :: nw) N9 (List.forall_mem_cons.mpr ⟨.head _, List.forall_mem_cons.mpr ⟨.tail _ (.head _), List.forall_mem_cons.mpr ⟨.tail _ (.tail _ (.head _)), List.forall_mem_cons.mpr ⟨.tail _ (.tail _ (.tail _ (.tail _ (.tail _ (.tail _ (.tail _ hq9)))))), fun p hp => .tail _ (.tail _ (.tail _ hp))⟩⟩⟩⟩)
    clear N9
    k_with "m neq" => k_dflt ((with_reducible show wpAny _ _ (compareOp CmpOp.NotEq (Value.ref _) (Value.ref _)) _ _ _); (with_reducible rename News _ _ _ _ => N9); (first | refine' m_neT hl9 N9 ?m1 ?m2 ?m3 (pd_ok C I 6) ?ku ?_ | refine' m_neF hl9 N9 ?m1 ?m2 ?m3 (pd_ok C I 6) ?ku ?_); (case m1 => walk_at "m memK"); (case m2 => exact (G.dl.mono fun p hp => (by (repeat (first | with_reducible assumption | with_reducible apply List.mem_cons_of_mem))))); (case m3 => walk_at "m memK"); (case ku => k_units); (try dsimp only))
    k_with "subscriptTail Name Constant ref int" => k_dflt ((with_reducible show wpAny _ _ (subscriptTail _ _ (Value.ref LA) (Value.int 0 _)) _ _ _); (with_reducible rename News _ _ _ _ => N9); refine m_head N9 (by (repeat (first | with_reducible exact List.mem_cons_self | with_reducible apply List.mem_cons_of_mem))) hv9 ?_; (try dsimp only))
    k_with "m compT" => k_dflt (k_dflt (refine LCt.CompSrcT.ledger (by rfl) (by k_asm) (by k_asm) (by (repeat (first | with_reducible exact List.mem_cons_self | with_reducible apply List.mem_cons_of_mem))) (by rw [List.size_toArray]; refine Nat.le_trans (Nat.le_of_lt (show lv.length < 1000 by omega)) (by decide)) ?_; intro g'; refine filtD_rest c.pd (fun p hp => (by (repeat (first | with_reducible assumption | with_reducible apply List.mem_cons_of_mem)))) (fun q => decide (q.n % (c.w + 1) ≠ p9.n % (c.w + 1))) rfl rfl (by decide) G.dl (Or.inr ⟨_, (by (repeat (first | with_reducible exact List.mem_cons_self | with_reducible apply List.mem_cons_of_mem))), rfl, _, rfl⟩) ?turn21 ?fin21; (case' turn21 => (intro p8 v8 I8 oI8 C8 oC8 D8 m8 h8 tk8 E8 ys8 hp8 hin8 hC8 hx8 F8 N8 off8 ne8; obtain ⟨q8, kq8, z1, z2, z3, sv8, rfl, hq8, hs8⟩ := quad_out hin8; (try dsimp only))); (case' fin21 => (intro ys9 hy9; unfold LCg.FinA; intro D9 h9 tk9 F9 N9 o9; (try dsimp only)))))
    k_steps
    · (rename (_ < _ ∧ _) => l19)
      (rename News h₀ _ _ _ => N9)
      exact hret _ _ _ _ (by with_reducible assumption) (News.sub (news' := nw ++ [(_, _), (D9, LCg.lst ys9)]) N9 (fun p hp => (List.mem_append.mp hp).elim (fun hp => (.tail _ (.tail _ (.tail _ (.tail _ (.tail _ (.tail _ (.tail _ (.tail _ (.tail _ (.tail _ (.tail _ (hp))))))))))))) (fun hp => (List.mem_cons.mp hp).elim (fun h => List.mem_cons.mpr (.inl h)) (fun h => .tail _ (List.mem_cons.mpr (.inl (List.mem_singleton.mp h))))))) (whole_cut1 hl9 G l19.2.2.2.2.2.2.2.2.2.2 ((after_off o9).mono fun p hp => (.tail _ (.tail _ (.tail _ (.tail _ (.tail _ (.tail _ (.tail _ (.tail _ (.tail _ (hp))))))))))) hy9)
    · exact sub_ne
  · have hz5 : z = 3 := hz
    subst hz5
    rcases hl9 : S.back with _ | ⟨p9, r9⟩
    · have hlen9 : S.back.length = 0 := by rw [hl9]; rfl
      k_with "m neq" => k_dflt ((with_reducible show wpAny _ _ (compareOp CmpOp.NotEq (Value.ref _) (Value.ref _)) _ _ _); (with_reducible rename News _ _ _ _ => N9); (first | refine' m_neT hl9 N9 ?m1 ?m2 ?m3 (ad_ok C G.hok I 6) ?ku ?_ | refine' m_neF hl9 N9 ?m1 ?m2 ?m3 (ad_ok C G.hok I 6) ?ku ?_); (case m1 => walk_at "m memK"); (case m2 => exact (G.db.mono fun p hp => (by (repeat (first | with_reducible assumption | with_reducible apply List.mem_cons_of_mem))))); (case m3 => walk_at "m memK"); (case ku => k_units); (try dsimp only))
      k_steps
      (rename (_ < _ ∧ _) => l19)
      (rename News h₀ _ _ _ => N9)
      exact hret _ _ _ _ (by with_reducible assumption) (News.sub N9 (fun p hp => (List.mem_append.mp hp).elim (fun hp => (.tail _ (.tail _ (.tail _ (.tail _ (.tail _ (.tail _ (.tail _ (.tail _ (.tail _ (hp))))))))))) (fun hp => List.mem_cons.mpr (.inl (List.mem_singleton.mp hp))))) (whole_still (stepS_3nil hl9) (stepD_3nil hl9) G l19.2.2.2.2.2.2.2.2)
    obtain ⟨v9, lv9, hv9, hi9⟩ := head_in G.db hl9
    obtain ⟨q9, kq9, y1, y2, y3, sv9, rfl, hq9, hs9⟩ := quad_out hi9
    have hlen9 : S.back.length = r9.length + 1 := by rw [hl9]; rfl
    have fq9 := ltN (l9 _ hq9)
    dsimp only at fq9
    have N7 := News.sub (news' := (_, _) :: (_, _) :: (_, _) :: (q9, _) :: (PL, _) :: (NL, _) :: (LA, _) :: (BA, _) :: nw) N9 (List.forall_mem_cons.mpr ⟨.head _, List.forall_mem_cons.mpr ⟨.tail _ (.head _), List.forall_mem_cons.mpr ⟨.tail _ (.tail _ (.head _)), List.forall_mem_cons.mpr ⟨.tail _ (.tail _ (.tail _ (.tail _ (.tail _ (.tail _ (.tail _ hq9)))))), fun p hp => .tail _ (.tail _ (.tail _ hp))⟩⟩⟩⟩)
    clear N9
    have hb9 := (I.b4 p9 (by rw [hl9]; exact .head _)).1
    rcases seenA_cases hb9 hs9 with ⟨hk3, TP9, th8, tp8, np8, hr8, hm8⟩ | ⟨hk3, y8, t8, hr8⟩
    · subst hr8
      have fTP := ltN (l9 _ hm8)
      dsimp only at fTP
      have N6 := News.sub (news' := (_, _) :: (_, _) :: (_, _) :: (TP9, _) :: (q9, _) :: (PL, _) :: (NL, _) :: (LA, _) :: (BA, _) :: nw) N7 (List.forall_mem_cons.mpr ⟨.head _, List.forall_mem_cons.mpr ⟨.tail _ (.head _), List.forall_mem_cons.mpr ⟨.tail _ (.tail _ (.head _)), List.forall_mem_cons.mpr ⟨.tail _ (.tail _ (.tail _ (.tail _ (.tail _ (.tail _ (.tail _ (.tail _ hm8))))))), fun p hp => .tail _ (.tail _ (.tail _ hp))⟩⟩⟩⟩)
      clear N7
      k_with "m neq" => k_dflt ((with_reducible show wpAny _ _ (compareOp CmpOp.NotEq (Value.ref _) (Value.ref _)) _ _ _); (with_reducible rename News _ _ _ _ => N9); (first | refine' m_neT hl9 N9 ?m1 ?m2 ?m3 (ad_ok C G.hok I 6) ?ku ?_ | refine' m_neF hl9 N9 ?m1 ?m2 ?m3 (ad_ok C G.hok I 6) ?ku ?_); (case m1 => walk_at "m memK"); (case m2 => exact (G.db.mono fun p hp => (by (repeat (first | with_reducible assumption | with_reducible apply List.mem_cons_of_mem))))); (case m3 => walk_at "m memK"); (case ku => k_units); (try dsimp only))
      k_with "subscriptTail Name Constant ref int" => k_dflt ((with_reducible show wpAny _ _ (subscriptTail _ _ (Value.ref BA) (Value.int 0 _)) _ _ _); (with_reducible rename News _ _ _ _ => N9); refine m_head N9 (by (repeat (first | with_reducible exact List.mem_cons_self | with_reducible apply List.mem_cons_of_mem))) hv9 ?_; (try dsimp only))
      k_with "m comp" => k_dflt (first | ((with_reducible have _ := hy1); (refine LCg.CompSrc.ledger (by rfl) (by k_asm) (by k_asm) (by (repeat (first | with_reducible exact List.mem_cons_self | with_reducible apply List.mem_cons_of_mem))) (by rw [List.size_toArray]; refine Nat.le_trans (Nat.le_of_lt (show bv.length < 1000 by omega)) (by decide)) ?_; intro g'; refine mapQ_rest (j := 2) (fun p => (p.n : Int)) c.word c.atxt c.aseen c.atxt (D := G.db) (fun p hp => (by (repeat (first | with_reducible assumption | with_reducible apply List.mem_cons_of_mem)))) (Or.inr ⟨_, (by (repeat (first | with_reducible exact List.mem_cons_self | with_reducible apply List.mem_cons_of_mem))), rfl, _, rfl⟩) (by decide) rfl rfl (fun _ t1 t2 t3 _ => ⟨t3, rfl⟩) rfl rfl (by decide) ?finta2; (case' finta2 => (intro ys2 hy2; unfold LCg.FinE; intro D9 h9 tk9 F9 N9 o9; (try dsimp only))))) | (refine LCg.CompSrc.ledger (by rfl) (by k_asm) (by k_asm) (by (repeat (first | with_reducible exact List.mem_cons_self | with_reducible apply List.mem_cons_of_mem))) (by rw [List.size_toArray]; refine Nat.le_trans (Nat.le_of_lt (show bv.length < 1000 by omega)) (by decide)) ?_; intro g'; refine mapQ_rest (j := 1) (fun p => (p.n : Int)) c.word c.atxt c.aseen c.word (D := G.db) (fun p hp => (by (repeat (first | with_reducible assumption | with_reducible apply List.mem_cons_of_mem)))) (Or.inr ⟨_, (by (repeat (first | with_reducible exact List.mem_cons_self | with_reducible apply List.mem_cons_of_mem))), rfl, _, rfl⟩) (by decide) rfl rfl (fun _ t1 t2 t3 _ => ⟨t2, rfl⟩) rfl rfl (by decide) ?finta1; (case' finta1 => (intro ys1 hy1; unfold LCg.FinE; intro D9 h9 tk9 F9 N9 o9; (try dsimp only)))))
      k_steps
      (with_reducible rename (D9 < _ ∧ _) => lT9)
      (with_reducible rename (_ < _ ∧ D9 < _ ∧ _) => lD9)
      have aV9 := after_off (o := LCg.lst ys2) o9
      clear o9
      (rename LCg.Off1 _ _ => oK9)
      have aK9 := after_off (o := LCg.lst ys1) oK9
      (rename News h₀ _ _ _ => N9)
      exact hret _ _ _ _ (by with_reducible assumption) (News.sub (news' := nw ++ [(_, _), (_, _), (_, _), (_, _)]) N9 (sub_end [_, _, _, _] [_, _, _, _, _, _, _, _, _, _])) (whole_told (by rw [stepS_3y hl9 hk3]) (by rw [stepS_3y hl9 hk3]) (by rw [stepS_3y hl9 hk3]) (by rw [stepS_3y hl9 hk3]) (stepD_3 hl9) G lD9.2.2.2.2.2.2.2.2.2.2.2.2.2 lT9.2.2.2.2.2.2.2.2.2.2.2.2 (aV9.mono fun p hp => (.tail _ (.tail _ (.tail _ (.tail _ (.tail _ (.tail _ (.tail _ (.tail _ (.tail _ (.tail _ (.tail _ (hp))))))))))))) (aK9.mono fun p hp => (.tail _ (.tail _ (.tail _ (.tail _ (.tail _ (.tail _ (.tail _ (.tail _ (.tail _ (.tail _ (hp)))))))))))) hy1 hy2 hs9)
    · subst hr8
      k_with "m neq" => k_dflt ((with_reducible show wpAny _ _ (compareOp CmpOp.NotEq (Value.ref _) (Value.ref _)) _ _ _); (with_reducible rename News _ _ _ _ => N9); (first | refine' m_neT hl9 N9 ?m1 ?m2 ?m3 (ad_ok C G.hok I 6) ?ku ?_ | refine' m_neF hl9 N9 ?m1 ?m2 ?m3 (ad_ok C G.hok I 6) ?ku ?_); (case m1 => walk_at "m memK"); (case m2 => exact (G.db.mono fun p hp => (by (repeat (first | with_reducible assumption | with_reducible apply List.mem_cons_of_mem))))); (case m3 => walk_at "m memK"); (case ku => k_units); (try dsimp only))
      k_with "subscriptTail Name Constant ref int" => k_dflt ((with_reducible show wpAny _ _ (subscriptTail _ _ (Value.ref BA) (Value.int 0 _)) _ _ _); (with_reducible rename News _ _ _ _ => N9); refine m_head N9 (by (repeat (first | with_reducible exact List.mem_cons_self | with_reducible apply List.mem_cons_of_mem))) hv9 ?_; (try dsimp only))
      k_with "m comp" => k_dflt (first | ((with_reducible have _ := hy1); (refine LCg.CompSrc.ledger (by rfl) (by k_asm) (by k_asm) (by (repeat (first | with_reducible exact List.mem_cons_self | with_reducible apply List.mem_cons_of_mem))) (by rw [List.size_toArray]; refine Nat.le_trans (Nat.le_of_lt (show bv.length < 1000 by omega)) (by decide)) ?_; intro g'; refine mapQ_rest (j := 2) (fun p => (p.n : Int)) c.word c.atxt c.aseen c.atxt (D := G.db) (fun p hp => (by (repeat (first | with_reducible assumption | with_reducible apply List.mem_cons_of_mem)))) (Or.inr ⟨_, (by (repeat (first | with_reducible exact List.mem_cons_self | with_reducible apply List.mem_cons_of_mem))), rfl, _, rfl⟩) (by decide) rfl rfl (fun _ t1 t2 t3 _ => ⟨t3, rfl⟩) rfl rfl (by decide) ?fintb2; (case' fintb2 => (intro ys2 hy2; unfold LCg.FinE; intro D9 h9 tk9 F9 N9 o9; (try dsimp only))))) | (refine LCg.CompSrc.ledger (by rfl) (by k_asm) (by k_asm) (by (repeat (first | with_reducible exact List.mem_cons_self | with_reducible apply List.mem_cons_of_mem))) (by rw [List.size_toArray]; refine Nat.le_trans (Nat.le_of_lt (show bv.length < 1000 by omega)) (by decide)) ?_; intro g'; refine mapQ_rest (j := 1) (fun p => (p.n : Int)) c.word c.atxt c.aseen c.word (D := G.db) (fun p hp => (by (repeat (first | with_reducible assumption | with_reducible apply List.mem_cons_of_mem)))) (Or.inr ⟨_, (by (repeat (first | with_reducible exact List.mem_cons_self | with_reducible apply List.mem_cons_of_mem))), rfl, _, rfl⟩) (by decide) rfl rfl (fun _ t1 t2 t3 _ => ⟨t2, rfl⟩) rfl rfl (by decide) ?fintb1; (case' fintb1 => (intro ys1 hy1; unfold LCg.FinE; intro D9 h9 tk9 F9 N9 o9; (try dsimp only)))))
      k_steps
      (with_reducible rename (D9 < _ ∧ _) => lT9)
      (with_reducible rename (_ < _ ∧ D9 < _ ∧ _) => lD9)
      have aV9 := after_off (o := LCg.lst ys2) o9
      clear o9
      (rename LCg.Off1 _ _ => oK9)
      have aK9 := after_off (o := LCg.lst ys1) oK9
      (rename News h₀ _ _ _ => N9)
      exact hret _ _ _ _ (by with_reducible assumption) (News.sub (news' := nw ++ [(_, _), (_, _), (_, _), (_, _)]) N9 (sub_end [_, _, _, _] [_, _, _, _, _, _, _, _, _])) (whole_told (by rw [stepS_3n hl9 hk3]) (by rw [stepS_3n hl9 hk3]) (by rw [stepS_3n hl9 hk3]) (by rw [stepS_3n hl9 hk3]) (stepD_3 hl9) G lD9.2.2.2.2.2.2.2.2.2.2.2.2 lT9.2.2.2.2.2.2.2.2.2.2.2 (aV9.mono fun p hp => (.tail _ (.tail _ (.tail _ (.tail _ (.tail _ (.tail _ (.tail _ (.tail _ (.tail _ (.tail _ (hp)))))))))))) (aK9.mono fun p hp => (.tail _ (.tail _ (.tail _ (.tail _ (.tail _ (.tail _ (.tail _ (.tail _ (.tail _ (hp))))))))))) hy1 hy2 hs9)
  · have hz5 : z = 4 := hz
    subst hz5
    rcases hl9 : S.back with _ | ⟨p9, r9⟩
    · have hlen9 : S.back.length = 0 := by rw [hl9]; rfl
      k_with "m neq" => k_dflt ((with_reducible show wpAny _ _ (compareOp CmpOp.NotEq (Value.ref _) (Value.ref _)) _ _ _); (with_reducible rename News _ _ _ _ => N9); (first | refine' m_neT hl9 N9 ?m1 ?m2 ?m3 (ad_ok C G.hok I 6) ?ku ?_ | refine' m_neF hl9 N9 ?m1 ?m2 ?m3 (ad_ok C G.hok I 6) ?ku ?_); (case m1 => walk_at "m memK"); (case m2 => exact (G.db.mono fun p hp => (by (repeat (first | with_reducible assumption | with_reducible apply List.mem_cons_of_mem))))); (case m3 => walk_at "m memK"); (case ku => k_units); (try dsimp only))
      k_steps
      (rename (_ < _ ∧ _) => l19)
      (rename News h₀ _ _ _ => N9)
      exact hret _ _ _ _ (by with_reducible assumption) (News.sub N9 (fun p hp => (List.mem_append.mp hp).elim (fun hp => (.tail _ (.tail _ (.tail _ (.tail _ (.tail _ (.tail _ (.tail _ (.tail _ (.tail _ (hp))))))))))) (fun hp => List.mem_cons.mpr (.inl (List.mem_singleton.mp hp))))) (whole_still (stepS_4nil hl9) rfl G l19.2.2.2.2.2.2.2.2)
    obtain ⟨v9, lv9, hv9, hi9⟩ := head_in G.db hl9
    obtain ⟨q9, kq9, y1, y2, y3, sv9, rfl, hq9, hs9⟩ := quad_out hi9
    have hlen9 : S.back.length = r9.length + 1 := by rw [hl9]; rfl
    have fq9 := ltN (l9 _ hq9)
    dsimp only at fq9
    have N7 := News.sub (news' := (_, _) :: (_, _) :: (_, _) :: (q9, _) :: (PL, _) :: (NL, _) :: (LA, _) :: (BA, _) :: nw) N9 (List.forall_mem_cons.mpr ⟨.head _, List.forall_mem_cons.mpr ⟨.tail _ (.head _), List.forall_mem_cons.mpr ⟨.tail _ (.tail _ (.head _)), List.forall_mem_cons.mpr ⟨.tail _ (.tail _ (.tail _ (.tail _ (.tail _ (.tail _ (.tail _ hq9)))))), fun p hp => .tail _ (.tail _ (.tail _ hp))⟩⟩⟩⟩)
    clear N9
    k_with "m neq" => k_dflt ((with_reducible show wpAny _ _ (compareOp CmpOp.NotEq (Value.ref _) (Value.ref _)) _ _ _); (with_reducible rename News _ _ _ _ => N9); (first | refine' m_neT hl9 N9 ?m1 ?m2 ?m3 (ad_ok C G.hok I 6) ?ku ?_ | refine' m_neF hl9 N9 ?m1 ?m2 ?m3 (ad_ok C G.hok I 6) ?ku ?_); (case m1 => walk_at "m memK"); (case m2 => exact (G.db.mono fun p hp => (by (repeat (first | with_reducible assumption | with_reducible apply List.mem_cons_of_mem))))); (case m3 => walk_at "m memK"); (case ku => k_units); (try dsimp only))
    k_with "subscriptTail Name Constant ref int" => k_dflt ((with_reducible show wpAny _ _ (subscriptTail _ _ (Value.ref BA) (Value.int 0 _)) _ _ _); (with_reducible rename News _ _ _ _ => N9); refine m_head N9 (by (repeat (first | with_reducible exact List.mem_cons_self | with_reducible apply List.mem_cons_of_mem))) hv9 ?_; (try dsimp only))
    k_with "m compT" => k_dflt (k_dflt (refine LCt.CompSrcT.ledger (by rfl) (by k_asm) (by k_asm) (by (repeat (first | with_reducible exact List.mem_cons_self | with_reducible apply List.mem_cons_of_mem))) (by rw [List.size_toArray]; refine Nat.le_trans (Nat.le_of_lt (show bv.length < 1000 by omega)) (by decide)) ?_; intro g'; refine filtD_rest c.ad (fun p hp => (by (repeat (first | with_reducible assumption | with_reducible apply List.mem_cons_of_mem)))) (fun q => decide (q.n % (c.w + 1) ≠ p9.n % (c.w + 1))) rfl rfl (by decide) G.db (Or.inr ⟨_, (by (repeat (first | with_reducible exact List.mem_cons_self | with_reducible apply List.mem_cons_of_mem))), rfl, _, rfl⟩) ?turn22 ?fin22; (case' turn22 => (intro p8 v8 I8 oI8 C8 oC8 D8 m8 h8 tk8 E8 ys8 hp8 hin8 hC8 hx8 F8 N8 off8 ne8; obtain ⟨q8, kq8, z1, z2, z3, sv8, rfl, hq8, hs8⟩ := quad_out hin8; (try dsimp only))); (case' fin22 => (intro ys9 hy9; unfold LCg.FinA; intro D9 h9 tk9 F9 N9 o9; (try dsimp only)))))
    k_steps
    · (rename (_ < _ ∧ _) => l19)
      (rename News h₀ _ _ _ => N9)
      exact hret _ _ _ _ (by with_reducible assumption) (News.sub (news' := nw ++ [(_, _), (D9, LCg.lst ys9)]) N9 (fun p hp => (List.mem_append.mp hp).elim (fun hp => (.tail _ (.tail _ (.tail _ (.tail _ (.tail _ (.tail _ (.tail _ (.tail _ (.tail _ (.tail _ (.tail _ (hp))))))))))))) (fun hp => (List.mem_cons.mp hp).elim (fun h => List.mem_cons.mpr (.inl h)) (fun h => .tail _ (List.mem_cons.mpr (.inl (List.mem_singleton.mp h))))))) (whole_cut2 hl9 G l19.2.2.2.2.2.2.2.2.2.2 ((after_off o9).mono fun p hp => (.tail _ (.tail _ (.tail _ (.tail _ (.tail _ (.tail _ (.tail _ (.tail _ (.tail _ (hp))))))))))) hy9)
    · exact sub_ne
end
section -- MLaw2
open LCg LCp LCt
section
variable {prog : Program} {w : World} {A : Around} {E : Value → Shared → Prop} {s : Shared} {h₀ : Heap} {L : Addr} {news : Led} {u v : Value} {d : Dat} {Q : Value → Shared → Prop}
theorem m_neSame (N : News h₀ L s.heap news) (Da : DatIn news v d) (Db : DatIn news u d) (hd : kqdOk 9 d = true) (hu : A.units + 64 < cLine) (h : Q (.bool false) s) : wpAny (model prog w) A (compareOp .NotEq v u) Q E s := by
  obtain ⟨as, ra⟩ := kqd_in N 9 Da hd
  obtain ⟨bs, rb⟩ := kqd_in N 9 Db hd
  have la := kqd_lay 9 d hd
  have e : PyData.eqv (kqdP d) (kqdP d) = true := (kqd_eqv 9 d d 9 hd hd).mpr rfl
  refine ne_dataH ra rb ?_ ?_ hu (by rw [e]; exact h)
  · unfold SeqAt.shaped; rw [la.1, Bool.true_and]; exact decide_eq_true (Nat.le_trans la.2 (by decide))
  · unfold SeqAt.shaped; rw [la.1, Bool.true_and]; exact decide_eq_true (Nat.le_trans la.2 (by decide))
theorem m_eqSame (N : News h₀ L s.heap news) (Da : DatIn news v d) (Db : DatIn news u d) (hd : kqdOk 9 d = true) (hu : A.units + 64 < cLine) (h : Q (.bool true) s) : wpAny (model prog w) A (compareOp .Eq v u) Q E s := by
  obtain ⟨as, ra⟩ := kqd_in N 9 Da hd
  obtain ⟨bs, rb⟩ := kqd_in N 9 Db hd
  have la := kqd_lay 9 d hd
  have e : PyData.eqv (kqdP d) (kqdP d) = true := (kqd_eqv 9 d d 9 hd hd).mpr rfl
  refine eq_dataH ra rb ?_ ?_ hu (by rw [e]; exact h)
  · unfold SeqAt.shaped; rw [la.1, Bool.true_and]; exact decide_eq_true (Nat.le_trans la.2 (by decide))
  · unfold SeqAt.shaped; rw [la.1, Bool.true_and]; exact decide_eq_true (Nat.le_trans la.2 (by decide))
/-- an item of a list of small ints -/
theorem m_natAt {K : Addr} {vs : List Value} {ns : List Nat} {n k : Nat} {value slice : PySem.Expr} {t : Tok}
    (N : News h₀ L s.heap news) (hm : (K, listOf vs.toArray n) ∈ news) (hI : NatsAre vs ns) (hk : k < ns.length) (hz : ns.length < 1000) (h : ∀ t', Q (.int ((ns.getD k 0 : Nat) : Int) t') s)
    (he : subscripted slice false (.ref K) (.int (k : Int) t) = operate [.ref K, .int (k : Int) t] (getItem (.ref K) (.int (k : Int) t)) := by with_unfolding_all rfl) :
    wpAny (model prog w) A (subscriptTail value slice (.ref K) (.int (k : Int) t)) Q E s := by
  have hl : vs.length = ns.length := by have := hI.length; rwa [List.length_map] at this
  obtain ⟨v, hv⟩ : ∃ v, vs[k]? = some v := ⟨_, List.getElem?_eq_getElem (by omega)⟩
  obtain ⟨x, t', rfl, hx⟩ := IntsAre.at hI k v hv
  rw [List.getElem?_map] at hx
  obtain ⟨y, hy, rfl⟩ := Option.map_eq_some_iff.mp hx
  refine item_listR (items := vs.toArray) (k := (k : Int)) ⟨_, (N _ hm).1, rfl, _, rfl⟩ (by omega) (by omega) (by simpa using hv) ?_ he
  have := h t'
  rw [List.getD_eq_getElem?_getD, hy] at this
  exact this
end
theorem pp_ok {c : Par} (C : ParOk c) {S : St} (I : Inv c S) (m : Nat) : ∀ d ∈ (S.lane.map c.pp).map pairD, kqdOk (m + 1) d = true := by
  intro d hd
  obtain ⟨q, hq, rfl⟩ := List.mem_map.mp hd
  obtain ⟨p, hp, rfl⟩ := List.mem_map.mp hq
  have hi := I.l4 p hp
  refine tupD ?_
  intro d hd
  simp only [List.mem_cons, List.not_mem_nil, or_false] at hd
  rcases hd with rfl | rfl
  · exact strD (word_okP C p) _
  · exact strD ((C.nm p.n hi.1).ok p.k hi.2.1) _
theorem ap_ok {c : Par} (C : ParOk c) (H : okText c.host) {S : St} (I : Inv c S) (m : Nat) : ∀ d ∈ (S.back.map c.ap).map pairD, kqdOk (m + 1) d = true := by
  intro d hd
  obtain ⟨q, hq, rfl⟩ := List.mem_map.mp hd
  obtain ⟨p, hp, rfl⟩ := List.mem_map.mp hq
  have hi := I.b4 p hp
  refine tupD ?_
  intro d hd
  simp only [List.mem_cons, List.not_mem_nil, or_false] at hd
  rcases hd with rfl | rfl
  · exact strD (word_okP C p) _
  · exact strD (ans_ok (host := c.host) (Par.no_lt C _) hi.1).ok _
theorem strsD {xs : List Str} (h : ∀ x ∈ xs, okText x) (m : Nat) : ∀ d ∈ xs.map Dat.str, kqdOk m d = true := by
  intro d hd
  obtain ⟨x, hx, rfl⟩ := List.mem_map.mp hd
  exact strD (h x hx) m
theorem due_ok {c : Par} (C : ParOk c) (H : okText c.host) {S : St} (I : Inv c S) (d : Nat) : kqdOk 9 (stepD c d S) = true := by
  unfold stepD
  by_cases h1 : d = 1
  · rw [if_pos h1]
    cases hl : S.lane with
    | nil => rfl
    | cons p r =>
      have hp : p ∈ S.lane := by rw [hl]; exact .head _
      have hi := I.l4 p hp
      refine tupD ?_
      intro d hd
      simp only [List.mem_cons, List.not_mem_nil, or_false] at hd
      rw [← hl] at hd
      rcases hd with rfl | rfl | rfl
      · refine lisD (strsD (fun x hx => ?_) _)
        obtain ⟨q, _, rfl⟩ := List.mem_map.mp hx
        exact word_okP C q
      · refine lisD (strsD (fun x hx => ?_) _)
        obtain ⟨q, hq, rfl⟩ := List.mem_map.mp hx
        have hj := I.l4 q hq
        exact (C.nm q.n hj.1).ok q.k hj.2.1
      · exact seen_ok C hi.1 hi.2.1 _
  · rw [if_neg h1]
    by_cases h3 : d = 3
    · rw [if_pos h3]
      cases hl : S.back with
      | nil => rfl
      | cons p r =>
        have hp : p ∈ S.back := by rw [hl]; exact .head _
        have hi := I.b4 p hp
        refine tupD ?_
        intro d hd
        simp only [List.mem_cons, List.not_mem_nil, or_false] at hd
        rw [← hl] at hd
        rcases hd with rfl | rfl | rfl
        · refine lisD (strsD (fun x hx => ?_) _)
          obtain ⟨q, _, rfl⟩ := List.mem_map.mp hx
          exact word_okP C q
        · refine lisD (strsD (fun x hx => ?_) _)
          obtain ⟨q, hq, rfl⟩ := List.mem_map.mp hx
          have hj := I.b4 q hq
          exact (ans_ok (host := c.host) (Par.no_lt C _) hj.1).ok
        · exact aseen_ok H hi.1 _
    · rw [if_neg h3]; rfl
section
variable {prog : Program} {w : World} {A : Around} {h₀ : Heap} {L : Addr} {m : Str → Option Value} {env : Env} {ct elt : Expr} {x : Str} {scope : Scope} {cl : List (Str × Addr)} {s : Shared} {Fin : List Value → Led → Prop} {α : Type}
/-- a pair made, behind all that stood -/
noncomputable def PairQ (h₀ : Heap) (L : Addr) (m : Str → Option Value) (s : Shared) (x : Str × Str) (I : Addr) (oI : Obj) (C : Addr) (oC : Obj) (D : Addr) (oD : Obj) (nw : Led) (y : Value) (s' : Shared) : Prop :=
  ∃ T n t u h' tk', y = .ref T ∧ s' = { s with heap := h', toks := tk' } ∧ Fr h₀ L h' m ∧ News h₀ L h' ((T, ({ cls := .type "tuple", data := .seq #[.str x.1 t, .str x.2 u] n } : Obj)) :: (I, oI) :: (C, oC) :: (D, oD) :: nw) ∧ (@Ne Nat T I) ∧ (@Ne Nat T C) ∧ (@Ne Nat T D)
/-- pairs cut out of tuples -/
theorem pairs_rest {ax : Addr} {vs : List Value} {ps : List α} {news : Led} {k : Nat} (f : α → Dat) (g : α → Str × Str) (D : DatAll news vs (ps.map f)) (hax : (ax, listOf vs.toArray k) ∈ news)
    (turn : ∀ p v I oI C oC D m₂ h tk (E' : Value → Shared → Prop) ys nw, (∀ q ∈ news, q ∈ nw) → p ∈ ps → DatIn nw v (f p) → NsObj oC m₂ → m₂ x = some v → Fr h₀ L h m → News h₀ L h ((I, oI) :: (C, oC) :: (D, lst ys) :: nw) → Off3 I C D nw → ((@Ne Nat I C) ∧ (@Ne Nat I D) ∧ (@Ne Nat C D)) →
      wpAny (model prog w) A (eval elt (compEnvC scope cl C env)) (PairQ h₀ L m s (g p) I oI C oC D (lst ys) nw) E' { s with heap := h, toks := tk })
    (fin : ∀ ys nw, (∀ q ∈ news, q ∈ nw) → DatAll nw ys ((ps.map g).map pairD) → Fin ys nw) : CompRest prog w A h₀ L m env elt x scope cl s (SrcAt h₀ ax vs.toArray) (fun i v => vs.toArray[i]? = some v) Fin vs.toArray.size 0 [] news := by
  have hlen : vs.length = ps.length := by rw [D.length, List.length_map]
  refine rest_U (n := vs.toArray.size) (fun i ys nw => (∀ q ∈ news, q ∈ nw) ∧ DatAll nw ys (((ps.take i).map g).map pairD)) ?_ ?_ _ _ _ _ (Nat.zero_add _) ⟨fun _ h => h, .nil⟩
  · rintro i v ys nw I oI C oC D' m₂ h tk E' hi hv ⟨hsub, hy⟩ hC hx F N off ne
    have hv' : vs[i]? = some v := by simpa using hv
    obtain ⟨d, hd', hin⟩ := all_get D hv'
    rw [List.getElem?_map] at hd'
    obtain ⟨p, hp, rfl⟩ := Option.map_eq_some_iff.mp hd'
    refine wpAny_mono (turn p v I oI C oC D' m₂ h tk E' ys nw hsub (List.mem_of_getElem? hp) (hin.mono hsub) hC hx F N off ne) (fun y s₂ hq => ?_) fun _ _ e => e
    obtain ⟨T, n, t, u, h', tk', rfl, rfl, F', N', n1, n2, n3⟩ := hq
    refine ⟨h', tk', (T, ({ cls := .type "tuple", data := .seq #[.str (g p).1 t, .str (g p).2 u] n } : Obj)) :: nw, rfl, F', fun p hp => ?_, ⟨⟨n1, n2, n3⟩, off⟩, .inr ⟨_, .tail _ (hsub _ hax), rfl, _, rfl⟩, fun q hq => .tail _ (hsub q hq), ?_⟩
    · rcases List.mem_cons.mp hp with rfl | hp
      · exact N' _ (.tail _ (.head _))
      · rcases List.mem_cons.mp hp with rfl | hp
        · exact N' _ (.tail _ (.tail _ (.head _)))
        · rcases List.mem_cons.mp hp with rfl | hp
          · exact N' _ (.tail _ (.tail _ (.tail _ (.head _))))
          · rcases List.mem_cons.mp hp with rfl | hp
            · exact N' _ (.head _)
            · exact N' _ (.tail _ (.tail _ (.tail _ (.tail _ hp))))
    · rw [List.take_add_one, hp, List.map_append, List.map_append]
      refine DatAll.append (hy.mono fun p hp => .tail _ hp) (DatAll.one ?_)
      exact pair_in (.head _)
  · rintro ys nw ⟨hsub, hy⟩
    refine fin ys nw hsub ?_
    rwa [List.size_toArray, hlen, List.take_length] at hy
end
/-- the law's text -/
noncomputable def lawAst : { r : Scope × List Stmt // ∃ a dl rt tp ts bd p, PySem.Challenge.pw_yh0023_01.main.body.getLast? = some (.FunctionDef (Str.ofString "law") a r.2 dl rt tp r.1 ts bd p) } := ⟨(_, _), _, _, _, _, _, _, _, rfl⟩
noncomputable def loopAst1 : { b : List Stmt // ∃ x it o p, lawAst.1.2[10]? = some (.For x it b o p) } := ⟨_, _, _, _, _, rfl⟩
noncomputable def loopAst2 : { b : List Stmt // ∃ x it o p, lawAst.1.2[11]? = some (.For x it b o p) } := ⟨_, _, _, _, _, rfl⟩
end
section -- MLaw3
open LCg LCp LCt
/-- data without lists -/
noncomputable def noL : Nat → Dat → Bool
  | _, .list _ => false
  | 0, .tuple _ => false
  | n + 1, .tuple ds => ds.all (noL n)
  | _, _ => true
theorem DatAll.cutA {news news' : Led} {P : Dat → Bool} (k : ∀ {v : Value} {d : Dat}, DatIn news v d → P d = true → DatIn news' v d) {ds : List Dat} : ∀ {vs : List Value}, DatAll news vs ds → (∀ d ∈ ds, P d = true) → DatAll news' vs ds := by
  induction ds with
  | nil =>
    intro vs h _
    rw [datAll_nil h]
    exact .nil
  | cons d r ih =>
    intro vs h hk
    obtain ⟨v, vs', rfl, h1, h2⟩ := datAll_cons h
    exact .cons (k h1 (hk _ (.head _))) (ih h2 fun d hd => hk d (.tail _ hd))
theorem DatIn.cutT {news news' : Led} (hs : ∀ p ∈ news, p.2.cls = .type "tuple" → p ∈ news') {v : Value} {d : Dat} (n : Nat) (h : DatIn news v d) (hn : noL n d = true) : DatIn news' v d := by
  induction n generalizing v d with
  | zero =>
    cases h with
    | none => exact .none
    | bool b => exact .bool b
    | int i t => exact .int i t
    | str x t => exact .str x t
    | bytes b t => exact .bytes b t
    | tuple hm hd => exact Bool.noConfusion (show false = true from hn)
    | list hm hd => exact Bool.noConfusion (show false = true from hn)
  | succ n ih =>
    cases h with
    | none => exact .none
    | bool b => exact .bool b
    | int i t => exact .int i t
    | str x t => exact .str x t
    | bytes b t => exact .bytes b t
    | tuple hm hd => exact .tuple (hs _ hm rfl) (DatAll.cutA ih hd (List.all_eq_true.mp hn))
    | list hm hd => exact Bool.noConfusion (show false = true from hn)
theorem DatAll.cutT {news news' : Led} (hs : ∀ p ∈ news, p.2.cls = .type "tuple" → p ∈ news') {vs : List Value} {ds : List Dat} (n : Nat) (h : DatAll news vs ds) (k : ∀ d ∈ ds, noL n d = true) : DatAll news' vs ds := DatAll.cutA (DatIn.cutT hs n) h k
theorem noL_pair (p : Str × Str) : noL 4 (pairD p) = true := rfl
theorem six {P : Nat → Prop} (h0 : P 0) (h1 : P 1) (h2 : P 2) (h3 : P 3) (h4 : P 4) (h5 : P 5) {k : Nat} (hk : k < 6) : P k :=
  match k, hk with
  | 0, _ => h0
  | 1, _ => h1
  | 2, _ => h2
  | 3, _ => h3
  | 4, _ => h4
  | 5, _ => h5
theorem noL_pd (c : Par) (p : Pk) (hk : p.k < 6) : noL 4 (c.pd p) = true := by
  have h : noL 3 (c.pseen p) = true := by
    unfold Par.pseen
    obtain ⟨n, b, k⟩ := p
    exact six (P := fun k => noL 3 (optD (seenO (c.nm n) k)) = true) rfl rfl rfl rfl rfl rfl hk
  show ([Dat.int p.n, .str (c.word p), .str (c.ptxt p), c.pseen p].all (noL 3)) = true
  simp only [List.all_cons, List.all_nil, h, noL, Bool.and_true]
theorem noL_ad (c : Par) (p : Pk) (hk : p.k < 6) : noL 4 (c.ad p) = true := by
  have h : noL 3 (c.aseen p) = true := by
    unfold Par.aseen
    obtain ⟨n, b, k⟩ := p
    exact six (P := fun k => noL 3 (seenA c.host (c.no n) k) = true) rfl rfl rfl rfl rfl rfl hk
  show ([Dat.int p.n, .str (c.word p), .str (c.atxt p), c.aseen p].all (noL 3)) = true
  simp only [List.all_cons, List.all_nil, h, noL, Bool.and_true]
theorem LD_no {w : World} {a : Ad} {vs1 vs2 gv : List Value} {n1 n2 gn : Nat} {rest : Led} : ∀ p ∈ LD w a vs1 vs2 gv n1 n2 gn rest, p.2.cls = .type "tuple" → p ∈ rest := by
  intro p hp hc
  simp only [LD, List.mem_cons] at hp
  rcases hp with rfl | rfl | rfl | rfl | rfl | rfl | rfl | hp
  · exact absurd hc (by show Value.ref 184 ≠ _; exact fun h => nomatch h)
  · exact absurd hc (by show Value.type "dict" ≠ _; simp)
  · exact absurd hc (by show Value.type "list" ≠ _; simp)
  · exact absurd hc (by show Value.ref 184 ≠ _; exact fun h => nomatch h)
  · exact absurd hc (by show Value.type "dict" ≠ _; simp)
  · exact absurd hc (by show Value.type "list" ≠ _; simp)
  · exact absurd hc (by show Value.type "list" ≠ _; simp)
  · exact hp
/-- the frame of the law within the first loop -/
noncomputable def LM1 (ad : Ad) (c : Par) (NL PL DL EL : Addr) (tw tt : Tok) (S : St) (LA BA : Addr) (tb t1 t2 : Tok) (ok ot od os : Option Value) : Str → Option Value := fun y =>
  if y = Str.ofString "shown" then os else if y = Str.ofString "due" then od else if y = Str.ofString "told" then ot else if y = Str.ofString "k" then ok else
  if y = Str.ofString "known" then some (.int S.known t2) else if y = Str.ofString "taken" then some (.int S.taken t1) else if y = Str.ofString "begun" then some (.int S.known tb) else
  if y = Str.ofString "road" then some (.ref ad.R1) else if y = Str.ofString "answers" then some (.ref ad.R2) else if y = Str.ofString "back" then some (.ref BA) else if y = Str.ofString "lane" then some (.ref LA) else
  if y = Str.ofString "got" then some (.ref ad.G) else if y = Str.ofString "kept" then some (.ref ad.RL2) else if y = Str.ofString "dress" then some (.ref EL) else if y = Str.ofString "deeds" then some (.ref DL) else
  if y = Str.ofString "plan" then some (.ref PL) else if y = Str.ofString "window" then some (.int c.w tw) else if y = Str.ofString "tag" then some (.int c.tag tt) else if y = Str.ofString "names" then some (.ref NL) else none
/-- what does not change within the loops -/
structure Fix (c : Par) (NL PL DL EL : Addr) (nv dxs exs : List Value) (dk ek : Nat) (nw : Led) : Prop where
  pl : Plan c PL NL nv nw
  dl : (DL, listOf dxs.toArray dk) ∈ nw
  el : (EL, listOf exs.toArray ek) ∈ nw
theorem Plan.mono {c : Par} {PL NL : Addr} {nv : List Value} {nw nw' : Led} (H : Plan c PL NL nv nw) (hs : ∀ p ∈ nw, p ∈ nw') : Plan c PL NL nv nw' := by
  obtain ⟨⟨tw, tt, th, n, h1⟩, ⟨k, h2⟩, h3⟩ := H
  exact ⟨⟨tw, tt, th, n, hs _ h1⟩, ⟨k, hs _ h2⟩, h3⟩
theorem Fix.mono {c : Par} {NL PL DL EL : Addr} {nv dxs exs : List Value} {dk ek : Nat} {nw nw' : Led} (H : Fix c NL PL DL EL nv dxs exs dk ek nw) (hs : ∀ p ∈ nw, p ∈ nw') : Fix c NL PL DL EL nv dxs exs dk ek nw' :=
  ⟨H.pl.mono hs, hs _ H.dl, hs _ H.el⟩
theorem Lines.mono {c : Par} {S : St} {LA BA : Addr} {lv bv : List Value} {ln bn : Nat} {nw nw' : Led} (H : Lines c S LA BA lv bv ln bn nw) (hs : ∀ p ∈ nw, p ∈ nw') : Lines c S LA BA lv bv ln bn nw' :=
  ⟨hs _ H.la, hs _ H.ba, H.dl.mono hs, H.db.mono hs, H.l1, H.l2, H.hok⟩
theorem Has.mono {c : Par} {S : St} {vs1 vs2 gv : List Value} {nw nw' : Led} (H : Has c S vs1 vs2 gv nw) (hs : ∀ p ∈ nw, p ∈ nw') : Has c S vs1 vs2 gv nw' :=
  ⟨H.d1.mono hs, H.d2.mono hs, H.g, H.l1, H.l2⟩
/-- between the turns of the first loop -/
inductive J1 (w : World) (ad : Ad) (c : Par) (NL PL DL EL : Addr) (nv dxs exs : List Value) (dk ek : Nat) (tw tt : Tok) (dn en : List Nat) (i : Nat) (m : Str → Option Value) (nw : Led) : Prop
  | intro0 (LA BA : Addr) (lv bv : List Value) (ln bn : Nat) (vs1 vs2 gv : List Value) (n1 n2 gn : Nat) (tb t1 t2 : Tok) (ok ot od os : Option Value) (rest : Led) : m = LM1 ad c NL PL DL EL tw tt (runN c dn en i) LA BA tb t1 t2 ok ot od os → nw = LD w ad vs1 vs2 gv n1 n2 gn rest → AdOk ad rest → Has c (runN c dn en i) vs1 vs2 gv rest →
    Lines c (runN c dn en i) LA BA lv bv ln bn rest → Fix c NL PL DL EL nv dxs exs dk ek rest → J1 w ad c NL PL DL EL nv dxs exs dk ek tw tt dn en i m nw
theorem ext_names {m m' : Str → Option Value} (names : List Str) (h : ∀ x ∈ names, m x = m' x) (h1 : ∀ y, y ∉ names → m y = none) (h2 : ∀ y, y ∉ names → m' y = none) : m = m' := by
  funext y
  by_cases hy : y ∈ names
  · exact h y hy
  · rw [h1 y hy, h2 y hy]
/-- the second loop's end of a turn: an object that is behind all old ones lies in the new ledger -/
theorem mem_new {nw tl : Led} {a : Addr} {o o' : Obj} (ha : After nw tl) (hm : (a, o) ∈ nw ++ tl) (ht : (a, o') ∈ tl) : (a, o) ∈ tl := by
  rcases List.mem_append.mp hm with h | h
  · exact absurd (show (a, o').1 = (a, o).1 from rfl) (ha _ h _ ht)
  · exact h
theorem mem_old {h₀ h : Heap} {L : Addr} {news : Led} {a : Addr} {o o' : Obj} (N : News h₀ L h news) (hm : (a, o) ∈ news) (hm' : (a, o') ∈ news) : (a, o) = (a, o') := by
  have e1 := (N _ hm).1
  have e2 := (N _ hm').1
  simp only at e1 e2
  rw [e1] at e2
  rw [Option.some.inj e2]
theorem cut_sub1 {w : World} {a : Ad} {vs1 vs2 gv : List Value} {n1 n2 gn : Nat} {rest tl tl2 : Led} {q : Addr × Obj} (hq : q.2.cls ≠ .type "tuple") : ∀ p ∈ LD w a vs1 vs2 gv n1 n2 gn ((q :: rest) ++ tl) ++ tl2, p.2.cls = .type "tuple" → p ∈ rest ++ tl ++ tl2 := by
  intro p hp hc
  rcases List.mem_append.mp hp with hp | hp
  · have h := LD_no p hp hc
    rcases List.mem_cons.mp (show p ∈ q :: (rest ++ tl) from h) with rfl | h
    · exact absurd hc hq
    · exact List.mem_append_left _ h
  · exact List.mem_append_right _ hp
theorem cut_sub0 {rest tl tl2 : Led} {q : Addr × Obj} (hq : q.2.cls ≠ .type "tuple") : ∀ p ∈ (q :: rest) ++ tl, p.2.cls = .type "tuple" → p ∈ rest ++ tl ++ tl2 := by
  intro p hp hc
  rcases List.mem_cons.mp (show p ∈ q :: (rest ++ tl) from hp) with rfl | h
  · exact absurd hc hq
  · exact List.mem_append_left _ h
theorem sub_mid {hd rest tl tl2 : Led} {q : Addr × Obj} : ∀ p ∈ [q] ++ (hd ++ (rest ++ tl ++ tl2)), p ∈ (hd ++ ((q :: rest) ++ tl)) ++ tl2 := by
  intro p hp
  simp only [List.mem_append, List.mem_cons, List.not_mem_nil, or_false] at hp ⊢
  rcases hp with h | h | (h | h) | h
  · exact .inl (.inr (.inl (.inl h)))
  · exact .inl (.inl h)
  · exact .inl (.inr (.inl (.inr h)))
  · exact .inl (.inr (.inr h))
  · exact .inr h
theorem noLs {f : Pk → Dat} {l : List Pk} (h : ∀ p ∈ l, noL 4 (f p) = true) : ∀ d ∈ l.map f, noL 4 d = true := by
  intro d hd
  obtain ⟨p, hp, rfl⟩ := List.mem_map.mp hd
  exact h p hp
theorem noLp {l : List (Str × Str)} : ∀ d ∈ l.map pairD, noL 4 d = true := by
  intro d hd
  obtain ⟨p, _, rfl⟩ := List.mem_map.mp hd
  rfl
/-- what is left behind a turn -/
theorem turn1_end {w : World} {ad : Ad} {c : Par} {NL PL DL EL : Addr} {nv dxs exs : List Value} {dk ek : Nat} {tw tt : Tok} {dn en : List Nat} {i : Nat} {rest tl tl2 : Led} {I : Addr} {oI : Obj} {S S' : St} {LA BA LA' BA' : Addr} {lv bv lv' bv' : List Value} {ln bn ln' bn' : Nat} {vs1 vs2 gv vs1' vs2' gv' : List Value} {n1 n2 gn n1' n2' gn' : Nat} {h₀ h : Heap} {L : Addr} {m : Str → Option Value}
    {tb t1 t2 : Tok} {ok ot od os : Option Value} (C : ParOk c) (hi : i < 100) (hS' : runN c dn en (i + 1) = S') (hcI : oI.cls ≠ .type "tuple") (hoI : ∀ p ∈ LD w ad vs1 vs2 gv n1 n2 gn rest, p.1 ≠ I) (O : AdOk ad rest) (G : Lines c S LA BA lv bv ln bn rest) (X : Fix c NL PL DL EL nv dxs exs dk ek rest)
    (a1 : After (LD w ad vs1 vs2 gv n1 n2 gn ((I, oI) :: rest)) tl) (d1 : DatAll (((I, oI) :: rest) ++ tl) vs1' ((S'.lane.map c.pp).map pairD)) (d2 : DatAll (((I, oI) :: rest) ++ tl) vs2' ((S'.back.map c.ap).map pairD)) (g : StrsAre gv' (c.ns.take S'.taken))
    (a2 : After (LD w ad vs1' vs2' gv' n1' n2' gn' (((I, oI) :: rest) ++ tl)) tl2) (mL : (LA', listOf lv'.toArray ln') ∈ LD w ad vs1' vs2' gv' n1' n2' gn' (((I, oI) :: rest) ++ tl) ++ tl2) (dL : DatAll (LD w ad vs1' vs2' gv' n1' n2' gn' (((I, oI) :: rest) ++ tl) ++ tl2) lv' (S'.lane.map c.pd))
    (mB : (BA', listOf bv'.toArray bn') ∈ LD w ad vs1' vs2' gv' n1' n2' gn' (((I, oI) :: rest) ++ tl) ++ tl2) (dB : DatAll (LD w ad vs1' vs2' gv' n1' n2' gn' (((I, oI) :: rest) ++ tl) ++ tl2) bv' (S'.back.map c.ad))
    (eL : LA' = LA ∨ ∃ o, (LA', o) ∈ tl2) (eB : BA' = BA ∨ ∃ o, (BA', o) ∈ tl2) (N : News h₀ L h (LD w ad vs1' vs2' gv' n1' n2' gn' (((I, oI) :: rest) ++ tl) ++ tl2)) (hm : m = LM1 ad c NL PL DL EL tw tt S' LA' BA' tb t1 t2 ok ot od os) :
    ∃ news₂, News h₀ L h ([(I, oI)] ++ news₂) ∧ (∀ q ∈ [(I, oI)], ∀ p ∈ news₂, p.1 ≠ q.1) ∧ J1 w ad c NL PL DL EL nv dxs exs dk ek tw tt dn en (i + 1) m news₂ := by
  have I' : Inv c S' := hS' ▸ runN_inv C dn en (i + 1)
  have hlen := runN_len (c := c) (ds := dn) (es := en) (i + 1)
  rw [hS'] at hlen
  have nI : ∀ p ∈ tl, p.1 ≠ I := fun p hp => a1 (I, oI) (.tail _ (.tail _ (.tail _ (.tail _ (.tail _ (.tail _ (.tail _ (.head _)))))))) p hp
  have nI2 : ∀ p ∈ tl2, p.1 ≠ I := fun p hp => a2 (I, oI) (.tail _ (.tail _ (.tail _ (.tail _ (.tail _ (.tail _ (.tail _ (.head _)))))))) p hp
  have inR : ∀ p ∈ rest, p ∈ rest ++ tl ++ tl2 := fun p hp => List.mem_append_left _ (List.mem_append_left _ hp)
  have inB : ∀ p ∈ rest, p ∈ LD w ad vs1' vs2' gv' n1' n2' gn' (((I, oI) :: rest) ++ tl) ++ tl2 := fun p hp => List.mem_append_left _ (.tail _ (.tail _ (.tail _ (.tail _ (.tail _ (.tail _ (.tail _ (List.mem_append_left _ (.tail _ hp)))))))))
  subst hS'
  refine ⟨LD w ad vs1' vs2' gv' n1' n2' gn' (rest ++ tl ++ tl2), News.sub N (fun p hp => sub_mid (hd := [_, _, _, _, _, _, _]) p hp), ?_, LA', BA', lv', bv', ln', bn', vs1', vs2', gv', n1', n2', gn', tb, t1, t2, ok, ot, od, os, rest ++ tl ++ tl2, hm, rfl, ?_, ?_, ?_, X.mono inR⟩
  · intro q hq p hp
    rw [List.mem_singleton.mp hq]
    show p.1 ≠ I
    rcases List.mem_append.mp (show p ∈ [_, _, _, _, _, _, _] ++ (rest ++ tl ++ tl2) from hp) with hp | hp
    · simp only [List.mem_cons, List.not_mem_nil, or_false] at hp
      rcases hp with rfl | rfl | rfl | rfl | rfl | rfl | rfl
      · exact hoI (ad.R1, _) (.head _)
      · exact hoI (ad.RD1, _) (.tail _ (.head _))
      · exact hoI (ad.RL1, listOf vs1.toArray n1) (.tail _ (.tail _ (.head _)))
      · exact hoI (ad.R2, _) (.tail _ (.tail _ (.tail _ (.head _))))
      · exact hoI (ad.RD2, _) (.tail _ (.tail _ (.tail _ (.tail _ (.head _)))))
      · exact hoI (ad.RL2, listOf vs2.toArray n2) (.tail _ (.tail _ (.tail _ (.tail _ (.tail _ (.head _))))))
      · exact hoI (ad.G, listOf gv.toArray gn) (.tail _ (.tail _ (.tail _ (.tail _ (.tail _ (.tail _ (.head _)))))))
    · rcases List.mem_append.mp hp with hp | hp
      · rcases List.mem_append.mp hp with hp | hp
        · exact hoI p (.tail _ (.tail _ (.tail _ (.tail _ (.tail _ (.tail _ (.tail _ hp)))))))
        · exact nI p hp
      · exact nI2 p hp
  · refine ⟨O.r1, O.r2, O.g, fun p hp => ?_⟩
    rcases List.mem_append.mp hp with hp | hp
    · rcases List.mem_append.mp hp with hp | hp
      · exact O.rest p hp
      · exact ⟨a1 (ad.RL1, _) (.tail _ (.tail _ (.head _))) p hp, a1 (ad.RL2, _) (.tail _ (.tail _ (.tail _ (.tail _ (.tail _ (.head _)))))) p hp, a1 (ad.G, _) (.tail _ (.tail _ (.tail _ (.tail _ (.tail _ (.tail _ (.head _))))))) p hp⟩
    · exact ⟨a2 (ad.RL1, _) (.tail _ (.tail _ (.head _))) p hp, a2 (ad.RL2, _) (.tail _ (.tail _ (.tail _ (.tail _ (.tail _ (.head _)))))) p hp, a2 (ad.G, _) (.tail _ (.tail _ (.tail _ (.tail _ (.tail _ (.tail _ (.head _))))))) p hp⟩
  · exact ⟨DatAll.cutT (cut_sub0 hcI) 4 d1 noLp, DatAll.cutT (cut_sub0 hcI) 4 d2 noLp, g, by omega, by omega⟩
  · refine ⟨?_, ?_, DatAll.cutT (cut_sub1 hcI) 4 dL (noLs fun p hp => noL_pd c p (I'.l4 p hp).2.1), DatAll.cutT (cut_sub1 hcI) 4 dB (noLs fun p hp => noL_ad c p (I'.b4 p hp).1), by omega, by omega, G.hok⟩
    · rcases eL with rfl | ⟨o, ho⟩
      · rw [mem_old N mL (inB _ G.la)]
        exact inR _ G.la
      · exact List.mem_append_right _ (mem_new a2 mL ho)
    · rcases eB with rfl | ⟨o, ho⟩
      · rw [mem_old N mB (inB _ G.ba)]
        exact inR _ G.ba
      · exact List.mem_append_right _ (mem_new a2 mB ho)
theorem lm1_none {ad : Ad} {c : Par} {NL PL DL EL : Addr} {tw tt : Tok} {S : St} {LA BA : Addr} {tb t1 t2 : Tok} {ok ot od os : Option Value} : ∀ y, y ∉ ([Str.ofString "shown", Str.ofString "due", Str.ofString "told", Str.ofString "k", Str.ofString "known", Str.ofString "taken", Str.ofString "begun", Str.ofString "road", Str.ofString "answers", Str.ofString "back", Str.ofString "lane", Str.ofString "got", Str.ofString "kept", Str.ofString "dress", Str.ofString "deeds", Str.ofString "plan", Str.ofString "window", Str.ofString "tag", Str.ofString "names"] : List Str) → LM1 ad c NL PL DL EL tw tt S LA BA tb t1 t2 ok ot od os y = none := by
  intro y hy
  simp only [List.mem_cons, List.not_mem_nil, or_false, not_or] at hy
  unfold LM1
  rw [if_neg hy.1, if_neg hy.2.1, if_neg hy.2.2.1, if_neg hy.2.2.2.1, if_neg hy.2.2.2.2.1, if_neg hy.2.2.2.2.2.1, if_neg hy.2.2.2.2.2.2.1, if_neg hy.2.2.2.2.2.2.2.1, if_neg hy.2.2.2.2.2.2.2.2.1, if_neg hy.2.2.2.2.2.2.2.2.2.1, if_neg hy.2.2.2.2.2.2.2.2.2.2.1, if_neg hy.2.2.2.2.2.2.2.2.2.2.2.1, if_neg hy.2.2.2.2.2.2.2.2.2.2.2.2.1, if_neg hy.2.2.2.2.2.2.2.2.2.2.2.2.2.1, if_neg hy.2.2.2.2.2.2.2.2.2.2.2.2.2.2.1, if_neg hy.2.2.2.2.2.2.2.2.2.2.2.2.2.2.2.1, if_neg hy.2.2.2.2.2.2.2.2.2.2.2.2.2.2.2.2.1, if_neg hy.2.2.2.2.2.2.2.2.2.2.2.2.2.2.2.2.2.1, if_neg hy.2.2.2.2.2.2.2.2.2.2.2.2.2.2.2.2.2.2]
theorem lm1_upd {ad : Ad} {c : Par} {NL PL DL EL : Addr} {tw tt : Tok} {S S' : St} {LA BA LA' BA' : Addr} {tb t1 t2 tkx u1 u2 : Tok} {ok ot od os ok' ot' od' os' : Option Value} :
    (fun y => if y = Str.ofString "shown" then os' else if y = Str.ofString "due" then od' else if y = Str.ofString "known" then some (.int S'.known u2) else if y = Str.ofString "taken" then some (.int S'.taken u1) else if y = Str.ofString "back" then some (.ref BA') else if y = Str.ofString "lane" then some (.ref LA') else if y = Str.ofString "told" then ot' else if y = Str.ofString "begun" then some (.int S'.known tkx) else if y = Str.ofString "k" then ok' else LM1 ad c NL PL DL EL tw tt S LA BA tb t1 t2 ok ot od os y) = LM1 ad c NL PL DL EL tw tt S' LA' BA' tkx u1 u2 ok' ot' od' os' := by
  refine ext_names [Str.ofString "shown", Str.ofString "due", Str.ofString "told", Str.ofString "k", Str.ofString "known", Str.ofString "taken", Str.ofString "begun", Str.ofString "road", Str.ofString "answers", Str.ofString "back", Str.ofString "lane", Str.ofString "got", Str.ofString "kept", Str.ofString "dress", Str.ofString "deeds", Str.ofString "plan", Str.ofString "window", Str.ofString "tag", Str.ofString "names"] (List.forall_mem_cons.mpr ⟨rfl, List.forall_mem_cons.mpr ⟨rfl, List.forall_mem_cons.mpr ⟨rfl, List.forall_mem_cons.mpr ⟨rfl, List.forall_mem_cons.mpr ⟨rfl, List.forall_mem_cons.mpr ⟨rfl, List.forall_mem_cons.mpr ⟨rfl, List.forall_mem_cons.mpr ⟨rfl, List.forall_mem_cons.mpr ⟨rfl, List.forall_mem_cons.mpr ⟨rfl, List.forall_mem_cons.mpr ⟨rfl, List.forall_mem_cons.mpr ⟨rfl, List.forall_mem_cons.mpr ⟨rfl, List.forall_mem_cons.mpr ⟨rfl, List.forall_mem_cons.mpr ⟨rfl, List.forall_mem_cons.mpr ⟨rfl, List.forall_mem_cons.mpr ⟨rfl, List.forall_mem_cons.mpr ⟨rfl, List.forall_mem_cons.mpr ⟨rfl, fun _ h => absurd h List.not_mem_nil⟩⟩⟩⟩⟩⟩⟩⟩⟩⟩⟩⟩⟩⟩⟩⟩⟩⟩⟩) (fun y hy => ?_) lm1_none
  have e := lm1_none (ad := ad) (c := c) (NL := NL) (PL := PL) (DL := DL) (EL := EL) (tw := tw) (tt := tt) (S := S) (LA := LA) (BA := BA) (tb := tb) (t1 := t1) (t2 := t2) (ok := ok) (ot := ot) (od := od) (os := os) y hy
  simp only [List.mem_cons, List.not_mem_nil, or_false, not_or] at hy
  show (if _ then _ else _) = none
  rw [if_neg hy.1, if_neg hy.2.1, if_neg hy.2.2.2.2.1, if_neg hy.2.2.2.2.2.1, if_neg hy.2.2.2.2.2.2.2.2.2.1, if_neg hy.2.2.2.2.2.2.2.2.2.2.1, if_neg hy.2.2.1, if_neg hy.2.2.2.2.2.2.1, if_neg hy.2.2.2.1, e]
end
section -- MLaw4
open LCg LCp LCt
/-- the frame within the second loop, over what the first has left -/
noncomputable def LM2 (M₀ : Str → Option Value) (k : Nat) (tb : Tok) (od : Option Value) : Str → Option Value := fun y => if y = Str.ofString "begun" then some (.int k tb) else if y = Str.ofString "deed" then od else M₀ y
theorem lm2_upd {M₀ : Str → Option Value} {k k' : Nat} {tb tb' : Tok} {od v : Option Value} : (fun y => if y = Str.ofString "begun" then some (.int (k' : Int) tb') else if y = Str.ofString "deed" then v else LM2 M₀ k tb od y) = LM2 M₀ k' tb' v := by
  funext y
  unfold LM2
  by_cases h1 : y = Str.ofString "begun"
  · simp only [if_pos h1]
  · by_cases h2 : y = Str.ofString "deed"
    · simp only [if_neg h1, if_pos h2]
    · simp only [if_neg h1, if_neg h2]
noncomputable abbrev lstO (xs : List Value) (k : Nat) : Obj := { cls := .type "list", data := .seq xs.toArray k }
/-- between the turns of the second loop -/
inductive J2 (w : World) (ad : Ad) (c : Par) (NL PL l : Addr) (nv : List Value) (S₀ : St) (M₀ : Str → Option Value) (i : Nat) (m : Str → Option Value) (nw : Led) : Prop
  | intro0 (vs1 vs2 gv : List Value) (n1 n2 gn : Nat) (tb : Tok) (od : Option Value) (rest : Led) : m = LM2 M₀ (runP c S₀ i).known tb od → nw = LD w ad vs1 vs2 gv n1 n2 gn rest → AdOk ad rest → Has c (runP c S₀ i) vs1 vs2 gv rest → Plan c PL NL nv rest → (∀ p ∈ nw, p.1 ≠ l) → J2 w ad c NL PL l nv S₀ M₀ i m nw
theorem five_at : ∀ i : Fin 20, ((List.replicate 4 [0, 1, 2, 3, 4]).flatten : List Nat)[i.val]? = some (i.val % 5) := by decide
theorem five_len : ((List.replicate 4 [0, 1, 2, 3, 4]).flatten : List Nat).length = 20 := by decide
theorem nats_at {vs : List Value} {ns : List Nat} (hI : NatsAre vs ns) {i d : Nat} {v : Value} (hv : vs.toArray[i]? = some v) (hd : ns[i]? = some d) : ∃ t, v = .int (d : Int) t := by
  obtain ⟨x, t, rfl, hx⟩ := IntsAre.at hI i v (by simpa using hv)
  rw [List.getElem?_map, hd] at hx
  cases hx
  exact ⟨t, rfl⟩
theorem cut_sub2 {rest tl : Led} {q r : Addr × Obj} (hq : q.2.cls ≠ .type "tuple") (hr : r.2.cls ≠ .type "tuple") : ∀ p ∈ (q :: r :: rest) ++ tl, p.2.cls = .type "tuple" → p ∈ rest ++ tl := by
  intro p hp hc
  rcases List.mem_cons.mp (show p ∈ q :: r :: (rest ++ tl) from hp) with rfl | h
  · exact absurd hc hq
  · rcases List.mem_cons.mp h with rfl | h
    · exact absurd hc hr
    · exact h
theorem sub_mid2 {hd rest tl : Led} {q r : Addr × Obj} : ∀ p ∈ [q, r] ++ (hd ++ (rest ++ tl)), p ∈ hd ++ ((q :: r :: rest) ++ tl) := by
  intro p hp
  simp only [List.mem_append, List.mem_cons, List.not_mem_nil, or_false] at hp ⊢
  rcases hp with (h | h) | h | h | h
  · exact .inr (.inl (.inl h))
  · exact .inr (.inl (.inr (.inl h)))
  · exact .inl h
  · exact .inr (.inl (.inr (.inr h)))
  · exact .inr (.inr h)
theorem off_LD {w : World} {ad : Ad} {vs1 vs2 gv vs1' vs2' gv' : List Value} {n1 n2 gn n1' n2' gn' : Nat} {rest rest' : Led} {I : Addr} (h : ∀ p ∈ LD w ad vs1 vs2 gv n1 n2 gn rest, p.1 ≠ I) (h' : ∀ p ∈ rest', p.1 ≠ I) : ∀ p ∈ LD w ad vs1' vs2' gv' n1' n2' gn' rest', p.1 ≠ I := by
  intro p hp
  rcases List.mem_append.mp (show p ∈ [_, _, _, _, _, _, _] ++ rest' from hp) with hp | hp
  · simp only [List.mem_cons, List.not_mem_nil, or_false] at hp
    rcases hp with rfl | rfl | rfl | rfl | rfl | rfl | rfl
    · exact h (ad.R1, _) (.head _)
    · exact h (ad.RD1, _) (.tail _ (.head _))
    · exact h (ad.RL1, listOf vs1.toArray n1) (.tail _ (.tail _ (.head _)))
    · exact h (ad.R2, _) (.tail _ (.tail _ (.tail _ (.head _))))
    · exact h (ad.RD2, _) (.tail _ (.tail _ (.tail _ (.tail _ (.head _)))))
    · exact h (ad.RL2, listOf vs2.toArray n2) (.tail _ (.tail _ (.tail _ (.tail _ (.tail _ (.head _))))))
    · exact h (ad.G, listOf gv.toArray gn) (.tail _ (.tail _ (.tail _ (.tail _ (.tail _ (.tail _ (.head _)))))))
  · exact h' p hp
theorem turn2_end {w : World} {ad : Ad} {c : Par} {NL PL l : Addr} {nv xs : List Value} {kl : Nat} {M₀ : Str → Option Value} {S₀ : St} {i : Nat} {rest tl : Led} {I : Addr} {oI : Obj} {vs1 vs2 gv vs1' vs2' gv' : List Value} {n1 n2 gn n1' n2' gn' : Nat} {h₀ h : Heap} {L : Addr} {m : Str → Option Value} {tb : Tok} {od : Option Value}
    (C : ParOk c) (I0 : Inv c S₀) (hi : i < 20) (hz : S₀.lane.length < 100 ∧ S₀.back.length < 100) (hcI : oI.cls ≠ .type "tuple") (hoI : ∀ p ∈ LD w ad vs1 vs2 gv n1 n2 gn rest, p.1 ≠ I) (hol : ∀ p ∈ LD w ad vs1 vs2 gv n1 n2 gn rest, p.1 ≠ l) (O : AdOk ad rest) (PP : Plan c PL NL nv rest)
    (a1 : After (LD w ad vs1 vs2 gv n1 n2 gn ((I, oI) :: (l, lstO xs kl) :: rest)) tl) (d1 : DatAll (((I, oI) :: (l, lstO xs kl) :: rest) ++ tl) vs1' (((runP c S₀ (i + 1)).lane.map c.pp).map pairD)) (d2 : DatAll (((I, oI) :: (l, lstO xs kl) :: rest) ++ tl) vs2' (((runP c S₀ (i + 1)).back.map c.ap).map pairD)) (g : StrsAre gv' (c.ns.take (runP c S₀ (i + 1)).taken))
    (N : News h₀ L h (LD w ad vs1' vs2' gv' n1' n2' gn' (((I, oI) :: (l, lstO xs kl) :: rest) ++ tl))) (hm : m = LM2 M₀ (runP c S₀ (i + 1)).known tb od) :
    ∃ news₂, News h₀ L h ([(I, oI), (l, lstO xs kl)] ++ news₂) ∧ (∀ q ∈ [(I, oI), (l, lstO xs kl)], ∀ p ∈ news₂, p.1 ≠ q.1) ∧ J2 w ad c NL PL l nv S₀ M₀ (i + 1) m news₂ := by
  have hlen := runP_len (c := c) (S := S₀) (i + 1)
  have nI : ∀ p ∈ tl, p.1 ≠ I := fun p hp => a1 (I, oI) (.tail _ (.tail _ (.tail _ (.tail _ (.tail _ (.tail _ (.tail _ (.head _)))))))) p hp
  have nl : ∀ p ∈ tl, p.1 ≠ l := fun p hp => a1 (l, lstO xs kl) (.tail _ (.tail _ (.tail _ (.tail _ (.tail _ (.tail _ (.tail _ (.tail _ (.head _))))))))) p hp
  have hI := off_LD (vs1' := vs1') (vs2' := vs2') (gv' := gv') (n1' := n1') (n2' := n2') (gn' := gn') (rest' := rest ++ tl) hoI (fun p hp => (List.mem_append.mp hp).elim (fun h => hoI p (.tail _ (.tail _ (.tail _ (.tail _ (.tail _ (.tail _ (.tail _ h)))))))) (nI p))
  have hl := off_LD (vs1' := vs1') (vs2' := vs2') (gv' := gv') (n1' := n1') (n2' := n2') (gn' := gn') (rest' := rest ++ tl) hol (fun p hp => (List.mem_append.mp hp).elim (fun h => hol p (.tail _ (.tail _ (.tail _ (.tail _ (.tail _ (.tail _ (.tail _ h)))))))) (nl p))
  have hL : (lstO xs kl).cls ≠ .type "tuple" := by show Value.type "list" ≠ _; simp
  refine ⟨LD w ad vs1' vs2' gv' n1' n2' gn' (rest ++ tl), News.sub N (fun p hp => sub_mid2 (hd := [_, _, _, _, _, _, _]) p hp), ?_, vs1', vs2', gv', n1', n2', gn', tb, od, rest ++ tl, hm, rfl, ?_, ⟨DatAll.cutT (cut_sub2 hcI hL) 4 d1 noLp, DatAll.cutT (cut_sub2 hcI hL) 4 d2 noLp, g, by omega, by omega⟩, PP.mono fun p hp => List.mem_append_left _ hp, hl⟩
  · intro q hq p hp
    rcases List.mem_cons.mp hq with rfl | hq
    · exact hI p hp
    · rw [List.mem_singleton.mp hq]
      exact hl p hp
  · refine ⟨O.r1, O.r2, O.g, fun p hp => ?_⟩
    rcases List.mem_append.mp hp with hp | hp
    · exact O.rest p hp
    · exact ⟨a1 (ad.RL1, listOf vs1.toArray n1) (.tail _ (.tail _ (.head _))) p hp, a1 (ad.RL2, listOf vs2.toArray n2) (.tail _ (.tail _ (.tail _ (.tail _ (.tail _ (.head _)))))) p hp, a1 (ad.G, listOf gv.toArray gn) (.tail _ (.tail _ (.tail _ (.tail _ (.tail _ (.tail _ (.head _))))))) p hp⟩
theorem m_lenN {prog : Program} {w : World} {A : Around} {E : Value → Shared → Prop} {s : Shared} {h₀ : Heap} {L : Addr} {news : Led} {K : Addr} {vs : List Value} {ns : List Nat} {n k : Nat} {Q : Value → Shared → Prop} (N : News h₀ L s.heap news) (hm : (K, listOf vs.toArray n) ∈ news) (hI : NatsAre vs ns) (hk : ns.length = k) (hz : k < 1000)
    (h : Q (.int (k : Int) (s.toks + 1)) { s with toks := s.toks + 1 + 1 }) : wpAny (model prog w) A (call (.builtin "len") [.ref K]) Q E s := by
  have hl : vs.length = k := by have := hI.length; rw [List.length_map] at this; omega
  refine m_len N hm (by omega) ?_
  rw [hl]
  exact h
end
section -- MCut
section
variable {prog : Program} {w : World} {A : Around} {E : Value → Shared → Prop} {s : Shared} {h₀ : Heap} {L : Addr} {m : Str → Option Value} {news : Led} {a b c d : Value} {u v : Tok}
theorem applied13 {sl : Addr} {Q : Int × Int × Nat → Shared → Prop} (hs : s.heap.IsSliceOf sl (.int 1 u) (.int 3 v) .none) (h : Q (1, 1, 2) s) : wpAny (model prog w) A (Builtin.Slice.sliceApplied (.ref sl) (pure (4 : Int))) Q E s := by
  obtain ⟨o, ho, _, hd⟩ := id hs
  unfold Builtin.Slice.sliceApplied Builtin.Slice.sliceFields
  refine wpAny_bind (wpAny_bind (wpAny_field ho hd (x := .int 1 u) rfl (wpAny_bind (wpAny_field ho hd (x := .int 3 v) rfl (wpAny_bind (wpAny_field ho hd (x := .none) rfl (wpAny_pure ?_)))))))
  refine wpAny_bind (slicePart_none ?_)
  show wpAny _ _ (if ((1 : Int) == 0) = true then _ else _) _ _ s
  rw [if_neg (by decide)]
  refine wpAny_bind (slicePart_int (wpAny_bind (slicePart_int (wpAny_bind (wpAny_pure ?_)))))
  exact wpAny_pure h
theorem get13 {t sl : Addr} {Q : Value → Shared → Prop} (ht : IsTup s.heap t #[a, b, c, d]) (hs : s.heap.IsSliceOf sl (.int 1 u) (.int 3 v) .none)
    (h : Q (.ref s.heap.objs.size) { s with heap := s.heap.push { cls := .type "tuple", data := .seq #[b, c] } }) : wpAny (model prog w) A (getItem (.ref t) (.ref sl)) Q E s := by
  have hdrop : sizeOk (.seq #[b, c]) := by show 2 ≤ sizeLine; decide
  obtain ⟨os, hos, hcs, hds⟩ := id hs
  have hTs : s.TypeIs (.ref sl) "slice" := ⟨os, hos, hcs⟩
  unfold getItem
  try with_reducible refine wpAny_holding ?_
  first | refine wpAny_bind (wpAny_pure ?_) | skip
  refine wpAny_bind (wpAny_sequenceKey ht.typeIs (by decide) ?_)
  refine wpAny_bind (wpAny_callSpecial?_slot (name := Str.ofString "__getitem__") ht.typeIs slot_tuple_getitem
    (wpAny_call_entry slot_tuple_getitem ht.typeIs entry_tuple_getitem ?_ (args_tuple_getitem _ _)))
  show wpAny _ _ (Builtin.Tuple.tupleItemsOf (.ref t) >>= _) _ _ s
  refine wpAny_bind (tupleItemsOf_ ht ?_)
  refine wpAny_bind (wpAny_typeOf hTs ?_)
  rw [if_pos (by decide)]
  refine wpAny_bind (applied13 hs ?_)
  show wpAny _ _ (if ((1 : Int) == 0 && (1 : Int) == 1 && (2 : Nat) == 4) = true then _ else _) _ _ s
  rw [if_neg (by decide)]
  show wpAny _ _ (Builtin.Tuple.tupleExact #[b, c] >>= _) _ _ s
  first
    | exact wpAny_bind (m := Builtin.Tuple.tupleExact _) (wpAny_newObj_type (wpAny_pure ⟨_, rfl, wpAny_pure h⟩) hdrop)
    | exact wpAny_bind (m := Builtin.Tuple.tupleExact _) (wpAny_newObj_type (wpAny_bind (wpAny_pure (wpAny_pure ⟨_, rfl, wpAny_pure h⟩))) hdrop)
    | exact wpAny_bind (wpAny_bind (m := Builtin.Tuple.tupleExact _) (wpAny_newObj_type (wpAny_pure (wpAny_pure ⟨_, rfl, wpAny_pure h⟩)) hdrop))
    | exact wpAny_bind (wpAny_bind (m := Builtin.Tuple.tupleExact _) (wpAny_newObj_type (wpAny_pure ⟨_, rfl, wpAny_pure h⟩) hdrop))
/-- the middle two of four -/
theorem m_cut13 {value slice : Expr} {t : Addr} {n : Nat} {Q : Value → Shared → Prop} (F : Fr h₀ L s.heap m) (N : News h₀ L s.heap news) (hm : (t, ({ cls := .type "tuple", data := .seq #[a, b, c, d] n } : Obj)) ∈ news)
    (h : ∀ T h', Fr h₀ L h' m → News h₀ L h' ((T, { cls := .type "tuple", data := .seq #[b, c] }) :: news) → (∀ p ∈ news, p.1 < T) → Q (.ref T) { s with heap := h' })
    (hs : subscripted slice false (.ref t) (.ref s.heap.objs.size) = operate [.ref s.heap.objs.size, .ref t] (getItem (.ref t) (.ref s.heap.objs.size)) := by with_unfolding_all rfl)
    (hg : ∀ r, letTemporaryGo value (.ref t) r = pure () := by intro _; with_unfolding_all rfl) :
    wpAny (model prog w) A (subscriptTail value slice (.ref t) (.ref s.heap.objs.size)) Q E { s with heap := s.heap.push { cls := .type "slice", data := .fields #[.int 1 u, .int 3 v, .none] } } := by
  have ht : IsTup s.heap t #[a, b, c, d] := ⟨_, (N _ hm).1, rfl, n, rfl⟩
  have ht' : IsTup (s.heap.push { cls := .type "slice", data := .fields #[.int 1 u, .int 3 v, .none] }) t #[a, b, c, d] := ht.keeps fun _ _ e => Heap.get?_push_of_some _ e
  refine subscriptTail_ops (s := { s with heap := s.heap.push { cls := .type "slice", data := .fields #[.int 1 u, .int 3 v, .none] } }) ht'.typeIs slot_tuple_getitem.lookup
    (get13 ht' (Heap.IsSliceOf.new ..) ?_) hs hg
  have N1 := News.push (F.push { cls := .type "slice", data := .fields #[.int 1 u, .int 3 v, .none] }) (N.grown fun _ _ e => Heap.get?_push_of_some _ e) { cls := .type "tuple", data := .seq #[b, c] }
  rw [Heap.size_push] at N1
  show Q (.ref (s.heap.push _).objs.size) _
  rw [Heap.size_push]
  exact h _ _ ((F.push _).push _) N1 fun p hp => Nat.lt_succ_of_lt (Heap.lt_size (N p hp).1)
end
end
section -- MLawT1
set_option maxHeartbeats 4000000 in
theorem turn1 {w : World} {mean : ExcName → Option Value} {mg mb : Str → Option Value} {ad : Ad} {c : Par} {NL PL DL EL : Addr} {nv dxs exs : List Value} {dk ek : Nat} {tw tt : Tok} {dn en : List Nat} {fa : Addr} {cd : Value} {h₀ h : Heap} {L I : Addr} {oI : Obj} {Q : Flow → Shared → Prop} {E : Value → Shared → Prop} {s : Shared} {i : Nat} {t : Tok} {tk : Nat} {m₁ : Str → Option Value} {nw : Led}
    (C : ParOk c) (hdn : NatsAre dxs dn) (hen : NatsAre exs en) (hd5 : ∀ d ∈ dn, d < 5) (he24 : ∀ e ∈ en, e < 24) (hl1 : dn.length ≤ 26) (hl2 : dn.length ≤ en.length) (hz2 : en.length < 1000)
    (BB : Below callerA h₀ [] h₀) (X : (P.heap_1 w.params).In h₀) (T : Top P.view_1 LO mean mg mb h₀)
    (hi : i < dn.length) (hcI : oI.cls ≠ .type "tuple") (hJ : J1 w ad c NL PL DL EL nv dxs exs dk ek tw tt dn en i m₁ nw) (hoI : ∀ p ∈ nw, p.1 ≠ I)
    (F : Fr h₀ L h (fun y => if y = Str.ofString "k" then some (.int (i : Int) t) else m₁ y)) (N : News h₀ L h ((I, oI) :: nw)) :
    wpAny (model PySem.Challenge.rw_yh0023_01.row.prog w) (callerA.deeper (envOfC (Str.ofString "law") lawAst.1.1 L fa cd)) (execs loopAst1.1 (envOfC (Str.ofString "law") lawAst.1.1 L fa cd))
      (TurnJ h₀ L [(I, oI)] { s with heap := h, toks := tk } (J1 w ad c NL PL DL EL nv dxs exs dk ek tw tt dn en (i + 1)) Q) E { s with heap := h, toks := tk } := by
  k_with_none
  k_with "m depth" => (first | exact dep_up (by with_reducible assumption) (by decide) | ((try simp only [depth_mark, depth_under_make, depth_under_kw, depth_in1, depth_deeper, depth_caller] at *); (try dsimp only [ktrTop] at *); omega))
  k_with "m units" => (first | exact uni_up (by with_reducible assumption) (by decide) | ((try simp only [units_in1, units_deeper, Around.mark_units, units_caller] at *); (try dsimp only [ktrTop] at *); omega))
  k_with "m begin" => ((have flzq : P.heap_1 = P.heap_1 ∧ PySem.Challenge.rw_yh0023_01 = PySem.Challenge.rw_yh0023_01 := by (k_fill; exact fill)); (clear flzq); (refine wpAny_call ?_))
  k_with "m enter" => ((case kA => exact rfl); (case kF => exact rfl); (case kK => assumption); (case k1 => k_asm); (case k2 => k_asm); (case k3 => k_asm); (case k4 => k_asm); (case k5 => k_asm); (case k6 => k_is); (case k7 => k_is); (case k8 => first | exact room_up hdp (by decide) | k_room); (case k9 => exact BindsTo.of_eq rfl); (case c5 => decide); (case kB => exact locs rfl); (case c2 => exact rfl); (case c3 => exact rfl); (case c4 => exact rfl); k_whole; intro g'zq L'zq h'zq FG'zq F'zq N'zq B'zq X'zq T'zq; (try dsimp only [List.reverse_cons, List.reverse_nil, List.nil_append, List.cons_append] at F'zq); (try k_fold))
  k_with "x execs cons" => (k_here; (with_reducible refine wpAny_execs_cons ?_); k_fold)
  k_with "x call builtin:len" => (k_here; (with_reducible show wpAny _ _ (call (Value.builtin "len") [Value.ref _]) _ _ _); k_dflt (refine' m_len ?k1 ?k2 ?k3 ?_; (case k1 => k_asm); (case k2 => k_mem); (case k3 => omega)))
  k_with "x getMethod ref" => (k_here; k_dflt (first | ((with_reducible show wpAny _ _ (getMethod (Value.ref 48) _ _) _ _ _); refine PatAt.meth (pat_name (by k_in)) ?_) | ((with_reducible show wpAny _ _ (getMethod (Value.ref 53) _ _) _ _ _); refine PatAt.meth (pat_value (by k_in)) ?_)))
  k_with "x call builtin:re.Pattern.search" => (k_here; k_dflt (first | (refine call_search (pat_name (by k_in)) (name_fails (by assumption)) (by assumption) ?_) | (refine call_search (pat_value (by k_in)) (value_fails (by assumption)) (by assumption) ?_)))
  k_with "x call builtin:str.join" => (k_here; k_dflt (refine' m_join1 ?k1 ?k2 ?k3 ?k4 ?_; (case k1 => k_asm); (case k2 => k_mem); (case k3 => decide); (case k4 => assumption)); intro t'zq tk'zq)
  k_with "m enterC" => ((case kA => exact rfl); (case kF => exact rfl); (case kK => assumption); (case k1 => k_asm); (case k2 => k_asm); (case k3 => k_asm); (case k4 => k_asm); (case k5 => k_asm); (case k6 => k_is); (case k7 => k_is); (case k8 => first | exact room_up hdp (by decide) | k_room); (case k9 => exact BindsTo.of_eq rfl); (case kB => exact rfl); (case kD => decide +kernel); (case c2 => exact rfl); (case c3 => exact rfl); (case c4 => exact rfl); k_whole; intro g'zq L'zq h'zq tk'zq cells'zq FG'zq F'zq N'zq Y'zq B'zq X'zq T'zq l1zq; (have l9zq := l1zq); (try k_lt l1zq); k_cells Y'zq; (try simp only [List.cons_append, List.nil_append] at N'zq); (try dsimp only); (try k_fold))
  k_with "x call builtin:str.lower" => (k_here; (try dsimp only); (with_reducible show wpAny _ _ (call (Value.builtin "str.lower") [Value.str _ _]) _ _ _); (refine SCL.lower (by first | omega | exact Nat.le_trans (by assumption) (by decide)) ?_); intro _)
  k_with "m mem" => (repeat (first | assumption | apply List.mem_cons_of_mem))
  k_with "x subscriptTail" => (k_here; (with_reducible show wpAny _ _ (subscriptTail _ _ (Value.ref _) (Value.int _ _)) _ _ _); k_dflt (refine' item_tupleT (m_tup (by k_asm) ?hm) (by decide) (by decide) ?hj ?hv ?_; (case hm => first | k_mem | walk_at "m mem"); (case hj => rfl); (case hv => rfl)))
  k_with "m look" => first | exact rfl | assumption
  k_with "x eval Name" => (k_here; (with_reducible show wpAny _ _ (eval (PySem.Expr.Name _ _) (envOf _ _ _ _ _)) _ _ _); k_dflt (refine' ld ?k1 ?k2 ?_; (case k1 => k_asm); (case k2 => walk_at "m look"); k_whole))
  k_with "x eval Name" => (k_here; (with_reducible show wpAny _ _ (eval (PySem.Expr.Name (PySem.Str.ofString "divmod") _) _) _ _ _); (with_reducible rename Fr _ _ _ _ => kFzq); with_unfolding_all refine guard_global (by rfl) ?_; k_dflt (refine' name_B kFzq ?k1 ?k2 ?k3 ?k4 ?k5 ?_; (case k1 => k_asm); (case k2 => k_asm); (case k3 => k_is); (case k4 => first | exact boot_divmod); (case k5 => decide); k_whole))
  k_with "m size" => (simp only [PySem.Str.length_append, lit0, lit1, lit2, lit3, lit4, lit5, lit6, lit7, lit8, lit9, lit10, lit11, lit12, lit13, lit14, lit15, lit16, lit17, lit18, lit19, lit20, lit21, lit22, lit23, lit24, one_len]; rw [sizeLine_eq]; omega)
  k_with "x binaryOp Add str str" => (k_here; (with_reducible show wpAny _ _ (binaryOp Operator.Add (Value.str _ _) (Value.str _ _)) _ _ _); k_dflt (refine' PyProof.Rows.add_str ?h ?hz; (case hz => walk_at "m size")); intro t'zq tk'zq)
  k_with "m enterT" => ((case kA => exact rfl); (case kF => exact rfl); (case kK => assumption); (case kX => assumption); (case kT => assumption); (case kD => assumption); (case k1 => k_asm); (case k2 => k_asm); (case k3 => k_asm); (case k4 => k_asm); (case k5 => k_asm); (case k6 => k_is); (case k7 => k_is); (case k8 => first | exact room_up hdp (by decide) | k_room); (case k9 => exact BindsTo.of_eq rfl); (case c5 => decide); (case kB => exact locs rfl); (case c2 => exact rfl); (case c3 => exact rfl); (case c4 => exact rfl); k_whole; intro g'zq L'zq h'zq tk0zq FG'zq F'zq N'zq B'zq X'zq T'zq D'zq; (try dsimp only [List.reverse_cons, List.reverse_nil, List.nil_append, List.cons_append] at F'zq); (try k_fold))
  k_with "x call type:str" => (k_here; (with_reducible show wpAny _ _ (call (Value.type "str") [Value.ref _]) _ _ _); k_dflt (refine' str_caught ?kF ?kX ?kN ?kG ?kK ?ks ?ku ?_; (case kG => assumption); (case kN => assumption); (case kF => k_asm); (case kX => k_asm); (case kK => kts_isx); (case ks => k_is); (case ku => k_units); k_whole))
  k_with "x subscriptTail" => ((with_reducible show wpAny _ _ (subscriptTail _ _ (Value.ref _) (Value.ref _)) _ _ _); k_extra "m cut")
  k_with "x subscriptTail" => ((with_reducible show wpAny _ _ (subscriptTail _ _ (Value.ref _) (Value.int (Nat.cast _) _)) _ _ _); k_extra "m natat")
  k_with "m memR" => (repeat (first | with_reducible assumption | with_reducible apply List.mem_cons_of_mem))
  k_with "m use" => ((case k1 => k_asm); (case k2 => k_asm); (case k3 => k_asm); (case k4 => k_asm); (case k5 => k_asm); (case kK => first | exact rfl | assumption); (case kd => walk_at "m depth"); (case ku => walk_at "m units"); k_whole)
  obtain ⟨LA, BA, lv, bv, ln, bn, vs1, vs2, gv, n1, n2, gn, tb, t1, t2, ok, ot, od, os, rest, rfl, rfl, O, H, G, FX⟩ := hJ
  have hz1 : dn.length < 1000 := by omega
  have hie : i < en.length := by omega
  have Iv := runN_inv C dn en i
  have hd9 : dn.getD i 0 < 5 := by rw [List.getD_eq_getElem?_getD, List.getElem?_eq_getElem hi]; exact hd5 _ (List.getElem_mem hi)
  have he9 : en.getD i 0 < 24 := by rw [List.getD_eq_getElem?_getD, List.getElem?_eq_getElem hie]; exact he24 _ (List.getElem_mem hie)
  obtain ⟨Sx, hSx⟩ : ∃ x, x = stepS c (dn.getD i 0) (en.getD i 0) (runN c dn en i) := ⟨_, rfl⟩
  obtain ⟨due, hdue⟩ : ∃ x, x = stepD c (dn.getD i 0) (runN c dn en i) := ⟨_, rfl⟩
  have Iv' : Inv c Sx := by rw [hSx]; exact runN_inv C dn en (i + 1)
  have kdue : kqdOk 9 due = true := by rw [hdue]; exact due_ok C G.hok Iv _
  have hrl : Sx.lane.length ≤ i + 1 ∧ Sx.back.length ≤ i + 1 := by rw [hSx]; exact runN_len (c := c) (ds := dn) (es := en) (i + 1)
  have subR : ∀ p ∈ rest, p ∈ (I, oI) :: rest := fun p hp => .tail _ hp
  have O9 : AdOk ad ((I, oI) :: rest) := ⟨O.r1, O.r2, O.g, List.forall_mem_cons.mpr ⟨⟨Ne.symm (hoI (ad.RL1, listOf vs1.toArray n1) (.tail _ (.tail _ (.head _)))), Ne.symm (hoI (ad.RL2, listOf vs2.toArray n2) (.tail _ (.tail _ (.tail _ (.tail _ (.tail _ (.head _))))))), Ne.symm (hoI (ad.G, listOf gv.toArray gn) (.tail _ (.tail _ (.tail _ (.tail _ (.tail _ (.tail _ (.head _))))))))⟩, O.rest⟩⟩
  have H9 := H.mono subR
  have PP9 := FX.pl.mono subR
  obtain ⟨nw0, hw0⟩ : ∃ x, x = (I, oI) :: LD w ad vs1 vs2 gv n1 n2 gn rest := ⟨_, rfl⟩
  have subD : ∀ p ∈ LD w ad vs1 vs2 gv n1 n2 gn ((I, oI) :: rest), p ∈ nw0 := by
    rw [hw0]
    intro p hp
    simp only [LD, List.mem_cons] at hp ⊢
    rcases hp with h | h | h | h | h | h | h | h | h
    · exact .inr (.inl h)
    · exact .inr (.inr (.inl h))
    · exact .inr (.inr (.inr (.inl h)))
    · exact .inr (.inr (.inr (.inr (.inl h))))
    · exact .inr (.inr (.inr (.inr (.inr (.inl h)))))
    · exact .inr (.inr (.inr (.inr (.inr (.inr (.inl h))))))
    · exact .inr (.inr (.inr (.inr (.inr (.inr (.inr (.inl h)))))))
    · exact .inl h
    · exact .inr (.inr (.inr (.inr (.inr (.inr (.inr (.inr h)))))))
  have mD0 : (DL, listOf dxs.toArray dk) ∈ nw0 := by rw [hw0]; exact .tail _ (.tail _ (.tail _ (.tail _ (.tail _ (.tail _ (.tail _ (.tail _ FX.dl)))))))
  have mE0 : (EL, listOf exs.toArray ek) ∈ nw0 := by rw [hw0]; exact .tail _ (.tail _ (.tail _ (.tail _ (.tail _ (.tail _ (.tail _ (.tail _ FX.el)))))))
  have N0 : News h₀ L h nw0 := by rw [hw0]; exact N
  clear N
  have fl : P.heap_1 = P.heap_1 ∧ PySem.Challenge.rw_yh0023_01 = PySem.Challenge.rw_yh0023_01 := by (k_fill; exact fill)
  clear fl
  dsimp only [lawAst, loopAst1]
  unfold LM1 at F
  (try dsimp only at F)
  k_with "m natat" => (first
    | k_dflt ((with_reducible show wpAny _ _ (subscriptTail _ _ (Value.ref DL) _) _ _ _); (with_reducible rename News _ _ _ _ => N9); refine m_natAt N9 (by walk_at "m memR") hdn hi hz1 ?_; intro t'; (try dsimp only))
    | k_dflt ((with_reducible show wpAny _ _ (subscriptTail _ _ (Value.ref EL) _) _ _ _); (with_reducible rename News _ _ _ _ => N9); refine m_natAt N9 (by walk_at "m memR") hen hie hz2 ?_; intro t'; (try dsimp only)))
  k_with "call ref" => (first
    | k_dflt ((with_reducible show wpAny _ _ (call (Value.ref 293) _ _) _ _ _); (with_reducible rename News _ _ _ _ => N9); refine' SaysT.law (deed_says (rest := (I, oI) :: rest) (vs1 := vs1) (vs2 := vs2) (gv := gv) (n1 := n1) (n2 := n2) (gn := gn) rfl hd9 C Iv O9 H9 PP9 he9) BB ?k2 X (News.sub N9 subD) T ?kK ?kd ?ku ?_; (case k2 => k_asm); (case kK => exact rfl); (case kd => walk_at "m depth"); (case ku => walk_at "m units"); intro r' news' h' tk' F' N' P'; rw [← hSx, ← hdue] at P'; obtain ⟨vs1', vs2', gv', n1', n2', gn', tl, TA, told, tkx, ntx, hr', hn', aft, d1', d2', gS', hTA, htold⟩ := P'; subst hr'; subst hn'; obtain ⟨nwA, hwA⟩ : ∃ x, x = LD w ad vs1' vs2' gv' n1' n2' gn' (((I, oI) :: rest) ++ tl) := ⟨_, rfl⟩; rw [← hwA] at N'; (have restA : ∀ p ∈ ((I, oI) :: rest) ++ tl, p ∈ nwA := by rw [hwA]; exact fun p hp => .tail _ (.tail _ (.tail _ (.tail _ (.tail _ (.tail _ (.tail _ hp))))))); (have resA : ∀ p ∈ rest, p ∈ nwA := fun p hp => restA p (List.mem_append_left _ (.tail _ hp))); (have N8 := News.sub (news' := (TA, _) :: nwA) N' (List.forall_mem_cons.mpr ⟨restA _ (List.mem_append_right _ hTA), fun p hp => hp⟩)); clear N' N9; (have FXA := FX.mono resA); (have mDA := FXA.dl); (have mEA := FXA.el); (have GA := G.mono resA); (have PA := FXA.pl); (have toldA := htold.mono restA); (try dsimp only))
    | k_dflt ((with_reducible show wpAny _ _ (call (Value.ref 298) _ _) _ _ _); (with_reducible rename News _ _ _ _ => N9); refine' Says.use (whole_says (nw := nwA) (S := runN c dn en i) rfl hd9 C Iv GA PA he9) BB ?k2 X (News.sub N9 (fun p hp => .tail _ hp)) T ?kK ?kd ?ku ?_; (case k2 => k_asm); (case kK => exact rfl); (case kd => walk_at "m depth"); (case ku => walk_at "m units"); intro r' news' h' tk' F' N' P'; rw [← hSx, ← hdue] at P'; obtain ⟨tl2, T2, LA', BA', lv', bv', ln', bn', dv, u1, u2, nt2, hr', hn', aft2, hT2, mLA, dLA, mBA, dBA, hdv, eLA, eBA⟩ := P'; subst hr'; subst hn'; obtain ⟨nwB, hwB⟩ : ∃ x, x = nwA ++ tl2 := ⟨_, rfl⟩; rw [← hwB] at N' mLA dLA mBA dBA hdv; (have subAB : ∀ p ∈ nwA, p ∈ nwB := by rw [hwB]; exact fun p hp => List.mem_append_left _ hp); (have toldB := toldA.mono subAB); (have d1B := (d1'.mono restA).mono subAB); (have d2B := (d2'.mono restA).mono subAB); (have m1 : (ad.R1, instObj 184 ad.RD1) ∈ nwB := subAB _ (by rw [hwA]; exact .head _)); (have m2 : (ad.RD1, hdrD w ad.th1 ad.RL1) ∈ nwB := subAB _ (by rw [hwA]; exact .tail _ (.head _))); (have m3 : (ad.RL1, listOf vs1'.toArray n1') ∈ nwB := subAB _ (by rw [hwA]; exact .tail _ (.tail _ (.head _)))); (have m4 : (ad.RL2, listOf vs2'.toArray n2') ∈ nwB := subAB _ (by rw [hwA]; exact .tail _ (.tail _ (.tail _ (.tail _ (.tail _ (.head _))))))); (have N8 := News.sub (news' := (T2, _) :: (ad.R1, instObj 184 ad.RD1) :: (ad.RD1, hdrD w ad.th1 ad.RL1) :: nwB) N' (List.forall_mem_cons.mpr ⟨by rw [hwB]; exact List.mem_append_right _ hT2, List.forall_mem_cons.mpr ⟨m1, List.forall_mem_cons.mpr ⟨m2, fun p hp => hp⟩⟩⟩)); clear N' N9; (have hlv : lv'.length ≤ i + 1 := by rw [dLA.length, List.length_map]; exact hrl.1); (have hbv : bv'.length ≤ i + 1 := by rw [dBA.length, List.length_map]; exact hrl.2); (have hv1 : vs1'.length ≤ i + 1 := by rw [d1B.length, List.length_map, List.length_map]; exact hrl.1); (try dsimp only))
    | k_dflt ((with_reducible show wpAny _ _ (call (Value.ref 148) _ _) _ _ _); (with_reducible rename News _ _ _ _ => N9); refine' items_use (vs := vs1') (ps := Sx.lane.map c.pp) (n := n1') (nw := nwB) m1 m2 m3 d1B (by rw [List.length_map]; have := hrl.1; omega) BB ?k2 X (News.sub N9 (fun p hp => .tail _ (.tail _ (.tail _ hp)))) T ?kK ?kd ?ku ?_; (case k2 => k_asm); (case kK => exact rfl); (case kd => walk_at "m depth"); (case ku => walk_at "m units"); intro K nK h' tk' F' N' aK; clear N9; (try dsimp only)))
  k_with "m comp" => k_dflt (first
    | ((with_reducible show LCg.CompSrc _ _ _ _ _ _ _ _ _ _ _ _ (Value.ref LA') _); refine LCg.CompSrc.ledger (by rfl) (by k_asm) (by k_asm) (ax := LA') (its := lv'.toArray) (by walk_at "m memR") (by rw [List.size_toArray]; refine Nat.le_trans (Nat.le_of_lt (show lv'.length < 1000 by omega)) (by decide)) ?_; intro g'; refine pairs_rest c.pd c.pp (dLA.mono fun p hp => (by walk_at "m memR")) (by walk_at "m memR") ?turna ?fina; (case' turna => (intro p8 v8 I8 oI8 C8 oC8 D8 m8 h8 tk8 E8 ys8 nw8 hs8 hp8 hin8 hC8 hx8 F8 N8 off8 ne8; obtain ⟨q8, kq8, z1, z2, z3, sv8, rfl, hq8, hs7⟩ := quad_out hin8; (have N7 := News.sub (news' := (I8, oI8) :: (C8, oC8) :: (D8, LCg.lst ys8) :: (q8, _) :: nw8) N8 (List.forall_mem_cons.mpr ⟨.head _, List.forall_mem_cons.mpr ⟨.tail _ (.head _), List.forall_mem_cons.mpr ⟨.tail _ (.tail _ (.head _)), List.forall_mem_cons.mpr ⟨.tail _ (.tail _ (.tail _ hq8)), fun p hp => .tail _ (.tail _ (.tail _ hp))⟩⟩⟩⟩)); clear N8; (try dsimp only))); (case' fina => (intro ys1 nwC hsC hy1; unfold LCg.FinE; intro D9 h9 tk9 F9 N9 o9; (have mKC := hsC _ (.head _)); (have subBC : ∀ p ∈ nwB, p ∈ nwC := fun p hp => hsC p (.tail _ hp)); (have mBC := subBC _ mBA); (try dsimp only))))
    | ((with_reducible show LCg.CompSrc _ _ _ _ _ _ _ _ _ _ _ _ (Value.ref BA') _); refine LCg.CompSrc.ledger (by rfl) (by k_asm) (by k_asm) (ax := BA') (its := bv'.toArray) (by walk_at "m memR") (by rw [List.size_toArray]; refine Nat.le_trans (Nat.le_of_lt (show bv'.length < 1000 by omega)) (by decide)) ?_; intro g'; refine pairs_rest c.ad c.ap ((dBA.mono subBC).mono fun p hp => (by walk_at "m memR")) (by walk_at "m memR") ?turnb ?finb; (case' turnb => (intro p8 v8 I8 oI8 C8 oC8 D8 m8 h8 tk8 E8 ys8 nw8 hs8 hp8 hin8 hC8 hx8 F8 N8 off8 ne8; obtain ⟨q8, kq8, z1, z2, z3, sv8, rfl, hq8, hs7⟩ := quad_out hin8; (have N7 := News.sub (news' := (I8, oI8) :: (C8, oC8) :: (D8, LCg.lst ys8) :: (q8, _) :: nw8) N8 (List.forall_mem_cons.mpr ⟨.head _, List.forall_mem_cons.mpr ⟨.tail _ (.head _), List.forall_mem_cons.mpr ⟨.tail _ (.tail _ (.head _)), List.forall_mem_cons.mpr ⟨.tail _ (.tail _ (.tail _ hq8)), fun p hp => .tail _ (.tail _ (.tail _ hp))⟩⟩⟩⟩)); clear N8; (try dsimp only))); (case' finb => (intro ys2 nwD hsD hy2; unfold LCg.FinE; intro D8 h8 tk8 F8 N8 o8; (have subCD : ∀ p ∈ nwC, p ∈ nwD := fun p hp => hsD p (.tail _ hp)); (have mKD := subCD _ mKC); (have m4D := subCD _ (subBC _ m4)); (have N7 := News.sub (news' := (D8, LCg.lst ys2) :: (K, listOf vs1'.toArray nK) :: nwD) N8 (List.forall_mem_cons.mpr ⟨.head _, List.forall_mem_cons.mpr ⟨.tail _ mKD, fun p hp => .tail _ hp⟩⟩)); clear N8; (try dsimp only)))))
  k_with "m cut" => k_dflt ((with_reducible rename Fr _ _ _ _ => F9); (with_reducible rename News _ _ _ _ => N9); refine m_cut13 F9 N9 (.tail _ (.tail _ (.tail _ (.head _)))) ?_; intro T9 h' F' N' l9; clear N9 F9; (try dsimp only))
  k_with "m ne" => k_dflt (first
    | ((with_reducible show wpAny _ _ (compareOp CmpOp.NotEq told dv) _ _ _); (with_reducible rename News _ _ _ _ => N9); refine' m_neSame N9 (toldB.mono fun p hp => (by walk_at "m memR")) (hdv.mono fun p hp => (by walk_at "m memR")) kdue ?ku ?_; (case ku => k_units))
    | ((with_reducible show wpAny _ _ (compareOp CmpOp.NotEq (Value.ref K) (Value.ref _)) _ _ _); (with_reducible rename News _ _ _ _ => N9); refine' m_neSame N9 (.list (show (K, listOf vs1'.toArray nK) ∈ _ from (by walk_at "m memR")) (d1B.mono fun p hp => .tail _ (subBC p hp))) (.list (show (D9, LCg.lst ys1) ∈ _ from .head _) (hy1.mono fun p hp => .tail _ hp)) (lisD (pp_ok C Iv' 7)) ?ku ?_; (case ku => k_units))
    | ((with_reducible show wpAny _ _ (compareOp CmpOp.NotEq (Value.ref ad.RL2) (Value.ref _)) _ _ _); (with_reducible rename News _ _ _ _ => N9); refine' m_neSame N9 (.list (show (ad.RL2, listOf vs2'.toArray n2') ∈ _ from (by walk_at "m memR")) (d2B.mono fun p hp => .tail _ (.tail _ (subCD p (subBC p hp))))) (.list (show (D8, LCg.lst ys2) ∈ _ from .head _) (hy2.mono fun p hp => .tail _ (.tail _ hp))) (lisD (ap_ok C G.hok Iv' 7)) ?ku ?_; (case ku => k_units)))
  k_with "m app" => k_dflt ((with_reducible rename Fr _ _ _ _ => F9); (with_reducible rename News _ _ _ _ => N9); refine m_append nwB F9 N9 (l := K) (vs := vs1') (n := nK) (by walk_at "m memR") (fun p hp => .tail _ (.tail _ (.tail _ (subCD p (subBC p hp))))) (fun p hp => Ne.symm (aK p hp _ (.head _))) (by omega) ?_; intro h' F' N'; clear N9; (try dsimp only))
  k_steps
  · have N2 := News.sub N' (fun p hp => List.Mem.tail _ hp)
    subst hwB hwA
    obtain ⟨news₂, n1, n2, j⟩ := turn1_end (LA := LA) (BA := BA) (dn := dn) (en := en) (S' := Sx) (tb := tkx) (t1 := u1) (t2 := u2) (ok := some (.int (i : Int) t)) (ot := some told) (od := some dv) (os := some (.ref K)) (tw := tw) (tt := tt) C (by omega) hSx.symm hcI hoI O G FX aft d1' d2' gS' aft2 mLA dLA mBA dBA eLA eBA N2 rfl
    refine TurnJ.next (m₂ := LM1 ad c NL PL DL EL tw tt Sx LA' BA' tkx u1 u2 (some (.int (i : Int) t)) (some told) (some dv) (some (.ref K))) ?_ n1 n2 j
    rw [← lm1_upd (S := runN c dn en i) (LA := LA) (BA := BA) (tb := tb) (t1 := t1) (t2 := t2) (ok := ok) (ot := ot) (od := od) (os := os)]
    exact F'
  · exact ⟨T9, _, _, _, h', _, rfl, rfl, F', News.sub N' (List.forall_mem_cons.mpr ⟨.head _, List.forall_mem_cons.mpr ⟨.tail _ (.head _), List.forall_mem_cons.mpr ⟨.tail _ (.tail _ (.head _)), List.forall_mem_cons.mpr ⟨.tail _ (.tail _ (.tail _ (.head _))), fun p hp => .tail _ (.tail _ (.tail _ (.tail _ (.tail _ hp))))⟩⟩⟩⟩), Nat.ne_of_gt (l9 (I8, oI8) (.head _)), Nat.ne_of_gt (l9 (C8, oC8) (.tail _ (.head _))), Nat.ne_of_gt (l9 (D8, LCg.lst ys8) (.tail _ (.tail _ (.head _))))⟩
  · exact ⟨T9, _, _, _, h', _, rfl, rfl, F', News.sub N' (List.forall_mem_cons.mpr ⟨.head _, List.forall_mem_cons.mpr ⟨.tail _ (.head _), List.forall_mem_cons.mpr ⟨.tail _ (.tail _ (.head _)), List.forall_mem_cons.mpr ⟨.tail _ (.tail _ (.tail _ (.head _))), fun p hp => .tail _ (.tail _ (.tail _ (.tail _ (.tail _ hp))))⟩⟩⟩⟩), Nat.ne_of_gt (l9 (I8, oI8) (.head _)), Nat.ne_of_gt (l9 (C8, oC8) (.tail _ (.head _))), Nat.ne_of_gt (l9 (D8, LCg.lst ys8) (.tail _ (.tail _ (.head _))))⟩
end
section -- MLawT2
set_option maxHeartbeats 4000000 in
theorem turn2 {w : World} {mean : ExcName → Option Value} {mg mb : Str → Option Value} {ad : Ad} {c : Par} {NL PL DL EL l : Addr} {nv xs : List Value} {kl : Nat} {tw tt : Tok} {S₀ S₁ : St} {LA BA : Addr} {tb₁ t1 t2 : Tok} {ok ot od₁ os : Option Value} {fa : Addr} {cd : Value} {h₀ h : Heap} {L I : Addr} {oI : Obj} {Q : Flow → Shared → Prop} {E : Value → Shared → Prop} {s : Shared} {i : Nat} {v : Value} {tk : Nat} {m₁ : Str → Option Value} {nw : Led}
    (C : ParOk c) (I0 : Inv c S₀) (hz : S₀.lane.length < 100 ∧ S₀.back.length < 100) (hxs : NatsAre xs ((List.replicate 4 [0, 1, 2, 3, 4]).flatten : List Nat))
    (BB : Below callerA h₀ [] h₀) (X : (P.heap_1 w.params).In h₀) (T : Top P.view_1 LO mean mg mb h₀)
    (hv : xs.toArray[i]? = some v) (hcI : oI.cls ≠ .type "tuple") (hJ : J2 w ad c NL PL l nv S₀ (LM1 ad c NL PL DL EL tw tt S₁ LA BA tb₁ t1 t2 ok ot od₁ os) i m₁ nw) (hoI : ∀ p ∈ nw, p.1 ≠ I)
    (F : Fr h₀ L h (fun y => if y = Str.ofString "deed" then some v else m₁ y)) (N : News h₀ L h ((I, oI) :: (l, lstO xs kl) :: nw)) :
    wpAny (model PySem.Challenge.rw_yh0023_01.row.prog w) (callerA.deeper (envOfC (Str.ofString "law") lawAst.1.1 L fa cd)) (execs loopAst2.1 (envOfC (Str.ofString "law") lawAst.1.1 L fa cd))
      (TurnJ h₀ L [(I, oI), (l, lstO xs kl)] { s with heap := h, toks := tk } (J2 w ad c NL PL l nv S₀ (LM1 ad c NL PL DL EL tw tt S₁ LA BA tb₁ t1 t2 ok ot od₁ os) (i + 1)) Q) E { s with heap := h, toks := tk } := by
  k_with_none
  k_with "m depth" => (first | exact dep_up (by with_reducible assumption) (by decide) | ((try simp only [depth_mark, depth_under_make, depth_under_kw, depth_in1, depth_deeper, depth_caller] at *); (try dsimp only [ktrTop] at *); omega))
  k_with "m units" => (first | exact uni_up (by with_reducible assumption) (by decide) | ((try simp only [units_in1, units_deeper, Around.mark_units, units_caller] at *); (try dsimp only [ktrTop] at *); omega))
  k_with "m begin" => ((have flzq : P.heap_1 = P.heap_1 ∧ PySem.Challenge.rw_yh0023_01 = PySem.Challenge.rw_yh0023_01 := by (k_fill; exact fill)); (clear flzq); (refine wpAny_call ?_))
  k_with "m enter" => ((case kA => exact rfl); (case kF => exact rfl); (case kK => assumption); (case k1 => k_asm); (case k2 => k_asm); (case k3 => k_asm); (case k4 => k_asm); (case k5 => k_asm); (case k6 => k_is); (case k7 => k_is); (case k8 => first | exact room_up hdp (by decide) | k_room); (case k9 => exact BindsTo.of_eq rfl); (case c5 => decide); (case kB => exact locs rfl); (case c2 => exact rfl); (case c3 => exact rfl); (case c4 => exact rfl); k_whole; intro g'zq L'zq h'zq FG'zq F'zq N'zq B'zq X'zq T'zq; (try dsimp only [List.reverse_cons, List.reverse_nil, List.nil_append, List.cons_append] at F'zq); (try k_fold))
  k_with "x execs cons" => (k_here; (with_reducible refine wpAny_execs_cons ?_); k_fold)
  k_with "x call builtin:len" => (k_here; (with_reducible show wpAny _ _ (call (Value.builtin "len") [Value.ref _]) _ _ _); k_dflt (refine' m_len ?k1 ?k2 ?k3 ?_; (case k1 => k_asm); (case k2 => k_mem); (case k3 => omega)))
  k_with "x getMethod ref" => (k_here; k_dflt (first | ((with_reducible show wpAny _ _ (getMethod (Value.ref 48) _ _) _ _ _); refine PatAt.meth (pat_name (by k_in)) ?_) | ((with_reducible show wpAny _ _ (getMethod (Value.ref 53) _ _) _ _ _); refine PatAt.meth (pat_value (by k_in)) ?_)))
  k_with "x call builtin:re.Pattern.search" => (k_here; k_dflt (first | (refine call_search (pat_name (by k_in)) (name_fails (by assumption)) (by assumption) ?_) | (refine call_search (pat_value (by k_in)) (value_fails (by assumption)) (by assumption) ?_)))
  k_with "x call builtin:str.join" => (k_here; k_dflt (refine' m_join1 ?k1 ?k2 ?k3 ?k4 ?_; (case k1 => k_asm); (case k2 => k_mem); (case k3 => decide); (case k4 => assumption)); intro t'zq tk'zq)
  k_with "m enterC" => ((case kA => exact rfl); (case kF => exact rfl); (case kK => assumption); (case k1 => k_asm); (case k2 => k_asm); (case k3 => k_asm); (case k4 => k_asm); (case k5 => k_asm); (case k6 => k_is); (case k7 => k_is); (case k8 => first | exact room_up hdp (by decide) | k_room); (case k9 => exact BindsTo.of_eq rfl); (case kB => exact rfl); (case kD => decide +kernel); (case c2 => exact rfl); (case c3 => exact rfl); (case c4 => exact rfl); k_whole; intro g'zq L'zq h'zq tk'zq cells'zq FG'zq F'zq N'zq Y'zq B'zq X'zq T'zq l1zq; (have l9zq := l1zq); (try k_lt l1zq); k_cells Y'zq; (try simp only [List.cons_append, List.nil_append] at N'zq); (try dsimp only); (try k_fold))
  k_with "x call builtin:str.lower" => (k_here; (try dsimp only); (with_reducible show wpAny _ _ (call (Value.builtin "str.lower") [Value.str _ _]) _ _ _); (refine SCL.lower (by first | omega | exact Nat.le_trans (by assumption) (by decide)) ?_); intro _)
  k_with "m mem" => (repeat (first | assumption | apply List.mem_cons_of_mem))
  k_with "x subscriptTail" => (k_here; (with_reducible show wpAny _ _ (subscriptTail _ _ (Value.ref _) (Value.int _ _)) _ _ _); k_dflt (refine' item_tupleT (m_tup (by k_asm) ?hm) (by decide) (by decide) ?hj ?hv ?_; (case hm => first | k_mem | walk_at "m mem"); (case hj => rfl); (case hv => rfl)))
  k_with "m look" => first | exact rfl | assumption
  k_with "x eval Name" => (k_here; (with_reducible show wpAny _ _ (eval (PySem.Expr.Name _ _) (envOf _ _ _ _ _)) _ _ _); k_dflt (refine' ld ?k1 ?k2 ?_; (case k1 => k_asm); (case k2 => walk_at "m look"); k_whole))
  k_with "x eval Name" => (k_here; (with_reducible show wpAny _ _ (eval (PySem.Expr.Name (PySem.Str.ofString "divmod") _) _) _ _ _); (with_reducible rename Fr _ _ _ _ => kFzq); with_unfolding_all refine guard_global (by rfl) ?_; k_dflt (refine' name_B kFzq ?k1 ?k2 ?k3 ?k4 ?k5 ?_; (case k1 => k_asm); (case k2 => k_asm); (case k3 => k_is); (case k4 => first | exact boot_divmod); (case k5 => decide); k_whole))
  k_with "m size" => (simp only [PySem.Str.length_append, lit0, lit1, lit2, lit3, lit4, lit5, lit6, lit7, lit8, lit9, lit10, lit11, lit12, lit13, lit14, lit15, lit16, lit17, lit18, lit19, lit20, lit21, lit22, lit23, lit24, one_len]; rw [sizeLine_eq]; omega)
  k_with "x binaryOp Add str str" => (k_here; (with_reducible show wpAny _ _ (binaryOp Operator.Add (Value.str _ _) (Value.str _ _)) _ _ _); k_dflt (refine' PyProof.Rows.add_str ?h ?hz; (case hz => walk_at "m size")); intro t'zq tk'zq)
  k_with "m enterT" => ((case kA => exact rfl); (case kF => exact rfl); (case kK => assumption); (case kX => assumption); (case kT => assumption); (case kD => assumption); (case k1 => k_asm); (case k2 => k_asm); (case k3 => k_asm); (case k4 => k_asm); (case k5 => k_asm); (case k6 => k_is); (case k7 => k_is); (case k8 => first | exact room_up hdp (by decide) | k_room); (case k9 => exact BindsTo.of_eq rfl); (case c5 => decide); (case kB => exact locs rfl); (case c2 => exact rfl); (case c3 => exact rfl); (case c4 => exact rfl); k_whole; intro g'zq L'zq h'zq tk0zq FG'zq F'zq N'zq B'zq X'zq T'zq D'zq; (try dsimp only [List.reverse_cons, List.reverse_nil, List.nil_append, List.cons_append] at F'zq); (try k_fold))
  k_with "x call type:str" => (k_here; (with_reducible show wpAny _ _ (call (Value.type "str") [Value.ref _]) _ _ _); k_dflt (refine' str_caught ?kF ?kX ?kN ?kG ?kK ?ks ?ku ?_; (case kG => assumption); (case kN => assumption); (case kF => k_asm); (case kX => k_asm); (case kK => kts_isx); (case ks => k_is); (case ku => k_units); k_whole))
  k_with "x subscriptTail" => ((with_reducible show wpAny _ _ (subscriptTail _ _ (Value.ref _) (Value.ref _)) _ _ _); k_extra "m cut")
  k_with "x subscriptTail" => ((with_reducible show wpAny _ _ (subscriptTail _ _ (Value.ref _) (Value.int (Nat.cast _) _)) _ _ _); k_extra "m natat")
  k_with "m memR" => (repeat (first | with_reducible assumption | with_reducible apply List.mem_cons_of_mem))
  k_with "m use" => ((case k1 => k_asm); (case k2 => k_asm); (case k3 => k_asm); (case k4 => k_asm); (case k5 => k_asm); (case kK => first | exact rfl | assumption); (case kd => walk_at "m depth"); (case ku => walk_at "m units"); k_whole)
  obtain ⟨vs1, vs2, gv, n1, n2, gn, tb, od, rest, rfl, rfl, O, H, PP, hol⟩ := hJ
  have hi : i < 20 := by
    have h1 : i < xs.length := by
      rcases Nat.lt_or_ge i xs.length with h | h
      · exact h
      · rw [List.getElem?_toArray, List.getElem?_eq_none h] at hv
        cases hv
    have h2 := hxs.length
    rw [List.length_map, five_len] at h2
    omega
  obtain ⟨td, rfl⟩ := nats_at hxs hv (five_at ⟨i, hi⟩)
  dsimp only at hv F
  have Iv := runP_inv C I0 i
  have hd9 : i % 5 < 5 := Nat.mod_lt _ (by decide)
  have hrl := runP_len (c := c) (S := S₀) (i + 1)
  have subR : ∀ p ∈ rest, p ∈ (I, oI) :: (l, lstO xs kl) :: rest := fun p hp => .tail _ (.tail _ hp)
  have O9 : AdOk ad ((I, oI) :: (l, lstO xs kl) :: rest) := ⟨O.r1, O.r2, O.g, List.forall_mem_cons.mpr ⟨⟨Ne.symm (hoI (ad.RL1, listOf vs1.toArray n1) (.tail _ (.tail _ (.head _)))), Ne.symm (hoI (ad.RL2, listOf vs2.toArray n2) (.tail _ (.tail _ (.tail _ (.tail _ (.tail _ (.head _))))))), Ne.symm (hoI (ad.G, listOf gv.toArray gn) (.tail _ (.tail _ (.tail _ (.tail _ (.tail _ (.tail _ (.head _))))))))⟩,
    List.forall_mem_cons.mpr ⟨⟨Ne.symm (hol (ad.RL1, listOf vs1.toArray n1) (.tail _ (.tail _ (.head _)))), Ne.symm (hol (ad.RL2, listOf vs2.toArray n2) (.tail _ (.tail _ (.tail _ (.tail _ (.tail _ (.head _))))))), Ne.symm (hol (ad.G, listOf gv.toArray gn) (.tail _ (.tail _ (.tail _ (.tail _ (.tail _ (.tail _ (.head _))))))))⟩, O.rest⟩⟩⟩
  have H9 := H.mono subR
  have PP9 := PP.mono subR
  obtain ⟨nw0, hw0⟩ : ∃ x, x = (I, oI) :: (l, lstO xs kl) :: LD w ad vs1 vs2 gv n1 n2 gn rest := ⟨_, rfl⟩
  have subD : ∀ p ∈ LD w ad vs1 vs2 gv n1 n2 gn ((I, oI) :: (l, lstO xs kl) :: rest), p ∈ nw0 := by
    rw [hw0]
    intro p hp
    simp only [LD, List.mem_cons] at hp ⊢
    rcases hp with h | h | h | h | h | h | h | h | h | h
    · exact .inr (.inr (.inl h))
    · exact .inr (.inr (.inr (.inl h)))
    · exact .inr (.inr (.inr (.inr (.inl h))))
    · exact .inr (.inr (.inr (.inr (.inr (.inl h)))))
    · exact .inr (.inr (.inr (.inr (.inr (.inr (.inl h))))))
    · exact .inr (.inr (.inr (.inr (.inr (.inr (.inr (.inl h)))))))
    · exact .inr (.inr (.inr (.inr (.inr (.inr (.inr (.inr (.inl h))))))))
    · exact .inl h
    · exact .inr (.inl h)
    · exact .inr (.inr (.inr (.inr (.inr (.inr (.inr (.inr (.inr h))))))))
  have N0 : News h₀ L h nw0 := by rw [hw0]; exact N
  clear N
  have fl : P.heap_1 = P.heap_1 ∧ PySem.Challenge.rw_yh0023_01 = PySem.Challenge.rw_yh0023_01 := by (k_fill; exact fill)
  clear fl
  dsimp only [lawAst, loopAst2]
  unfold LM2 LM1 at F
  (try dsimp only at F)
  k_with "call ref" => k_dflt ((with_reducible show wpAny _ _ (call (Value.ref 293) _ _) _ _ _); (with_reducible rename News _ _ _ _ => N9); refine' SaysT.law (deed_says (e := 0) (S := runP c S₀ i) (rest := (I, oI) :: (l, lstO xs kl) :: rest) (vs1 := vs1) (vs2 := vs2) (gv := gv) (n1 := n1) (n2 := n2) (gn := gn) rfl hd9 C Iv O9 H9 PP9 (by decide)) BB ?k2 X (News.sub N9 subD) T ?kK ?kd ?ku ?_; (case k2 => k_asm); (case kK => exact rfl); (case kd => walk_at "m depth"); (case ku => walk_at "m units"); intro r' news' h' tk' F' N' P'; obtain ⟨vs1', vs2', gv', n1', n2', gn', tl, TA, told, tkx, ntx, hr', hn', aft, d1', d2', gS', hTA, htold⟩ := P'; subst hr'; subst hn'; obtain ⟨nwA, hwA⟩ : ∃ x, x = LD w ad vs1' vs2' gv' n1' n2' gn' (((I, oI) :: (l, lstO xs kl) :: rest) ++ tl) := ⟨_, rfl⟩; rw [← hwA] at N'; (have restA : ∀ p ∈ ((I, oI) :: (l, lstO xs kl) :: rest) ++ tl, p ∈ nwA := by rw [hwA]; exact fun p hp => .tail _ (.tail _ (.tail _ (.tail _ (.tail _ (.tail _ (.tail _ hp))))))); (have N8 := News.sub (news' := (TA, _) :: nwA) N' (List.forall_mem_cons.mpr ⟨restA _ (List.mem_append_right _ hTA), fun p hp => hp⟩)); clear N' N9; (try dsimp only))
  k_steps
  · (rename News _ _ _ _ => N7)
    have N2 := News.sub N7 (fun p hp => List.Mem.tail _ hp)
    subst hwA
    obtain ⟨news₂, m1, m2, j⟩ := turn2_end (NL := NL) (PL := PL) (nv := nv) (S₀ := S₀) (i := i) (M₀ := LM1 ad c NL PL DL EL tw tt S₁ LA BA tb₁ t1 t2 ok ot od₁ os) (tb := tkx) (od := some (.int ((i % 5 : Nat) : Int) td)) C I0 hi hz hcI hoI hol O PP aft d1' d2' gS' N2 rfl
    refine TurnJ.next (m₂ := LM2 (LM1 ad c NL PL DL EL tw tt S₁ LA BA tb₁ t1 t2 ok ot od₁ os) (runP c S₀ (i + 1)).known tkx (some (.int ((i % 5 : Nat) : Int) td))) ?_ m1 m2 j
    rw [← lm2_upd (k := (runP c S₀ i).known) (tb := tb) (od := od)]
    assumption
end
section -- MLaw5
open LCg LCp LCt
theorem upd_none {m : Str → Option Value} {x : Str} (h : m x = none) : m = fun y => if y = x then none else m y := by
  funext y
  by_cases hy : y = x
  · rw [if_pos hy, hy, h]
  · rw [if_neg hy]
theorem rng_size (n : Nat) (h : n < 1000) : Builtin.Range.rangeSize 0 (n : Int) 1 = (n : Int) := by
  have := rangeSize_nat 0 n
  simpa using this
theorem law_loop1 {w : World} {mean : ExcName → Option Value} {mg mb : Str → Option Value} {c : Par} {R1 RD1 RL1 R2 RD2 RL2 G LA BA EL DL PL NL : Addr} {th1 th2 tw tt th tb t1 t2 : Tok} {nv dxs exs : List Value} {dn en : List Nat} {kp kn kd ke : Nat} {fa : Addr} {cd : Value} {h₀ : Heap} {L r : Addr} {t₀ u₀ v₀ : Tok} {Q : Flow → Shared → Prop} {E : Value → Shared → Prop} {s : Shared}
    (hns : StrsAre nv c.ns) (C : ParOk c) (hok : okText c.host) (hdn : NatsAre dxs dn) (hen : NatsAre exs en) (hd5 : ∀ d ∈ dn, d < 5) (he24 : ∀ e ∈ en, e < 24) (hl1 : dn.length ≤ 26) (hl2 : dn.length ≤ en.length) (hz2 : en.length < 1000)
    (BB : Below callerA h₀ [] h₀) (X : (P.heap_1 w.params).In h₀) (T : Top P.view_1 LO mean mg mb h₀) (hr : IsRange s.heap r 0 (dn.length : Int) 1 t₀ u₀ v₀)
    (F : Fr h₀ L s.heap (fun y => if y = Str.ofString "known" then some (.int 0 t2) else if y = Str.ofString "taken" then some (.int 0 t1) else if y = Str.ofString "begun" then some (.int 0 tb) else
      if y = Str.ofString "road" then some (.ref R1) else if y = Str.ofString "answers" then some (.ref R2) else if y = Str.ofString "back" then some (.ref BA) else if y = Str.ofString "lane" then some (.ref LA) else
      if y = Str.ofString "got" then some (.ref G) else if y = Str.ofString "kept" then some (.ref RL2) else if y = Str.ofString "dress" then some (.ref EL) else if y = Str.ofString "deeds" then some (.ref DL) else
      if y = Str.ofString "plan" then some (.ref PL) else if y = Str.ofString "window" then some (.int c.w tw) else if y = Str.ofString "tag" then some (.int c.tag tt) else if y = Str.ofString "names" then some (.ref NL) else none))
    (N : News h₀ L s.heap [(R1, instObj 184 RD1), (RD1, hdrD w th1 RL1), (RL1, listOf #[] 0), (R2, instObj 184 RD2), (RD2, hdrD w th2 RL2), (RL2, listOf #[] 0), (G, listOf #[] 0), (LA, listOf #[] 0), (BA, listOf #[] 0), (EL, listOf exs.toArray ke), (DL, listOf dxs.toArray kd),
      (PL, { cls := .type "tuple", data := .seq #[.ref NL, .int c.w tw, .int c.tag tt, .str c.host th] kp }), (NL, listOf nv.toArray kn)])
    (ch : @LT.lt Nat _ NL PL ∧ @LT.lt Nat _ PL DL ∧ @LT.lt Nat _ DL EL ∧ @LT.lt Nat _ EL RL2 ∧ @LT.lt Nat _ RL2 G ∧ @LT.lt Nat _ G LA ∧ @LT.lt Nat _ LA BA ∧ @LT.lt Nat _ BA RD1 ∧ @LT.lt Nat _ RD1 R1 ∧ @LT.lt Nat _ R1 RL1 ∧ @LT.lt Nat _ RL1 RD2 ∧ @LT.lt Nat _ RD2 R2)
    (done : ∀ m₁ news₁ h tk, J1 w ⟨R1, RD1, RL1, R2, RD2, RL2, G, th1, th2⟩ c NL PL DL EL nv dxs exs kd ke tw tt dn en dn.length m₁ news₁ → Fr h₀ L h m₁ → News h₀ L h news₁ → Q .next { s with heap := h, toks := tk }) :
    wpAny (model PySem.Challenge.rw_yh0023_01.row.prog w) (callerA.deeper (envOfC (Str.ofString "law") lawAst.1.1 L fa cd)) (pyIter (.ref r)) (fun it s₂ => LoopAtV PySem.Challenge.rw_yh0023_01.row.prog w (callerA.deeper (envOfC (Str.ofString "law") lawAst.1.1 L fa cd)) h₀ (envOfC (Str.ofString "law") lawAst.1.1 L fa cd) (Str.ofString "k") loopAst1.1 Q E it s₂) E s := by
  refine m_forR (n := dn.length) (J1 w ⟨R1, RD1, RL1, R2, RD2, RL2, G, th1, th2⟩ c NL PL DL EL nv dxs exs kd ke tw tt dn en) rfl hr ?_ (rng_size _ (by omega)) F N ?_ ?_ done
  · exact small_one (by decide) (by decide) (by omega) (by omega)
  · obtain ⟨c1, c2, c3, c4, c5, c6, c7, c8, c9, c10, c11, c12⟩ := ch
    have d0_2 : @LT.lt Nat _ NL DL := Nat.lt_trans c1 c2
    have d0_3 : @LT.lt Nat _ NL EL := Nat.lt_trans d0_2 c3
    have d0_4 : @LT.lt Nat _ NL RL2 := Nat.lt_trans d0_3 c4
    have d0_5 : @LT.lt Nat _ NL G := Nat.lt_trans d0_4 c5
    have d0_6 : @LT.lt Nat _ NL LA := Nat.lt_trans d0_5 c6
    have d0_7 : @LT.lt Nat _ NL BA := Nat.lt_trans d0_6 c7
    have d0_8 : @LT.lt Nat _ NL RD1 := Nat.lt_trans d0_7 c8
    have d0_9 : @LT.lt Nat _ NL R1 := Nat.lt_trans d0_8 c9
    have d0_10 : @LT.lt Nat _ NL RL1 := Nat.lt_trans d0_9 c10
    have d0_11 : @LT.lt Nat _ NL RD2 := Nat.lt_trans d0_10 c11
    have d0_12 : @LT.lt Nat _ NL R2 := Nat.lt_trans d0_11 c12
    have d1_3 : @LT.lt Nat _ PL EL := Nat.lt_trans c2 c3
    have d1_4 : @LT.lt Nat _ PL RL2 := Nat.lt_trans d1_3 c4
    have d1_5 : @LT.lt Nat _ PL G := Nat.lt_trans d1_4 c5
    have d1_6 : @LT.lt Nat _ PL LA := Nat.lt_trans d1_5 c6
    have d1_7 : @LT.lt Nat _ PL BA := Nat.lt_trans d1_6 c7
    have d1_8 : @LT.lt Nat _ PL RD1 := Nat.lt_trans d1_7 c8
    have d1_9 : @LT.lt Nat _ PL R1 := Nat.lt_trans d1_8 c9
    have d1_10 : @LT.lt Nat _ PL RL1 := Nat.lt_trans d1_9 c10
    have d1_11 : @LT.lt Nat _ PL RD2 := Nat.lt_trans d1_10 c11
    have d1_12 : @LT.lt Nat _ PL R2 := Nat.lt_trans d1_11 c12
    have d2_4 : @LT.lt Nat _ DL RL2 := Nat.lt_trans c3 c4
    have d2_5 : @LT.lt Nat _ DL G := Nat.lt_trans d2_4 c5
    have d2_6 : @LT.lt Nat _ DL LA := Nat.lt_trans d2_5 c6
    have d2_7 : @LT.lt Nat _ DL BA := Nat.lt_trans d2_6 c7
    have d2_8 : @LT.lt Nat _ DL RD1 := Nat.lt_trans d2_7 c8
    have d2_9 : @LT.lt Nat _ DL R1 := Nat.lt_trans d2_8 c9
    have d2_10 : @LT.lt Nat _ DL RL1 := Nat.lt_trans d2_9 c10
    have d2_11 : @LT.lt Nat _ DL RD2 := Nat.lt_trans d2_10 c11
    have d2_12 : @LT.lt Nat _ DL R2 := Nat.lt_trans d2_11 c12
    have d3_5 : @LT.lt Nat _ EL G := Nat.lt_trans c4 c5
    have d3_6 : @LT.lt Nat _ EL LA := Nat.lt_trans d3_5 c6
    have d3_7 : @LT.lt Nat _ EL BA := Nat.lt_trans d3_6 c7
    have d3_8 : @LT.lt Nat _ EL RD1 := Nat.lt_trans d3_7 c8
    have d3_9 : @LT.lt Nat _ EL R1 := Nat.lt_trans d3_8 c9
    have d3_10 : @LT.lt Nat _ EL RL1 := Nat.lt_trans d3_9 c10
    have d3_11 : @LT.lt Nat _ EL RD2 := Nat.lt_trans d3_10 c11
    have d3_12 : @LT.lt Nat _ EL R2 := Nat.lt_trans d3_11 c12
    have d4_6 : @LT.lt Nat _ RL2 LA := Nat.lt_trans c5 c6
    have d4_7 : @LT.lt Nat _ RL2 BA := Nat.lt_trans d4_6 c7
    have d4_8 : @LT.lt Nat _ RL2 RD1 := Nat.lt_trans d4_7 c8
    have d4_9 : @LT.lt Nat _ RL2 R1 := Nat.lt_trans d4_8 c9
    have d4_10 : @LT.lt Nat _ RL2 RL1 := Nat.lt_trans d4_9 c10
    have d4_11 : @LT.lt Nat _ RL2 RD2 := Nat.lt_trans d4_10 c11
    have d4_12 : @LT.lt Nat _ RL2 R2 := Nat.lt_trans d4_11 c12
    have d5_7 : @LT.lt Nat _ G BA := Nat.lt_trans c6 c7
    have d5_8 : @LT.lt Nat _ G RD1 := Nat.lt_trans d5_7 c8
    have d5_9 : @LT.lt Nat _ G R1 := Nat.lt_trans d5_8 c9
    have d5_10 : @LT.lt Nat _ G RL1 := Nat.lt_trans d5_9 c10
    have d5_11 : @LT.lt Nat _ G RD2 := Nat.lt_trans d5_10 c11
    have d5_12 : @LT.lt Nat _ G R2 := Nat.lt_trans d5_11 c12
    have d6_8 : @LT.lt Nat _ LA RD1 := Nat.lt_trans c7 c8
    have d6_9 : @LT.lt Nat _ LA R1 := Nat.lt_trans d6_8 c9
    have d6_10 : @LT.lt Nat _ LA RL1 := Nat.lt_trans d6_9 c10
    have d6_11 : @LT.lt Nat _ LA RD2 := Nat.lt_trans d6_10 c11
    have d6_12 : @LT.lt Nat _ LA R2 := Nat.lt_trans d6_11 c12
    have d7_9 : @LT.lt Nat _ BA R1 := Nat.lt_trans c8 c9
    have d7_10 : @LT.lt Nat _ BA RL1 := Nat.lt_trans d7_9 c10
    have d7_11 : @LT.lt Nat _ BA RD2 := Nat.lt_trans d7_10 c11
    have d7_12 : @LT.lt Nat _ BA R2 := Nat.lt_trans d7_11 c12
    have d8_10 : @LT.lt Nat _ RD1 RL1 := Nat.lt_trans c9 c10
    have d8_11 : @LT.lt Nat _ RD1 RD2 := Nat.lt_trans d8_10 c11
    have d8_12 : @LT.lt Nat _ RD1 R2 := Nat.lt_trans d8_11 c12
    have d9_11 : @LT.lt Nat _ R1 RD2 := Nat.lt_trans c10 c11
    have d9_12 : @LT.lt Nat _ R1 R2 := Nat.lt_trans d9_11 c12
    have d10_12 : @LT.lt Nat _ RL1 R2 := Nat.lt_trans c11 c12
    refine ⟨LA, BA, [], [], 0, 0, [], [], [], 0, 0, 0, tb, t1, t2, none, none, none, none, [(LA, listOf #[] 0), (BA, listOf #[] 0), (EL, listOf exs.toArray ke), (DL, listOf dxs.toArray kd), (PL, _), (NL, listOf nv.toArray kn)], ?_, rfl, ⟨⟨?_, ?_, ?_, ?_, ?_, ?_⟩, ⟨?_, ?_, ?_, ?_, ?_, ?_⟩, ⟨?_, ?_, ?_, ?_, ?_, ?_⟩, ?_⟩, ⟨.nil, .nil, .nil, (by show (0 : Nat) < 900; decide), (by show (0 : Nat) < 900; decide)⟩,
      ⟨.head _, .tail _ (.head _), .nil, .nil, (by show (0 : Nat) < 900; decide), (by show (0 : Nat) < 900; decide), hok⟩, ⟨⟨⟨tw, tt, th, kp, .tail _ (.tail _ (.tail _ (.tail _ (.head _))))⟩, ⟨kn, .tail _ (.tail _ (.tail _ (.tail _ (.tail _ (.head _)))))⟩, hns⟩, .tail _ (.tail _ (.tail _ (.head _))), .tail _ (.tail _ (.head _))⟩⟩
    · refine (upd_none (x := Str.ofString "k") rfl).trans ?_
      funext y
      unfold LM1
      by_cases h1 : y = Str.ofString "shown"
      · subst h1; rfl
      · by_cases h2 : y = Str.ofString "due"
        · subst h2; rfl
        · by_cases h3 : y = Str.ofString "told"
          · subst h3; rfl
          · rw [if_neg h1, if_neg h2, if_neg h3]
            rfl
    all_goals (try (dsimp only; show @Ne Nat _ _; first | exact Nat.ne_of_lt (by with_reducible assumption) | exact Nat.ne_of_gt (by with_reducible assumption) | omega))
    all_goals (try (dsimp only; omega))
    intro p hp
    simp only [List.mem_cons, List.not_mem_nil, or_false] at hp
    rcases hp with rfl | rfl | rfl | rfl | rfl | rfl <;> (refine ⟨?_, ?_, ?_⟩ <;> (dsimp only; show @Ne Nat _ _; first | exact Nat.ne_of_lt (by with_reducible assumption) | exact Nat.ne_of_gt (by with_reducible assumption) | omega))
  · intro i t m₁ news₁ h tk I oI hi hcI hJ hoI F' N'
    exact turn1 C hdn hen hd5 he24 hl1 hl2 hz2 BB X T hi hcI hJ hoI F' N'
theorem law_loop2 {w : World} {mean : ExcName → Option Value} {mg mb : Str → Option Value} {ad : Ad} {c : Par} {NL PL DL EL l : Addr} {nv xs vs1 vs2 gv : List Value} {kl n1 n2 gn : Nat} {tw tt : Tok} {S₀ : St} {LA BA : Addr} {tb t1 t2 : Tok} {ok ot od os : Option Value} {fa : Addr} {cd : Value} {h₀ : Heap} {L : Addr} {rest news : Led} {Q : Flow → Shared → Prop} {E : Value → Shared → Prop} {s : Shared}
    (C : ParOk c) (I0 : Inv c S₀) (hz : S₀.lane.length < 100 ∧ S₀.back.length < 100) (hxs : NatsAre xs ((List.replicate 4 [0, 1, 2, 3, 4]).flatten : List Nat))
    (BB : Below callerA h₀ [] h₀) (X : (P.heap_1 w.params).In h₀) (T : Top P.view_1 LO mean mg mb h₀) (O : AdOk ad rest) (H : Has c S₀ vs1 vs2 gv rest) (PP : Plan c PL NL nv rest)
    (F : Fr h₀ L s.heap (LM1 ad c NL PL DL EL tw tt S₀ LA BA tb t1 t2 ok ot od os)) (N : News h₀ L s.heap ((l, lstO xs kl) :: news)) (hs : ∀ p ∈ LD w ad vs1 vs2 gv n1 n2 gn rest, p ∈ news) (hlt : ∀ p ∈ news, @LT.lt Nat _ p.1 l)
    (done : ∀ m₁ news₁ h tk, J2 w ad c NL PL l nv S₀ (LM1 ad c NL PL DL EL tw tt S₀ LA BA tb t1 t2 ok ot od os) 20 m₁ news₁ → Fr h₀ L h m₁ → News h₀ L h news₁ → Q .next { s with heap := h, toks := tk }) :
    wpAny (model PySem.Challenge.rw_yh0023_01.row.prog w) (callerA.deeper (envOfC (Str.ofString "law") lawAst.1.1 L fa cd)) (pyIter (.ref l)) (fun it s₂ => LoopAtV PySem.Challenge.rw_yh0023_01.row.prog w (callerA.deeper (envOfC (Str.ofString "law") lawAst.1.1 L fa cd)) h₀ (envOfC (Str.ofString "law") lawAst.1.1 L fa cd) (Str.ofString "deed") loopAst2.1 Q E it s₂) E s := by
  have hlen : xs.toArray.size = 20 := by
    have := hxs.length
    rw [List.length_map, five_len] at this
    simpa using this
  refine m_forL (items := xs.toArray) (k := kl) (J2 w ad c NL PL l nv S₀ (LM1 ad c NL PL DL EL tw tt S₀ LA BA tb t1 t2 ok ot od os)) rfl (.head _) F N (LD w ad vs1 vs2 gv n1 n2 gn rest) (fun p hp => .tail _ (hs p hp)) ?_ ?_ ?_
  · refine ⟨vs1, vs2, gv, n1, n2, gn, tb, none, rest, ?_, rfl, O, H, PP, fun p hp => Nat.ne_of_lt (hlt p (hs p hp))⟩
    funext y
    unfold LM2
    by_cases h1 : y = Str.ofString "begun"
    · subst h1; rfl
    · by_cases h2 : y = Str.ofString "deed"
      · subst h2; rfl
      · rw [if_neg h1, if_neg h2]
  · intro i v m₁ news₁ h tk I oI hv hcI hJ hoI F' N'
    exact turn2 C I0 hz hxs BB X T hv hcI hJ hoI F' N'
  · rw [hlen]
    exact done
theorem par_ok {ns : List Str} {d t : Nat} (hl : ns.length = 4) (hn : ∀ i < 4, NmOk (ns.getD i Str.empty)) (hd : d < 2) (ht : t < 300) :
    ParOk ⟨ns, 1 + d, t, Str.ofString "host" ++ Str.ofString (toString (t : Int))⟩ ∧ okText (Str.ofString "host" ++ Str.ofString (toString (t : Int))) :=
  ⟨⟨hl, by show 1 ≤ 1 + d; omega, by show 1 + d ≤ 2; omega, ht, hn, (nat_host (by omega)).2⟩, (nat_host (by omega)).1⟩
theorem en_ok {es : List Nat} (h : ∀ e ∈ es, e < 24) : ∀ e ∈ es ++ (List.replicate 12 [0]).flatten, e < 24 := by
  intro e he
  rcases List.mem_append.mp he with he | he
  · exact h e he
  · obtain ⟨l, hl, he⟩ := List.mem_flatten.mp he
    rw [(List.mem_replicate.mp hl).2] at he
    rw [List.mem_singleton.mp he]
    decide
theorem en_len {es : List Nat} (h : es.length = 14) : (es ++ (List.replicate 12 [0]).flatten).length = 26 := by
  rw [List.length_append, rep_len, h]; rfl
end
section -- MLaw6
noncomputable def tailAst : { b : List Stmt // ∃ a0 a1 a2 a3 a4 a5 a6 a7 a8 a9 a10, lawAst.1.2 = a0 :: a1 :: a2 :: a3 :: a4 :: a5 :: a6 :: a7 :: a8 :: a9 :: a10 :: b } := ⟨_, _, _, _, _, _, _, _, _, _, _, _, rfl⟩
end
section -- MLawR
noncomputable def StopR (P : Prop) : Prop := P
theorem m_stopR {P : Prop} (h : StopR P) : P := h
set_option maxHeartbeats 4000000 in
theorem law_tail {w : World} {mean : ExcName → Option Value} {mg mb : Str → Option Value} {ad : Ad} {c : Par} {NL PL DL EL : Addr} {nv dxs exs : List Value} {dk ek : Nat} {tw tt : Tok} {ds en : List Nat} {fa : Addr} {cd : Value} {h₀ h : Heap} {L : Addr} {Q : Flow → Shared → Prop} {E : Value → Shared → Prop} {s : Shared} {tk : Nat} {m₁ : Str → Option Value} {nw : Led}
    (C : ParOk c) (lds : ds.length = 14) (BB : Below callerA h₀ [] h₀) (X : (P.heap_1 w.params).In h₀) (T : Top P.view_1 LO mean mg mb h₀) (hE : PassesOwn (model PySem.Challenge.rw_yh0023_01.row.prog w) (callerA.deeper (envOfC (Str.ofString "law") lawAst.1.1 L fa cd)) (envOfC (Str.ofString "law") lawAst.1.1 L fa cd) E)
    (hJ : J1 w ad c NL PL DL EL nv dxs exs dk ek tw tt (allDeeds ds c.w) en (allDeeds ds c.w).length m₁ nw) (F : Fr h₀ L h m₁) (N : News h₀ L h nw) (hret : ∀ h' tk' m', Fr h₀ L h' m' → Q (.ret (.bool true)) { s with heap := h', toks := tk' }) :
    wpAny (model PySem.Challenge.rw_yh0023_01.row.prog w) (callerA.deeper (envOfC (Str.ofString "law") lawAst.1.1 L fa cd)) (execs tailAst.1 (envOfC (Str.ofString "law") lawAst.1.1 L fa cd)) Q E { s with heap := h, toks := tk } := by
  k_with_none
  k_with "m depth" => (first | exact dep_up (by with_reducible assumption) (by decide) | ((try simp only [depth_mark, depth_under_make, depth_under_kw, depth_in1, depth_deeper, depth_caller] at *); (try dsimp only [ktrTop] at *); omega))
  k_with "m units" => (first | exact uni_up (by with_reducible assumption) (by decide) | ((try simp only [units_in1, units_deeper, Around.mark_units, units_caller] at *); (try dsimp only [ktrTop] at *); omega))
  k_with "m begin" => ((have flzq : P.heap_1 = P.heap_1 ∧ PySem.Challenge.rw_yh0023_01 = PySem.Challenge.rw_yh0023_01 := by (k_fill; exact fill)); (clear flzq); (refine wpAny_call ?_))
  k_with "m enter" => ((case kA => exact rfl); (case kF => exact rfl); (case kK => assumption); (case k1 => k_asm); (case k2 => k_asm); (case k3 => k_asm); (case k4 => k_asm); (case k5 => k_asm); (case k6 => k_is); (case k7 => k_is); (case k8 => first | exact room_up hdp (by decide) | k_room); (case k9 => exact BindsTo.of_eq rfl); (case c5 => decide); (case kB => exact locs rfl); (case c2 => exact rfl); (case c3 => exact rfl); (case c4 => exact rfl); k_whole; intro g'zq L'zq h'zq FG'zq F'zq N'zq B'zq X'zq T'zq; (try dsimp only [List.reverse_cons, List.reverse_nil, List.nil_append, List.cons_append] at F'zq); (try k_fold))
  k_with "x execs cons" => (k_here; (with_reducible refine wpAny_execs_cons ?_); k_fold)
  k_with "x call builtin:len" => (k_here; (with_reducible show wpAny _ _ (call (Value.builtin "len") [Value.ref _]) _ _ _); k_dflt (refine' m_len ?k1 ?k2 ?k3 ?_; (case k1 => k_asm); (case k2 => k_mem); (case k3 => omega)))
  k_with "x getMethod ref" => (k_here; k_dflt (first | ((with_reducible show wpAny _ _ (getMethod (Value.ref 48) _ _) _ _ _); refine PatAt.meth (pat_name (by k_in)) ?_) | ((with_reducible show wpAny _ _ (getMethod (Value.ref 53) _ _) _ _ _); refine PatAt.meth (pat_value (by k_in)) ?_)))
  k_with "x call builtin:re.Pattern.search" => (k_here; k_dflt (first | (refine call_search (pat_name (by k_in)) (name_fails (by assumption)) (by assumption) ?_) | (refine call_search (pat_value (by k_in)) (value_fails (by assumption)) (by assumption) ?_)))
  k_with "x call builtin:str.join" => (k_here; k_dflt (refine' m_join1 ?k1 ?k2 ?k3 ?k4 ?_; (case k1 => k_asm); (case k2 => k_mem); (case k3 => decide); (case k4 => assumption)); intro t'zq tk'zq)
  k_with "m enterC" => ((case kA => exact rfl); (case kF => exact rfl); (case kK => assumption); (case k1 => k_asm); (case k2 => k_asm); (case k3 => k_asm); (case k4 => k_asm); (case k5 => k_asm); (case k6 => k_is); (case k7 => k_is); (case k8 => first | exact room_up hdp (by decide) | k_room); (case k9 => exact BindsTo.of_eq rfl); (case kB => exact rfl); (case kD => decide +kernel); (case c2 => exact rfl); (case c3 => exact rfl); (case c4 => exact rfl); k_whole; intro g'zq L'zq h'zq tk'zq cells'zq FG'zq F'zq N'zq Y'zq B'zq X'zq T'zq l1zq; (have l9zq := l1zq); (try k_lt l1zq); k_cells Y'zq; (try simp only [List.cons_append, List.nil_append] at N'zq); (try dsimp only); (try k_fold))
  k_with "x call builtin:str.lower" => (k_here; (try dsimp only); (with_reducible show wpAny _ _ (call (Value.builtin "str.lower") [Value.str _ _]) _ _ _); (refine SCL.lower (by first | omega | exact Nat.le_trans (by assumption) (by decide)) ?_); intro _)
  k_with "m mem" => (repeat (first | assumption | apply List.mem_cons_of_mem))
  k_with "x subscriptTail" => (k_here; (with_reducible show wpAny _ _ (subscriptTail _ _ (Value.ref _) (Value.int _ _)) _ _ _); k_dflt (refine' item_tupleT (m_tup (by k_asm) ?hm) (by decide) (by decide) ?hj ?hv ?_; (case hm => first | k_mem | walk_at "m mem"); (case hj => rfl); (case hv => rfl)))
  k_with "m look" => first | exact rfl | assumption
  k_with "x eval Name" => (k_here; (with_reducible show wpAny _ _ (eval (PySem.Expr.Name _ _) (envOf _ _ _ _ _)) _ _ _); k_dflt (refine' ld ?k1 ?k2 ?_; (case k1 => k_asm); (case k2 => walk_at "m look"); k_whole))
  k_with "x eval Name" => (k_here; (with_reducible show wpAny _ _ (eval (PySem.Expr.Name (PySem.Str.ofString "divmod") _) _) _ _ _); (with_reducible rename Fr _ _ _ _ => kFzq); with_unfolding_all refine guard_global (by rfl) ?_; k_dflt (refine' name_B kFzq ?k1 ?k2 ?k3 ?k4 ?k5 ?_; (case k1 => k_asm); (case k2 => k_asm); (case k3 => k_is); (case k4 => first | exact boot_divmod); (case k5 => decide); k_whole))
  k_with "m size" => (simp only [PySem.Str.length_append, lit0, lit1, lit2, lit3, lit4, lit5, lit6, lit7, lit8, lit9, lit10, lit11, lit12, lit13, lit14, lit15, lit16, lit17, lit18, lit19, lit20, lit21, lit22, lit23, lit24, one_len]; rw [sizeLine_eq]; omega)
  k_with "x binaryOp Add str str" => (k_here; (with_reducible show wpAny _ _ (binaryOp Operator.Add (Value.str _ _) (Value.str _ _)) _ _ _); k_dflt (refine' PyProof.Rows.add_str ?h ?hz; (case hz => walk_at "m size")); intro t'zq tk'zq)
  k_with "m enterT" => ((case kA => exact rfl); (case kF => exact rfl); (case kK => assumption); (case kX => assumption); (case kT => assumption); (case kD => assumption); (case k1 => k_asm); (case k2 => k_asm); (case k3 => k_asm); (case k4 => k_asm); (case k5 => k_asm); (case k6 => k_is); (case k7 => k_is); (case k8 => first | exact room_up hdp (by decide) | k_room); (case k9 => exact BindsTo.of_eq rfl); (case c5 => decide); (case kB => exact locs rfl); (case c2 => exact rfl); (case c3 => exact rfl); (case c4 => exact rfl); k_whole; intro g'zq L'zq h'zq tk0zq FG'zq F'zq N'zq B'zq X'zq T'zq D'zq; (try dsimp only [List.reverse_cons, List.reverse_nil, List.nil_append, List.cons_append] at F'zq); (try k_fold))
  k_with "x call type:str" => (k_here; (with_reducible show wpAny _ _ (call (Value.type "str") [Value.ref _]) _ _ _); k_dflt (refine' str_caught ?kF ?kX ?kN ?kG ?kK ?ks ?ku ?_; (case kG => assumption); (case kN => assumption); (case kF => k_asm); (case kX => k_asm); (case kK => kts_isx); (case ks => k_is); (case ku => k_units); k_whole))
  k_with "x binaryOp Mult ref int" => ((with_reducible show wpAny _ _ (binaryOp Operator.Mult (Value.ref _) (Value.int _ _)) _ _ _); (with_reducible rename Fr _ _ _ _ => F8zq); (with_reducible rename News _ _ _ _ => N8zq); k_dflt (refine' m_rep F8zq N8zq (.head _) ?hI ?hx ?h1 ?h2 ?_; (case hI => first | exact natsL12 | exact natsL34 | exact natsL0 | exact natsL5); (case hx => first | exact nat12 | exact nat4 | exact rfl); (case h1 => (simp only [List.length_cons, List.length_nil]; omega)); (case h2 => omega)); intro D'zq h'zq xs'zq hx'zq F'zq N'zq l1zq; (have l9zq := l1zq); (try k_lt l1zq); (try k_sweep))
  k_with "x binaryOp Add ref ref" => ((with_reducible show wpAny _ _ (binaryOp Operator.Add (Value.ref _) (Value.ref _)) _ _ _); (with_reducible rename Fr _ _ _ _ => F8zq); (with_reducible rename News _ _ _ _ => N8zq); k_dflt (refine' m_catN F8zq N8zq ?ha ?hb ?hv ?hw ?h1 ?h2 ?_; (case ha => walk_at "m memD"); (case hb => walk_at "m memD"); (case hv => with_reducible assumption); (case hw => with_reducible assumption); (case h1 => ((try simp only [List.length_append, rep_len, List.length_cons, List.length_nil]); omega)); (case h2 => ((try simp only [List.length_append, rep_len, List.length_cons, List.length_nil]); omega))); intro D'zq h'zq xs'zq hx'zq F'zq N'zq l1zq; (try k_lt l1zq); (try k_sweep))
  k_with "m memD" => (repeat (first | exact List.mem_cons_self | apply List.mem_cons_of_mem))
  k_with "x pyIter ref" => ((with_reducible show wpAny _ _ (pyIter (Value.ref _)) (fun it s₂ => PyProof.Rows.LoopAtV _ _ _ _ _ _ _ _ _ it s₂) _ _); k_extra "m loop")
  k_with "x exec For" => (k_here; (with_reducible show wpAny _ _ (exec (PySem.Stmt.For (PySem.Expr.Name _ _) _ _ [] _) _) _ _ _); (with_reducible rename Fr _ _ _ _ => lF'zq); (with_unfolding_all refine' For_invVF lF'zq ?k1 ?k2 ?_; (case k1 => exact rfl); (case k2 => exact rfl); k_whole))
  k_with "m memR" => (repeat (first | with_reducible assumption | with_reducible apply List.mem_cons_of_mem))
  k_with "m memK" => (repeat (first | exact List.mem_cons_self | with_reducible apply List.mem_cons_of_mem))
  obtain ⟨LA, BA, lv, bv, ln, bn, vs1, vs2, gv, n1, n2, gn, tb, t1, t2, ok, ot, od, os, rest, rfl, rfl, O, H, G, FX⟩ := hJ
  rw [all_len lds] at F H G
  have hem := emptied C (es := en) lds
  have Iv := runN_inv C (allDeeds ds c.w) en (18 + 4 * c.w)
  obtain ⟨S₀, hS₀⟩ : ∃ x, x = runN c (allDeeds ds c.w) en (18 + 4 * c.w) := ⟨_, rfl⟩
  rw [← hS₀] at F H hem Iv
  have hend := ended Iv hem.1 hem.2
  obtain ⟨nw0, hw0⟩ : ∃ x, x = LD w ad vs1 vs2 gv n1 n2 gn rest := ⟨_, rfl⟩
  rw [← hw0] at N
  have fl : P.heap_1 = P.heap_1 ∧ PySem.Challenge.rw_yh0023_01 = PySem.Challenge.rw_yh0023_01 := by (k_fill; exact fill)
  clear fl
  dsimp only [lawAst, tailAst]
  k_with "m loop" => refine m_stopR ?_
  k_steps
  unfold StopR
  (rename IntsAre _ (List.map _ _) => hx9)
  (rename Fr _ _ _ _ => F9)
  (rename News _ _ _ _ => N9)
  (rename (∀ p : Addr × Obj, p ∈ _ → p.1 < _) => l9)
  refine law_loop2 (NL := NL) (PL := PL) (DL := DL) (EL := EL) (nv := nv) C Iv (by rw [hem.1, hem.2]; decide) hx9 BB X T O H FX.pl F9 N9 (fun p hp => .tail _ (by rw [hw0]; exact hp)) l9 ?done
  intro m6 nw6 h6 tk6 J6 F6 N6
  clear F9 N9 l9 hw0 O H G FX
  obtain ⟨xs1, xs2, gw, k1, k2, gk, tb6, od6, rest6, rfl, rfl, O6, H6, PP6, hl6⟩ := J6
  rw [hend] at H6 F6
  obtain ⟨d1, d2, g6, _, _⟩ := H6
  cases d1
  cases d2
  have g9 : StrsAre gw c.ns := by
    have e : c.ns.take 4 = c.ns := List.take_of_length_le (by rw [C.len]; exact Nat.le_refl _)
    rw [← e]
    exact g6
  obtain ⟨hpl, ⟨nnl, hnl⟩, hns⟩ := PP6
  have hokn : ∀ d ∈ c.ns.map Dat.str, kqdOk 8 d = true := strsD (fun x hx => by
    obtain ⟨i, hi, rfl⟩ := List.getElem_of_mem hx
    have := nm_okText C (n := i) (by rw [← C.len]; exact hi)
    unfold Par.nm at this
    rwa [List.getD_eq_getElem?_getD, List.getElem?_eq_getElem hi] at this) 8
  unfold LM2 LM1 at F6
  k_with "m eq" => k_dflt (first
    | ((with_reducible show wpAny _ _ (compareOp CmpOp.Eq (Value.ref ad.G) (Value.ref NL)) _ _ _); (with_reducible rename News _ _ _ _ => N9); refine' m_eqSame N9 (.list (show (ad.G, listOf gw.toArray gk) ∈ _ from .tail _ (.tail _ (.tail _ (.tail _ (.tail _ (.tail _ (.head _))))))) (strsDat g9)) (.list (show (NL, listOf nv.toArray nnl) ∈ _ from .tail _ (.tail _ (.tail _ (.tail _ (.tail _ (.tail _ (.tail _ hnl))))))) (strsDat hns)) (lisD hokn) ?ku ?_; (case ku => k_units))
    | ((with_reducible show wpAny _ _ (compareOp CmpOp.Eq (Value.ref ad.RL2) (Value.ref _)) _ _ _); (with_reducible rename News _ _ _ _ => N9); refine' m_eqSame N9 (.list (show (ad.RL2, listOf [].toArray k2) ∈ _ from (by walk_at "m memK")) .nil) (.list (.head _) .nil) (d := .list []) rfl ?ku ?_; (case ku => k_units)))
  k_steps
  exact hret _ _ _ (by k_asm)
end
section -- MName
set_option maxHeartbeats 4000000 in
theorem name_says {w : World} {mean : ExcName → Option Value} {mg mb : Str → Option Value} {k f : Nat} {t u : Tok} {news : Led} (hk4 : k < 4) :
    Says w mean mg mb 30 258 [.int k t, .int f u] [] news (fun news' r => news' = news ∧ ∃ u, r = .str (nameS k f) u) := by
  k_with_none
  k_with "m depth" => (first | exact dep_up (by with_reducible assumption) (by decide) | ((try simp only [depth_mark, depth_under_make, depth_under_kw, depth_in1, depth_deeper, depth_caller] at *); (try dsimp only [ktrTop] at *); omega))
  k_with "m units" => (first | exact uni_up (by with_reducible assumption) (by decide) | ((try simp only [units_in1, units_deeper, Around.mark_units, units_caller] at *); (try dsimp only [ktrTop] at *); omega))
  k_with "m begin" => ((have flzq : P.heap_1 = P.heap_1 ∧ PySem.Challenge.rw_yh0023_01 = PySem.Challenge.rw_yh0023_01 := by (k_fill; exact fill)); (clear flzq); (refine wpAny_call ?_))
  k_with "m enter" => ((case kA => exact rfl); (case kF => exact rfl); (case kK => assumption); (case k1 => k_asm); (case k2 => k_asm); (case k3 => k_asm); (case k4 => k_asm); (case k5 => k_asm); (case k6 => k_is); (case k7 => k_is); (case k8 => first | exact room_up hdp (by decide) | k_room); (case k9 => exact BindsTo.of_eq rfl); (case c5 => decide); (case kB => exact locs rfl); (case c2 => exact rfl); (case c3 => exact rfl); (case c4 => exact rfl); k_whole; intro g'zq L'zq h'zq FG'zq F'zq N'zq B'zq X'zq T'zq; (try dsimp only [List.reverse_cons, List.reverse_nil, List.nil_append, List.cons_append] at F'zq); (try k_fold))
  k_with "x execs cons" => (k_here; (with_reducible refine wpAny_execs_cons ?_); k_fold)
  k_with "x call builtin:len" => (k_here; (with_reducible show wpAny _ _ (call (Value.builtin "len") [Value.ref _]) _ _ _); k_dflt (refine' m_len ?k1 ?k2 ?k3 ?_; (case k1 => k_asm); (case k2 => k_mem); (case k3 => omega)))
  k_with "x getMethod ref" => (k_here; k_dflt (first | ((with_reducible show wpAny _ _ (getMethod (Value.ref 48) _ _) _ _ _); refine PatAt.meth (pat_name (by k_in)) ?_) | ((with_reducible show wpAny _ _ (getMethod (Value.ref 53) _ _) _ _ _); refine PatAt.meth (pat_value (by k_in)) ?_)))
  k_with "x call builtin:re.Pattern.search" => (k_here; k_dflt (first | (refine call_search (pat_name (by k_in)) (name_fails (by assumption)) (by assumption) ?_) | (refine call_search (pat_value (by k_in)) (value_fails (by assumption)) (by assumption) ?_)))
  k_with "x call builtin:str.join" => (k_here; k_dflt (refine' m_join1 ?k1 ?k2 ?k3 ?k4 ?_; (case k1 => k_asm); (case k2 => k_mem); (case k3 => decide); (case k4 => assumption)); intro t'zq tk'zq)
  k_with "m enterC" => ((case kA => exact rfl); (case kF => exact rfl); (case kK => assumption); (case k1 => k_asm); (case k2 => k_asm); (case k3 => k_asm); (case k4 => k_asm); (case k5 => k_asm); (case k6 => k_is); (case k7 => k_is); (case k8 => first | exact room_up hdp (by decide) | k_room); (case k9 => exact BindsTo.of_eq rfl); (case kB => exact rfl); (case kD => decide +kernel); (case c2 => exact rfl); (case c3 => exact rfl); (case c4 => exact rfl); k_whole; intro g'zq L'zq h'zq tk'zq cells'zq FG'zq F'zq N'zq Y'zq B'zq X'zq T'zq l1zq; (have l9zq := l1zq); (try k_lt l1zq); k_cells Y'zq; (try simp only [List.cons_append, List.nil_append] at N'zq); (try dsimp only); (try k_fold))
  k_with "x call builtin:str.lower" => (k_here; (try dsimp only); (with_reducible show wpAny _ _ (call (Value.builtin "str.lower") [Value.str _ _]) _ _ _); (refine SCL.lower (by first | omega | exact Nat.le_trans (by assumption) (by decide)) ?_); intro _)
  k_with "m mem" => (repeat (first | assumption | apply List.mem_cons_of_mem))
  k_with "x subscriptTail" => (k_here; (with_reducible show wpAny _ _ (subscriptTail _ _ (Value.ref _) (Value.int _ _)) _ _ _); k_dflt (refine' item_tupleT (m_tup (by k_asm) ?hm) (by decide) (by decide) ?hj ?hv ?_; (case hm => first | k_mem | walk_at "m mem"); (case hj => rfl); (case hv => rfl)))
  k_with "m look" => first | exact rfl | assumption
  k_with "x eval Name" => (k_here; (with_reducible show wpAny _ _ (eval (PySem.Expr.Name _ _) (envOf _ _ _ _ _)) _ _ _); k_dflt (refine' ld ?k1 ?k2 ?_; (case k1 => k_asm); (case k2 => walk_at "m look"); k_whole))
  k_with "x eval Name" => (k_here; (with_reducible show wpAny _ _ (eval (PySem.Expr.Name (PySem.Str.ofString "divmod") _) _) _ _ _); (with_reducible rename Fr _ _ _ _ => kFzq); with_unfolding_all refine guard_global (by rfl) ?_; k_dflt (refine' name_B kFzq ?k1 ?k2 ?k3 ?k4 ?k5 ?_; (case k1 => k_asm); (case k2 => k_asm); (case k3 => k_is); (case k4 => first | exact boot_divmod); (case k5 => decide); k_whole))
  k_with "m size" => (simp only [PySem.Str.length_append, lit0, lit1, lit2, lit3, lit4, lit5, lit6, lit7, lit8, lit9, lit10, lit11, lit12, lit13, lit14, lit15, lit16, lit17, lit18, lit19, lit20, lit21, lit22, lit23, lit24, one_len]; rw [sizeLine_eq]; omega)
  k_with "x binaryOp Add str str" => (k_here; (with_reducible show wpAny _ _ (binaryOp Operator.Add (Value.str _ _) (Value.str _ _)) _ _ _); k_dflt (refine' PyProof.Rows.add_str ?h ?hz; (case hz => walk_at "m size")); intro t'zq tk'zq)
  k_with "m enterT" => ((case kA => exact rfl); (case kF => exact rfl); (case kK => assumption); (case kX => assumption); (case kT => assumption); (case kD => assumption); (case k1 => k_asm); (case k2 => k_asm); (case k3 => k_asm); (case k4 => k_asm); (case k5 => k_asm); (case k6 => k_is); (case k7 => k_is); (case k8 => first | exact room_up hdp (by decide) | k_room); (case k9 => exact BindsTo.of_eq rfl); (case c5 => decide); (case kB => exact locs rfl); (case c2 => exact rfl); (case c3 => exact rfl); (case c4 => exact rfl); k_whole; intro g'zq L'zq h'zq tk0zq FG'zq F'zq N'zq B'zq X'zq T'zq D'zq; (try dsimp only [List.reverse_cons, List.reverse_nil, List.nil_append, List.cons_append] at F'zq); (try k_fold))
  k_with "x call type:str" => (k_here; (with_reducible show wpAny _ _ (call (Value.type "str") [Value.ref _]) _ _ _); k_dflt (refine' str_caught ?kF ?kX ?kN ?kG ?kK ?ks ?ku ?_; (case kG => assumption); (case kN => assumption); (case kF => k_asm); (case kX => k_asm); (case kK => kts_isx); (case ks => k_is); (case ku => k_units); k_whole))
  k_with "x subscriptTail" => (k_here; (with_reducible show wpAny _ _ (subscriptTail _ _ (Value.ref _) (Value.int _ _)) _ _ _); k_dflt (refine' m_piece ?n1 ?n2 ?n3 ?n4 ?_; (case n1 => k_asm); (case n2 => k_mem); (case n3 => first | exact fmod_lo _ (by decide)); (case n4 => exact fmod_hi _ (by decide))); intro t'zq hplzq)
  unfold Says
  intro dp un gd cn cs a ccd cl outer A₀ base h₀ L m s Q E B F X N T hk hdp hun hret
  walk_at "m begin"
  k_dflt (refine' code_def (binds := [("k", .int k t), ("figure", .int f u)]) ?k1 ?k2 ?k3 ?k4 ?k5 ?kA ?kF ?kK ?k6 ?k7 ?k8 ?k9 ?kB ?_ ?c2 ?c3 ?c4 ?c5)
  k_dflt walk_at "m enter"
  k_steps
  exact hret _ _ _ _ (by k_asm) (News.sub (by k_asm) (fun p hp => by walk_at "m mem")) ⟨rfl, _, by rw [fd4, fm4, fm4]; rfl⟩
end
section -- MLawH
/-- a Headers made -/
noncomputable def MadeH (w : World) (news : Led) (news' : Led) (r : Value) : Prop := ∃ R RD RL th, r = .ref R ∧ news' = (R, instObj 184 RD) :: (RD, hdrD w th RL) :: (RL, listOf #[] 0) :: news ∧ (∀ p ∈ news, @LT.lt Nat _ p.1 RD) ∧ @LT.lt Nat _ RD R ∧ @LT.lt Nat _ R RL
noncomputable def MadeK (w : World) (K : Addr) (news : Led) (news' : Led) (r : Value) : Prop := ∃ R RD th, r = .ref R ∧ news' = (R, instObj 184 RD) :: (RD, hdrD w th K) :: (K, listOf #[] 0) :: news ∧ (∀ p ∈ (K, listOf #[] 0) :: news, @LT.lt Nat _ p.1 RD) ∧ @LT.lt Nat _ RD R
set_option maxHeartbeats 4000000 in
theorem make0_says {w : World} {mean : ExcName → Option Value} {mg mb : Str → Option Value} {news : Led} :
    Says w mean mg mb 30 184 [] [] news (MadeH w news) := by
  k_with_none
  k_with "m depth" => (first | exact dep_up (by with_reducible assumption) (by decide) | ((try simp only [depth_mark, depth_under_make, depth_under_kw, depth_in1, depth_deeper, depth_caller] at *); (try dsimp only [ktrTop] at *); omega))
  k_with "m units" => (first | exact uni_up (by with_reducible assumption) (by decide) | ((try simp only [units_in1, units_deeper, Around.mark_units, units_caller] at *); (try dsimp only [ktrTop] at *); omega))
  k_with "m begin" => ((have flzq : P.heap_1 = P.heap_1 ∧ PySem.Challenge.rw_yh0023_01 = PySem.Challenge.rw_yh0023_01 := by (k_fill; exact fill)); (clear flzq); (refine wpAny_call ?_))
  k_with "m enter" => ((case kA => exact rfl); (case kF => exact rfl); (case kK => assumption); (case k1 => k_asm); (case k2 => k_asm); (case k3 => k_asm); (case k4 => k_asm); (case k5 => k_asm); (case k6 => k_is); (case k7 => k_is); (case k8 => first | exact room_up hdp (by decide) | k_room); (case k9 => exact BindsTo.of_eq rfl); (case c5 => decide); (case kB => exact locs rfl); (case c2 => exact rfl); (case c3 => exact rfl); (case c4 => exact rfl); k_whole; intro g'zq L'zq h'zq FG'zq F'zq N'zq B'zq X'zq T'zq; (try dsimp only [List.reverse_cons, List.reverse_nil, List.nil_append, List.cons_append] at F'zq); (try k_fold))
  k_with "x execs cons" => (k_here; (with_reducible refine wpAny_execs_cons ?_); k_fold)
  k_with "x call builtin:len" => (k_here; (with_reducible show wpAny _ _ (call (Value.builtin "len") [Value.ref _]) _ _ _); k_dflt (refine' m_len ?k1 ?k2 ?k3 ?_; (case k1 => k_asm); (case k2 => k_mem); (case k3 => omega)))
  k_with "x getMethod ref" => (k_here; k_dflt (first | ((with_reducible show wpAny _ _ (getMethod (Value.ref 48) _ _) _ _ _); refine PatAt.meth (pat_name (by k_in)) ?_) | ((with_reducible show wpAny _ _ (getMethod (Value.ref 53) _ _) _ _ _); refine PatAt.meth (pat_value (by k_in)) ?_)))
  k_with "x call builtin:re.Pattern.search" => (k_here; k_dflt (first | (refine call_search (pat_name (by k_in)) (name_fails (by assumption)) (by assumption) ?_) | (refine call_search (pat_value (by k_in)) (value_fails (by assumption)) (by assumption) ?_)))
  k_with "x call builtin:str.join" => (k_here; k_dflt (refine' m_join1 ?k1 ?k2 ?k3 ?k4 ?_; (case k1 => k_asm); (case k2 => k_mem); (case k3 => decide); (case k4 => assumption)); intro t'zq tk'zq)
  k_with "m enterC" => ((case kA => exact rfl); (case kF => exact rfl); (case kK => assumption); (case k1 => k_asm); (case k2 => k_asm); (case k3 => k_asm); (case k4 => k_asm); (case k5 => k_asm); (case k6 => k_is); (case k7 => k_is); (case k8 => first | exact room_up hdp (by decide) | k_room); (case k9 => exact BindsTo.of_eq rfl); (case kB => exact rfl); (case kD => decide +kernel); (case c2 => exact rfl); (case c3 => exact rfl); (case c4 => exact rfl); k_whole; intro g'zq L'zq h'zq tk'zq cells'zq FG'zq F'zq N'zq Y'zq B'zq X'zq T'zq l1zq; (have l9zq := l1zq); (try k_lt l1zq); k_cells Y'zq; (try simp only [List.cons_append, List.nil_append] at N'zq); (try dsimp only); (try k_fold))
  k_with "x call builtin:str.lower" => (k_here; (try dsimp only); (with_reducible show wpAny _ _ (call (Value.builtin "str.lower") [Value.str _ _]) _ _ _); (refine SCL.lower (by first | omega | exact Nat.le_trans (by assumption) (by decide)) ?_); intro _)
  k_with "m mem" => (repeat (first | assumption | apply List.mem_cons_of_mem))
  k_with "x subscriptTail" => (k_here; (with_reducible show wpAny _ _ (subscriptTail _ _ (Value.ref _) (Value.int _ _)) _ _ _); k_dflt (refine' item_tupleT (m_tup (by k_asm) ?hm) (by decide) (by decide) ?hj ?hv ?_; (case hm => first | k_mem | walk_at "m mem"); (case hj => rfl); (case hv => rfl)))
  k_with "m look" => first | exact rfl | assumption
  k_with "x eval Name" => (k_here; (with_reducible show wpAny _ _ (eval (PySem.Expr.Name _ _) (envOf _ _ _ _ _)) _ _ _); k_dflt (refine' ld ?k1 ?k2 ?_; (case k1 => k_asm); (case k2 => walk_at "m look"); k_whole))
  k_with "x eval Name" => (k_here; (with_reducible show wpAny _ _ (eval (PySem.Expr.Name (PySem.Str.ofString "divmod") _) _) _ _ _); (with_reducible rename Fr _ _ _ _ => kFzq); with_unfolding_all refine guard_global (by rfl) ?_; k_dflt (refine' name_B kFzq ?k1 ?k2 ?k3 ?k4 ?k5 ?_; (case k1 => k_asm); (case k2 => k_asm); (case k3 => k_is); (case k4 => first | exact boot_divmod); (case k5 => decide); k_whole))
  k_with "m size" => (simp only [PySem.Str.length_append, lit0, lit1, lit2, lit3, lit4, lit5, lit6, lit7, lit8, lit9, lit10, lit11, lit12, lit13, lit14, lit15, lit16, lit17, lit18, lit19, lit20, lit21, lit22, lit23, lit24, one_len]; rw [sizeLine_eq]; omega)
  k_with "x binaryOp Add str str" => (k_here; (with_reducible show wpAny _ _ (binaryOp Operator.Add (Value.str _ _) (Value.str _ _)) _ _ _); k_dflt (refine' PyProof.Rows.add_str ?h ?hz; (case hz => walk_at "m size")); intro t'zq tk'zq)
  k_with "m enterT" => ((case kA => exact rfl); (case kF => exact rfl); (case kK => assumption); (case kX => assumption); (case kT => assumption); (case kD => assumption); (case k1 => k_asm); (case k2 => k_asm); (case k3 => k_asm); (case k4 => k_asm); (case k5 => k_asm); (case k6 => k_is); (case k7 => k_is); (case k8 => first | exact room_up hdp (by decide) | k_room); (case k9 => exact BindsTo.of_eq rfl); (case c5 => decide); (case kB => exact locs rfl); (case c2 => exact rfl); (case c3 => exact rfl); (case c4 => exact rfl); k_whole; intro g'zq L'zq h'zq tk0zq FG'zq F'zq N'zq B'zq X'zq T'zq D'zq; (try dsimp only [List.reverse_cons, List.reverse_nil, List.nil_append, List.cons_append] at F'zq); (try k_fold))
  k_with "x call type:str" => (k_here; (with_reducible show wpAny _ _ (call (Value.type "str") [Value.ref _]) _ _ _); k_dflt (refine' str_caught ?kF ?kX ?kN ?kG ?kK ?ks ?ku ?_; (case kG => assumption); (case kN => assumption); (case kF => k_asm); (case kX => k_asm); (case kK => kts_isx); (case ks => k_is); (case ku => k_units); k_whole))
  k_with "m room9" => first | k_room | (simp only [recursionLimit, depth_under_make, depth_under_kw, depth_in1, depth_deeper, depth_caller] at *; omega)
  k_with "x exec For Tuple Name cons nil" => (k_here; (with_reducible rename Fr _ _ _ _ => lF'zq); (with_unfolding_all refine' For_turns lF'zq ?_; k_whole))
  k_with "x pyIter ref" => ((with_reducible rename Fr _ _ _ _ => F9zq); (with_reducible rename News _ _ _ _ => N9zq); k_dflt (refine iter_listTurns (vs := []) (by rfl) F9zq N9zq (by walk_at "m memD") rfl rfl ?_); intro I'zq l1zq)
  k_with "m memD" => (repeat (first | exact List.mem_cons_self | apply List.mem_cons_of_mem))
  unfold Says
  intro dp un gd cn cs a ccd cl outer A₀ base h₀ L m s Q E B F X N T hk hdp hun hret
  have fl : P.heap_1 = P.heap_1 ∧ PySem.Challenge.rw_yh0023_01 = PySem.Challenge.rw_yh0023_01 := by (k_fill; exact fill)
  clear fl
  k_here
  k_dflt (refine' call_cls ?k1 ?k2 ?k3 ?k4 ?k5 ?k6 ?_; (case k1 => k_asm); (case k2 => k_asm); (case k3 => k_asm); (case k4 => k_is); (case k5 => k_is); (case k6 => k_is); k_whole)
  intro R RD h' F' N' l1 l2
  have l9 := l1
  (try k_lt2 l2)
  k_dflt (refine' code_def (binds := [("self", .ref R), ("headers", .none)]) ?k1 ?k2 ?k3 ?k4 ?k5 ?kA ?kF ?kK ?k6 ?k7 ?k8 ?k9 ?kB ?_ ?c2 ?c3 ?c4 ?c5)
  k_dflt ((case kA => exact rfl); (case kF => exact rfl); (case kK => assumption); (case k1 => k_asm); (case k2 => k_asm); (case k3 => k_asm); (case k4 => k_asm); (case k5 => k_asm); (case k6 => k_is); (case k7 => k_is); (case k9 => first | exact BindsTo.of_eq rfl | exact binds_K (by k_in) rfl (by k_is) rfl rfl rfl); (case k8 => walk_at "m room9"); (case c5 => decide); (case kB => exact locs rfl); (case c2 => exact rfl); (case c3 => exact rfl); (case c4 => exact rfl); k_whole; intro g' L' h' FG' F' N' B' X' T'; (try dsimp only [List.reverse_cons, List.reverse_nil, List.nil_append, List.cons_append] at F'); (try k_fold))
  k_steps
  (rename (R < _ ∧ RD < _ ∧ _) => l8)
  exact hret _ _ _ _ (by k_asm) (News.sub (news' := (R, instObj 184 RD) :: (RD, _) :: (_, listOf #[] 0) :: news) (by k_asm) (List.forall_mem_cons.mpr ⟨.tail _ (.head _), List.forall_mem_cons.mpr ⟨.tail _ (.tail _ (.head _)), List.forall_mem_cons.mpr ⟨.head _, fun p hp => .tail _ (.tail _ (.tail _ hp))⟩⟩⟩)) ⟨R, RD, _, _, rfl, rfl, l9, l2, l8.1⟩
set_option maxHeartbeats 4000000 in
theorem make1_says {w : World} {mean : ExcName → Option Value} {mg mb : Str → Option Value} {K : Addr} {news : Led} :
    Says w mean mg mb 30 184 [.ref K] [] ((K, listOf #[] 0) :: news) (MadeK w K news) := by
  k_with_none
  k_with "m depth" => (first | exact dep_up (by with_reducible assumption) (by decide) | ((try simp only [depth_mark, depth_under_make, depth_under_kw, depth_in1, depth_deeper, depth_caller] at *); (try dsimp only [ktrTop] at *); omega))
  k_with "m units" => (first | exact uni_up (by with_reducible assumption) (by decide) | ((try simp only [units_in1, units_deeper, Around.mark_units, units_caller] at *); (try dsimp only [ktrTop] at *); omega))
  k_with "m begin" => ((have flzq : P.heap_1 = P.heap_1 ∧ PySem.Challenge.rw_yh0023_01 = PySem.Challenge.rw_yh0023_01 := by (k_fill; exact fill)); (clear flzq); (refine wpAny_call ?_))
  k_with "m enter" => ((case kA => exact rfl); (case kF => exact rfl); (case kK => assumption); (case k1 => k_asm); (case k2 => k_asm); (case k3 => k_asm); (case k4 => k_asm); (case k5 => k_asm); (case k6 => k_is); (case k7 => k_is); (case k8 => first | exact room_up hdp (by decide) | k_room); (case k9 => exact BindsTo.of_eq rfl); (case c5 => decide); (case kB => exact locs rfl); (case c2 => exact rfl); (case c3 => exact rfl); (case c4 => exact rfl); k_whole; intro g'zq L'zq h'zq FG'zq F'zq N'zq B'zq X'zq T'zq; (try dsimp only [List.reverse_cons, List.reverse_nil, List.nil_append, List.cons_append] at F'zq); (try k_fold))
  k_with "x execs cons" => (k_here; (with_reducible refine wpAny_execs_cons ?_); k_fold)
  k_with "x call builtin:len" => (k_here; (with_reducible show wpAny _ _ (call (Value.builtin "len") [Value.ref _]) _ _ _); k_dflt (refine' m_len ?k1 ?k2 ?k3 ?_; (case k1 => k_asm); (case k2 => k_mem); (case k3 => omega)))
  k_with "x getMethod ref" => (k_here; k_dflt (first | ((with_reducible show wpAny _ _ (getMethod (Value.ref 48) _ _) _ _ _); refine PatAt.meth (pat_name (by k_in)) ?_) | ((with_reducible show wpAny _ _ (getMethod (Value.ref 53) _ _) _ _ _); refine PatAt.meth (pat_value (by k_in)) ?_)))
  k_with "x call builtin:re.Pattern.search" => (k_here; k_dflt (first | (refine call_search (pat_name (by k_in)) (name_fails (by assumption)) (by assumption) ?_) | (refine call_search (pat_value (by k_in)) (value_fails (by assumption)) (by assumption) ?_)))
  k_with "x call builtin:str.join" => (k_here; k_dflt (refine' m_join1 ?k1 ?k2 ?k3 ?k4 ?_; (case k1 => k_asm); (case k2 => k_mem); (case k3 => decide); (case k4 => assumption)); intro t'zq tk'zq)
  k_with "m enterC" => ((case kA => exact rfl); (case kF => exact rfl); (case kK => assumption); (case k1 => k_asm); (case k2 => k_asm); (case k3 => k_asm); (case k4 => k_asm); (case k5 => k_asm); (case k6 => k_is); (case k7 => k_is); (case k8 => first | exact room_up hdp (by decide) | k_room); (case k9 => exact BindsTo.of_eq rfl); (case kB => exact rfl); (case kD => decide +kernel); (case c2 => exact rfl); (case c3 => exact rfl); (case c4 => exact rfl); k_whole; intro g'zq L'zq h'zq tk'zq cells'zq FG'zq F'zq N'zq Y'zq B'zq X'zq T'zq l1zq; (have l9zq := l1zq); (try k_lt l1zq); k_cells Y'zq; (try simp only [List.cons_append, List.nil_append] at N'zq); (try dsimp only); (try k_fold))
  k_with "x call builtin:str.lower" => (k_here; (try dsimp only); (with_reducible show wpAny _ _ (call (Value.builtin "str.lower") [Value.str _ _]) _ _ _); (refine SCL.lower (by first | omega | exact Nat.le_trans (by assumption) (by decide)) ?_); intro _)
  k_with "m mem" => (repeat (first | assumption | apply List.mem_cons_of_mem))
  k_with "x subscriptTail" => (k_here; (with_reducible show wpAny _ _ (subscriptTail _ _ (Value.ref _) (Value.int _ _)) _ _ _); k_dflt (refine' item_tupleT (m_tup (by k_asm) ?hm) (by decide) (by decide) ?hj ?hv ?_; (case hm => first | k_mem | walk_at "m mem"); (case hj => rfl); (case hv => rfl)))
  k_with "m look" => first | exact rfl | assumption
  k_with "x eval Name" => (k_here; (with_reducible show wpAny _ _ (eval (PySem.Expr.Name _ _) (envOf _ _ _ _ _)) _ _ _); k_dflt (refine' ld ?k1 ?k2 ?_; (case k1 => k_asm); (case k2 => walk_at "m look"); k_whole))
  k_with "x eval Name" => (k_here; (with_reducible show wpAny _ _ (eval (PySem.Expr.Name (PySem.Str.ofString "divmod") _) _) _ _ _); (with_reducible rename Fr _ _ _ _ => kFzq); with_unfolding_all refine guard_global (by rfl) ?_; k_dflt (refine' name_B kFzq ?k1 ?k2 ?k3 ?k4 ?k5 ?_; (case k1 => k_asm); (case k2 => k_asm); (case k3 => k_is); (case k4 => first | exact boot_divmod); (case k5 => decide); k_whole))
  k_with "m size" => (simp only [PySem.Str.length_append, lit0, lit1, lit2, lit3, lit4, lit5, lit6, lit7, lit8, lit9, lit10, lit11, lit12, lit13, lit14, lit15, lit16, lit17, lit18, lit19, lit20, lit21, lit22, lit23, lit24, one_len]; rw [sizeLine_eq]; omega)
  k_with "x binaryOp Add str str" => (k_here; (with_reducible show wpAny _ _ (binaryOp Operator.Add (Value.str _ _) (Value.str _ _)) _ _ _); k_dflt (refine' PyProof.Rows.add_str ?h ?hz; (case hz => walk_at "m size")); intro t'zq tk'zq)
  k_with "m enterT" => ((case kA => exact rfl); (case kF => exact rfl); (case kK => assumption); (case kX => assumption); (case kT => assumption); (case kD => assumption); (case k1 => k_asm); (case k2 => k_asm); (case k3 => k_asm); (case k4 => k_asm); (case k5 => k_asm); (case k6 => k_is); (case k7 => k_is); (case k8 => first | exact room_up hdp (by decide) | k_room); (case k9 => exact BindsTo.of_eq rfl); (case c5 => decide); (case kB => exact locs rfl); (case c2 => exact rfl); (case c3 => exact rfl); (case c4 => exact rfl); k_whole; intro g'zq L'zq h'zq tk0zq FG'zq F'zq N'zq B'zq X'zq T'zq D'zq; (try dsimp only [List.reverse_cons, List.reverse_nil, List.nil_append, List.cons_append] at F'zq); (try k_fold))
  k_with "x call type:str" => (k_here; (with_reducible show wpAny _ _ (call (Value.type "str") [Value.ref _]) _ _ _); k_dflt (refine' str_caught ?kF ?kX ?kN ?kG ?kK ?ks ?ku ?_; (case kG => assumption); (case kN => assumption); (case kF => k_asm); (case kX => k_asm); (case kK => kts_isx); (case ks => k_is); (case ku => k_units); k_whole))
  k_with "m room9" => first | k_room | (simp only [recursionLimit, depth_under_make, depth_under_kw, depth_in1, depth_deeper, depth_caller] at *; omega)
  k_with "x exec For Tuple Name cons nil" => (k_here; (with_reducible rename Fr _ _ _ _ => lF'zq); (with_unfolding_all refine' For_turns lF'zq ?_; k_whole))
  k_with "x pyIter ref" => ((with_reducible rename Fr _ _ _ _ => F9zq); (with_reducible rename News _ _ _ _ => N9zq); k_dflt (refine iter_listTurns (vs := []) (by rfl) F9zq N9zq (by walk_at "m memD") rfl rfl ?_); intro I'zq l1zq)
  k_with "m memD" => (repeat (first | exact List.mem_cons_self | apply List.mem_cons_of_mem))
  unfold Says
  intro dp un gd cn cs a ccd cl outer A₀ base h₀ L m s Q E B F X N T hk hdp hun hret
  have fl : P.heap_1 = P.heap_1 ∧ PySem.Challenge.rw_yh0023_01 = PySem.Challenge.rw_yh0023_01 := by (k_fill; exact fill)
  clear fl
  k_here
  k_dflt (refine' call_cls ?k1 ?k2 ?k3 ?k4 ?k5 ?k6 ?_; (case k1 => k_asm); (case k2 => k_asm); (case k3 => k_asm); (case k4 => k_is); (case k5 => k_is); (case k6 => k_is); k_whole)
  intro R RD h' F' N' l1 l2
  have l9 := l1
  (try k_lt2 l2)
  k_dflt (refine' code_def (binds := [("self", .ref R), ("headers", .ref K)]) ?k1 ?k2 ?k3 ?k4 ?k5 ?kA ?kF ?kK ?k6 ?k7 ?k8 ?k9 ?kB ?_ ?c2 ?c3 ?c4 ?c5)
  k_dflt ((case kA => exact rfl); (case kF => exact rfl); (case kK => assumption); (case k1 => k_asm); (case k2 => k_asm); (case k3 => k_asm); (case k4 => k_asm); (case k5 => k_asm); (case k6 => k_is); (case k7 => k_is); (case k9 => first | exact BindsTo.of_eq rfl | exact binds_K (by k_in) rfl (by k_is) rfl rfl rfl); (case k8 => walk_at "m room9"); (case c5 => decide); (case kB => exact locs rfl); (case c2 => exact rfl); (case c3 => exact rfl); (case c4 => exact rfl); k_whole; intro g' L' h' FG' F' N' B' X' T'; (try dsimp only [List.reverse_cons, List.reverse_nil, List.nil_append, List.cons_append] at F'); (try k_fold))
  k_steps
  exact hret _ _ _ _ (by k_asm) (by k_asm) ⟨R, RD, _, rfl, rfl, l9, l2⟩
end
section -- MLawM
noncomputable def StopM (P : Prop) : Prop := P
theorem m_stopM {P : Prop} (h : StopM P) : P := h
set_option maxHeartbeats 40000000 in
theorem law_main {w : World} {mean : ExcName → Option Value} {mg mb : Str → Option Value} {fa : Addr} {cd : Value} {h₀ h : Heap} {L sl : Addr} {svs : List Value} {sns : List Int} {o1 o2 o3 : Obj} {Q : Flow → Shared → Prop} {E : Value → Shared → Prop} {s : Shared} {tk : Nat}
    (hI : IntsAre svs sns) (h63 : ¬(((63 : Nat) : Int) < ((sns.length : Nat) : Int))) (hL : h₀.IsList sl svs.toArray) (BB : Below callerA h₀ [] h₀) (X : (P.heap_1 w.params).In h₀) (T : Top P.view_1 LO mean mg mb h₀) (hE : PassesOwn (model PySem.Challenge.rw_yh0023_01.row.prog w) (callerA.deeper (envOfC (Str.ofString "law") lawAst.1.1 L fa cd)) (envOfC (Str.ofString "law") lawAst.1.1 L fa cd) E)
    (F1 : Fr h₀ L h (fun _ => none)) (N0 : News h₀ L h [(L + 1 + 1 + 1, o3), (L + 1 + 1, o2), (L + 1, o1)]) (e3 : o3.data = .cell none) (e2 : o2.data = .cell none) (e1 : o1.data = .cell (some (.ref sl)))
    (hret : ∀ h' tk' m', Fr h₀ L h' m' → Q (.ret (.bool true)) { s with heap := h', toks := tk' }) :
    wpAny (model PySem.Challenge.rw_yh0023_01.row.prog w) (callerA.deeper (envOfC (Str.ofString "law") lawAst.1.1 L fa cd)) (execs lawAst.1.2 (envOfC (Str.ofString "law") lawAst.1.1 L fa cd)) Q E { s with heap := h, toks := tk } := by
  k_with_none
  k_with "m depth" => (first | exact dep_up (by with_reducible assumption) (by decide) | ((try simp only [depth_mark, depth_under_make, depth_under_kw, depth_in1, depth_deeper, depth_caller] at *); (try dsimp only [ktrTop] at *); omega))
  k_with "m units" => (first | exact uni_up (by with_reducible assumption) (by decide) | ((try simp only [units_in1, units_deeper, Around.mark_units, units_caller] at *); (try dsimp only [ktrTop] at *); omega))
  k_with "m begin" => ((have flzq : P.heap_1 = P.heap_1 ∧ PySem.Challenge.rw_yh0023_01 = PySem.Challenge.rw_yh0023_01 := by (k_fill; exact fill)); (clear flzq); (refine wpAny_call ?_))
  k_with "m enter" => ((case kA => exact rfl); (case kF => exact rfl); (case kK => assumption); (case k1 => k_asm); (case k2 => k_asm); (case k3 => k_asm); (case k4 => k_asm); (case k5 => k_asm); (case k6 => k_is); (case k7 => k_is); (case k8 => first | exact room_up hdp (by decide) | k_room); (case k9 => exact BindsTo.of_eq rfl); (case c5 => decide); (case kB => exact locs rfl); (case c2 => exact rfl); (case c3 => exact rfl); (case c4 => exact rfl); k_whole; intro g'zq L'zq h'zq FG'zq F'zq N'zq B'zq X'zq T'zq; (try dsimp only [List.reverse_cons, List.reverse_nil, List.nil_append, List.cons_append] at F'zq); (try k_fold))
  k_with "x eval BinOp" => (k_here; first | k_compRoot | ((with_reducible refine wpAny_BinOp ?_); k_fold))
  k_with "x eval Subscript" => (k_here; first | k_compRoot | ((with_reducible refine Subscript_ ?_); k_fold))
  k_with "x eval Tuple" => (k_here; first | k_compRoot | ((with_reducible refine Tuple_ ?_); k_fold))
  k_with "x execs cons" => (k_here; (with_reducible refine wpAny_execs_cons ?_); k_fold)
  k_with "x call builtin:len" => (k_here; (with_reducible show wpAny _ _ (call (Value.builtin "len") [Value.ref _]) _ _ _); k_dflt (refine' m_len ?k1 ?k2 ?k3 ?_; (case k1 => k_asm); (case k2 => k_mem); (case k3 => omega)))
  k_with "x getMethod ref" => (k_here; k_dflt (first | ((with_reducible show wpAny _ _ (getMethod (Value.ref 48) _ _) _ _ _); refine PatAt.meth (pat_name (by k_in)) ?_) | ((with_reducible show wpAny _ _ (getMethod (Value.ref 53) _ _) _ _ _); refine PatAt.meth (pat_value (by k_in)) ?_)))
  k_with "x call builtin:re.Pattern.search" => (k_here; k_dflt (first | (refine call_search (pat_name (by k_in)) (name_fails (by assumption)) (by assumption) ?_) | (refine call_search (pat_value (by k_in)) (value_fails (by assumption)) (by assumption) ?_)))
  k_with "x call builtin:str.join" => (k_here; k_dflt (refine' m_join1 ?k1 ?k2 ?k3 ?k4 ?_; (case k1 => k_asm); (case k2 => k_mem); (case k3 => decide); (case k4 => assumption)); intro t'zq tk'zq)
  k_with "m enterC" => ((case kA => exact rfl); (case kF => exact rfl); (case kK => assumption); (case k1 => k_asm); (case k2 => k_asm); (case k3 => k_asm); (case k4 => k_asm); (case k5 => k_asm); (case k6 => k_is); (case k7 => k_is); (case k8 => first | exact room_up hdp (by decide) | k_room); (case k9 => exact BindsTo.of_eq rfl); (case kB => exact rfl); (case kD => decide +kernel); (case c2 => exact rfl); (case c3 => exact rfl); (case c4 => exact rfl); k_whole; intro g'zq L'zq h'zq tk'zq cells'zq FG'zq F'zq N'zq Y'zq B'zq X'zq T'zq l1zq; (have l9zq := l1zq); (try k_lt l1zq); k_cells Y'zq; (try simp only [List.cons_append, List.nil_append] at N'zq); (try dsimp only); (try k_fold))
  k_with "x call builtin:str.lower" => (k_here; (try dsimp only); (with_reducible show wpAny _ _ (call (Value.builtin "str.lower") [Value.str _ _]) _ _ _); (refine SCL.lower (by first | omega | exact Nat.le_trans (by assumption) (by decide)) ?_); intro _)
  k_with "m mem" => (repeat (first | assumption | apply List.mem_cons_of_mem))
  k_with "x subscriptTail" => (k_here; (with_reducible show wpAny _ _ (subscriptTail _ _ (Value.ref _) (Value.int _ _)) _ _ _); k_dflt (refine' item_tupleT (m_tup (by k_asm) ?hm) (by decide) (by decide) ?hj ?hv ?_; (case hm => first | k_mem | walk_at "m mem"); (case hj => rfl); (case hv => rfl)))
  k_with "m look" => first | exact rfl | assumption
  k_with "x eval Name" => (k_here; (with_reducible show wpAny _ _ (eval (PySem.Expr.Name _ _) (envOf _ _ _ _ _)) _ _ _); k_dflt (refine' ld ?k1 ?k2 ?_; (case k1 => k_asm); (case k2 => walk_at "m look"); k_whole))
  k_with "x eval Name" => (k_here; (with_reducible show wpAny _ _ (eval (PySem.Expr.Name (PySem.Str.ofString "divmod") _) _) _ _ _); (with_reducible rename Fr _ _ _ _ => kFzq); with_unfolding_all refine guard_global (by rfl) ?_; k_dflt (refine' name_B kFzq ?k1 ?k2 ?k3 ?k4 ?k5 ?_; (case k1 => k_asm); (case k2 => k_asm); (case k3 => k_is); (case k4 => first | exact boot_divmod); (case k5 => decide); k_whole))
  k_with "m size" => (simp only [PySem.Str.length_append, lit0, lit1, lit2, lit3, lit4, lit5, lit6, lit7, lit8, lit9, lit10, lit11, lit12, lit13, lit14, lit15, lit16, lit17, lit18, lit19, lit20, lit21, lit22, lit23, lit24, one_len]; rw [sizeLine_eq]; omega)
  k_with "x binaryOp Add str str" => (k_here; (with_reducible show wpAny _ _ (binaryOp Operator.Add (Value.str _ _) (Value.str _ _)) _ _ _); k_dflt (refine' PyProof.Rows.add_str ?h ?hz; (case hz => walk_at "m size")); intro t'zq tk'zq)
  k_with "m enterT" => ((case kA => exact rfl); (case kF => exact rfl); (case kK => assumption); (case kX => assumption); (case kT => assumption); (case kD => assumption); (case k1 => k_asm); (case k2 => k_asm); (case k3 => k_asm); (case k4 => k_asm); (case k5 => k_asm); (case k6 => k_is); (case k7 => k_is); (case k8 => first | exact room_up hdp (by decide) | k_room); (case k9 => exact BindsTo.of_eq rfl); (case c5 => decide); (case kB => exact locs rfl); (case c2 => exact rfl); (case c3 => exact rfl); (case c4 => exact rfl); k_whole; intro g'zq L'zq h'zq tk0zq FG'zq F'zq N'zq B'zq X'zq T'zq D'zq; (try dsimp only [List.reverse_cons, List.reverse_nil, List.nil_append, List.cons_append] at F'zq); (try k_fold))
  k_with "x call type:str" => (k_here; (with_reducible show wpAny _ _ (call (Value.type "str") [Value.ref _]) _ _ _); k_dflt (refine' str_caught ?kF ?kX ?kN ?kG ?kK ?ks ?ku ?_; (case kG => assumption); (case kN => assumption); (case kF => k_asm); (case kX => k_asm); (case kK => kts_isx); (case ks => k_is); (case ku => k_units); k_whole))
  k_with "x eval ListComp" => (k_here; lcg_look; k_dflt (refine LCg.ListComp_U (F₀ := by k_asm) (by with_unfolding_all rfl) (by decide) (by rfl) (by decide) (by rfl) ?_); k_dflt lcg_toSrc)
  k_with "x call builtin:sum" => (k_here; (with_reducible show wpAny _ _ (call (Value.builtin "sum") [Value.ref _]) _ _ _); (with_reducible rename IntsAre _ _ => hI8zq); (with_reducible rename Fr _ _ _ _ => F8zq); (with_reducible rename News _ _ _ _ => N8zq); k_dflt (refine m_sumPick F8zq N8zq (by rfl) (.head _) hI8zq ?_); intro h'zq tkzq c'zq t'zq F'zq N'zq)
  k_with "m lit" => first | exact nat2 | exact nat5 | exact nat16 | exact nat24 | exact nat300 | exact rfl
  k_with "x binaryOp Pow int int" => ((with_reducible show wpAny _ _ (binaryOp Operator.Pow (Value.int _ _) (Value.int _ _)) _ _ _); k_dflt (refine m_powN (by decide) (by decide) (by decide) (by omega) ?_); intro p9zq hp9zq hq9zq)
  k_with "x binaryOp FloorDiv int int" => ((with_reducible show wpAny _ _ (binaryOp Operator.FloorDiv (Value.int _ _) (Value.int _ _)) _ _ _); k_dflt (refine' m_divF ?k1 ?k2 ?k3 ?_; (case k1 => walk_at "m lit"); (case k2 => first | assumption | decide); (case k3 => first | assumption | decide)); intro q9zq)
  k_with "x binaryOp Mod int int" => ((with_reducible show wpAny _ _ (binaryOp Operator.Mod (Value.int _ _) (Value.int _ _)) _ _ _); k_dflt (refine' m_digit ?k1 ?k2 ?_; (case k1 => walk_at "m lit"); (case k2 => decide)); intro d9zq hd9zq)
  k_with "m use" => ((case k1 => k_asm); (case k2 => k_asm); (case k3 => k_asm); (case k4 => k_asm); (case k5 => k_asm); (case kK => first | exact rfl | assumption); (case kd => walk_at "m depth"); (case ku => walk_at "m units"); k_whole)
  k_with "x binaryOp Add int int" => ((with_reducible show wpAny _ _ (binaryOp Operator.Add (Value.int _ _) (Value.int _ _)) _ _ _); first | refine m_addN ?_ | refine m_add1 ?_ | refine m_one ?_)
  k_with "x binaryOp Mult ref int" => ((with_reducible show wpAny _ _ (binaryOp Operator.Mult (Value.ref _) (Value.int _ _)) _ _ _); (with_reducible rename Fr _ _ _ _ => F8zq); (with_reducible rename News _ _ _ _ => N8zq); k_dflt (refine' m_rep F8zq N8zq (.head _) ?hI ?hx ?h1 ?h2 ?_; (case hI => first | exact natsL12 | exact natsL34 | exact natsL0 | exact natsL5); (case hx => first | exact nat12 | exact nat4 | exact rfl); (case h1 => (simp only [List.length_cons, List.length_nil]; omega)); (case h2 => omega)); intro D'zq h'zq xs'zq hx'zq F'zq N'zq l1zq; (have l9zq := l1zq); (try k_lt l1zq); (try k_sweep))
  k_with "x binaryOp Add ref ref" => ((with_reducible show wpAny _ _ (binaryOp Operator.Add (Value.ref _) (Value.ref _)) _ _ _); (with_reducible rename Fr _ _ _ _ => F8zq); (with_reducible rename News _ _ _ _ => N8zq); k_dflt (refine' m_catN F8zq N8zq ?ha ?hb ?hv ?hw ?h1 ?h2 ?_; (case ha => walk_at "m memD"); (case hb => walk_at "m memD"); (case hv => with_reducible assumption); (case hw => with_reducible assumption); (case h1 => ((try simp only [List.length_append, rep_len, List.length_cons, List.length_nil]); omega)); (case h2 => ((try simp only [List.length_append, rep_len, List.length_cons, List.length_nil]); omega))); intro D'zq h'zq xs'zq hx'zq F'zq N'zq l1zq; (try k_lt l1zq); (try k_sweep))
  k_with "m memD" => (repeat (first | exact List.mem_cons_self | apply List.mem_cons_of_mem))
  k_with "x call builtin:len" => ((with_reducible show wpAny _ _ (call (Value.builtin "len") [Value.ref _]) _ _ _); k_extra "m len")
  k_with "x pyIter ref" => ((with_reducible show wpAny _ _ (pyIter (Value.ref _)) (fun it s₂ => PyProof.Rows.LoopAtV _ _ _ _ _ _ _ _ _ it s₂) _ _); k_extra "m loop")
  k_with "x call ref" => ((with_reducible show wpAny _ _ (call (Value.ref 184) _ _) _ _ _); k_extra "m make")
  k_with "x exec For" => (k_here; (with_reducible show wpAny _ _ (exec (PySem.Stmt.For (PySem.Expr.Name _ _) _ _ [] _) _) _ _ _); (with_reducible rename Fr _ _ _ _ => lF'zq); (with_unfolding_all refine' For_invVF lF'zq ?k1 ?k2 ?_; (case k1 => exact rfl); (case k2 => exact rfl); k_whole))
  have fl : P.heap_1 = P.heap_1 ∧ PySem.Challenge.rw_yh0023_01 = PySem.Challenge.rw_yh0023_01 := by (k_fill; exact fill)
  clear fl
  dsimp only [lawAst]
  have h64 : svs.length ≤ 63 := by have := hI.length; omega
  k_with "m comp" => refine m_stopM ?_
  k_with "m loop" => refine m_stopM ?_
  k_with "m len" => k_dflt ((with_reducible rename News _ _ _ _ => N9); refine m_lenN N9 (by walk_at "m memD") (by with_reducible assumption) rfl (by (simp only [List.length_append, rep_len, List.length_cons, List.length_nil]; omega)) ?_)
  k_steps
  all_goals try unfold StopM
  refine LCg.CompSrc.range (by rfl) (by k_asm) (by k_asm) (by assumption) (by decide) (n := 4) (by decide) (by decide) ?_
  intro g1
  refine rng_rest (fun i v => ∃ (c : Int) (t : Tok), v = Value.int c t) ?turn1 ?fin1
  case turn1 =>
    intro i9 t9 I9 oI9 C9 oC9 D9 m9 h9 tk9 E9 ys9 hi9 hC9 hx9 F9 N9 off9 ne9
    (try dsimp only)
    k_steps
    all_goals (rename News _ _ _ _ => N8)
    all_goals first | with_reducible assumption | exact News.sub N8 (fun p hp => hp) | exact News.sub N8 (fun p hp => .tail _ hp)
  case fin1 =>
  intro ys1 hl1 hy1
  unfold LCg.FinE
  intro CL h9 tk9 F9 N9 o9
  obtain ⟨c0, c1, c2, c3, u0, u1, u2, u3, rfl⟩ := four_ints hl1 hy1
  clear hl1 hy1
  (try dsimp only)
  k_steps
  all_goals try unfold StopM
  (rename News _ _ _ _ => N1)
  simp only [List.cons_append, List.nil_append] at N1
  refine LCg.CompSrc.range (by rfl) (by k_asm) (by k_asm) (by assumption) (by decide) (n := 4) (by decide) (by decide) ?_
  intro g2
  refine rng_rest (fun i v => ∃ (f : Nat) (t : Tok), v = Value.str (nameS i f) t ∧ f < 16) ?turn2 ?fin2
  case turn2 =>
    intro i9 t9 I9 oI9 C9 oC9 D9 m9 h9 tk9 E9 ys9 hi9 hC9 hx9 F9 N9 off9 ne9
    (try dsimp only)
    k_with "call ref" => k_dflt ((with_reducible show wpAny _ _ (call (Value.ref 258) _ _) _ _ _); k_dflt (refine' Says.use (name_says (by omega)) ?k1 ?k2 ?k3 ?k4 ?k5 ?kK ?kd ?ku ?_; walk_at "m use"); intro r' news' h' tk' F' N' P'; obtain ⟨hn9, u9, hr9⟩ := P'; subst hn9; subst hr9; (try dsimp only))
    k_steps
    all_goals (rename News _ _ _ _ => N8)
    all_goals first | with_reducible assumption | exact News.sub N8 (fun p hp => hp) | exact News.sub N8 (fun p hp => .tail _ hp)
  case fin2 =>
  intro ys2 hl2 hy2
  unfold LCg.FinA
  intro NL h9 tk9 F9 N9 o9
  obtain ⟨ns, hns, hnl, hnm⟩ := four_names hl2 hy2
  clear hl2 hy2
  (try dsimp only)
  k_steps
  all_goals try unfold StopM
  refine LCg.CompSrc.range (by rfl) (by k_asm) (by k_asm) (by assumption) (by decide) (n := 14) (by decide) (by decide) ?_
  intro g3
  refine rng_rest (fun i v => ∃ (d : Nat) (t : Tok), v = Value.int (d : Int) t ∧ d < 5) ?turn3 ?fin3
  case turn3 =>
    intro i9 t9 I9 oI9 C9 oC9 D9 m9 h9 tk9 E9 ys9 hi9 hC9 hx9 F9 N9 off9 ne9
    (try dsimp only)
    k_steps
    all_goals (rename News _ _ _ _ => N8)
    all_goals first | with_reducible assumption | exact News.sub N8 (fun p hp => hp) | exact News.sub N8 (fun p hp => .tail _ hp)
  case fin3 =>
  intro ys3 hl3 hy3
  (first | unfold LCg.FinE | unfold LCg.FinA)
  intro DS h9 tk9 F9 N9 o9
  obtain ⟨ds, hds, lds, bds⟩ := nats_of hy3
  rw [hl3] at lds
  clear hl3 hy3
  (try dsimp only)
  k_steps
  all_goals try unfold StopM
  refine LCg.CompSrc.range (by rfl) (by k_asm) (by k_asm) (by assumption) (by decide) (n := 14) (by decide) (by decide) ?_
  intro g4
  refine rng_rest (fun i v => ∃ (d : Nat) (t : Tok), v = Value.int (d : Int) t ∧ d < 24) ?turn4 ?fin4
  case turn4 =>
    intro i9 t9 I9 oI9 C9 oC9 D9 m9 h9 tk9 E9 ys9 hi9 hC9 hx9 F9 N9 off9 ne9
    (try dsimp only)
    k_steps
    all_goals (rename News _ _ _ _ => N8)
    all_goals first | with_reducible assumption | exact News.sub N8 (fun p hp => hp) | exact News.sub N8 (fun p hp => .tail _ hp)
  case fin4 =>
  intro ys4 hl4 hy4
  (first | unfold LCg.FinE | unfold LCg.FinA)
  intro ES h9 tk9 F9 N9 o9
  obtain ⟨es, hes, les, bes⟩ := nats_of hy4
  rw [hl4] at les
  clear hl4 hy4
  have N8 := News.sub (news' := [(ES, _), (_, _), (_, _), (_, _)]) N9 (List.forall_mem_cons.mpr ⟨(.head _), List.forall_mem_cons.mpr ⟨(.tail _ (.head _)), List.forall_mem_cons.mpr ⟨(.tail _ (.tail _ (.tail _ (.tail _ (.tail _ (.tail _ (.tail _ (.tail _ (.head _))))))))), List.forall_mem_cons.mpr ⟨(.tail _ (.tail _ (.tail _ (.tail _ (.tail _ (.tail _ (.tail _ (.tail _ (.tail _ (.tail _ (.head _))))))))))), fun _ h => absurd h List.not_mem_nil⟩⟩⟩⟩)
  clear N9
  k_with "m make" => (first
    | k_dflt ((show wpAny _ _ (call (Value.ref 184) [] []) _ _ _); (with_reducible rename News _ _ _ _ => N9); refine' Says.use make0_says ?k1 ?k2 ?k3 N9 ?k5 ?kK ?kd ?ku ?_; (case k1 => k_asm); (case k2 => k_asm); (case k3 => k_asm); (case k5 => k_asm); (case kK => exact rfl); (case kd => walk_at "m depth"); (case ku => walk_at "m units"); intro r' news' h' tk' F' N' P'; obtain ⟨R1, RD1, RL1, th1, hr', hn', lR1, lR2, lR3⟩ := P'; subst hr'; subst hn'; clear N9; (try dsimp only))
    | k_dflt ((show wpAny _ _ (call (Value.ref 184) [_] []) _ _ _); (with_reducible rename News _ _ _ _ => N9); refine' Says.use make1_says ?k1 ?k2 ?k3 (News.sub N9 ?k4) ?k5 ?kK ?kd ?ku ?_; (case k4 => exact List.forall_mem_cons.mpr ⟨(by walk_at "m memD"), fun p hp => hp⟩); (case k1 => k_asm); (case k2 => k_asm); (case k3 => k_asm); (case k5 => k_asm); (case kK => exact rfl); (case kd => walk_at "m depth"); (case ku => walk_at "m units"); intro r' news' h' tk' F' N' P'; obtain ⟨R2, RD2, th2, hr', hn', lS1, lS2⟩ := P'; subst hr'; subst hn'; clear N9; (try dsimp only)))
  (try dsimp only)
  k_steps
  all_goals try unfold StopM
  (rename Fr _ _ _ _ => F5)
  (rename News _ _ _ _ => N5)
  (rename (_ < 300) => htag)
  (rename (_ < 2) => hwin)
  (rename IntsAre _ (List.map _ (es ++ _)) => hen9)
  (rename IntsAre _ (List.map _ (_ ++ _ ++ _)) => hdn9)
  obtain ⟨C9, hok9⟩ := par_ok hnl hnm hwin htag
  refine' law_loop1 (nv := ys2) hns C9 hok9 hdn9 hen9 (all_lt bds _) (en_ok bes) ?z1 ?z2 ?z3 BB ?k3 ?k5 (by assumption) F5 (News.sub N5 (List.forall_mem_cons.mpr ⟨(.tail _ (.tail _ (.tail _ (.tail _ (.tail _ (.head _)))))), List.forall_mem_cons.mpr ⟨(.tail _ (.tail _ (.tail _ (.tail _ (.tail _ (.tail _ (.head _))))))), List.forall_mem_cons.mpr ⟨(.tail _ (.tail _ (.tail _ (.tail _ (.tail _ (.tail _ (.tail _ (.head _)))))))), List.forall_mem_cons.mpr ⟨(.tail _ (.tail _ (.head _))), List.forall_mem_cons.mpr ⟨(.tail _ (.tail _ (.tail _ (.head _)))), List.forall_mem_cons.mpr ⟨(.tail _ (.tail _ (.tail _ (.tail _ (.head _))))), List.forall_mem_cons.mpr ⟨(.tail _ (.tail _ (.tail _ (.tail _ (.tail _ (.tail _ (.tail _ (.tail _ (.tail _ (.tail _ (.tail _ (.head _)))))))))))), List.forall_mem_cons.mpr ⟨(.tail _ (.tail _ (.tail _ (.tail _ (.tail _ (.tail _ (.tail _ (.tail _ (.tail _ (.tail _ (.head _))))))))))), List.forall_mem_cons.mpr ⟨(.tail _ (.tail _ (.tail _ (.tail _ (.tail _ (.tail _ (.tail _ (.tail _ (.tail _ (.head _)))))))))), List.forall_mem_cons.mpr ⟨(.tail _ (.tail _ (.tail _ (.tail _ (.tail _ (.tail _ (.tail _ (.tail _ (.tail _ (.tail _ (.tail _ (.tail _ (.tail _ (.head _)))))))))))))), List.forall_mem_cons.mpr ⟨(.tail _ (.tail _ (.tail _ (.tail _ (.tail _ (.tail _ (.tail _ (.tail _ (.tail _ (.tail _ (.tail _ (.tail _ (.tail _ (.tail _ (.tail _ (.tail _ (.tail _ (.head _)))))))))))))))))), List.forall_mem_cons.mpr ⟨(.tail _ (.tail _ (.tail _ (.tail _ (.tail _ (.tail _ (.tail _ (.tail _ (.tail _ (.tail _ (.tail _ (.tail _ (.tail _ (.tail _ (.tail _ (.tail _ (.tail _ (.tail _ (.head _))))))))))))))))))), List.forall_mem_cons.mpr ⟨(.tail _ (.tail _ (.tail _ (.tail _ (.tail _ (.tail _ (.tail _ (.tail _ (.tail _ (.tail _ (.tail _ (.tail _ (.tail _ (.tail _ (.tail _ (.tail _ (.tail _ (.tail _ (.tail _ (.head _)))))))))))))))))))), fun _ h => absurd h List.not_mem_nil⟩⟩⟩⟩⟩⟩⟩⟩⟩⟩⟩⟩⟩)) ?ch ?done
  case z1 => (show (allDeeds ds _).length ≤ 26; rw [all_len lds]; omega)
  case z2 => (show (allDeeds ds _).length ≤ _; rw [all_len lds, en_len les]; omega)
  case z3 => (rw [en_len les]; decide)
  case k3 => k_asm
  case k5 => k_asm
  case ch => (refine ⟨?_, ?_, ?_, ?_, ?_, ?_, ?_, lR1 _ (.tail _ (.head _)), lR2, lR3, lS1 _ (.tail _ (.tail _ (.tail _ (.head _)))), lS2⟩ <;> omega)
  case done =>
    intro m5 nw5 h5 tk5 J5 F6 N6
    (try dsimp only)
    refine' law_tail (ds := ds) C9 lds BB ?k3 ?k5 ?hE J5 F6 N6 ?ret
    case k3 => k_asm
    case k5 => k_asm
    case hE => exact hE
    case ret =>
      exact hret
end
theorem theWalk.tw1652740347674639950 : True := trivial
theorem theWalk.tw532926569804096645 : True := trivial
set_option Elab.async true
section -- MLawW
set_option maxHeartbeats 4000000 in
theorem theWalk : P.1 := by
  k_with_none
  k_with "m depth" => (first | exact dep_up (by with_reducible assumption) (by decide) | ((try simp only [depth_mark, depth_under_make, depth_under_kw, depth_in1, depth_deeper, depth_caller] at *); (try dsimp only [ktrTop] at *); omega))
  k_with "m units" => (first | exact uni_up (by with_reducible assumption) (by decide) | ((try simp only [units_in1, units_deeper, Around.mark_units, units_caller] at *); (try dsimp only [ktrTop] at *); omega))
  k_with "m begin" => ((have flzq : P.heap_1 = P.heap_1 ∧ PySem.Challenge.rw_yh0023_01 = PySem.Challenge.rw_yh0023_01 := by (k_fill; exact fill)); (clear flzq); (refine wpAny_call ?_))
  k_with "m enter" => ((case kA => exact rfl); (case kF => exact rfl); (case kK => assumption); (case k1 => k_asm); (case k2 => k_asm); (case k3 => k_asm); (case k4 => k_asm); (case k5 => k_asm); (case k6 => k_is); (case k7 => k_is); (case k8 => first | exact room_up hdp (by decide) | k_room); (case k9 => exact BindsTo.of_eq rfl); (case c5 => decide); (case kB => exact locs rfl); (case c2 => exact rfl); (case c3 => exact rfl); (case c4 => exact rfl); k_whole; intro g'zq L'zq h'zq FG'zq F'zq N'zq B'zq X'zq T'zq; (try dsimp only [List.reverse_cons, List.reverse_nil, List.nil_append, List.cons_append] at F'zq); (try k_fold))
  k_with "x execs cons" => (k_here; (with_reducible refine wpAny_execs_cons ?_); k_fold)
  k_with "x call builtin:len" => (k_here; (with_reducible show wpAny _ _ (call (Value.builtin "len") [Value.ref _]) _ _ _); k_dflt (refine' m_len ?k1 ?k2 ?k3 ?_; (case k1 => k_asm); (case k2 => k_mem); (case k3 => omega)))
  k_with "x getMethod ref" => (k_here; k_dflt (first | ((with_reducible show wpAny _ _ (getMethod (Value.ref 48) _ _) _ _ _); refine PatAt.meth (pat_name (by k_in)) ?_) | ((with_reducible show wpAny _ _ (getMethod (Value.ref 53) _ _) _ _ _); refine PatAt.meth (pat_value (by k_in)) ?_)))
  k_with "x call builtin:re.Pattern.search" => (k_here; k_dflt (first | (refine call_search (pat_name (by k_in)) (name_fails (by assumption)) (by assumption) ?_) | (refine call_search (pat_value (by k_in)) (value_fails (by assumption)) (by assumption) ?_)))
  k_with "x call builtin:str.join" => (k_here; k_dflt (refine' m_join1 ?k1 ?k2 ?k3 ?k4 ?_; (case k1 => k_asm); (case k2 => k_mem); (case k3 => decide); (case k4 => assumption)); intro t'zq tk'zq)
  k_with "m enterC" => ((case kA => exact rfl); (case kF => exact rfl); (case kK => assumption); (case k1 => k_asm); (case k2 => k_asm); (case k3 => k_asm); (case k4 => k_asm); (case k5 => k_asm); (case k6 => k_is); (case k7 => k_is); (case k8 => first | exact room_up hdp (by decide) | k_room); (case k9 => exact BindsTo.of_eq rfl); (case kB => exact rfl); (case kD => decide +kernel); (case c2 => exact rfl); (case c3 => exact rfl); (case c4 => exact rfl); k_whole; intro g'zq L'zq h'zq tk'zq cells'zq FG'zq F'zq N'zq Y'zq B'zq X'zq T'zq l1zq; (have l9zq := l1zq); (try k_lt l1zq); k_cells Y'zq; (try simp only [List.cons_append, List.nil_append] at N'zq); (try dsimp only); (try k_fold))
  k_with "x call builtin:str.lower" => (k_here; (try dsimp only); (with_reducible show wpAny _ _ (call (Value.builtin "str.lower") [Value.str _ _]) _ _ _); (refine SCL.lower (by first | omega | exact Nat.le_trans (by assumption) (by decide)) ?_); intro _)
  k_with "m mem" => (repeat (first | assumption | apply List.mem_cons_of_mem))
  k_with "x subscriptTail" => (k_here; (with_reducible show wpAny _ _ (subscriptTail _ _ (Value.ref _) (Value.int _ _)) _ _ _); k_dflt (refine' item_tupleT (m_tup (by k_asm) ?hm) (by decide) (by decide) ?hj ?hv ?_; (case hm => first | k_mem | walk_at "m mem"); (case hj => rfl); (case hv => rfl)))
  k_with "m look" => first | exact rfl | assumption
  k_with "x eval Name" => (k_here; (with_reducible show wpAny _ _ (eval (PySem.Expr.Name _ _) (envOf _ _ _ _ _)) _ _ _); k_dflt (refine' ld ?k1 ?k2 ?_; (case k1 => k_asm); (case k2 => walk_at "m look"); k_whole))
  k_with "x eval Name" => (k_here; (with_reducible show wpAny _ _ (eval (PySem.Expr.Name (PySem.Str.ofString "divmod") _) _) _ _ _); (with_reducible rename Fr _ _ _ _ => kFzq); with_unfolding_all refine guard_global (by rfl) ?_; k_dflt (refine' name_B kFzq ?k1 ?k2 ?k3 ?k4 ?k5 ?_; (case k1 => k_asm); (case k2 => k_asm); (case k3 => k_is); (case k4 => first | exact boot_divmod); (case k5 => decide); k_whole))
  k_with "m size" => (simp only [PySem.Str.length_append, lit0, lit1, lit2, lit3, lit4, lit5, lit6, lit7, lit8, lit9, lit10, lit11, lit12, lit13, lit14, lit15, lit16, lit17, lit18, lit19, lit20, lit21, lit22, lit23, lit24, one_len]; rw [sizeLine_eq]; omega)
  k_with "x binaryOp Add str str" => (k_here; (with_reducible show wpAny _ _ (binaryOp Operator.Add (Value.str _ _) (Value.str _ _)) _ _ _); k_dflt (refine' PyProof.Rows.add_str ?h ?hz; (case hz => walk_at "m size")); intro t'zq tk'zq)
  k_with "m enterT" => ((case kA => exact rfl); (case kF => exact rfl); (case kK => assumption); (case kX => assumption); (case kT => assumption); (case kD => assumption); (case k1 => k_asm); (case k2 => k_asm); (case k3 => k_asm); (case k4 => k_asm); (case k5 => k_asm); (case k6 => k_is); (case k7 => k_is); (case k8 => first | exact room_up hdp (by decide) | k_room); (case k9 => exact BindsTo.of_eq rfl); (case c5 => decide); (case kB => exact locs rfl); (case c2 => exact rfl); (case c3 => exact rfl); (case c4 => exact rfl); k_whole; intro g'zq L'zq h'zq tk0zq FG'zq F'zq N'zq B'zq X'zq T'zq D'zq; (try dsimp only [List.reverse_cons, List.reverse_nil, List.nil_append, List.cons_append] at F'zq); (try k_fold))
  k_with "x call type:str" => (k_here; (with_reducible show wpAny _ _ (call (Value.type "str") [Value.ref _]) _ _ _); k_dflt (refine' str_caught ?kF ?kX ?kN ?kG ?kK ?ks ?ku ?_; (case kG => assumption); (case kN => assumption); (case kF => k_asm); (case kX => k_asm); (case kK => kts_isx); (case ks => k_is); (case ku => k_units); k_whole))
  dsimp only [P]
  k_go0
  (rename Fr _ _ _ _ => F0)
  (rename News _ _ _ _ => N0)
  (rename Below _ _ _ _ => BB)
  (rename IntsAre _ _ => hI)
  (rename Heap.IsList _ _ _ => hL)
  have F1 : Fr _ _ _ (fun _ => none) := F0
  refine' law_main hI (by assumption) hL BB ?k3 ?k5 ?hE F1 N0 ?e3 ?e2 ?e1 ?ret
  case k3 => k_asm
  case k5 => k_asm
  case hE => passes_own
  case e3 => assumption
  case e2 => assumption
  case e1 => assumption
  case ret =>
    intro h7 tk7 m7 F7
    (try dsimp only)
    first | (wrow_close; done) | k_steps
end
set_option Elab.async true
theorem hd.tw921402611603131450 : True := trivial
theorem hd.tw13133211045375063716 : True := trivial
theorem hd.tw13217225542625558698 : True := trivial
theorem hd.tw6164396464334811476 : True := trivial
theorem hd.tw12936449754285732098 : True := trivial
theorem hd.tw15852365999677673905 : True := trivial
theorem hd.tw10752148897807903841 : True := trivial
theorem hd.tw15367242080415987702 : True := trivial
theorem hd.tw6982297934935202809 : True := trivial
theorem hd.tw15642763164714097627 : True := trivial
theorem hd.tw1011335219593555734 : True := trivial
theorem hd.tw1409312971732116557 : True := trivial
theorem hd.tw3704167492566942397 : True := trivial
theorem hd.tw6545403380812914513 : True := trivial
theorem hd.tw8458067239894703972 : True := trivial
theorem hd.tw6123773746684550334 : True := trivial
theorem hd.tw3493717111155160527 : True := trivial
theorem hd.tw14060154772996877548 : True := trivial
theorem hd.tw7914949630228597729 : True := trivial
theorem hd.tw8428860471423672150 : True := trivial
theorem hd.tw8735263284916673568 : True := trivial
theorem hd.tw16345102440705955213 : True := trivial
theorem hd.tw1439246655266547700 : True := trivial
theorem hd.tw5978321128707920903 : True := trivial
theorem hd.tw9641152695372364146 : True := trivial
theorem hd.tw14705683404202351889 : True := trivial
theorem hd.tw12113243949977362033 : True := trivial
theorem hd.tw8716120427605611371 : True := trivial
theorem hd.tw16171809288044610508 : True := trivial
theorem hd.tw18166333605607142505 : True := trivial
theorem hd.tw1673930711015175961 : True := trivial
theorem hd.tw15615420239508185596 : True := trivial
theorem hd.tw8025032847418708242 : True := trivial
theorem hd.tw3442329435671937591 : True := trivial
theorem hd.tw17387473266821786944 : True := trivial
theorem hd.tw6407587892757256292 : True := trivial
theorem hd.tw3443669649825651883 : True := trivial
theorem hd.tw15790720579355451973 : True := trivial
theorem hd.tw8228950375871286339 : True := trivial
theorem hd.tw11251137523995926341 : True := trivial
theorem hd.tw7028611270464810887 : True := trivial
theorem hd.tw7762615721169606023 : True := trivial
theorem hd.tw12588582704262371052 : True := trivial
theorem hd.tw6838551448383532254 : True := trivial
theorem hd.tw7510230149288206974 : True := trivial
theorem hd.tw2442259710966052079 : True := trivial
theorem hd.tw4478166936697009375 : True := trivial
theorem hd.tw8516288146210602744 : True := trivial
theorem hd.tw1097998534492414930 : True := trivial
theorem hd.tw1222794163293265305 : True := trivial
theorem hd.tw15615537253650120727 : True := trivial
theorem hd.tw12399718760709695909 : True := trivial
theorem hd.tw17606422857730326317 : True := trivial
theorem hd.tw8268277133935991078 : True := trivial
theorem hd.tw10957212852122400357 : True := trivial
theorem hd.tw7628703163842673926 : True := trivial
theorem hd.tw15089522573102190283 : True := trivial
theorem hd.tw17213754286329925777 : True := trivial
theorem hd.tw15508949281206285077 : True := trivial
theorem hd.tw17330945745186091897 : True := trivial
theorem hd.tw16007149819294483003 : True := trivial
theorem hd.tw16154546982801380032 : True := trivial
theorem hd.tw13828106393651249627 : True := trivial
theorem hd.tw13466754112058979494 : True := trivial
theorem hd.tw11038495425325230296 : True := trivial
theorem hd.tw978014153386294347 : True := trivial
theorem hd.tw14955159897011116063 : True := trivial
theorem hd.tw4494801613693538912 : True := trivial
theorem hd.tw14620637471214046174 : True := trivial
theorem hd.tw6547078798241139092 : True := trivial
theorem hd.tw3480954088277226078 : True := trivial
theorem hd.tw1102719854795613173 : True := trivial
theorem hd.tw10773125474200672486 : True := trivial
theorem hd.tw5123450804561740386 : True := trivial
theorem hd.tw15683763237869141255 : True := trivial
theorem hd.tw16211521421427940678 : True := trivial
theorem hd.tw16868993833207775613 : True := trivial
theorem hd.tw1800889605409440832 : True := trivial
theorem hd.tw5174551420813472067 : True := trivial
theorem hd.tw10919297434634762262 : True := trivial
theorem hd.tw5567388512258382067 : True := trivial
theorem hd.tw2887051446865420828 : True := trivial
theorem hd.tw13958120312559236348 : True := trivial
theorem hd.tw5480042469492414594 : True := trivial
theorem hd.tw9533747618267967006 : True := trivial
theorem hd.tw12575139184659369484 : True := trivial
theorem hd.tw3229955645248102723 : True := trivial
theorem hd.tw7528090204519254293 : True := trivial
theorem hd.tw5657824000916062451 : True := trivial
theorem hd.tw17258206423299326598 : True := trivial
theorem hd.tw3759623122121258479 : True := trivial
theorem hd.tw3109861748172591687 : True := trivial
theorem hd.tw5635641802508607975 : True := trivial
theorem hd.tw15103106377680225435 : True := trivial
theorem hd.tw18343703819029505601 : True := trivial
theorem hd.tw1194904439430580092 : True := trivial
theorem hd.tw1760603350576429475 : True := trivial
theorem hd.tw17843490464661113860 : True := trivial
theorem hd.tw1997569388931296116 : True := trivial
theorem hd.tw9345929723534960622 : True := trivial
theorem hd.tw4086058157674990017 : True := trivial
theorem hd.tw13289513938125300765 : True := trivial
theorem hd.tw10472018719410664625 : True := trivial
theorem hd.tw11128854368766332075 : True := trivial
theorem hd.tw16056359734778111409 : True := trivial
theorem hd.tw17711083657039698284 : True := trivial
theorem hd.tw16634568088961857937 : True := trivial
theorem hd.tw402640490398009360 : True := trivial
theorem hd.tw22551697357593593 : True := trivial
theorem hd.tw13518370688599389936 : True := trivial
theorem hd.tw5781342201191254626 : True := trivial
theorem hd.tw9170477692918782315 : True := trivial
theorem hd.tw6423634429210846174 : True := trivial
theorem hd.tw17975533764899295144 : True := trivial
theorem hd.tw2708950531961675432 : True := trivial
theorem hd.tw7023726343779634624 : True := trivial
theorem hd.tw6906073325868019850 : True := trivial
theorem hd.tw2788664435532181463 : True := trivial
theorem hd.tw1600037746751723098 : True := trivial
theorem hd.tw16920754564084929960 : True := trivial
theorem hd.tw13372043803930879067 : True := trivial
theorem hd.tw8977307856219701671 : True := trivial
theorem hd.tw6830512106363814048 : True := trivial
theorem hd.tw14353793391729792155 : True := trivial
theorem hd.tw6785817131721698500 : True := trivial
theorem hd.tw3182187488490625086 : True := trivial
theorem hd.tw14463523764311415789 : True := trivial
theorem hd.tw7120233287515763914 : True := trivial
theorem hd.tw11660266114150955751 : True := trivial
theorem hd.tw14980023328507725902 : True := trivial
theorem hd.tw7654286748164834634 : True := trivial
theorem hd.tw8271738721435924559 : True := trivial
theorem hd.tw7519716089354478335 : True := trivial
theorem hd.tw3381375190539634487 : True := trivial
theorem hd.tw3707607586039731383 : True := trivial
theorem hd.tw6892424819385984264 : True := trivial
theorem hd.tw190519026028168232 : True := trivial
theorem hd.tw9175253535744910301 : True := trivial
theorem hd.tw5391431472348687022 : True := trivial
theorem hd.tw6335257393663865988 : True := trivial
theorem hd.tw2040699094819691630 : True := trivial
theorem hd.tw13576001757907426199 : True := trivial
theorem hd.tw11053918530259517922 : True := trivial
theorem hd.tw9653751418590077562 : True := trivial
theorem hd.tw2380272775587480882 : True := trivial
theorem hd.tw7610815399733428385 : True := trivial
theorem hd.tw14553816603554493358 : True := trivial
theorem hd.tw4740767245239349402 : True := trivial
theorem hd.tw3310731293184615908 : True := trivial
theorem hd.tw16640546478005224243 : True := trivial
theorem hd.tw18185175575083235020 : True := trivial
theorem hd.tw3429492842335990350 : True := trivial
theorem hd.tw13409441903868389331 : True := trivial
theorem hd.tw4343815846532229135 : True := trivial
theorem hd.tw12050417470231563642 : True := trivial
theorem hd.tw4851647983119433812 : True := trivial
theorem hd.tw4172343393113369950 : True := trivial
theorem hd.tw4425926697756232486 : True := trivial
theorem hd.tw10879034167726328663 : True := trivial
theorem hd.tw4377701919642642989 : True := trivial
theorem hd.tw13431754692932380062 : True := trivial
theorem hd.tw9430268157657104642 : True := trivial
theorem hd.tw18093812233618175256 : True := trivial
theorem hd.tw11210553801493137410 : True := trivial
theorem hd.tw4870687313549177768 : True := trivial
theorem hd.tw991583007596301734 : True := trivial
theorem hd.tw701787995468756871 : True := trivial
theorem hd.tw15042006015671813226 : True := trivial
theorem hd.tw18322514126500204803 : True := trivial
theorem hd.tw5148922909946612681 : True := trivial
theorem hd.tw15946388913382835224 : True := trivial
theorem hd.tw1847840615245081061 : True := trivial
theorem hd.tw5961118342813265553 : True := trivial
theorem hd.tw8117029840178788049 : True := trivial
theorem hd.tw7296583596125217682 : True := trivial
theorem hd.tw5373601922739893978 : True := trivial
theorem hd.tw4225703048834024713 : True := trivial
theorem hd.tw16412773359747925120 : True := trivial
theorem hd.tw17047115858639842297 : True := trivial
theorem hd.tw14168552714766633299 : True := trivial
theorem hd.tw13277076834127875243 : True := trivial
theorem hd.tw15416985209724490359 : True := trivial
theorem hd.tw6038821095411175016 : True := trivial
theorem hd.tw7763873220885509757 : True := trivial
theorem hd.tw16473244170626142550 : True := trivial
theorem hd.tw6293948785866598258 : True := trivial
theorem hd.tw10024716035694756283 : True := trivial
theorem hd.tw17177331786930743035 : True := trivial
theorem hd.tw10525666975642140466 : True := trivial
theorem hd.tw1589133516308662214 : True := trivial
theorem hd.tw12487502673411948298 : True := trivial
theorem hd.tw14892549342360969540 : True := trivial
theorem hd.tw11032806212648032379 : True := trivial
theorem hd.tw13903934854276604550 : True := trivial
theorem hd.tw3451239065008710300 : True := trivial
theorem hd.tw12112201142124510154 : True := trivial
theorem hd.tw6882427118574961969 : True := trivial
theorem hd.tw3530705653197291679 : True := trivial
theorem hd.tw10403243965636340961 : True := trivial
theorem hd.tw15529170255622000948 : True := trivial
theorem hd.tw13609717118414637909 : True := trivial
theorem hd.tw16299908979028503884 : True := trivial
theorem hd.tw13770079208771991547 : True := trivial
theorem hd.tw3694398316872202419 : True := trivial
theorem hd.tw3452082135128663414 : True := trivial
theorem hd.tw15759970867653108152 : True := trivial
theorem hd.tw5366084841770067474 : True := trivial
theorem hd.tw15043168886218598503 : True := trivial
theorem hd.tw701251727300343745 : True := trivial
theorem hd.tw1382963296337349011 : True := trivial
theorem hd.tw13855946660403688772 : True := trivial
theorem hd.tw9748044761591592747 : True := trivial
theorem hd.tw1413172679324656950 : True := trivial
theorem hd.tw7534799579077118603 : True := trivial
theorem hd.tw14246236162039180721 : True := trivial
theorem hd.tw5282504435634884242 : True := trivial
theorem hd.tw1882180444382439491 : True := trivial
theorem hd.tw4065347644161347641 : True := trivial
theorem hd.tw2274498078352570744 : True := trivial
theorem hd.tw4014540891139286612 : True := trivial
theorem hd.tw11513968764499736323 : True := trivial
theorem hd.tw10404513684093684653 : True := trivial
theorem hd.tw17893044597097874663 : True := trivial
theorem hd.tw16799317314342211293 : True := trivial
theorem hd.tw7746578258024575070 : True := trivial
theorem hd.tw11953376511379268794 : True := trivial
theorem hd.tw1869635642477389258 : True := trivial
theorem hd.tw1506431575118746342 : True := trivial
theorem hd.tw14457593812595234344 : True := trivial
theorem hd.tw1580110805410547442 : True := trivial
theorem hd.tw11402939732021071671 : True := trivial
theorem hd.tw14896477498954680388 : True := trivial
theorem hd.tw11652457597714270106 : True := trivial
theorem hd.tw11631947586910100387 : True := trivial
theorem hd.tw14598272352848978880 : True := trivial
theorem hd.tw10603584201595350602 : True := trivial
theorem hd.tw13225837485096350037 : True := trivial
theorem hd.tw758273949599710562 : True := trivial
theorem hd.tw15967140613478806237 : True := trivial
theorem hd.tw13893168526513508166 : True := trivial
theorem hd.tw13919464512627920130 : True := trivial
theorem hd.tw10601615944963115059 : True := trivial
theorem hd.tw15833661619300960221 : True := trivial
theorem hd.tw10743916045514856203 : True := trivial
theorem hd.tw2114630138375439770 : True := trivial
theorem hd.tw15166520500009309586 : True := trivial
theorem hd.tw8960069828448710407 : True := trivial
theorem hd.tw9813476730208780421 : True := trivial
theorem hd.tw12374041931403950375 : True := trivial
theorem hd.tw10049082858989184355 : True := trivial
theorem hd.tw15837987909243819085 : True := trivial
theorem hd.tw11232374478483605306 : True := trivial
theorem hd.tw15348815342697509953 : True := trivial
theorem hd.tw17843416644853070463 : True := trivial
theorem hd.tw9960721518486171458 : True := trivial
theorem hd.tw2216850387143573719 : True := trivial
theorem hd.tw4968526502096005782 : True := trivial
theorem hd.tw9707819087739362317 : True := trivial
theorem hd.tw10246146449241189800 : True := trivial
theorem hd.tw17919194246423945575 : True := trivial
theorem hd.tw9345676750909349944 : True := trivial
theorem hd.tw8457440626546761165 : True := trivial
theorem hd.tw461538923250603899 : True := trivial
theorem hd.tw14478148883734587675 : True := trivial
theorem hd.tw18293851220164018083 : True := trivial
theorem hd.tw9499510787657705874 : True := trivial
theorem hd.tw922143313871775805 : True := trivial
theorem hd.tw10614716105012338702 : True := trivial
theorem hd.tw12070051907170230399 : True := trivial
theorem hd.tw11213053971927718326 : True := trivial
theorem hd.tw11709330566771433103 : True := trivial
theorem hd.tw10883786394301105576 : True := trivial
theorem hd.tw6804821044290156842 : True := trivial
theorem hd.tw17948085552500728524 : True := trivial
theorem hd.tw18245042118932799458 : True := trivial
theorem hd.tw10012880186880212623 : True := trivial
theorem hd.tw10111801491309104144 : True := trivial
theorem hd.tw10216474801634566288 : True := trivial
theorem hd.tw10258999931320997221 : True := trivial
theorem hd.tw10583446816852156582 : True := trivial
theorem hd.tw10678649693572172417 : True := trivial
theorem hd.tw10784824025267889561 : True := trivial
theorem hd.tw10792051664901133789 : True := trivial
theorem hd.tw10949625832625181284 : True := trivial
theorem hd.tw11054480109507316185 : True := trivial
theorem hd.tw11117797201346649052 : True := trivial
theorem hd.tw11162318198679636149 : True := trivial
theorem hd.tw1129884963351977449 : True := trivial
theorem hd.tw11319097763535126812 : True := trivial
theorem hd.tw11389486352061984695 : True := trivial
theorem hd.tw11631869004601391166 : True := trivial
theorem hd.tw11917015161858427179 : True := trivial
theorem hd.tw1197925565968671727 : True := trivial
theorem hd.tw12023040214023829324 : True := trivial
theorem hd.tw12046597982971013887 : True := trivial
theorem hd.tw12092154237167983948 : True := trivial
theorem hd.tw12173100003817136821 : True := trivial
theorem hd.tw12271959270614036898 : True := trivial
theorem hd.tw12423421440243004742 : True := trivial
theorem hd.tw12598724348716800887 : True := trivial
theorem hd.tw12602439190401603521 : True := trivial
theorem hd.tw12614811148066621264 : True := trivial
theorem hd.tw12631932088317031055 : True := trivial
theorem hd.tw12647368939536790636 : True := trivial
theorem hd.tw12901994302517312135 : True := trivial
theorem hd.tw12949589719889679912 : True := trivial
theorem hd.tw13330244855972007585 : True := trivial
theorem hd.tw13368278939475635651 : True := trivial
theorem hd.tw13483081372092288885 : True := trivial
theorem hd.tw13638418597567726942 : True := trivial
theorem hd.tw13753220567063992666 : True := trivial
theorem hd.tw14294001040229213422 : True := trivial
theorem hd.tw14400467628812073631 : True := trivial
theorem hd.tw14560493823538711346 : True := trivial
theorem hd.tw1486356043385980881 : True := trivial
theorem hd.tw14960593345356199642 : True := trivial
theorem hd.tw15344866539931968096 : True := trivial
theorem hd.tw15368132723985388332 : True := trivial
theorem hd.tw15411387601460861337 : True := trivial
theorem hd.tw15422856539912107476 : True := trivial
theorem hd.tw15527848837575444561 : True := trivial
theorem hd.tw15595854959937240912 : True := trivial
theorem hd.tw15616948245753086127 : True := trivial
theorem hd.tw15673258824015622330 : True := trivial
theorem hd.tw16064382804478563927 : True := trivial
theorem hd.tw16155205043701107222 : True := trivial
theorem hd.tw16259696140248634718 : True := trivial
theorem hd.tw162610821266807592 : True := trivial
theorem hd.tw16322961234291917855 : True := trivial
theorem hd.tw1640179252394036143 : True := trivial
theorem hd.tw16477043939570097188 : True := trivial
theorem hd.tw16649331688326792143 : True := trivial
theorem hd.tw16650738400726616396 : True := trivial
theorem hd.tw16722109127936396110 : True := trivial
theorem hd.tw16772102934027710169 : True := trivial
theorem hd.tw16828841361933241965 : True := trivial
theorem hd.tw16853341256802265648 : True := trivial
theorem hd.tw16904818350239718627 : True := trivial
theorem hd.tw16945582573551092051 : True := trivial
theorem hd.tw1699103778626983548 : True := trivial
theorem hd.tw17062030032774818151 : True := trivial
theorem hd.tw17087091549796120035 : True := trivial
theorem hd.tw17183224562656869120 : True := trivial
theorem hd.tw17252143746492648416 : True := trivial
theorem hd.tw17447410573909459338 : True := trivial
theorem hd.tw17542962492245011380 : True := trivial
theorem hd.tw17574625026820762457 : True := trivial
theorem hd.tw17599816209265215132 : True := trivial
theorem hd.tw17650839729002327288 : True := trivial
theorem hd.tw17672654358674132775 : True := trivial
theorem hd.tw17673860158736603733 : True := trivial
theorem hd.tw17689719872356567411 : True := trivial
theorem hd.tw17714235663813219645 : True := trivial
theorem hd.tw17739348878880393726 : True := trivial
theorem hd.tw17901334829092211166 : True := trivial
theorem hd.tw18103342009636024947 : True := trivial
theorem hd.tw18219297243305740317 : True := trivial
theorem hd.tw1836080755315867724 : True := trivial
theorem hd.tw1865391376527767206 : True := trivial
theorem hd.tw2101469004524951375 : True := trivial
theorem hd.tw2128367453233439577 : True := trivial
theorem hd.tw2195365466389143174 : True := trivial
theorem hd.tw2252305205657439004 : True := trivial
theorem hd.tw2315301623876862497 : True := trivial
theorem hd.tw2478488760367284492 : True := trivial
theorem hd.tw2603259988358896889 : True := trivial
theorem hd.tw266627367137399047 : True := trivial
theorem hd.tw2867327485932766208 : True := trivial
theorem hd.tw2930668341846507884 : True := trivial
theorem hd.tw2999033326186475339 : True := trivial
theorem hd.tw3008623586974134963 : True := trivial
theorem hd.tw3058821109629397610 : True := trivial
theorem hd.tw307737655149646647 : True := trivial
theorem hd.tw3219085151875037572 : True := trivial
theorem hd.tw3259873300814134281 : True := trivial
theorem hd.tw3437686538108195901 : True := trivial
theorem hd.tw3571134770919094901 : True := trivial
theorem hd.tw3646829019195819677 : True := trivial
theorem hd.tw3789350110615891812 : True := trivial
theorem hd.tw3828038474966422129 : True := trivial
theorem hd.tw3915529967508079626 : True := trivial
theorem hd.tw4015398097383911347 : True := trivial
theorem hd.tw4115565904173853331 : True := trivial
theorem hd.tw4236039668172988028 : True := trivial
theorem hd.tw4272726840584523970 : True := trivial
theorem hd.tw4383666589626881386 : True := trivial
theorem hd.tw4402725079659364252 : True := trivial
theorem hd.tw4478964076566166474 : True := trivial
theorem hd.tw4971549296188076032 : True := trivial
theorem hd.tw4993660671451451078 : True := trivial
theorem hd.tw5036846961687405229 : True := trivial
theorem hd.tw5130813555471234732 : True := trivial
theorem hd.tw5190246844813560578 : True := trivial
theorem hd.tw519851828213033955 : True := trivial
theorem hd.tw5245234834050458271 : True := trivial
theorem hd.tw5416991563250132298 : True := trivial
theorem hd.tw5511420028821071320 : True := trivial
theorem hd.tw5732804406350252772 : True := trivial
theorem hd.tw5902613922787404954 : True := trivial
theorem hd.tw6060742912462422084 : True := trivial
theorem hd.tw6082411064634330575 : True := trivial
theorem hd.tw6184460063843016694 : True := trivial
theorem hd.tw6196171512934965099 : True := trivial
theorem hd.tw6276725880618359904 : True := trivial
theorem hd.tw6291416237084387574 : True := trivial
theorem hd.tw6305734824756694309 : True := trivial
theorem hd.tw6411954120941647267 : True := trivial
theorem hd.tw6442067068224118133 : True := trivial
theorem hd.tw6598312636042714100 : True := trivial
theorem hd.tw6663896369628448293 : True := trivial
theorem hd.tw6759412095888398321 : True := trivial
theorem hd.tw6777908505215106953 : True := trivial
theorem hd.tw6819123309680001836 : True := trivial
theorem hd.tw6820862383352777685 : True := trivial
theorem hd.tw6924109203229866365 : True := trivial
theorem hd.tw6990203504111849199 : True := trivial
theorem hd.tw7068711184596962023 : True := trivial
theorem hd.tw7082855905992002993 : True := trivial
theorem hd.tw7188374417158125373 : True := trivial
theorem hd.tw728884934406724761 : True := trivial
theorem hd.tw7355570028127101125 : True := trivial
theorem hd.tw7366208706002141716 : True := trivial
theorem hd.tw7494724483528729301 : True := trivial
theorem hd.tw7540655947842036084 : True := trivial
theorem hd.tw7721951785955056133 : True := trivial
theorem hd.tw7752767780024739350 : True := trivial
theorem hd.tw7754304195085646258 : True := trivial
theorem hd.tw8047900516022102942 : True := trivial
theorem hd.tw8112040973832200146 : True := trivial
theorem hd.tw8343274005884668182 : True := trivial
theorem hd.tw8381844023166312768 : True := trivial
theorem hd.tw8545014587354053640 : True := trivial
theorem hd.tw8671608845466749128 : True := trivial
theorem hd.tw8727321023445011275 : True := trivial
theorem hd.tw8789358453043137523 : True := trivial
theorem hd.tw8934143017859847078 : True := trivial
theorem hd.tw8959176491354863721 : True := trivial
theorem hd.tw8990313861142287110 : True := trivial
theorem hd.tw9421340871869096474 : True := trivial
theorem hd.tw9427301549700849589 : True := trivial
theorem hd.tw9557236495431379559 : True := trivial
theorem hd.tw9566141503761928105 : True := trivial
theorem hd.tw9602920947052083033 : True := trivial
theorem hd.tw9657781627882305391 : True := trivial
theorem hd.tw9673543361469618366 : True := trivial
theorem hd.tw9702936160620672325 : True := trivial
theorem hd.tw9719896912496429819 : True := trivial
theorem hd.tw9783614193127449063 : True := trivial
theorem hd.tw978945382295711627 : True := trivial
theorem hd.tw13047593935725612058 : True := trivial
theorem hd.tw15153279154761372571 : True := trivial
theorem hd.tw12945690640364519158 : True := trivial
theorem hd.tw14864646467605168035 : True := trivial
theorem hd.tw1361877798171713420 : True := trivial
theorem hd.tw6969160765537744556 : True := trivial
theorem hd.tw2125676567915665837 : True := trivial
theorem hd.tw4582214911144424667 : True := trivial
theorem hd.tw6580447716519360249 : True := trivial
theorem hd.tw1652740347674639950 : True := trivial
theorem hd.tw3039998526598829958 : True := trivial
theorem hd.tw17839855588491291079 : True := trivial
theorem hd.tw4025436138054765562 : True := trivial
theorem hd.tw3953601041324332601 : True := trivial
theorem hd.tw1452849714261714991 : True := trivial
theorem hd.tw8444771526621048702 : True := trivial
theorem hd.tw541196102884509978 : True := trivial
theorem hd.tw16011055738799735888 : True := trivial
theorem hd.tw432457690288141553 : True := trivial
theorem hd.tw13783031573616600631 : True := trivial
set_option maxRecDepth 100000 in
set_option maxHeartbeats 8000000 in
theorem hd : PySem.Challenge.rw_yh0023_01.Holds := by
  w_on
  o_law
  o_head (kHook P.heap_1 [2, 3, 32, 34, 35, 37, 38, 42, 43, 47, 48, 52, 53, 54, 55, 57, 58, 60, 61, 69, 70, 72, 73, 75, 76, 77, 79, 80, 82, 83, 84, 86, 87, 89, 90, 91, 93, 94, 96, 97, 98, 101, 102, 103, 105, 106, 108, 109, 110, 112, 113, 115, 116, 117, 119, 120, 122, 123, 124, 125, 127, 128, 130, 131, 132, 135, 136, 137, 140, 141, 142, 144, 145, 147, 148, 149, 151, 152, 154, 155, 156, 159, 160, 161, 163, 164, 166, 167, 168, 170, 171, 173, 174, 175, 177, 178, 180, 181, 182, 183, 184, 185, 186, 189, 196, 197, 198, 199, 202, 209, 210, 211, 214, 221, 222, 223, 226, 228, 229, 231, 232, 233, 235, 236, 238, 239, 240, 242, 243, 245, 246, 247, 250, 251, 252, 254, 255, 257, 258, 259, 261, 262, 264, 265, 266, 268, 269, 271, 272, 273, 275, 276, 278, 279, 280, 282, 283, 285, 286, 287, 289, 290, 292, 293, 294, 297, 298, 299, 302, 303] (fun _ => by kernel_rfl))
  (case hw => w_witness2)
  exact theWalk
end Mine
theorem PySem.Challenge.cw_yh0023_01_holds : PySem.Challenge.rw_yh0023_01.Holds := by
  exact Mine.hd
