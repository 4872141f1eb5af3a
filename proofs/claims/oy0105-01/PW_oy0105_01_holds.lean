import PyProof.Rows.All
import Wide.All
import OpenK.AllK
import Wide.FinOn
import PySem.Challenge.RW_oy0105_01
set_option Elab.async false

-- Top1
section
open PySem PySem.W PyProof.Rows
set_option maxRecDepth 100000
set_option maxHeartbeats 8000000
namespace Mine
-- the top is taken in one check of the kernel, not in pieces: the compiled file stays small (0.7 MB for 18 MB)
local macro_rules
  | `(($_ : $t:ident)) => if t.getId.eraseMacroScopes == `Env then Lean.Macro.throwError "the top is taken in one check" else Lean.Macro.throwUnsupported
-- the looks at the text likewise
local macro_rules
  | `(tactic| o_law) => `(tactic| refine holds_law (by kernel_rfl) fun said => ?_)
open_top hd for PySem.Challenge.rw_oy0105_01
end Mine
end

-- M1
section
open PySem PySem.W PyProof.Rows
set_option maxRecDepth 100000
set_option maxHeartbeats 8000000
namespace Mine
open AutoSeq1 (wpAny_loadPart')
open MeetsSeq MeetsSeq2 MeetsSeq3 SeqRoads2 SeqAt

noncomputable def lexLt : List Int → List Int → Bool
  | [], [] => false
  | [], _ :: _ => true
  | _ :: _, [] => false
  | a :: x, b :: y => if a = b then lexLt x y else decide (a < b)

theorem ints_at {vs : List Value} {ns : List Int} (hi : IntsAre vs ns) {i : Nat} (h : i < ns.length) : ∃ t, vs[i]? = some (.int ns[i] t) := by
  obtain ⟨t, ht⟩ := hi.get i ns[i] (by simp [h])
  exact ⟨t, ht⟩

theorem lt_loop (l b : Addr) (vs us : List Value) (ns ms : List Int) (n n2 : Nat) (dd dd2 : Option Addr) (sl sl2 : Array (Option Value)) (hi : IntsAre vs ns) (hi2 : IntsAre us ms) (k : Nat) :
    ∀ i : Nat, ns.length - i = k → i ≤ ns.length → i ≤ ms.length → Meets (Builtin.«list.__eq__.loop» ⟨[.ref l, .ref b, rawInt i, rawInt 0], []⟩)
      (fun A R s => s.heap.get? l = some { cls := .type "list", dict := dd, data := .seq vs.toArray n, slots := sl } ∧ s.heap.get? b = some { cls := .type "list", dict := dd2, data := .seq us.toArray n2, slots := sl2 } ∧
        R (.ok (.ret (.bool (lexLt (ns.drop i) (ms.drop i))))) s) := by
  have hl1 := hi.length
  have hl2 := hi2.length
  induction k with
  | zero =>
    intro i hk h1 h2 prog w A R s h
    obtain ⟨hp, g, d, tk, os⟩ := s; obtain ⟨hl, hb, h⟩ := h
    wp_walk using wpAny_loadPart' hl, wpAny_loadPart' hb
    have hi1 : vs.toArray[((i : Nat) : Int).toNat]? = none := by simp; omega
    have hd : ns.drop i = [] := by simp; omega
    rw [hd] at h
    rw [hi1]
    wp_walk using wpAny_loadPart' hl, wpAny_loadPart' hb
    refine cast (congrArg (fun z => R (.ok (.ret (.bool z))) _) ?_) h
    show _ = decide (vs.toArray.size < us.toArray.size)
    simp only [List.size_toArray]
    cases hm : ms.drop i with
    | nil =>
      have : ms.length ≤ i := by simpa using hm
      show false = _
      simp; omega
    | cons x y =>
      have : i < ms.length := by
        rcases Nat.lt_or_ge i ms.length with q | q
        · exact q
        · rw [List.drop_of_length_le q] at hm; cases hm
      show true = _
      simp; omega
  | succ k ih =>
    intro i hk h1 h2 prog w A R s h
    obtain ⟨hp, g, d, tk, os⟩ := s; obtain ⟨hl, hb, h⟩ := h
    wp_walk using wpAny_loadPart' hl, wpAny_loadPart' hb
    have hlt : i < ns.length := by omega
    obtain ⟨t, ht⟩ := ints_at hi hlt
    have hx : vs.toArray[((i : Nat) : Int).toNat]? = some (.int ns[i] t) := by simpa using ht
    have hc : ((i : Int) + 1) = ((i + 1 : Nat) : Int) := by push_cast; rfl
    rcases Nat.lt_or_ge i ms.length with hlt2 | hge
    · obtain ⟨u, hu⟩ := ints_at hi2 hlt2
      have hy : us.toArray[((i : Nat) : Int).toNat]? = some (.int ms[i] u) := by simpa using hu
      rw [hx, hy]
      have e1 : ns.drop i = ns[i] :: ns.drop (i + 1) := List.drop_eq_getElem_cons hlt
      have e2 : ms.drop i = ms[i] :: ms.drop (i + 1) := List.drop_eq_getElem_cons hlt2
      rw [e1, e2] at h
      refine wpAny_bind (EqAt.int_int ns[i] t ms[i] u prog w _ _ ?_)
      by_cases he : ns[i] = ms[i]
      · have h : R (.ok (.ret (.bool (lexLt (ns.drop (i+1)) (ms.drop (i+1)))))) ⟨hp, g, d, tk, os⟩ := by
          simpa only [lexLt, he, if_true] using h
        simp only [he, beq_self_eq_true]
        wp_walk
        rw [hc]
        exact ⟨plainId_quiet plain_eq_loop _, codeAny_builtin entry_eq_loop (by
          rw [Around.under_plainId plain_eq_loop _]
          exact ih (i + 1) (by omega) (by omega) (by omega) prog w A R _ ⟨hl, hb, h⟩)⟩
      · have he' : ¬ ms[i] = ns[i] := fun q => he q.symm
        have h : R (.ok (.ret (.bool (decide (ns[i] < ms[i]))))) ⟨hp, g, d, tk, os⟩ := by
          simpa only [lexLt, he, he', if_false] using h
        have hf : (ns[i] == ms[i]) = false := by simpa using he
        rw [hf]
        wp_walk using wpAny_loadPart' hl, wpAny_loadPart' hb
        rw [hx, hy]
        dsimp only
        exact wpAny_bind (PyProof.Rows.lt_int (wpAny_pure h))
    · have hy : us.toArray[((i : Nat) : Int).toNat]? = none := by simp; omega
      have e1 : ns.drop i = ns[i] :: ns.drop (i + 1) := List.drop_eq_getElem_cons hlt
      have e2 : ms.drop i = [] := by simp; omega
      rw [e1, e2] at h
      rw [hx, hy]
      wp_walk using wpAny_loadPart' hl, wpAny_loadPart' hb
      refine cast (congrArg (fun z => R (.ok (.ret (.bool z))) _) ?_) h
      show false = decide (vs.toArray.size < us.toArray.size)
      simp; omega

theorem list_ltAt (l b : Addr) (vs us : List Value) (ns ms : List Int) (n n2 : Nat) (dd dd2 : Option Addr) (sl sl2 : Array (Option Value)) (hi : IntsAre vs ns) (hi2 : IntsAre us ms) :
    Meets (Builtin.«list.__lt__» ⟨[.ref l, .ref b], []⟩)
      (fun A R s => s.heap.get? l = some { cls := .type "list", dict := dd, data := .seq vs.toArray n, slots := sl } ∧ s.heap.get? b = some { cls := .type "list", dict := dd2, data := .seq us.toArray n2, slots := sl2 } ∧
        R (.ok (.ret (.bool (lexLt ns ms)))) s) := by
  intro prog w A R s h
  obtain ⟨hp, g, d, tk, os⟩ := s; obtain ⟨hl, hb, h⟩ := h
  have f3 := AutoSeq1.sub_list_list
  wp_walk using wpAny_loadPart' hl, wpAny_loadPart' hb
  exact ⟨plainId_quiet plain_eq_loop _, codeAny_builtin entry_eq_loop (by
    rw [Around.under_plainId plain_eq_loop _]
    exact lt_loop l b vs us ns ms n n2 dd dd2 sl sl2 hi hi2 _ 0 rfl (Nat.zero_le _) (Nat.zero_le _) prog w A R _ ⟨hl, hb, by simpa using h⟩)⟩

theorem lt_lists {prog : Program} {w : World} {A : Around} {E : Value → Shared → Prop} {s : Shared} {a b : Addr} {vs us : List Value} {ns ms : List Int} {Q : Value → Shared → Prop} (hl : s.heap.IsList a vs.toArray) (hi : IntsAre vs ns) (hl' : s.heap.IsList b us.toArray) (hi' : IntsAre us ms) (hu : A.units < cLine)
    (h : Q (.bool (lexLt ns ms)) s) : wpAny (model prog w) A (compareOp .Lt (.ref a) (.ref b)) Q E s := by
  obtain ⟨⟨cls, dd, data, sl⟩, ho, hc, n, hd⟩ := id hl
  obtain ⟨⟨cls2, dd2, data2, sl2⟩, ho2, hc2, n2, hd2⟩ := id hl'
  simp only at hc hd hc2 hd2
  subst hc hd hc2 hd2
  refine cmp_ofLt ?_
  exact richCompare_meets_room (op := .Lt) ⟨_, ho, rfl⟩ ⟨_, ho2, rfl⟩ F.slot_list_lt F.entry_list_lt (F.args_list_lt_2 _ _) (list_ltAt a b vs us ns ms n n2 dd dd2 sl sl2 hi hi')
    ⟨ho, ho2, show Value.bool (lexLt ns ms) ≠ Value.notImplemented ∧ Q (.bool (lexLt ns ms)) s from ⟨(fun x => nomatch x), h⟩⟩ hu

noncomputable def lexGt (x y : List Int) : Bool := lexLt y x

theorem gt_loop (l b : Addr) (vs us : List Value) (ns ms : List Int) (n n2 : Nat) (dd dd2 : Option Addr) (sl sl2 : Array (Option Value)) (hi : IntsAre vs ns) (hi2 : IntsAre us ms) (k : Nat) :
    ∀ i : Nat, ns.length - i = k → i ≤ ns.length → i ≤ ms.length → Meets (Builtin.«list.__eq__.loop» ⟨[.ref l, .ref b, rawInt i, rawInt 4], []⟩)
      (fun A R s => s.heap.get? l = some { cls := .type "list", dict := dd, data := .seq vs.toArray n, slots := sl } ∧ s.heap.get? b = some { cls := .type "list", dict := dd2, data := .seq us.toArray n2, slots := sl2 } ∧
        R (.ok (.ret (.bool (lexGt (ns.drop i) (ms.drop i))))) s) := by
  have hl1 := hi.length
  have hl2 := hi2.length
  induction k with
  | zero =>
    intro i hk h1 h2 prog w A R s h
    obtain ⟨hp, g, d, tk, os⟩ := s; obtain ⟨hl, hb, h⟩ := h
    wp_walk using wpAny_loadPart' hl, wpAny_loadPart' hb
    have hi1 : vs.toArray[((i : Nat) : Int).toNat]? = none := by simp; omega
    have hd : ns.drop i = [] := by simp; omega
    rw [hd] at h
    rw [hi1]
    wp_walk using wpAny_loadPart' hl, wpAny_loadPart' hb
    refine cast (congrArg (fun z => R (.ok (.ret (.bool z))) _) ?_) h
    show _ = decide (vs.toArray.size > us.toArray.size)
    simp only [List.size_toArray]
    cases hm : ms.drop i with
    | nil =>
      have : ms.length ≤ i := by simpa using hm
      show false = _
      simp; omega
    | cons x y =>
      have : i < ms.length := by
        rcases Nat.lt_or_ge i ms.length with q | q
        · exact q
        · rw [List.drop_of_length_le q] at hm; cases hm
      show false = _
      simp; omega
  | succ k ih =>
    intro i hk h1 h2 prog w A R s h
    obtain ⟨hp, g, d, tk, os⟩ := s; obtain ⟨hl, hb, h⟩ := h
    wp_walk using wpAny_loadPart' hl, wpAny_loadPart' hb
    have hlt : i < ns.length := by omega
    obtain ⟨t, ht⟩ := ints_at hi hlt
    have hx : vs.toArray[((i : Nat) : Int).toNat]? = some (.int ns[i] t) := by simpa using ht
    have hc : ((i : Int) + 1) = ((i + 1 : Nat) : Int) := by push_cast; rfl
    rcases Nat.lt_or_ge i ms.length with hlt2 | hge
    · obtain ⟨u, hu⟩ := ints_at hi2 hlt2
      have hy : us.toArray[((i : Nat) : Int).toNat]? = some (.int ms[i] u) := by simpa using hu
      rw [hx, hy]
      have e1 : ns.drop i = ns[i] :: ns.drop (i + 1) := List.drop_eq_getElem_cons hlt
      have e2 : ms.drop i = ms[i] :: ms.drop (i + 1) := List.drop_eq_getElem_cons hlt2
      rw [e1, e2] at h
      refine wpAny_bind (EqAt.int_int ns[i] t ms[i] u prog w _ _ ?_)
      by_cases he : ns[i] = ms[i]
      · have h : R (.ok (.ret (.bool (lexGt (ns.drop (i+1)) (ms.drop (i+1)))))) ⟨hp, g, d, tk, os⟩ := by
          simpa only [lexGt, lexLt, he, if_true] using h
        simp only [he, beq_self_eq_true]
        wp_walk
        rw [hc]
        exact ⟨plainId_quiet plain_eq_loop _, codeAny_builtin entry_eq_loop (by
          rw [Around.under_plainId plain_eq_loop _]
          exact ih (i + 1) (by omega) (by omega) (by omega) prog w A R _ ⟨hl, hb, h⟩)⟩
      · have he' : ¬ ms[i] = ns[i] := fun q => he q.symm
        have h : R (.ok (.ret (.bool (decide (ns[i] > ms[i]))))) ⟨hp, g, d, tk, os⟩ := by
          simpa only [lexGt, lexLt, he, he', if_false] using h
        have hf : (ns[i] == ms[i]) = false := by simpa using he
        rw [hf]
        wp_walk using wpAny_loadPart' hl, wpAny_loadPart' hb
        rw [hx, hy]
        dsimp only
        exact wpAny_bind (PyProof.Rows.gt_int (wpAny_pure h))
    · have hy : us.toArray[((i : Nat) : Int).toNat]? = none := by simp; omega
      have e1 : ns.drop i = ns[i] :: ns.drop (i + 1) := List.drop_eq_getElem_cons hlt
      have e2 : ms.drop i = [] := by simp; omega
      rw [e1, e2] at h
      rw [hx, hy]
      wp_walk using wpAny_loadPart' hl, wpAny_loadPart' hb
      refine cast (congrArg (fun z => R (.ok (.ret (.bool z))) _) ?_) h
      show true = decide (vs.toArray.size > us.toArray.size)
      simp; omega

theorem list_gtAt (l b : Addr) (vs us : List Value) (ns ms : List Int) (n n2 : Nat) (dd dd2 : Option Addr) (sl sl2 : Array (Option Value)) (hi : IntsAre vs ns) (hi2 : IntsAre us ms) :
    Meets (Builtin.«list.__gt__» ⟨[.ref l, .ref b], []⟩)
      (fun A R s => s.heap.get? l = some { cls := .type "list", dict := dd, data := .seq vs.toArray n, slots := sl } ∧ s.heap.get? b = some { cls := .type "list", dict := dd2, data := .seq us.toArray n2, slots := sl2 } ∧
        R (.ok (.ret (.bool (lexGt ns ms)))) s) := by
  intro prog w A R s h
  obtain ⟨hp, g, d, tk, os⟩ := s; obtain ⟨hl, hb, h⟩ := h
  have f3 := AutoSeq1.sub_list_list
  wp_walk using wpAny_loadPart' hl, wpAny_loadPart' hb
  exact ⟨plainId_quiet plain_eq_loop _, codeAny_builtin entry_eq_loop (by
    rw [Around.under_plainId plain_eq_loop _]
    exact gt_loop l b vs us ns ms n n2 dd dd2 sl sl2 hi hi2 _ 0 rfl (Nat.zero_le _) (Nat.zero_le _) prog w A R _ ⟨hl, hb, by simpa using h⟩)⟩

theorem gt_lists {prog : Program} {w : World} {A : Around} {E : Value → Shared → Prop} {s : Shared} {a b : Addr} {vs us : List Value} {ns ms : List Int} {Q : Value → Shared → Prop} (hl : s.heap.IsList a vs.toArray) (hi : IntsAre vs ns) (hl' : s.heap.IsList b us.toArray) (hi' : IntsAre us ms) (hu : A.units < cLine)
    (h : Q (.bool (lexGt ns ms)) s) : wpAny (model prog w) A (compareOp .Gt (.ref a) (.ref b)) Q E s := by
  obtain ⟨⟨cls, dd, data, sl⟩, ho, hc, n, hd⟩ := id hl
  obtain ⟨⟨cls2, dd2, data2, sl2⟩, ho2, hc2, n2, hd2⟩ := id hl'
  simp only at hc hd hc2 hd2
  subst hc hd hc2 hd2
  refine cmp_ofGt ?_
  exact richCompare_meets_room (op := .Gt) ⟨_, ho, rfl⟩ ⟨_, ho2, rfl⟩ F.slot_list_gt F.entry_list_gt (F.args_list_gt_2 _ _) (list_gtAt a b vs us ns ms n n2 dd dd2 sl sl2 hi hi')
    ⟨ho, ho2, show Value.bool (lexGt ns ms) ≠ Value.notImplemented ∧ Q (.bool (lexGt ns ms)) s from ⟨(fun x => nomatch x), h⟩⟩ hu

end Mine
end

-- Kit
section
open PySem PySem.W PyProof.Rows
set_option maxRecDepth 100000
set_option maxHeartbeats 8000000
set_option linter.unusedVariables false
namespace Mine
noncomputable def Ctr (w : World) (f : Addr) (args : List Value) (news : List (Addr × Obj)) (dep uns : Nat) (Post : Value → List (Addr × Obj) → Prop) : Prop :=
  ∀ (mean : ExcName → Option Value) (mg mb : Str → Option Value) (dp un : Nat) (gd : Option (List Code)) (cn : Str) (cs : Scope) (a : Addr) (ccd : Value) (cl : List (Str × Addr)) (outer : List Env) (A₀ : Around) (base h₀ : Heap) (L : Addr) (m : Str → Option Value) (s : Shared) (Q E : Value → Shared → Prop),
    Below A₀ base outer h₀ → Fr h₀ L s.heap m → (hd.heap_1 w.params).In h₀ → News h₀ L s.heap news → Top hd.view_1 (looseW hd.view_1 []) mean mg mb h₀ → cs.kind = .function → dp + dep < recursionLimit → un + uns < cLine →
    (∀ r news' h' tk', Fr h₀ L h' m → News h₀ L h' news' → Post r news' → Q r { s with heap := h', toks := tk' }) →
    wpAny (model Challenge.rw_oy0105_01.row.prog w) (ktrTop dp un gd cn cs L a ccd cl outer) (call (.ref f) args) Q E s

theorem ctr_use {w : World} {f : Addr} {args : List Value} {news : List (Addr × Obj)} {dep uns : Nat} {Post : Value → List (Addr × Obj) → Prop} (C : Ctr w f args news dep uns Post)
    {mean : ExcName → Option Value} {mg mb : Str → Option Value} {dp un : Nat} {gd : Option (List Code)} {cn : Str} {cs : Scope} {a : Addr} {ccd : Value} {cl : List (Str × Addr)} {outer : List Env} {A₀ : Around} {base h₀ : Heap} {L : Addr} {m : Str → Option Value} {s : Shared} {Q E : Value → Shared → Prop}
    (B : Below A₀ base outer h₀) (F : Fr h₀ L s.heap m) (X : (hd.heap_1 w.params).In h₀) (N : News h₀ L s.heap news) (T : Top hd.view_1 (looseW hd.view_1 []) mean mg mb h₀) (hk : cs.kind = .function) (hdp : dp + dep < recursionLimit) (hun : un + uns < cLine)
    (ret : ∀ r news' h' tk', Fr h₀ L h' m → News h₀ L h' news' → Post r news' → Q r { s with heap := h', toks := tk' }) :
    wpAny (model Challenge.rw_oy0105_01.row.prog w) (ktrTop dp un gd cn cs L a ccd cl outer) (call (.ref f) args) Q E s := C _ _ _ _ _ _ _ _ _ _ _ _ _ _ _ _ _ _ _ _ B F X N T hk hdp hun ret

noncomputable def Hold (P : Prop) : Prop := P
theorem hold {P : Prop} (h : Hold P) : P := h
theorem unhold {P : Prop} (h : P) : Hold P := h

theorem fr_named {h₀ : Heap} {L : Addr} {h : Heap} {m : Str → Option Value} (ps : List (Str × Value)) (F : Fr h₀ L h m) (hp : ∀ p ∈ ps, m p.1 = some p.2) : ∃ u, Fr h₀ L h (kstB u ps) :=
  ⟨m, by
    have e : kstB m ps = m := funext fun z => kstB_eq hp (fun _ => rfl)
    rw [e]; exact F⟩

section
variable {prog : Program} {w : World} {A : Around} {E : Value → Shared → Prop} {s : Shared} {h₀ : Heap} {L : Addr} {m : Str → Option Value} {news news' : List (Addr × Obj)}
theorem item_at {value slice : PySem.Expr} {l : Addr} {vs : List Value} {k : Int} {n : Nat} {u : Tok} {v : Value} {Q : Value → Shared → Prop}
    (N : News h₀ L s.heap news) (hm : (l, listOf vs.toArray n) ∈ news) (h0 : 0 ≤ k) (hhi : k < 2 ^ 63) (hx : vs[k.toNat]? = some v) (h : Q v s)
    (hs : subscripted slice false (.ref l) (.int k u) = operate [.ref l, .int k u] (getItem (.ref l) (.int k u)) := by with_unfolding_all rfl) :
    wpAny (model prog w) A (subscriptTail value slice (.ref l) (.int k u)) Q E s :=
  have hl : s.heap.IsList l vs.toArray := ⟨_, N.get hm, rfl, n, rfl⟩
  tail_any hl.typeIs slot_list_getitem.lookup (wpAny_getItem_list hl h0 hhi (by simpa using hx) h) hs

theorem isL {l : Addr} {vs : List Value} {n : Nat} (N : News h₀ L s.heap news) (hm : (l, listOf vs.toArray n) ∈ news) : s.heap.IsList l vs.toArray := ⟨_, N.get hm, rfl, n, rfl⟩
theorem len_at {l : Addr} {vs : List Value} {n : Nat} {Q : Value → Shared → Prop} (N : News h₀ L s.heap news) (hm : (l, listOf vs.toArray n) ∈ news) (hfit : vs.length < 2 ^ 63)
    (h : Q (.int vs.length (s.toks + 1)) { s with toks := s.toks + 1 + 1 }) : wpAny (model prog w) A (call (.builtin "len") [.ref l]) Q E s :=
  len_list (isL N hm) (by rw [List.size_toArray]; omega) (by rw [List.size_toArray]; exact h)
theorem set_at {D : Addr} {vs : List Value} {n : Nat} {k : Int} {t : Tok} {v : Value} {Q : Unit → Shared → Prop} (F : Fr h₀ L s.heap m) (N : News h₀ L s.heap news) (U : Upd D (listOf vs.toArray n) (listOf (vs.set k.toNat v).toArray n) news news') (h0 : 0 ≤ k) (h1 : k < vs.length) (hfit : k < 2 ^ 63)
    (h : ∀ h', Fr h₀ L h' m → News h₀ L h' news' → Q () { s with heap := h' }) :
    wpAny (model prog w) A (setItem (.ref D) (.int k t) v) Q E s := by
  obtain ⟨pre, post, rfl, rfl, a, b⟩ := U.split
  have z := N (D, listOf vs.toArray n) (List.mem_append.mpr (.inr (.head _)))
  refine ki_setAt z.1 h0 hfit (by rw [List.size_toArray]; exact h1) (h _ (F.change (Heap.SameBut.update ..) z.2.1 z.2.2) (ki_turn _ N a b ?_ ?_))
  · show vs.toArray.setIfInBounds k.toNat v = (vs.set k.toNat v).toArray
    apply Array.toList_inj.mp
    simp
  · simp
end

noncomputable def WhEnd {σ : Type} (h₀ : Heap) (L : Addr) (s : Shared) (Led : σ → List (Addr × Obj)) (ps : σ → List (Str × Value)) (P : σ → Prop) (μ : σ → Nat) (c : σ) (s₂ : Shared) : Prop :=
  ∃ (c' : σ) (h' : Heap) (tk : Nat) (m' : Str → Option Value) (news' : List (Addr × Obj)), s₂ = { s with heap := h', toks := tk } ∧ Fr h₀ L h' m' ∧ News h₀ L h' news' ∧ (∀ p ∈ Led c', p ∈ news') ∧ (∀ p ∈ ps c', m' p.1 = some p.2) ∧ P c' ∧ μ c' < μ c
theorem wh_end {σ : Type} {h₀ : Heap} {L : Addr} {s : Shared} {Led : σ → List (Addr × Obj)} {ps : σ → List (Str × Value)} {P : σ → Prop} {μ : σ → Nat} {c : σ} {h' : Heap} {tk : Nat} {m' : Str → Option Value} {news' : List (Addr × Obj)} (c' : σ)
    (F : Fr h₀ L h' m') (N : News h₀ L h' news') (hn : ∀ p ∈ Led c', p ∈ news') (hk : ∀ p ∈ ps c', m' p.1 = some p.2) (hp : P c') (hm : μ c' < μ c) : WhEnd h₀ L s Led ps P μ c { s with heap := h', toks := tk } :=
  ⟨c', h', tk, m', news', rfl, F, N, hn, hk, hp, hm⟩
noncomputable def WhPost {σ : Type} (h₀ : Heap) (L : Addr) (s : Shared) (Led : σ → List (Addr × Obj)) (ps : σ → List (Str × Value)) (P : σ → Prop) (μ : σ → Nat) (Q : Flow → Shared → Prop) (c : σ) (f : Flow) (s₂ : Shared) : Prop :=
  match f with
  | .ret v => Q (.ret v) s₂
  | .brk => Q .next s₂
  | _ => WhEnd h₀ L s Led ps P μ c s₂

theorem kstB_self {m₁ : Str → Option Value} {ps : List (Str × Value)} (h1 : ∀ p ∈ ps, m₁ p.1 = some p.2) : kstB m₁ ps = m₁ := funext fun _ => kstB_eq h1 (fun _ => rfl)

section
variable {prog : Program} {w : World} {A : Around} {E : Value → Shared → Prop} {Q : Flow → Shared → Prop} {s : Shared} {env : Env} {h₀ : Heap} {L : Addr}
theorem wh {σ : Type} {test : PySem.Expr} {body : List Stmt} {pos : Pos} {m₀ : Str → Option Value} (Led : σ → List (Addr × Obj)) (ps : σ → List (Str × Value)) (P : σ → Prop) (μ : σ → Nat) (c₀ : σ)
    (F : Fr h₀ L s.heap m₀) (N : News h₀ L s.heap (Led c₀)) (hk : ∀ p ∈ ps c₀, m₀ p.1 = some p.2) (hp : P c₀)
    (turn : ∀ (c : σ) (u : Str → Option Value) h tk, P c → Fr h₀ L h (kstB u (ps c)) → News h₀ L h (Led c) →
      wpAny (model prog w) A (isTrue test env (eval test env)) (fun b s₂ =>
        if b = true then wpAny (model prog w) A (execs body env) (WhPost h₀ L s Led ps P μ Q c) E s₂ else Q .next s₂) E { s with heap := h, toks := tk })
    (hE : PassesOwn (model prog w) A env E := by passes_own) :
    wpAny (model prog w) A (exec (.While test body [] pos) env) Q E s := by
  refine While_inv2 (fun n m nx => ∃ c : σ, nx = Led c ∧ μ c = n ∧ (∀ p ∈ ps c, m p.1 = some p.2) ∧ P c) F N ⟨c₀, rfl, rfl, hk, hp⟩ ?_ hE
  rintro n m₁ nx h tk F₁ N₁ ⟨c, hnx, hsz, h1, hp'⟩
  rw [hnx] at N₁
  rw [← hsz]
  refine wpAny_mono (turn c m₁ h tk hp' ((kstB_self h1).symm ▸ F₁) N₁) (fun b s₂ p => ?_) fun _ _ x => x
  cases b with
  | false => simpa using p
  | true =>
    simp only [if_true] at p ⊢
    refine wpAny_mono p (fun f s₃ q => ?_) fun _ _ x => x
    cases f with
    | ret v => exact q
    | brk => exact q
    | next =>
      obtain ⟨c', h', tk', m', news', rfl, F', N', hn, hk9, hp9, hm9⟩ := q
      exact ⟨h', tk', m', Led c', μ c', rfl, F', fun p hp => N' p (hn p hp), hm9, c', rfl, rfl, hk9, hp9⟩
    | cont =>
      obtain ⟨c', h', tk', m', news', rfl, F', N', hn, hk9, hp9, hm9⟩ := q
      exact ⟨h', tk', m', Led c', μ c', rfl, F', fun p hp => N' p (hn p hp), hm9, c', rfl, rfl, hk9, hp9⟩
end
end Mine
end

-- KitT
section
open PySem PySem.W PyProof.Rows PySem.Calls
set_option maxRecDepth 100000
set_option maxHeartbeats 8000000
set_option linter.unusedVariables false
namespace Mine
noncomputable def CtrT (w : World) (f : Addr) (args : List Value) (news : List (Addr × Obj)) (dep uns : Nat) (Post : Value → List (Addr × Obj) → Prop) : Prop :=
  ∀ (mean : ExcName → Option Value) (mg mb : Str → Option Value) (dp un : Nat) (gd : Option (List Code)) (cn : Str) (cs : Scope) (a : Addr) (ccd : Value) (cl : List (Str × Addr)) (outer : List Env) (h₀ : Heap) (L : Addr) (m : Str → Option Value) (s : Shared) (Q E : Value → Shared → Prop) (frs : List (Addr × Obj)),
    Fr h₀ L s.heap m → (hd.heap_1 w.params).In h₀ → News h₀ L s.heap (news ++ frs) → TI.Frs outer frs → (∀ p ∈ news, p.1 ∉ frs.map (·.1)) → Top hd.view_1 (looseW hd.view_1 []) mean mg mb h₀ → cs.kind = .function → dp + dep < recursionLimit → un + uns < cLine →
    (∀ r news' frs' h' tk', Fr h₀ L h' m → News h₀ L h' (news' ++ frs') → TI.SameUp frs frs' → (∀ p ∈ news', p.1 ∉ frs'.map (·.1)) → Post r news' → Q r { s with heap := h', toks := tk' }) →
    wpAny (model Challenge.rw_oy0105_01.row.prog w) (ktrTop dp un gd cn cs L a ccd cl outer) (call (.ref f) args) Q E s

theorem ctrT_use {w : World} {f : Addr} {args : List Value} {news : List (Addr × Obj)} {dep uns : Nat} {Post : Value → List (Addr × Obj) → Prop} (C : CtrT w f args news dep uns Post)
    {mean : ExcName → Option Value} {mg mb : Str → Option Value} {dp un : Nat} {gd : Option (List Code)} {cn : Str} {cs : Scope} {a : Addr} {ccd : Value} {cl : List (Str × Addr)} {outer : List Env} {h₀ : Heap} {L : Addr} {m : Str → Option Value} {s : Shared} {Q E : Value → Shared → Prop} {frs : List (Addr × Obj)}
    (F : Fr h₀ L s.heap m) (X : (hd.heap_1 w.params).In h₀) (N : News h₀ L s.heap (news ++ frs)) (Fs : TI.Frs outer frs) (hap : ∀ p ∈ news, p.1 ∉ frs.map (·.1)) (T : Top hd.view_1 (looseW hd.view_1 []) mean mg mb h₀) (hk : cs.kind = .function) (hdp : dp + dep < recursionLimit) (hun : un + uns < cLine)
    (ret : ∀ r news' frs' h' tk', Fr h₀ L h' m → News h₀ L h' (news' ++ frs') → TI.SameUp frs frs' → (∀ p ∈ news', p.1 ∉ frs'.map (·.1)) → Post r news' → Q r { s with heap := h', toks := tk' }) :
    wpAny (model Challenge.rw_oy0105_01.row.prog w) (ktrTop dp un gd cn cs L a ccd cl outer) (call (.ref f) args) Q E s := C _ _ _ _ _ _ _ _ _ _ _ _ _ _ _ _ _ _ _ F X N Fs hap T hk hdp hun ret

theorem code_defT {prog : Program} {w : World} {A : Around} {s : Shared} {h₀ : Heap} {L : Addr} {m : Str → Option Value} {news frs : List (Addr × Obj)} {K : Frag} {p : Program} {loose : List Str} {mean : ExcName → Option Value} {mg mb : Str → Option Value} {env : Env} {outer : List Env}
    {R : Result → Shared → Prop} {name qual : Str} {params : Arguments} {body : List Stmt} {scope : Scope} {dV kV doc pm cdv ct oc : Value} {an od : Option Addr} {osl : Array (Option Value)} {f : Addr} {args : Args} {binds : List (Str × Value)}
    (F : Fr h₀ L s.heap m) (X₀ : K.In h₀) (N : News h₀ L s.heap (news ++ frs)) (T : Top p loose mean mg mb h₀) (Fs : TI.Frs outer frs) (hap : ∀ p ∈ news, p.1 ∉ frs.map (·.1)) (hef : env.frame = some L) (hke : env.scope.kind = .function)
    (ho : K.lookup f = some ⟨oc, od, .func (fnOf name qual params body scope dV kV doc pm an cdv ct), osl⟩) (hcd : codeIn K cdv qual = true) (hroom : A.depth < recursionLimit)
    (hbind : BindsTo s (fnOf name qual params body scope dV kV doc pm an cdv ct) args binds) (hloc : ∀ y ∈ binds, scope.names.lookup y.1 = some .local)
    (h : ∀ oL L' h₁, TI.Caller h₀ L m oL → TI.Frs (env :: outer) ((L, oL) :: frs) → (∀ p ∈ news, p.1 ∉ ((L, oL) :: frs).map (·.1)) → (∀ p ∈ frs, p.1 ≠ L) → (∀ p ∈ news ++ (L, oL) :: frs, p.1 < L') → Fr h₀ L' h₁ (fun y => binds.reverse.lookup y) → News h₀ L' h₁ (news ++ (L, oL) :: frs) →
      wpAny (model prog w) (A.deeper (envOf qual scope L' f cdv)) (execs body (envOf qual scope L' f cdv))
        (fun fl s' => R (.ok (.ret (match fl with | .ret v => v | _ => .none))) s')
        (fun e s' => wpAny (model prog w) (A.deeper (envOf qual scope L' f cdv)) (leaving (envOf qual scope L' f cdv) e) (fun _ s'' => R (.error e) s'') (fun e' s'' => R (.error e') s'') s')
        { s with heap := h₁, toks := s.toks + binds.length })
    (hco : scope.isCoroutine = false) (hgen : scope.isGenerator = false) (hk : scope.kind = .function)
    (hcell : ∀ x ∈ scope.names, x.2 ≠ .cell) : codeAny (model prog w) A (.call (.ref f) args) R s := by
  have X := X₀.keeps F.keep
  obtain ⟨oL, es, ep, hL, hLd, hLk, hLf⟩ := F.ns
  have hLt := Heap.lt_size hL
  have hkind : env.scope.kind ≠ .module := by rw [hke]; decide
  refine codeAny_call_def (fd := fnOf name qual params body scope dV kV doc pm an cdv ct) (body := body) (binds := binds) hroom (X _ _ ho) rfl (T.nolimit.keeps F.keep) (codeRec_of X hcd) rfl hbind hcell hloc (fun h₁ hns hk₁ => ?_) hco hgen hk
  have up : ∀ b o, s.heap.get? b = some o → h₁.get? b = some o := fun b o e => hk₁ b o e
  refine wpAny_mono (h oL s.heap.objs.size h₁ ⟨fun h' sl e => ⟨_, es, ep, e, hLd, hLk, hLf⟩, ⟨es, ep, hLd⟩, F.above⟩ ⟨hkind, hef, ⟨es, ep, hLd⟩, Fs⟩ (fun p hp hm => ?_) (fun p hp => (N p (List.mem_append_right _ hp)).2.1) (fun p hp => ?_)
    ⟨hns, fun b o e => up b o (F.keep b o e), Nat.le_trans F.above (Nat.le_of_lt hLt)⟩ (fun p hp => ?_)) (fun _ _ x => x) fun _ _ x => wpAny_mono x (fun _ _ y => y) fun _ _ y => y
  · rcases List.mem_cons.mp hm with q | hm
    · exact (N p (List.mem_append_left _ hp)).2.1 q
    · exact hap p hp hm
  · rcases List.mem_append.mp hp with hp | hp
    · exact Heap.lt_size (N p (List.mem_append_left _ hp)).1
    · rcases List.mem_cons.mp hp with rfl | hp
      · exact hLt
      · exact Heap.lt_size (N p (List.mem_append_right _ hp)).1
  · rcases List.mem_append.mp hp with hp | hp
    · obtain ⟨h1, h2, h3⟩ := N p (List.mem_append_left _ hp)
      exact ⟨up _ _ h1, Nat.ne_of_lt (Heap.lt_size h1), h3⟩
    · rcases List.mem_cons.mp hp with rfl | hp
      · exact ⟨up _ _ hL, Nat.ne_of_lt hLt, Heap.get?_none_of_le F.above⟩
      · obtain ⟨h1, h2, h3⟩ := N p (List.mem_append_right _ hp)
        exact ⟨up _ _ h1, Nat.ne_of_lt (Heap.lt_size h1), h3⟩

theorem sameUp_addr : ∀ {a b : List (Addr × Obj)}, TI.SameUp a b → b.map (·.1) = a.map (·.1)
  | [], [], _ => rfl
  | [], _ :: _, h => h.elim
  | _ :: _, [], h => h.elim
  | p :: ps, q :: qs, h => by
    obtain ⟨h1, _, h3⟩ := h
    simp only [List.map_cons, h1, sameUp_addr h3]

theorem lt_up {rest a b : List (Addr × Obj)} {x : Addr} (h : ∀ p ∈ rest ++ a, p.1 < x) (SU : TI.SameUp a b) : ∀ p ∈ rest ++ b, p.1 < x := by
  intro p hp
  rcases List.mem_append.mp hp with hp | hp
  · exact h p (List.mem_append_left _ hp)
  · have hm : p.1 ∈ a.map (·.1) := by rw [← sameUp_addr SU]; exact List.mem_map_of_mem hp
    obtain ⟨y, hy, e⟩ := List.mem_map.mp hm
    rw [← e]
    exact h y (List.mem_append_right _ hy)
theorem allLt_mem {d : Nat} : ∀ {l : List (Addr × Obj)}, AllLt d l → ∀ p ∈ l, p.1 < d
  | [], _, _, h => nomatch h
  | _ :: _, x, p, h => by
    rcases List.mem_cons.mp h with rfl | h
    · exact x.1
    · exact allLt_mem x.2 p h

theorem backT {h₀ : Heap} {L L' : Addr} {m m' : Str → Option Value} {oL : Obj} {h' : Heap} {news' frs frs1 : List (Addr × Obj)} (C : TI.Caller h₀ L m oL) (F' : Fr h₀ L' h' m') (N' : News h₀ L' h' (news' ++ frs1)) (SU : TI.SameUp ((L, oL) :: frs) frs1)
    (hap : ∀ p ∈ news', p.1 ∉ frs1.map (·.1)) (hL : ∀ p ∈ frs, p.1 ≠ L) :
    ∃ frs', TI.SameUp frs frs' ∧ Fr h₀ L h' m ∧ News h₀ L h' (news' ++ frs') ∧ ∀ p ∈ news', p.1 ∉ frs'.map (·.1) := by
  cases frs1 with
  | nil => exact SU.elim
  | cons q qs =>
    obtain ⟨h1, ⟨sl, h2⟩, h3⟩ := SU
    have hq := (N' q (List.mem_append_right _ List.mem_cons_self)).1
    have h1' : q.1 = L := h1
    have h2' : q.2 = { oL with slots := sl } := h2
    rw [h1', h2'] at hq
    refine ⟨qs, h3, ⟨C.ns _ sl hq, F'.keep, C.above⟩, fun p hp => ?_, fun p hp hm => hap p hp (List.mem_cons_of_mem _ hm)⟩
    rcases List.mem_append.mp hp with hp | hp
    · obtain ⟨x1, x2, x3⟩ := N' p (List.mem_append_left _ hp)
      refine ⟨x1, fun e => hap p hp ?_, x3⟩
      rw [e, List.map_cons, h1']
      exact List.mem_cons_self
    · obtain ⟨x1, x2, x3⟩ := N' p (List.mem_append_right _ (List.mem_cons_of_mem _ hp))
      refine ⟨x1, fun e => ?_, x3⟩
      have hm : p.1 ∈ frs.map (·.1) := by rw [← sameUp_addr h3]; exact List.mem_map_of_mem hp
      obtain ⟨x, hx, hx1⟩ := List.mem_map.mp hm
      exact hL x hx (hx1.trans e)
end Mine
end

-- KitX
section
open PySem PySem.W PyProof.Rows PySem.Calls
set_option maxRecDepth 100000
set_option maxHeartbeats 8000000
set_option linter.unusedVariables false
namespace Mine
/-- a new IndexError made while a1 is handled -/
structure NewExcIn (h h' : Heap) (e a1 : Addr) (cls : String) : Prop where
  keeps : ∀ b o, h.get? b = some o → h'.get? b = some o
  new : h.get? e = none
  there : ∃ ob t, h'.get? e = some ob ∧ ob.cls = .type cls ∧ ob.data = .fields #[t, .none, .ref a1, .none, .bool false, .none]

theorem plain_unchain : plainId "proto.unchain" = true := by decide +kernel
theorem entry_unchain : entryFor table "proto.unchain" = some Builtin.«proto.unchain» := entryFor_of_fast (by kernel_rfl)

section
variable {α : Type} {prog : Program} {w : World} {A : Around} {E : Value → Shared → Prop} {s : Shared}
theorem raiseWords_in {cls msg : String} {a1 : Addr} {o1 : Obj} {vs1 : Array Value} {Q : α → Shared → Prop} (hp : PlainExc cls) (hh : A.handled = some (.ref a1)) (h1 : s.heap.get? a1 = some o1) (hd1 : o1.data = .fields vs1) (hc1 : vs1[2]? = some .none)
    (h : ∀ h' tk e, NewExcIn s.heap h' e a1 cls → E (.ref e) { s with heap := h', toks := tk }) :
    wpAny (model prog w) A (raiseErrorWords cls msg : Sem α) Q E s := by
  unfold raiseErrorWords
  refine wpAny_bind (wpAny_mkText (wpAny_bind ?_))
  unfold newExc newTuple
  refine wpAny_bind (wpAny_newObj_type ?_)
  refine wpAny_bind (m := firstArgMember _ _) (wpAny_of_eq (a := Value.none) (by simp only [firstArgMember, hp.first]; rfl) ?_)
  rw [hp.own]
  refine wpAny_newObj_type ?_
  unfold raiseNew
  refine wpAny_bind (wpAny_handled ?_)
  rw [hh]
  dsimp only
  have hlt : a1 < s.heap.objs.size := Heap.lt_size h1
  generalize hT : s.heap.push { cls := Value.type "tuple", data := Data.seq [Value.str (Str.ofString msg) s.toks].toArray } = H
  have hTs : H.objs.size = s.heap.objs.size + 1 := by rw [← hT]; simp
  have hne : (Value.ref a1 != Value.ref H.objs.size) = true := by
    rw [bne_iff_ne]
    intro q
    injection q with q
    rw [q, hTs] at hlt
    exact absurd (Nat.lt_trans (Nat.lt_succ_self _) hlt) (Nat.lt_irrefl _)
  rw [if_pos hne]
  have k1 : ∀ b o, s.heap.get? b = some o → H.get? b = some o := fun b o e => by rw [← hT]; exact Heap.get?_push_of_some _ e
  refine wpAny_bind (wpAny_holding (wpAny_runValue (codeAny_builtin entry_unchain ?_)))
  show wpAny _ _ (field (.ref a1) 2 >>= _) _ _ _
  refine wpAny_bind (wpAny_field (Heap.get?_push_of_some _ (k1 _ _ h1)) hd1 hc1 ?_)
  dsimp only
  refine wpAny_ite_split (fun _ => ?_) (fun q => absurd rfl q)
  refine wpAny_bind (wpAny_pure (wpAny_pure ?_))
  dsimp only
  show wpAny _ _ (setField (.ref H.objs.size) 2 (.ref a1) >>= _) _ _ _
  refine wpAny_bind (wpAny_setField (Heap.get?_push_size H rfl) rfl (by simp) (wpAny_throw ?_))
  have hself := Heap.get?_update_self (Obj.mapFields (·.setIfInBounds 2 (Value.ref a1))) (Heap.get?_push_size H (o := { cls := Value.type cls, data := Data.fields (#[Value.ref s.heap.objs.size, Value.none, Value.none, Value.none, Value.bool false, Value.none] ++ #[]) }) rfl) rfl
  refine h _ _ _ ⟨fun b o hb => ?_, Heap.get?_none_of_le (by rw [hTs]; omega), _, .ref s.heap.objs.size, hself, rfl, ?_⟩
  · have hb2 := Heap.get?_push_of_some { cls := Value.type cls, data := Data.fields (#[Value.ref s.heap.objs.size, Value.none, Value.none, Value.none, Value.bool false, Value.none] ++ #[]) } (k1 b o hb)
    exact (Heap.get?_update_ne _ _ _ _ (Nat.ne_of_lt (Heap.lt_size (k1 b o hb)))).trans hb2
  · rfl

theorem getItem_out_in {l : Addr} {items : Array Value} {k : Int} {t : Tok} {a1 : Addr} {o1 : Obj} {vs1 : Array Value} {Q : Value → Shared → Prop} (hh : A.handled = some (.ref a1)) (h1 : s.heap.get? a1 = some o1) (hd1 : o1.data = .fields vs1) (hc1 : vs1[2]? = some .none) (hl : s.heap.IsList l items)
    (hout : (items.size : Int) ≤ k) (hhi : k < 2 ^ 63)
    (hE : ∀ h' tk e, NewExcIn s.heap h' e a1 "IndexError" → E (.ref e) { s with heap := h', toks := tk }) :
    wpAny (model prog w) A (getItem (.ref l) (.int k t)) Q E s := by
  obtain ⟨o, ho, hc, ne, hd⟩ := id hl
  unfold getItem
  try with_reducible refine wpAny_holding ?_
  first | refine wpAny_bind (wpAny_pure ?_) | skip
  refine wpAny_bind (wpAny_sequenceKey hl.typeIs (by decide) ?_)
  refine wpAny_bind (wpAny_callSpecial?_slot (name := Str.ofString "__getitem__") hl.typeIs slot_list_getitem
    (wpAny_call_entry slot_list_getitem hl.typeIs entry_list_getitem ?_ (args_list_getitem _ _)))
  show wpAny _ _ (Builtin.List.listSubscript? (.int k t) >>= _) _ _ s
  refine wpAny_bind (wpAny_listSubscript_int (fitsIndex_both (by omega) hhi) ?_)
  clear hhi
  cases k with
  | negSucc q => have := Int.negSucc_lt_zero q; omega
  | ofNat j =>
    have hx : items[j]? = none := Array.getElem?_eq_none (by have : (items.size : Int) ≤ (j : Int) := hout; omega)
    show wpAny _ _ ((seqItemAt l j >>= fun r => pure (r.map (j, ·))) >>= _) _ _ s
    refine wpAny_bind (wpAny_bind (wpAny_seqItemAt ho hd (wpAny_pure ?_)))
    rw [hx]
    first
      | exact wpAny_bind (wpAny_rule (raiseWords_in plainExc_IndexError hh h1 hd1 hc1 hE))
      | exact wpAny_bind (wpAny_rule (wpAny_bind (raiseWords_in plainExc_IndexError hh h1 hd1 hc1 hE)))
      | exact wpAny_bind (wpAny_bind (wpAny_rule (raiseWords_in plainExc_IndexError hh h1 hd1 hc1 hE)))
      | exact wpAny_rule (raiseWords_in plainExc_IndexError hh h1 hd1 hc1 hE)

theorem item_out_in {value slice : PySem.Expr} {l : Addr} {items : Array Value} {k : Int} {t : Tok} {a1 : Addr} {o1 : Obj} {vs1 : Array Value} {Q : Value → Shared → Prop} (hh : A.handled = some (.ref a1)) (h1 : s.heap.get? a1 = some o1) (hd1 : o1.data = .fields vs1) (hc1 : vs1[2]? = some .none) (hl : s.heap.IsList l items)
    (hout : (items.size : Int) ≤ k) (hhi : k < 2 ^ 63)
    (hE : ∀ h' tk e, NewExcIn s.heap h' e a1 "IndexError" → E (.ref e) { s with heap := h', toks := tk })
    (hs : subscripted slice false (.ref l) (.int k t) = operate [.ref l, .int k t] (getItem (.ref l) (.int k t)) := by with_unfolding_all rfl) :
    wpAny (model prog w) A (subscriptTail value slice (.ref l) (.int k t)) Q E s :=
  tail_any hl.typeIs slot_list_getitem.lookup (getItem_out_in hh h1 hd1 hc1 hl hout hhi hE) hs
end

section
variable {prog : Program} {w : World} {A₀ : Around} {E : Value → Shared → Prop} {s' : Shared} {hb h : Heap} {L a e : Addr} {m : Str → Option Value} {name : Str} {scope : Scope} {cd : Value} {Q : Unit → Shared → Prop} {X : String} {l : List Env} {frs new : List (Addr × Obj)}
theorem noted_newB {a1 : Addr} (hfr : A₀.frames = some l) (Fs : TI.Frs l frs) (hx : NewExcIn h s'.heap e a1 X) (F : Fr hb L h m) (N : News hb L h (new ++ frs)) (hap : ∀ p ∈ new, p.1 ∉ L :: frs.map (·.1))
    (k : ∀ h' frs', TI.SameUp frs frs' → TI.Frs l frs' → TT.HeldN hb L h' m e X (new ++ frs') → Q () { s' with heap := h' }) (hk : scope.kind = .function := by rfl) :
    wpAny (model prog w) (A₀.deeper (envOf name scope L a cd)) (noteFrame (.ref e) (envOf name scope L a cd)) Q E s' := by
  obtain ⟨ob, tp, he, hcls, hd⟩ := hx.there
  obtain ⟨hff, hNs, frs₁, SU, ht⟩ := TI.frames_at (name := name) (a := a) (cd := cd) (h' := s'.heap) (base := TI.gone h (L :: frs.map (·.1))) hk Fs F N TI.tail_sub (fun b o hb' => ⟨o.slots, hx.keeps b o hb'⟩) fun b hm => TI.gone_none hm
  unfold noteFrame
  simp only [show (envOf name scope L a cd).frame = some L from rfl]
  refine wpAny_bind (wpAny_field he hd (x := .none) rfl ?_)
  rw [if_neg (by decide)]
  refine wpAny_entryW (a0 := tp) (Around.frames_deeper hfr) hff rfl he (fun b o eb => hx.keeps b o (TI.gone_some eb).2) (TT.none_of (fun b o eb => (TI.gone_some eb).2) hx.new) hd (by show 1 < 6; decide) rfl fun h' hN => ?_
  obtain ⟨frs₂, SU₂, Fs₂, H⟩ := TLg.held_of_notedA (X := X) Fs F N hap hNs SU ht hx.new (by rw [← hcls]; exact hN)
  exact k h' frs₂ SU₂ Fs₂ H

theorem entry_exact {M : Model} {A : Around} {s : Shared} {base : Heap} {env : Env} {outer : List Env} {L e : Addr} {oe : Obj} {vs : Array Value} {head : Value} {hadNext : Bool} {Q : Unit → Shared → Prop}
    (hfr : A.frames = some (env :: outer)) (hl : s.heap.FunFrames base (env :: outer)) (hf : env.frame = some L)
    (he : s.heap.get? e = some oe) (hd : oe.data = .fields vs) (hsz : 1 < vs.size)
    (h : ∀ h' T oT ts, (∀ b o, b ∉ (env :: outer).filterMap (·.frame) → b ≠ e → s.heap.get? b = some o → h'.get? b = some o) → s.heap.UpToSlots h' → h'.get? e = some (Obj.mapFields (·.setIfInBounds 1 (.ref T)) oe) →
      h'.get? T = some oT → oT.data = .fields ts → ts[3]? = some (rawInt L) → T ≠ e → s.heap.get? T = none → Q () { s with heap := h' }) :
    wpAny M A (do let a ← frameOf env; let pl ← entryPlaceOf L hadNext; let b ← EntryCells.newEntry head a .none (rawInt L) .none pl; setField (.ref e) 1 b) Q E s := by
  have hene : e ∉ (env :: outer).filterMap (·.frame) := fun hm => by
    obtain ⟨_, o, ho, hnf⟩ := hl.mem hm
    rw [he] at ho; injection ho with ho; subst ho; exact hnf vs hd
  refine wpAny_bind (wpAny_frameOf_fun hfr hl hf fun h₁ hs₁ => ?_)
  refine wpAny_bind (wpAny_entryPlaceOf fun pl hpl => ?_)
  unfold EntryCells.newEntry newFields
  refine wpAny_bind (wpAny_newObj_type ?_ (hpl.sizeOk5 _ _ _ _ _))
  have he₁ : h₁.get? e = some oe := (hs₁.2.1 e hene).trans he
  have he₂ := Heap.get?_push_of_some (h := h₁) { cls := .type "traceback", dict := none, data := .fields ([head, .ref L, .none, rawInt L, .none] ++ (if pl.isEmpty then List.replicate 6 Value.none else pl)).toArray } he₁
  refine wpAny_setField he₂ hd hsz ?_
  have hTe : h₁.objs.size ≠ e := Nat.ne_of_gt (Heap.lt_size he₁)
  have hd₃ := Obj.data_mapFields hd (·.setIfInBounds 1 (Value.ref h₁.objs.size))
  have he₃ := Heap.get?_update_self (Obj.mapFields (·.setIfInBounds 1 (Value.ref h₁.objs.size))) he₂ (Obj.isFreed_of_fields hd₃)
  have hT₃ := (Heap.get?_update_other (h₁.push { cls := .type "traceback", dict := none, data := .fields ([head, .ref L, .none, rawInt L, .none] ++ (if pl.isEmpty then List.replicate 6 Value.none else pl)).toArray })
    (Obj.mapFields (·.setIfInBounds 1 (Value.ref h₁.objs.size))) (Ne.symm hTe)).trans (Heap.get?_push_size h₁ rfl)
  have keep : ∀ b o, b ≠ e → h₁.get? b = some o →
      ((h₁.push { cls := .type "traceback", dict := none, data := .fields ([head, .ref L, .none, rawInt L, .none] ++ (if pl.isEmpty then List.replicate 6 Value.none else pl)).toArray }).update e (Obj.mapFields (·.setIfInBounds 1 (Value.ref h₁.objs.size)))).get? b = some o :=
    fun b o hbe hb => by
      rw [Heap.get?_update_other _ _ (Ne.symm hbe)]
      exact Heap.get?_push_of_some _ hb
  refine h _ h₁.objs.size _ _ (fun b o hbf hbe hb => keep b o hbe ((hs₁.2.1 b hbf).trans hb)) (fun b o hb hnf => ?_) he₃ hT₃ rfl (by first | (simp; done) | (rcases hpl with rfl | ⟨_, _, _, _, _, _, _, rfl⟩ <;> simp)) hTe ?_
  · obtain ⟨sl, hs⟩ := hs₁.2.2 b o hb
    exact ⟨sl, keep b _ (fun q => by rw [q, he] at hb; injection hb with hb; subst hb; exact hnf vs hd) hs⟩
  · cases hq : s.heap.get? h₁.objs.size with
    | none => rfl
    | some o =>
      obtain ⟨sl, hs⟩ := hs₁.2.2 _ o hq
      exact absurd (Heap.lt_size hs) (Nat.lt_irrefl _)

theorem note1 (hfr : A₀.frames = some l) (Fs : TI.Frs l frs) (hx : Heap.NewExc h s'.heap e X) (F : Fr hb L h m) (N : News hb L h (new ++ frs)) (hap : ∀ p ∈ new, p.1 ∉ L :: frs.map (·.1))
    (k : ∀ h' frs' oe T oT ts t, TI.SameUp frs frs' → TI.Frs l frs' → Fr hb L h' m → News hb L h' ((e, oe) :: (T, oT) :: (new ++ frs')) → oe.cls = .type X → oe.data = .fields #[t, .ref T, .none, .none, .bool false, .none] →
      oT.data = .fields ts → ts[3]? = some (rawInt L) → T ≠ e → (∀ p ∈ new ++ frs', p.1 ≠ e ∧ p.1 ≠ T) → Q () { s' with heap := h' }) (hk : scope.kind = .function := by rfl) :
    wpAny (model prog w) (A₀.deeper (envOf name scope L a cd)) (noteFrame (.ref e) (envOf name scope L a cd)) Q E s' := by
  obtain ⟨ob, tp, he, hcls, hd⟩ := hx.there
  obtain ⟨hff, hNs, frs₁, SU, ht⟩ := TI.frames_at (name := name) (a := a) (cd := cd) (h' := s'.heap) (base := TI.gone h (L :: frs.map (·.1))) hk Fs F N TI.tail_sub (fun b o hb' => ⟨o.slots, hx.keeps b o hb'⟩) fun b hm => TI.gone_none hm
  unfold noteFrame
  simp only [show (envOf name scope L a cd).frame = some L from rfl]
  refine wpAny_bind (wpAny_field he hd (x := .none) rfl ?_)
  rw [if_neg (by decide)]
  refine entry_exact (Around.frames_deeper hfr) hff rfl he hd (by show 1 < 6; decide) fun h' T oT ts k1 k2 k3 k4 k5 k6 k7 k8 => ?_
  have hadr : (envOf name scope L a cd :: l).filterMap (·.frame) = L :: frs.map (·.1) := TI.frames_are Fs
  rw [hadr] at k1
  have Fs₁ := Fs.up SU
  obtain ⟨frs₂, SU₂, ht₂⟩ := TI.sameUp_of (h' := h') fun p hp => k2 p.1 p.2 (ht p hp) fun vs q => by
    obtain ⟨es, ep, hd⟩ := Fs₁.dict p hp
    rw [hd] at q; cases q
  have SU' := SU.trans SU₂
  have Fs₂ := Fs₁.up SU₂
  have hNs' : h'.Ns L m := Heap.UpToSlots.ns k2 hNs
  have eold : ∀ b o, h.get? b = some o → b ≠ e := fun b o ho q => by rw [q, hx.new] at ho; cases ho
  have Told : ∀ b o, h.get? b = some o → b ≠ T := fun b o ho q => by have := hx.keeps b o ho; rw [q, k8] at this; cases this
  have keep : ∀ b o, b ∉ L :: frs.map (·.1) → h.get? b = some o → h'.get? b = some o := fun b o hn ho => k1 b o hn (eold b o ho) (hx.keeps b o ho)
  have kbase : ∀ b o, hb.get? b = some o → h'.get? b = some o := fun b o ho => keep b o (TI.base_apart F N TI.tail_sub ho) (F.keep b o ho)
  have hLh : ∃ oL, h.get? L = some oL := let ⟨o, _, _, ho, _⟩ := F.ns; ⟨o, ho⟩
  obtain ⟨oL, hL⟩ := hLh
  refine k h' frs₂ (Obj.mapFields (fun x => x.setIfInBounds 1 (Value.ref T)) ob) T oT ts tp SU' Fs₂ ⟨hNs', kbase, F.above⟩ ?_ ?_ ?_ k5 k6 k7 ?_
  · intro p hp
    rcases List.mem_cons.mp hp with rfl | hp
    · exact ⟨k3, (eold L oL hL).symm, TT.none_of F.keep hx.new⟩
    · rcases List.mem_cons.mp hp with rfl | hp
      · refine ⟨k4, (Told L oL hL).symm, ?_⟩
        cases hq : hb.get? T with
        | none => rfl
        | some o => have := hx.keeps _ _ (F.keep _ _ hq); rw [k8] at this; cases this
      · rcases List.mem_append.mp hp with hp | hp
        · obtain ⟨p1, p2, p3⟩ := N p (List.mem_append_left _ hp)
          exact ⟨keep p.1 p.2 (hap p hp) p1, p2, p3⟩
        · obtain ⟨x, hx', q⟩ := SU'.fwd p hp
          obtain ⟨_, p2, p3⟩ := N x (TI.tail_sub x hx')
          exact ⟨ht₂ p hp, by rw [q]; exact p2, by rw [q]; exact p3⟩
  · obtain ⟨c, d, dt, sl⟩ := ob
    cases dt <;> exact hcls
  · obtain ⟨c, d, dt, sl⟩ := ob
    obtain rfl : dt = _ := hd
    rfl
  · intro p hp
    rcases List.mem_append.mp hp with hp | hp
    · obtain ⟨p1, _, _⟩ := N p (List.mem_append_left _ hp)
      exact ⟨eold _ _ p1, Told _ _ p1⟩
    · obtain ⟨x, hx', q⟩ := SU'.fwd p hp
      obtain ⟨p1, _, _⟩ := N x (TI.tail_sub x hx')
      rw [q]
      exact ⟨eold _ _ p1, Told _ _ p1⟩

theorem note_again {M : Model} {A : Around} {T : Addr} {oe oT : Obj} {vs ts : Array Value} (he : s'.heap.get? e = some oe) (hd : oe.data = .fields vs) (h1 : vs[1]? = some (.ref T)) (hT : s'.heap.get? T = some oT) (hdT : oT.data = .fields ts) (h3 : ts[3]? = some (rawInt L)) (hQ : Q () s') :
    wpAny M A (noteFrame (.ref e) (envOf name scope L a cd)) Q E s' := by
  unfold noteFrame
  simp only [show (envOf name scope L a cd).frame = some L from rfl]
  refine wpAny_bind (wpAny_field he hd h1 ?_)
  rw [if_pos (by rfl)]
  refine wpAny_bind (wpAny_field hT hdT h3 ?_)
  rw [if_pos (by simp)]
  exact wpAny_pure hQ

theorem flight_none {M : Model} {A : Around} {T : Addr} {oe oT : Obj} {vs ts : Array Value} {news : List (Addr × Obj)} (F : Fr hb L s'.heap m) (N : News hb L s'.heap ((e, oe) :: (T, oT) :: news)) (hd : oe.data = .fields vs) (h1 : vs[1]? = some (.ref T)) (hdT : oT.data = .fields ts) (h3 : 3 < ts.size) (hTe : T ≠ e) (hn : ∀ p ∈ news, p.1 ≠ T)
    (hQ : ∀ h' oT', Fr hb L h' m → News hb L h' ((e, oe) :: (T, oT') :: news) → oT'.data = .fields (ts.setIfInBounds 3 .none) → Q () { s' with heap := h' }) :
    wpAny M A (setFlight (.ref e) none) Q E s' := by
  have he := (N _ (List.Mem.head _)).1
  have hT := N _ (List.Mem.tail _ (List.Mem.head _))
  refine wpAny_setFlight_none he hd h1 hT.1 hdT h3 ?_
  obtain ⟨oL, esL, epL, hL, hLd, hLk, hLf⟩ := F.ns
  refine hQ _ (Obj.mapFields (·.setIfInBounds 3 .none) oT) ⟨⟨oL, esL, epL, (Heap.get?_update_ne _ _ _ _ hT.2.1.symm).trans hL, hLd, hLk, hLf⟩, fun b o hb' => (Heap.get?_update_ne _ _ _ _ (fun q => by have := hT.2.2; rw [← q, hb'] at this; cases this)).trans (F.keep b o hb'), F.above⟩ ?_ (Obj.data_mapFields hdT _)
  intro p hp
  rcases List.mem_cons.mp hp with rfl | hp
  · exact ⟨(Heap.get?_update_ne _ _ _ _ hTe.symm).trans he, (N _ (List.Mem.head _)).2⟩
  · rcases List.mem_cons.mp hp with rfl | hp
    · exact ⟨Heap.get?_update_self _ hT.1 (Obj.isFreed_of_fields (Obj.data_mapFields hdT _)), hT.2⟩
    · have P := N p (List.Mem.tail _ (List.Mem.tail _ hp))
      exact ⟨(Heap.get?_update_ne _ _ _ _ (hn p hp)).trans P.1, P.2⟩
end
end Mine
end

-- KitU
section
open PySem PySem.W PyProof.Rows PySem.Calls
set_option maxRecDepth 100000
set_option maxHeartbeats 8000000
set_option linter.unusedVariables false
namespace Mine
noncomputable def cutAt (h : Heap) (n : Nat) : Heap := ⟨h.objs.extract 0 n, h.life⟩
theorem cutAt_get {h : Heap} {n b : Nat} (hb : b < n) : (cutAt h n).get? b = h.get? b := by
  have e : (cutAt h n).objs[b]? = h.objs[b]? := by
    show (h.objs.extract 0 n)[b]? = h.objs[b]?
    rw [Array.getElem?_extract]
    split
    · simp
    · rename_i hq
      have : h.objs.size ≤ b := by omega
      exact (Array.getElem?_eq_none this).symm
  unfold Heap.get?
  rw [e]
theorem cutAt_some {h : Heap} {n b : Nat} {o : Obj} (e : (cutAt h n).get? b = some o) : b < n ∧ h.get? b = some o := by
  have hlt := Heap.lt_size e
  have hs : (cutAt h n).objs.size ≤ n := by
    show (h.objs.extract 0 n).size ≤ n
    rw [Array.size_extract]; omega
  have hb : b < n := Nat.lt_of_lt_of_le hlt hs
  exact ⟨hb, (cutAt_get hb).symm.trans e⟩
theorem cutAt_size (h : Heap) (n : Nat) : (cutAt h n).objs.size ≤ n := by
  show (h.objs.extract 0 n).size ≤ n
  rw [Array.size_extract]; omega

theorem ctr_useT {w : World} {f : Addr} {args : List Value} {news : List (Addr × Obj)} {dep uns : Nat} {Post : Value → List (Addr × Obj) → Prop} (C : Ctr w f args news dep uns Post)
    {mean : ExcName → Option Value} {mg mb : Str → Option Value} {dp un : Nat} {gd : Option (List Code)} {cn : Str} {cs : Scope} {a : Addr} {ccd : Value} {cl : List (Str × Addr)} {outer : List Env} {h₀ : Heap} {L : Addr} {m : Str → Option Value} {s : Shared} {Q E : Value → Shared → Prop} {frs : List (Addr × Obj)}
    (F : Fr h₀ L s.heap m) (X : (hd.heap_1 w.params).In h₀) (N : News h₀ L s.heap (news ++ frs)) (Fs : TI.Frs outer frs) (hap : ∀ p ∈ news, p.1 ∉ frs.map (·.1)) (hlt : ∀ p ∈ frs, p.1 < L) (T : Top hd.view_1 (looseW hd.view_1 []) mean mg mb h₀) (hk : cs.kind = .function) (hdp : dp + dep < recursionLimit) (hun : un + uns < cLine)
    (ret : ∀ r news' h' tk', Fr h₀ L h' m → News h₀ L h' (news' ++ frs) → (∀ p ∈ news', p.1 ∉ frs.map (·.1)) → Post r news' → Q r { s with heap := h', toks := tk' }) :
    wpAny (model Challenge.rw_oy0105_01.row.prog w) (ktrTop dp un gd cn cs L a ccd cl outer) (call (.ref f) args) Q E s := by
  let h₁ := hideAll (cutAt s.heap L) (news.map (·.1))
  have up : ∀ b o, h₁.get? b = some o → s.heap.get? b = some o := fun b o e => (cutAt_some (of_hideAll _ e)).2
  have nn : ∀ b o, h₀.get? b = some o → b ∉ news.map (·.1) := fun b o e q => by
    obtain ⟨p, hp, rfl⟩ := List.mem_map.mp q
    rw [(N p (List.mem_append_left _ hp)).2.2] at e; cases e
  have low : ∀ b o, h₀.get? b = some o → h₁.get? b = some o := fun b o e =>
    hideAll_get _ ((cutAt_get (Nat.lt_of_lt_of_le (Heap.lt_size e) F.above)).trans (F.keep b o e)) (nn b o e)
  have frm : ∀ p ∈ frs, h₁.get? p.1 = some p.2 := fun p hp =>
    hideAll_get _ ((cutAt_get (hlt p hp)).trans (N p (List.mem_append_right _ hp)).1) (fun q => by
      obtain ⟨x, hx, e⟩ := List.mem_map.mp q
      exact hap x hx (by rw [e]; exact List.mem_map_of_mem hp))
  have F₁ : Fr h₁ L s.heap m := ⟨F.ns, up, by show (hideAll _ _).objs.size ≤ L; rw [hideAll_size]; exact cutAt_size _ _⟩
  have N₁ : News h₁ L s.heap news := fun p hp => ⟨(N p (List.mem_append_left _ hp)).1, (N p (List.mem_append_left _ hp)).2.1, hideAll_none _ (List.mem_map_of_mem hp)⟩
  have B₁ : Below { frames := some outer } h₀ outer h₁ := ⟨rfl, low, Fs.fun fun q hq => ⟨frm q hq, (N q (List.mem_append_right _ hq)).2.2⟩⟩
  refine C _ _ _ _ _ _ _ _ _ _ _ _ _ _ _ _ _ _ _ _ B₁ F₁ (X.keeps low) N₁ (T.keeps low) hk hdp hun ?_
  intro r news' h' tk' F' N' hp
  refine ret r news' h' tk' ⟨F'.ns, fun b o e => F'.keep b o (low b o e), F.above⟩ (fun p hp => ?_) (fun p hp hm => ?_) hp
  · rcases List.mem_append.mp hp with hp | hp
    · obtain ⟨p1, p2, p3⟩ := N' p hp
      exact ⟨p1, p2, TT.none_of low p3⟩
    · obtain ⟨p1, p2, p3⟩ := N p (List.mem_append_right _ hp)
      exact ⟨F'.keep _ _ (frm p hp), p2, p3⟩
  · obtain ⟨x, hx, e⟩ := List.mem_map.mp hm
    have h1 := frm x hx
    rw [e, (N' p hp).2.2] at h1
    cases h1
end Mine
end

-- KitC
section
open PySem PySem.W PyProof.Rows PySem.Calls
set_option maxRecDepth 100000
set_option maxHeartbeats 8000000
set_option linter.unusedVariables false
namespace Mine
theorem code_defTC {prog : Program} {w : World} {A : Around} {s : Shared} {h₀ : Heap} {L : Addr} {m : Str → Option Value} {news frs : List (Addr × Obj)} {K : Frag} {p : Program} {loose : List Str} {mean : ExcName → Option Value} {mg mb : Str → Option Value} {env : Env} {outer : List Env}
    {R : Result → Shared → Prop} {name qual : Str} {params : Arguments} {body : List Stmt} {scope : Scope} {dV kV doc pm cdv ct oc : Value} {an od : Option Addr} {osl : Array (Option Value)} {f : Addr} {args : Args} {binds : List (Str × Value)}
    (F : Fr h₀ L s.heap m) (X₀ : K.In h₀) (N : News h₀ L s.heap (news ++ frs)) (T : Top p loose mean mg mb h₀) (Fs : TI.Frs outer frs) (hap : ∀ p ∈ news, p.1 ∉ frs.map (·.1)) (hef : env.frame = some L) (hke : env.scope.kind = .function)
    (ho : K.lookup f = some ⟨oc, od, .func (fnOf name qual params body scope dV kV doc pm an cdv ct), osl⟩) (hcd : codeIn K cdv qual = true) (hroom : A.depth < recursionLimit)
    (hbind : BindsTo s (fnOf name qual params body scope dV kV doc pm an cdv ct) args binds) (hkind : (binds.all fun y => scope.names.lookup y.1 == some .local || scope.names.lookup y.1 == some .cell) = true)
    (hnd : ((cellsFrom 0 scope.names []).map (·.1)).Nodup)
    (h : ∀ oL L' h₁ tk cells, TI.Caller h₀ L m oL → TI.Frs (env :: outer) ((L, oL) :: frs) → (∀ p ∈ news, p.1 ∉ ((L, oL) :: frs).map (·.1)) → (∀ p ∈ frs, p.1 ≠ L) → (∀ p ∈ news ++ (L, oL) :: frs, p.1 < L') →
      Fr h₀ L' h₁ (bindL (envOfC qual scope L' f cdv).kindOf binds fun _ => none) → News h₀ L' h₁ (cells ++ (news ++ (L, oL) :: frs)) → CellsAre (bindC (envOfC qual scope L' f cdv).kindOf binds fun _ => none) (cellsFrom (L' + 1) scope.names []) cells →
      wpAny (model prog w) (A.deeper (envOfC qual scope L' f cdv)) (execs body (envOfC qual scope L' f cdv))
        (fun fl s' => R (.ok (.ret (match fl with | .ret v => v | _ => .none))) s')
        (fun e s' => wpAny (model prog w) (A.deeper (envOfC qual scope L' f cdv)) (leaving (envOfC qual scope L' f cdv) e) (fun _ s'' => R (.error e) s'') (fun e' s'' => R (.error e') s'') s')
        { s with heap := h₁, toks := tk })
    (hco : scope.isCoroutine = false) (hgen : scope.isGenerator = false) (hk : scope.kind = .function) : codeAny (model prog w) A (.call (.ref f) args) R s := by
  have X := X₀.keeps F.keep
  obtain ⟨oL, es, ep, hL, hLd, hLk, hLf⟩ := F.ns
  have hLt := Heap.lt_size hL
  have hkindm : env.scope.kind ≠ .module := by rw [hke]; decide
  refine codeAny_call_function hroom (X _ _ ho) rfl hco hgen rfl (codeRec_of X hcd) (hbind _ _ _ _ ?_)
  refine wpAny_newFunctionEnv_cells hk (kindsX hkind _) fun env' he s' x => ?_
  subst he
  refine ⟨(T.nolimit.keeps F.keep).keeps x.toInCall.keep, codeAny_func ?_⟩
  obtain ⟨h₁, tk, rfl, _⟩ := x.done
  have hk₁ := x.toInCall.keep
  obtain ⟨cells, NC, Y⟩ := Cl.news (h₀ := s.heap) (Nat.le_refl _) fun n c hm => ⟨x.cell n c (lookup_of_mem_nodup (cellsFrom_names scope.names 0 (s.heap.objs.size + 1) [] [] rfl ▸ hnd) hm), x.above n c hm⟩
  refine wpAny_mono (h oL s.heap.objs.size h₁ tk cells ⟨fun h' sl e => ⟨_, es, ep, e, hLd, hLk, hLf⟩, ⟨es, ep, hLd⟩, F.above⟩ ⟨hkindm, hef, ⟨es, ep, hLd⟩, Fs⟩ (fun p hp hm => ?_) (fun p hp => (N p (List.mem_append_right _ hp)).2.1) (fun p hp => ?_)
    ⟨x.toInCall.ns, fun b o e => hk₁ b o (F.keep b o e), Nat.le_trans F.above (Nat.le_of_lt hLt)⟩ (fun p hp => ?_) Y) (fun _ _ x => x) fun _ _ y => y
  · rcases List.mem_cons.mp hm with q | hm
    · exact (N p (List.mem_append_left _ hp)).2.1 q
    · exact hap p hp hm
  · rcases List.mem_append.mp hp with hp | hp
    · exact Heap.lt_size (N p (List.mem_append_left _ hp)).1
    · rcases List.mem_cons.mp hp with rfl | hp
      · exact hLt
      · exact Heap.lt_size (N p (List.mem_append_right _ hp)).1
  · rcases List.mem_append.mp hp with hp | hp
    · exact ⟨(NC p hp).1, (NC p hp).2.1, TT.none_of F.keep (NC p hp).2.2⟩
    · rcases List.mem_append.mp hp with hp | hp
      · obtain ⟨h1, h2, h3⟩ := N p (List.mem_append_left _ hp)
        exact ⟨hk₁ _ _ h1, Nat.ne_of_lt (Heap.lt_size h1), h3⟩
      · rcases List.mem_cons.mp hp with rfl | hp
        · exact ⟨hk₁ _ _ hL, Nat.ne_of_lt hLt, Heap.get?_none_of_le F.above⟩
        · obtain ⟨h1, h2, h3⟩ := N p (List.mem_append_right _ hp)
          exact ⟨hk₁ _ _ h1, Nat.ne_of_lt (Heap.lt_size h1), h3⟩
end Mine
end

-- KitL
section
open PySem PySem.W PyProof.Rows PySem.Calls PyProof.Rows.LCg
set_option maxRecDepth 100000
set_option maxHeartbeats 8000000
set_option linter.unusedVariables false
namespace Mine
/-- one turn's end of a comprehension whose name is a cell -/
noncomputable def CelEnd (h₀ : Heap) (L : Addr) (m : Str → Option Value) (s : Shared) (I : Addr) (oI : Obj) (C : Addr) (oC : Obj) (K : Addr) (oK : Obj) (D : Addr) (ys : List Value) (J : List Value → List (Addr × Obj) → Prop) (y : Value) (s₂ : Shared) : Prop :=
  ∃ h' tk nw, s₂ = { s with heap := h', toks := tk } ∧ Fr h₀ L h' m ∧ News h₀ L h' ((I, oI) :: (C, oC) :: (K, oK) :: (D, lst ys) :: nw) ∧ (∀ p ∈ nw, p.1 ≠ I ∧ p.1 ≠ C ∧ p.1 ≠ K ∧ p.1 ≠ D) ∧ J (ys ++ [y]) nw

section
variable {prog : Program} {w : World} {A : Around} {E : Value → Shared → Prop} {s : Shared} {h₀ : Heap} {L : Addr} {m : Str → Option Value} {env : Env}

theorem cel_loop {elt iter : PySem.Expr} {x : Str} {px : Pos} {scope : Scope} {cl : List (Str × Addr)} {pos : Pos} {vs : List Value} {kv : Nat} {ax I C K D : Addr} {R : Result → Shared → Prop}
    (J : Nat → List Value → List (Addr × Obj) → Prop)
    (hh : A.handled = none) (hsz : vs.length ≤ sizeLine) (hkx : (compEnvC scope ((x, K) :: cl) C env).kindOf x = some .cell) (hks : scope.kind = .function)
    (hsrc : ∀ i ys nw, J i ys nw → (ax, listOf vs.toArray kv) ∈ nw) (hax : ax ≠ I)
    (hIC : I ≠ C) (hIK : I ≠ K) (hID : I ≠ D) (hCK : C ≠ K) (hCD : C ≠ D) (hKD : K ≠ D) (hIL : I ≠ L) (hCL : C ≠ L) (hKL : K ≠ L) (hDL : D ≠ L)
    (hI0 : h₀.get? I = none) (hC0 : h₀.get? C = none) (hK0 : h₀.get? K = none) (hD0 : h₀.get? D = none)
    (turn : ∀ i v ys nw oI oC oK h tk (E' : Value → Shared → Prop), vs[i]? = some v → J i ys nw → oK.data = .cell (some v) → Fr h₀ L h m → News h₀ L h ((I, oI) :: (C, oC) :: (K, oK) :: (D, lst ys) :: nw) → (∀ p ∈ nw, p.1 ≠ I ∧ p.1 ≠ C ∧ p.1 ≠ K ∧ p.1 ≠ D) →
      wpAny (model prog w) A (eval elt (compEnvC scope ((x, K) :: cl) C env)) (CelEnd h₀ L m s I oI C oC K oK D ys (J (i + 1))) E' { s with heap := h, toks := tk })
    (fin : ∀ ys nw h tk m', J vs.length ys nw → Fr h₀ L h m → News h₀ L h ((D, lst ys) :: nw) → (∀ p ∈ nw, p.1 ≠ D ∧ p.1 ≠ C) → h.Ns C m' → R (.ok .next) { s with heap := h, toks := tk })
    {h : Heap} {tk : Nat} {ck : Option Value} {oK : Obj} {m₀ : Str → Option Value} {nw : List (Addr × Obj)} (hst : h.IsListIter I ax 0) (F : Fr h₀ L h m) (hns : h.Ns C m₀) (hoK : oK.data = .cell ck) (N : News h₀ L h ((K, oK) :: (D, lst []) :: nw))
    (hoff : ∀ p ∈ nw, p.1 ≠ I ∧ p.1 ≠ C ∧ p.1 ≠ K ∧ p.1 ≠ D) (hJ : J 0 [] nw) :
    codeAny (model prog w) A (.compLoop (.ListComp elt [⟨.Name x px, iter, [], 0⟩] scope pos) 0 (.ref I) (.ref D) (compEnvC scope ((x, K) :: cl) C env)) R { s with heap := h, toks := tk } := by
  have W := Walks.list (prog := prog) (w := w) hh I ax hax vs.toArray
  rw [List.size_toArray] at W
  refine codeAny_compLoop_tests
    (fun n s' => ∃ h' tk i ys oK ck m' nw, s' = { s with heap := h', toks := tk } ∧ i ≤ vs.length ∧ n = vs.length + 1 - i ∧ ys.length = i ∧ h'.IsListIter I ax i ∧ Fr h₀ L h' m ∧ h'.Ns C m' ∧ oK.data = .cell ck ∧
      News h₀ L h' ((K, oK) :: (D, lst ys) :: nw) ∧ (∀ p ∈ nw, p.1 ≠ I ∧ p.1 ≠ C ∧ p.1 ≠ K ∧ p.1 ≠ D) ∧ J i ys nw) ?_ (vs.length + 1)
    ⟨h, tk, 0, [], oK, ck, m₀, nw, rfl, Nat.zero_le _, rfl, rfl, hst, F, hns, hoK, N, hoff, hJ⟩
  rintro n s' ⟨h', tk', i, ys, oK', ck', m', nw', rfl, hi, rfl, hyl, hst', F', hn', hoK', N', off', hJ'⟩
  have hlst : h'.IsList ax vs.toArray := ⟨_, N'.get (List.Mem.tail _ (List.Mem.tail _ (hsrc _ _ _ hJ'))), rfl, _, rfl⟩
  by_cases hlt : i < vs.length
  · refine W.item i _ _ _ hlt ⟨hst', hlst⟩ fun v h₂ tk₂ hPv hst₂ hk₂ => ?_
    have keep₂ : ∀ b o, b ≠ I → h'.get? b = some o → h₂.get? b = some o := fun b o hb e => hk₂ b o (by simpa using hb) e
    have F₂ : Fr h₀ L h₂ m := by
      obtain ⟨oL, es, ep, hL, r⟩ := F'.ns
      exact ⟨⟨oL, es, ep, keep₂ L oL hIL.symm hL, r⟩, fun b o e => keep₂ b o (fun q => by rw [q, hI0] at e; cases e) (F'.keep b o e), F'.above⟩
    have N₂ : News h₀ L h₂ ((K, oK') :: (D, lst ys) :: nw') := fun p hp => by
      have z := N' p hp
      refine ⟨keep₂ _ _ ?_ z.1, z.2⟩
      rcases List.mem_cons.mp hp with rfl | hp
      · exact hIK.symm
      · rcases List.mem_cons.mp hp with rfl | hp
        · exact hID.symm
        · exact (off' p hp).1
    have hn₂ : h₂.Ns C m' := by
      obtain ⟨oC, es, ep, hC, r⟩ := hn'
      exact ⟨oC, es, ep, keep₂ C oC hIC.symm hC, r⟩
    refine wpAny_assign_Name (wpAny_storeName_cell (c := K) (v₀ := ck') (by show (relabel scope env).kind = _; exact hks) hkx (by simp [compEnvC]) ⟨oK', (N₂ _ (List.Mem.head _)).1, hoK'⟩ fun h₃ hc₃ hs₃ => ?_)
    refine wpAny_tests_nil ?_
    simp only [if_true]
    have keep₃ : ∀ b o, b ≠ K → h₂.get? b = some o → h₃.get? b = some o := fun b o hb e => (hs₃.2 b hb).trans e
    have F₃ : Fr h₀ L h₃ m := F₂.change hs₃ hKL hK0
    obtain ⟨oI, heI, hcI, hdI⟩ := hst₂.1
    obtain ⟨oC, es, ep, heC, rC⟩ := hn₂
    obtain ⟨oK₃, heK, hdK⟩ := hc₃
    have N₃ : News h₀ L h₃ ((I, oI) :: (C, oC) :: (K, oK₃) :: (D, lst ys) :: nw') := fun p hp => by
      rcases List.mem_cons.mp hp with rfl | hp
      · exact ⟨keep₃ _ _ hIK heI, hIL, hI0⟩
      · rcases List.mem_cons.mp hp with rfl | hp
        · exact ⟨keep₃ _ _ hCK heC, hCL, hC0⟩
        · rcases List.mem_cons.mp hp with rfl | hp
          · exact ⟨heK, hKL, hK0⟩
          · have z := N₂ p (List.Mem.tail _ hp)
            refine ⟨keep₃ _ _ ?_ z.1, z.2⟩
            rcases List.mem_cons.mp hp with rfl | hp
            · exact hKD.symm
            · exact (off' p hp).2.2.1
    have hvi : vs[i]? = some v := by simpa using hPv
    refine wpAny_mono (turn i v ys nw' oI oC oK₃ h₃ _ _ hvi hJ' hdK F₃ N₃ off') (fun y s₄ h₄ => ?_) fun _ _ e => e
    obtain ⟨h₄, tk₄, nw₄, rfl, F₄, N₄, off₄, hJ₄⟩ := h₄
    have zI := (N₄ _ (List.Mem.head _)).1
    have zC := (N₄ _ (List.Mem.tail _ (List.Mem.head _))).1
    have zK := (N₄ _ (List.Mem.tail _ (List.Mem.tail _ (List.Mem.head _)))).1
    have zD := (N₄ _ (List.Mem.tail _ (List.Mem.tail _ (List.Mem.tail _ (List.Mem.head _))))).1
    refine append_at (hsz := by show ys.toArray.size ≤ sizeLine; rw [List.size_toArray, hyl]; exact Nat.le_trans hi hsz) zD fun h₅ hs₅ hD₅ => ?_
    have keep₅ : ∀ b o, b ≠ D → h₄.get? b = some o → h₅.get? b = some o := fun b o hb e => (hs₅.2 b hb).trans e
    refine ⟨vs.length + 1 - (i + 1), by omega, h₅, tk₄, i + 1, ys ++ [y], oK₃, some v, m', nw₄, rfl, hlt, rfl, by rw [List.length_append, List.length_singleton, hyl], ⟨oI, keep₅ _ _ hID zI, hcI, hdI⟩, F₄.change hs₅ hDL hD0, ⟨oC, es, ep, keep₅ _ _ hCD zC, rC⟩, hdK, fun p hp => ?_, off₄, hJ₄⟩
    rcases List.mem_cons.mp hp with rfl | hp
    · exact ⟨keep₅ _ _ hKD zK, hKL, hK0⟩
    · rcases List.mem_cons.mp hp with rfl | hp
      · exact ⟨hD₅.trans (congrArg some (lst_snoc ys y)), hDL, hD0⟩
      · have z := N₄ p (List.Mem.tail _ (List.Mem.tail _ (List.Mem.tail _ (List.Mem.tail _ hp))))
        exact ⟨keep₅ _ _ (off₄ p hp).2.2.2 z.1, z.2⟩
  · obtain rfl : i = vs.length := Nat.le_antisymm hi (Nat.not_lt.mp hlt)
    refine W.done _ _ _ ⟨hst', hlst⟩ fun h₂ tk₂ hk₂ => ?_
    have keep₂ : ∀ b o, b ≠ I → h'.get? b = some o → h₂.get? b = some o := fun b o hb e => hk₂ b o (by simpa using hb) e
    have F₂ : Fr h₀ L h₂ m := by
      obtain ⟨oL, es, ep, hL, r⟩ := F'.ns
      exact ⟨⟨oL, es, ep, keep₂ L oL hIL.symm hL, r⟩, fun b o e => keep₂ b o (fun q => by rw [q, hI0] at e; cases e) (F'.keep b o e), F'.above⟩
    obtain ⟨oC, es, ep, hC, r⟩ := hn'
    refine fin ys nw' h₂ tk₂ m' hJ' F₂ (fun p hp => ?_) (fun p hp => ⟨(off' p hp).2.2.2, (off' p hp).2.1⟩) ⟨oC, es, ep, keep₂ C oC hIC.symm hC, r⟩
    have z := N' p (List.Mem.tail _ hp)
    refine ⟨keep₂ _ _ ?_ z.1, z.2⟩
    rcases List.mem_cons.mp hp with rfl | hp
    · exact hID.symm
    · exact (off' p hp).1

theorem cel_assign {elt iter : PySem.Expr} {x y : Str} {px py : Pos} {scope : Scope} {cl : List (Str × Addr)} {pos spos : Pos} {vs : List Value} {kv : Nat} {ax : Addr} {news : List (Addr × Obj)} {Q : Flow → Shared → Prop}
    (J : Nat → List Value → List (Addr × Obj) → Prop)
    (F : Fr h₀ env.locals s.heap m) (N : News h₀ env.locals s.heap news) (hh : A.handled = none) (hsz : vs.length ≤ sizeLine)
    (hsw : swapsWith (.ListComp elt [⟨.Name x px, iter, [], 0⟩] scope pos) (some (.Name y py)) spos.line env = pure true)
    (hclos : closureFor scope env = pure cl) (hks : scope.kind = .function) (hnames : ∀ z ∈ scope.names, z.2 = .local → scope.names.lookup z.1 = some .local)
    (hnew : newFunctionEnv scope env.globals cl [] env.qual none .none (some env) = (do let C ← alloc { cls := .type "dict", data := .dict #[] }; let K ← alloc { cls := .type "cell", data := .cell none }; pure (newEnv scope C env.globals ((x, K) :: cl) env.qual none .none (some env) builtinsNs)))
    (hkx : ∀ C K, (compEnvC scope ((x, K) :: cl) C env).kindOf x = some .cell)
    (hy : env.kindOf y = some .local) (hp : (env.scope.kind == .class || (env.scope.kind == .module && env.locals != env.globals)) = false)
    (hiter : ∀ (Q' : Value → Shared → Prop) (E' : Value → Shared → Prop), Q' (.ref ax) s → wpAny (model prog w) A (eval iter env) Q' E' s)
    (hsrc : ∀ i ys nw, J i ys nw → (ax, listOf vs.toArray kv) ∈ nw) (hJ : J 0 [] news)
    (turn : ∀ I C K D i v ys nw oI oC oK h tk (E' : Value → Shared → Prop), vs[i]? = some v → J i ys nw → oK.data = .cell (some v) → Fr h₀ env.locals h m → News h₀ env.locals h ((I, oI) :: (C, oC) :: (K, oK) :: (D, lst ys) :: nw) → (∀ p ∈ nw, p.1 ≠ I ∧ p.1 ≠ C ∧ p.1 ≠ K ∧ p.1 ≠ D) →
      wpAny (model prog w) A (eval elt (compEnvC scope ((x, K) :: cl) C env)) (CelEnd h₀ env.locals m s I oI C oC K oK D ys (J (i + 1))) E' { s with heap := h, toks := tk })
    (fin : ∀ D ys nw h tk, J vs.length ys nw → Fr h₀ env.locals h (fun z => if z = y then some (.ref D) else m z) → News h₀ env.locals h ((D, lst ys) :: nw) → (∀ p ∈ nw, p.1 ≠ D) → (∀ p ∈ news, p.1 < D) → Q .next { s with heap := h, toks := tk })
    (hs : ∀ x, foldedSetIterable iter env x = pure x := by intro _; rfl) :
    wpAny (model prog w) A (exec (.Assign [.Name y py] (.ListComp elt [⟨.Name x px, iter, [], 0⟩] scope pos) spos) env) Q E s := by
  rw [exec_Assign_Name_used _ _ _ _ hsw]
  refine wpAny_bind (wpAny_standAt (wpAny_bind ?_))
  show wpAny _ A (do let _ ← comprehension (.ListComp elt [⟨.Name x px, iter, [], 0⟩] scope pos) scope env _ (newList []) false (eval iter env) (some (assign (.Name y py) env))) _ _ s
  refine wpAny_bind (wpAny_mono (wpAny_comprehension_free (use := some (assign (.Name y py) env)) (Q := fun _ s' => Q .next s') rfl hs hclos hks hnames
    (hiter _ _ ?_)) (fun _ s' hq => wpAny_pure (wpAny_pure hq)) fun _ _ e => e)
  have hmem := hsrc _ _ _ hJ
  have hl : s.heap.IsList ax vs.toArray := ⟨_, N.get hmem, rfl, _, rfl⟩
  have hlt : ax < s.heap.objs.size := Heap.lt_size (N.get hmem)
  have hLlt : env.locals < s.heap.objs.size := F.ns.lt
  refine wpAny_pyIter_list hl ?_
  refine wpAny_newObj_type ?_
  rw [hnew]
  refine wpAny_bind (wpAny_alloc (wpAny_bind (wpAny_alloc (wpAny_pure ?_))))
  simp only [Heap.size_push]
  generalize hn : s.heap.objs.size = n at hlt hLlt ⊢
  replace hlt : @LT.lt Nat _ ax n := hlt
  replace hLlt : @LT.lt Nat _ env.locals n := hLlt
  have fresh : ∀ a : Nat, n ≤ a → s.heap.get? a = none := fun a ha => Heap.get?_none_of_le (by rw [hn]; exact ha)
  have fresh₀ : ∀ a : Nat, n ≤ a → h₀.get? a = none := fun a ha => TT.none_of F.keep (fresh a ha)
  have g1 := Heap.get?_push_size s.heap (o := { cls := .type "list_iterator", data := .fields #[.ref ax, .int 0 0] }) rfl
  generalize hH1 : s.heap.push { cls := .type "list_iterator", data := .fields #[.ref ax, .int 0 0] } = H1 at g1 ⊢
  have n1 : H1.objs.size = n + 1 := by rw [← hH1, Heap.size_push, hn]
  have k1 : ∀ b o, s.heap.get? b = some o → H1.get? b = some o := fun b o e => by rw [← hH1]; exact Heap.get?_push_of_some _ e
  have g2 := Heap.get?_push_size H1 (o := { cls := .type "list", data := .seq ([] : List Value).toArray }) rfl
  generalize hH2 : H1.push { cls := .type "list", data := .seq ([] : List Value).toArray } = H2 at g2 ⊢
  have n2 : H2.objs.size = n + 1 + 1 := by rw [← hH2, Heap.size_push, n1]
  have k2 : ∀ b o, H1.get? b = some o → H2.get? b = some o := fun b o e => by rw [← hH2]; exact Heap.get?_push_of_some _ e
  have g3 := Heap.get?_push_size H2 (o := { cls := .type "dict", data := .dict #[] }) rfl
  have ns3 := Heap.Ns.new H2 (.type "dict")
  generalize hH3 : H2.push { cls := .type "dict", data := .dict #[] } = H3 at g3 ns3 ⊢
  have n3 : H3.objs.size = n + 1 + 1 + 1 := by rw [← hH3, Heap.size_push, n2]
  have k3 : ∀ b o, H2.get? b = some o → H3.get? b = some o := fun b o e => by rw [← hH3]; exact Heap.get?_push_of_some _ e
  have g4 := Heap.get?_push_size H3 (o := { cls := .type "cell", data := .cell none }) rfl
  generalize hH4 : H3.push { cls := .type "cell", data := .cell none } = H4 at g4 ⊢
  have k4 : ∀ b o, H3.get? b = some o → H4.get? b = some o := fun b o e => by rw [← hH4]; exact Heap.get?_push_of_some _ e
  have up : ∀ b o, s.heap.get? b = some o → H4.get? b = some o := fun b o e => k4 _ _ (k3 _ _ (k2 _ _ (k1 _ _ e)))
  rw [hn] at g1
  rw [n1] at g2
  rw [n2] at g3 ns3
  rw [n3] at g4
  have F4 : Fr h₀ env.locals H4 m := F.keeps up
  have N4 : News h₀ env.locals H4 ((n + 1 + 1 + 1, { cls := .type "cell", data := .cell none }) :: (n + 1, lst []) :: news) := fun p hp => by
    rcases List.mem_cons.mp hp with rfl | hp
    · exact ⟨g4, Nat.ne_of_gt (by omega), fresh₀ _ (by omega)⟩
    · rcases List.mem_cons.mp hp with rfl | hp
      · exact ⟨k4 _ _ (k3 _ _ g2), Nat.ne_of_gt (by omega), fresh₀ _ (by omega)⟩
      · have z := N p hp
        exact ⟨up _ _ z.1, z.2⟩
  have low : ∀ p ∈ news, @LT.lt Nat _ p.1 n := fun p hp => by rw [← hn]; exact Heap.lt_size (N p hp).1
  have off4 : ∀ p ∈ news, p.1 ≠ n ∧ p.1 ≠ n + 1 + 1 ∧ p.1 ≠ n + 1 + 1 + 1 ∧ p.1 ≠ n + 1 := fun p hp => by
    have := low p hp
    exact ⟨Nat.ne_of_lt this, Nat.ne_of_lt (by omega), Nat.ne_of_lt (by omega), Nat.ne_of_lt (by omega)⟩
  have hC0 : h₀.get? (n + 1 + 1) = none := fresh₀ _ (by omega)
  have hCL : n + 1 + 1 ≠ env.locals := Nat.ne_of_gt (by omega)
  have hst4 : H4.IsListIter n ax 0 := ⟨_, k4 _ _ (k3 _ _ (k2 _ _ g1)), rfl, rfl⟩
  have loop : codeAny (model prog w) A (.compLoop (.ListComp elt [⟨.Name x px, iter, [], 0⟩] scope pos) 0 (.ref n) (.ref (n + 1)) (compEnvC scope ((x, n + 1 + 1 + 1) :: cl) (n + 1 + 1) env))
      (compPost (model prog w) A E (some (assign (.Name y py) env)) (fun _ s' => Q .next s') (.ref (n + 1)) (n + 1 + 1)) { s with heap := H4, toks := s.toks } := by
    refine cel_loop J hh hsz (hkx _ _) hks hsrc (Nat.ne_of_lt hlt) (Nat.ne_of_lt (by omega)) (Nat.ne_of_lt (by omega)) (Nat.ne_of_lt (by omega)) (Nat.ne_of_lt (by omega)) (Nat.ne_of_gt (by omega)) (Nat.ne_of_gt (by omega))
      (Nat.ne_of_gt hLlt) hCL (Nat.ne_of_gt (by omega)) (Nat.ne_of_gt (by omega)) (fresh₀ _ (Nat.le_refl _)) hC0 (fresh₀ _ (by omega)) (fresh₀ _ (by omega)) (turn _ _ _ _) ?_ hst4 F4 (ns3.keeps k4) rfl N4 off4 hJ
    intro ys nw h tk m' hJ' F' N' off' hns'
    show wpAny _ A (assign (.Name y py) env (.ref (n + 1))) _ _ _
    refine wpAny_assign_Name (wpAny_storeName_local hy F'.ns (fun h₂ hn₂ hs₂ => ?_) hp)
    refine ⟨m', hns'.sameBut hs₂ hCL, fun h'' hs'' => fin (n + 1) ys nw h'' _ hJ' ((F'.set hn₂ hs₂).change hs'' hCL hC0) (fun p hp => ?_) (fun p hp => (off' p hp).1) (fun p hp => Nat.lt_succ_of_lt (low p hp))⟩
    have z := (N'.set hs₂) p hp
    refine ⟨(hs''.2 _ ?_).trans z.1, z.2⟩
    rcases List.mem_cons.mp hp with rfl | hp
    · exact Nat.ne_of_lt (Nat.lt_succ_self _)
    · exact (off' p hp).2
  exact codeAny_compStart_list loop (wpAny_pyIter_listiter hst4 loop)
end
end Mine
end

-- KitF
section
open PySem PySem.W PyProof.Rows PySem.Calls
set_option maxRecDepth 100000
set_option maxHeartbeats 8000000
set_option linter.unusedVariables false
namespace Mine
noncomputable def FlEnd {σ : Type} (h₀ : Heap) (L : Addr) (s : Shared) (I : Addr) (oI : Obj) (Led : σ → List (Addr × Obj)) (ps : σ → List (Str × Value)) (P : σ → Prop) (s₂ : Shared) : Prop :=
  ∃ (c' : σ) (h' : Heap) (tk : Nat) (m' : Str → Option Value) (news' : List (Addr × Obj)), s₂ = { s with heap := h', toks := tk } ∧ Fr h₀ L h' m' ∧ News h₀ L h' news' ∧ (∀ p ∈ (I, oI) :: Led c', p ∈ news') ∧ (∀ p ∈ Led c', p.1 ≠ I) ∧ (∀ p ∈ ps c', m' p.1 = some p.2) ∧ P c'
theorem fl_end {σ : Type} {h₀ : Heap} {L : Addr} {s : Shared} {I : Addr} {oI : Obj} {Led : σ → List (Addr × Obj)} {ps : σ → List (Str × Value)} {P : σ → Prop} {h' : Heap} {tk : Nat} {m' : Str → Option Value} {news' : List (Addr × Obj)} (c' : σ)
    (F : Fr h₀ L h' m') (N : News h₀ L h' news') (hn : ∀ p ∈ (I, oI) :: Led c', p ∈ news') (hoff : ∀ p ∈ Led c', p.1 ≠ I) (hk : ∀ p ∈ ps c', m' p.1 = some p.2) (hp : P c') : FlEnd h₀ L s I oI Led ps P { s with heap := h', toks := tk } :=
  ⟨c', h', tk, m', news', rfl, F, N, hn, hoff, hk, hp⟩
noncomputable def FlPost {σ : Type} (h₀ : Heap) (L : Addr) (s : Shared) (I : Addr) (oI : Obj) (Led : σ → List (Addr × Obj)) (ps : σ → List (Str × Value)) (P : σ → Prop) (Q : Flow → Shared → Prop) (f : Flow) (s₂ : Shared) : Prop :=
  match f with
  | .ret v => Q (.ret v) s₂
  | .brk => Q .next s₂
  | _ => FlEnd h₀ L s I oI Led ps P s₂

section
variable {prog : Program} {w : World} {A : Around} {E : Value → Shared → Prop} {Q : Flow → Shared → Prop} {s : Shared} {env : Env} {h₀ : Heap}
theorem fl {σ : Type} {x : Str} {px : Pos} {body : List Stmt} {I : Addr} {fp : List Addr} {n : Nat} {Pv : Nat → Value → Prop} {St : Nat → Heap → Prop} {m₀ : Str → Option Value}
    (Led : σ → List (Addr × Obj)) (ps : σ → List (Str × Value)) (P : Nat → σ → Prop) (c₀ : σ)
    (W : Walks prog w A I fp [I] n Pv St) (hIo : ∀ i h, St i h → ∃ o, h.get? I = some o)
    (hsrc : ∀ b ∈ fp, b ≠ I → ∃ o, ∀ c, (b, o) ∈ Led c) (hIL : I ≠ env.locals) (hI0 : h₀.get? I = none)
    (hst : St 0 s.heap) (F : Fr h₀ env.locals s.heap m₀) (N : News h₀ env.locals s.heap (Led c₀)) (hoff : ∀ p ∈ Led c₀, p.1 ≠ I) (hk : ∀ p ∈ ps c₀, m₀ p.1 = some p.2) (hP : P 0 c₀)
    (turn : ∀ i v (c : σ) (u : Str → Option Value) h tk oI, i < n → Pv i v → P i c → (∀ p ∈ Led c, p.1 ≠ I) → Fr h₀ env.locals h (fun y => if y = x then some v else kstB u (ps c) y) → News h₀ env.locals h ((I, oI) :: Led c) →
      wpAny (model prog w) A (execs body env) (FlPost h₀ env.locals s I oI Led ps (P (i + 1)) Q) E { s with heap := h, toks := tk })
    (done : ∀ (c : σ) (u : Str → Option Value) h tk, P n c → Fr h₀ env.locals h (kstB u (ps c)) → News h₀ env.locals h (Led c) → Q .next { s with heap := h, toks := tk })
    (hx : env.kindOf x = some .local) (hp : (env.scope.kind == .class || (env.scope.kind == .module && env.locals != env.globals)) = false)
    (hE : PassesOwn (model prog w) A env E := by passes_own) :
    codeAny (model prog w) A (.forLoop (.Name x px) (.ref I) body [] env) (fun r s' => match r with | .ok f => Q f s' | .error e => cameBackBy (model prog w) A env E e s') s := by
  refine codeAny_forLoop (fun k s' => ∃ (i : Nat) (c : σ) (h' : Heap) (tk : Nat) (m' : Str → Option Value), s' = { s with heap := h', toks := tk } ∧ i ≤ n ∧ k = n + 1 - i ∧ St i h' ∧ Fr h₀ env.locals h' m' ∧ News h₀ env.locals h' (Led c) ∧ (∀ p ∈ Led c, p.1 ≠ I) ∧ (∀ p ∈ ps c, m' p.1 = some p.2) ∧ P i c) ?_ (n + 1)
    ⟨0, c₀, s.heap, s.toks, m₀, rfl, Nat.zero_le _, rfl, hst, F, N, hoff, hk, hP⟩
  rintro k s' ⟨i, c, h', tk, m', rfl, hi, rfl, hst', F', N', off', hk', hP'⟩
  by_cases hlt : i < n
  · refine W.item i _ _ _ hlt hst' fun v h₂ tk₂ hPv hst₂ hk₂ => ?_
    have keep₂ : ∀ b o, b ≠ I → h'.get? b = some o → h₂.get? b = some o := fun b o hb e => hk₂ b o (by simpa using hb) e
    have F₂ : Fr h₀ env.locals h₂ m' := by
      obtain ⟨oL, es, ep, hL, r⟩ := F'.ns
      exact ⟨⟨oL, es, ep, keep₂ _ oL hIL.symm hL, r⟩, fun b o e => keep₂ b o (fun q => by rw [q, hI0] at e; cases e) (F'.keep b o e), F'.above⟩
    refine wpAny_assign_Name (wpAny_storeName_local hx F₂.ns (fun h₃ hn₃ hs₃ => ?_) hp)
    have F₃ := F₂.set hn₃ hs₃
    obtain ⟨oI, heI⟩ := hIo _ _ hst₂
    have N₂ : News h₀ env.locals h₂ ((I, oI) :: Led c) := fun p hp => by
      rcases List.mem_cons.mp hp with rfl | hp
      · exact ⟨heI, hIL, hI0⟩
      · have z := N' p hp
        exact ⟨keep₂ _ _ (off' p hp) z.1, z.2⟩
    have N₃ := N₂.set hs₃
    have hst₃ : St (i + 1) h₃ := W.frame _ _ _ hst₂ fun b hb o e => by
      by_cases hbI : b = I
      · subst hbI; exact (hs₃.2 _ hIL).trans e
      · obtain ⟨o', ho'⟩ := hsrc b hb hbI
        exact (hs₃.2 _ (N₂ _ (List.Mem.tail _ (ho' c))).2.1).trans e
    have e : (fun y => if y = x then some v else m' y) = fun y => if y = x then some v else kstB m' (ps c) y := by rw [kstB_self hk']
    rw [e] at F₃
    refine wpAny_mono (turn i v c m' h₃ _ oI hlt hPv hP' off' F₃ N₃) (fun f s₃ q => ?_) fun e s' he => hE e s' he
    have fin : FlEnd h₀ env.locals s I oI Led ps (P (i + 1)) s₃ → ∃ m, m < n + 1 - i ∧ ∃ (i : Nat) (c : σ) (h' : Heap) (tk : Nat) (m' : Str → Option Value), s₃ = { s with heap := h', toks := tk } ∧ i ≤ n ∧ m = n + 1 - i ∧ St i h' ∧ Fr h₀ env.locals h' m' ∧ News h₀ env.locals h' (Led c) ∧ (∀ p ∈ Led c, p.1 ≠ I) ∧ (∀ p ∈ ps c, m' p.1 = some p.2) ∧ P i c := by
      rintro ⟨c', h₄, tk₄, m₄, nw, rfl, F₄, N₄, hn₄, off₄, hk₄, hP₄⟩
      refine ⟨n + 1 - (i + 1), by omega, i + 1, c', h₄, tk₄, m₄, rfl, hlt, rfl, ?_, F₄, fun p hp => N₄ p (hn₄ p (List.Mem.tail _ hp)), off₄, hk₄, hP₄⟩
      refine W.frame _ _ _ hst₃ fun b hb o e => ?_
      by_cases hbI : b = I
      · subst hbI
        have h1 := (N₃ _ (List.Mem.head _)).1
        rw [h1] at e
        rw [← e]
        exact (N₄ _ (hn₄ _ (List.Mem.head _))).1
      · obtain ⟨o', ho'⟩ := hsrc b hb hbI
        have h1 := (N₃ _ (List.Mem.tail _ (ho' c))).1
        rw [h1] at e
        rw [← e]
        exact (N₄ _ (hn₄ _ (List.Mem.tail _ (ho' c')))).1
    cases f with
    | ret v => exact q
    | brk => exact q
    | next => exact fin q
    | cont => exact fin q
  · obtain rfl : i = n := Nat.le_antisymm hi (Nat.not_lt.mp hlt)
    refine W.done _ _ _ hst' fun h₂ tk₂ hk₂ => ?_
    have keep₂ : ∀ b o, b ≠ I → h'.get? b = some o → h₂.get? b = some o := fun b o hb e => hk₂ b o (by simpa using hb) e
    have F₂ : Fr h₀ env.locals h₂ m' := by
      obtain ⟨oL, es, ep, hL, r⟩ := F'.ns
      exact ⟨⟨oL, es, ep, keep₂ _ oL hIL.symm hL, r⟩, fun b o e => keep₂ b o (fun q => by rw [q, hI0] at e; cases e) (F'.keep b o e), F'.above⟩
    refine wpAny_execs_nil ?_
    refine done c m' h₂ tk₂ hP' ((kstB_self hk').symm ▸ F₂) (fun p hp => ?_)
    have z := N' p hp
    exact ⟨keep₂ _ _ (off' p hp) z.1, z.2⟩

/-- for x in a list of the ledger -/
theorem fl_list {σ : Type} {x : Str} {px : Pos} {body : List Stmt} {ax : Addr} {vs : List Value} {kv : Nat} {m₀ : Str → Option Value} {iter : PySem.Expr} {pos : Pos}
    (Led : σ → List (Addr × Obj)) (ps : σ → List (Str × Value)) (P : Nat → σ → Prop) (c₀ : σ)
    (hh : A.handled = none) (hsrc : ∀ c, (ax, listOf vs.toArray kv) ∈ Led c)
    (F : Fr h₀ env.locals s.heap m₀) (N : News h₀ env.locals s.heap (Led c₀)) (hk : ∀ p ∈ ps c₀, m₀ p.1 = some p.2) (hP : P 0 c₀)
    (hiter : ∀ (Q' : Value → Shared → Prop) (E' : Value → Shared → Prop), Q' (.ref ax) s → wpAny (model prog w) A (eval iter env) Q' E' s)
    (turn : ∀ I i v (c : σ) (u : Str → Option Value) h tk oI, vs[i]? = some v → P i c → (∀ p ∈ Led c, p.1 ≠ I) → (∀ p ∈ Led c₀, p.1 < I) → Fr h₀ env.locals h (fun y => if y = x then some v else kstB u (ps c) y) → News h₀ env.locals h ((I, oI) :: Led c) →
      wpAny (model prog w) A (execs body env) (FlPost h₀ env.locals s I oI Led ps (P (i + 1)) Q) E { s with heap := h, toks := tk })
    (done : ∀ (c : σ) (u : Str → Option Value) h tk, P vs.length c → Fr h₀ env.locals h (kstB u (ps c)) → News h₀ env.locals h (Led c) → Q .next { s with heap := h, toks := tk })
    (hx : env.kindOf x = some .local) (hp : (env.scope.kind == .class || (env.scope.kind == .module && env.locals != env.globals)) = false)
    (hE : PassesOwn (model prog w) A env E := by passes_own) (hs : ∀ x, foldedSetIterable iter env x = pure x := by intro _; rfl) :
    wpAny (model prog w) A (exec (.For (.Name x px) iter body [] pos) env) Q E s := by
  have hl : s.heap.IsList ax vs.toArray := ⟨_, N.get (hsrc c₀), rfl, _, rfl⟩
  have hlt := Heap.lt_size (N.get (hsrc c₀))
  refine wpAny_For (hiter _ _ (wpAny_pyIter_list hl ?_)) hs
  have up : ∀ b o, s.heap.get? b = some o → (s.heap.push { cls := .type "list_iterator", data := .fields #[.ref ax, .int 0 0] }).get? b = some o := fun b o e => Heap.get?_push_of_some _ e
  have W := Walks.list (prog := prog) (w := w) hh s.heap.objs.size ax (Nat.ne_of_lt hlt) vs.toArray
  rw [List.size_toArray] at W
  refine fl (s := { s with heap := s.heap.push { cls := .type "list_iterator", data := .fields #[.ref ax, .int 0 0] } }) Led ps P c₀ W (fun i h st => by obtain ⟨o, e, _⟩ := st.1; exact ⟨o, e⟩) (fun b hb hbI => ?_) (Nat.ne_of_gt F.ns.lt) (next_is_new F)
    ⟨⟨_, Heap.get?_push_size _ rfl, rfl, rfl⟩, hl.push _⟩ (F.keeps up) (N.grown up) (fun p hp => Nat.ne_of_lt (Heap.lt_size (N p hp).1)) hk hP ?_ done hx hp hE
  · rcases List.mem_cons.mp hb with rfl | hb
    · exact absurd rfl hbI
    · rw [List.mem_singleton.mp hb]; exact ⟨_, hsrc⟩
  · intro i v c u h tk oI _ hv hc off F' N'
    exact turn _ i v c u h tk oI (by simpa using hv) hc off (fun p hp => Heap.lt_size (N p hp).1) F' N'
end
end Mine
end

-- KitG
section
open PySem PySem.W PyProof.Rows PySem.Calls
set_option maxRecDepth 100000
set_option maxHeartbeats 8000000
set_option linter.unusedVariables false
namespace Mine
section
variable {prog : Program} {w : World} {A : Around} {E : Value → Shared → Prop} {Q : Flow → Shared → Prop} {s : Shared} {env : Env} {h₀ : Heap}
/-- for x in range(a, b, c), at the range's iter -/
theorem fl_range {σ : Type} {x : Str} {px : Pos} {body : List Stmt} {r : Addr} {a b c : Int} {n : Nat} {t₀ u₀ v₀ : Tok} {m₀ : Str → Option Value}
    (Led : σ → List (Addr × Obj)) (ps : σ → List (Str × Value)) (P : Nat → σ → Prop) (c₀ : σ)
    (hh : A.handled = none) (hr : IsRange s.heap r a b c t₀ u₀ v₀) (hsmall : Builtin.Range.small a b c = true) (hn : Builtin.Range.rangeSize a b c = (n : Int))
    (F : Fr h₀ env.locals s.heap m₀) (N : News h₀ env.locals s.heap (Led c₀)) (hk : ∀ p ∈ ps c₀, m₀ p.1 = some p.2) (hP : P 0 c₀)
    (turn : ∀ I (i : Nat) t (c' : σ) (u : Str → Option Value) h tk oI, i < n → P i c' → (∀ p ∈ Led c', p.1 ≠ I) → (∀ p ∈ Led c₀, p.1 < I) → Fr h₀ env.locals h (fun y => if y = x then some (.int (a + i * c) t) else kstB u (ps c') y) → News h₀ env.locals h ((I, oI) :: Led c') →
      wpAny (model prog w) A (execs body env) (FlPost h₀ env.locals s I oI Led ps (P (i + 1)) Q) E { s with heap := h, toks := tk })
    (done : ∀ (c : σ) (u : Str → Option Value) h tk, P n c → Fr h₀ env.locals h (kstB u (ps c)) → News h₀ env.locals h (Led c) → Q .next { s with heap := h, toks := tk })
    (hx : env.kindOf x = some .local) (hp : (env.scope.kind == .class || (env.scope.kind == .module && env.locals != env.globals)) = false)
    (hE : PassesOwn (model prog w) A env E := by passes_own) :
    wpAny (model prog w) A (pyIter (.ref r)) (fun it s₂ => codeAny (model prog w) A (.forLoop (.Name x px) it body [] env) (fun r s' => match r with | .ok f => Q f s' | .error e => cameBackBy (model prog w) A env E e s') s₂) E s := by
  refine wpAny_pyIter_range hr hsmall ?_
  have up : ∀ z o, s.heap.get? z = some o → (s.heap.push { cls := .type "range_iterator", data := .fields #[rawInt a, rawInt (Builtin.Range.rangeSize a b c), rawInt c] }).get? z = some o := fun z o e => Heap.get?_push_of_some _ e
  have W := Walks.range (prog := prog) (w := w) hh s.heap.objs.size a c n
  refine fl (s := { s with heap := s.heap.push { cls := .type "range_iterator", data := .fields #[rawInt a, rawInt (Builtin.Range.rangeSize a b c), rawInt c] } }) Led ps P c₀ W (fun i h st => ⟨_, st⟩) (fun b hb hbI => absurd (List.mem_singleton.mp hb) hbI) (Nat.ne_of_gt F.ns.lt) (next_is_new F)
    (by show IsRangeIter _ _ _ _ _; rw [hn]; simpa using Heap.get?_push_size _ rfl) (F.keeps up) (N.grown up) (fun p hp => Nat.ne_of_lt (Heap.lt_size (N p hp).1)) hk hP ?_ done hx hp hE
  intro i v c' u h tk oI hi ⟨t, ht⟩ hc off F' N'
  subst ht
  exact turn _ i t c' u h tk oI hi hc off (fun p hp => Heap.lt_size (N p hp).1) F' N'

/-- for x in reversed(a list of the ledger), at the iterator's iter -/
theorem fl_rev {σ : Type} {x : Str} {px : Pos} {body : List Stmt} {I ax : Addr} {vs : List Value} {kv : Nat} {m₀ : Str → Option Value}
    (Led : σ → List (Addr × Obj)) (ps : σ → List (Str × Value)) (P : Nat → σ → Prop) (c₀ : σ)
    (hh : A.handled = none) (hsrc : ∀ c, (ax, listOf vs.toArray kv) ∈ Led c)
    (F : Fr h₀ env.locals s.heap m₀) (N : News h₀ env.locals s.heap ((I, revObj ax ((vs.length : Int) - 1)) :: Led c₀)) (hoff : ∀ p ∈ Led c₀, p.1 ≠ I) (hk : ∀ p ∈ ps c₀, m₀ p.1 = some p.2) (hP : P 0 c₀)
    (turn : ∀ (i : Nat) v (c' : σ) (u : Str → Option Value) h tk oI, i < vs.length → vs.reverse[i]? = some v → P i c' → (∀ p ∈ Led c', p.1 ≠ I) → Fr h₀ env.locals h (fun y => if y = x then some v else kstB u (ps c') y) → News h₀ env.locals h ((I, oI) :: Led c') →
      wpAny (model prog w) A (execs body env) (FlPost h₀ env.locals s I oI Led ps (P (i + 1)) Q) E { s with heap := h, toks := tk })
    (done : ∀ (c : σ) (u : Str → Option Value) h tk, P vs.length c → Fr h₀ env.locals h (kstB u (ps c)) → News h₀ env.locals h (Led c) → Q .next { s with heap := h, toks := tk })
    (hx : env.kindOf x = some .local) (hp : (env.scope.kind == .class || (env.scope.kind == .module && env.locals != env.globals)) = false)
    (hE : PassesOwn (model prog w) A env E := by passes_own) :
    wpAny (model prog w) A (pyIter (.ref I)) (fun it s₂ => codeAny (model prog w) A (.forLoop (.Name x px) it body [] env) (fun r s' => match r with | .ok f => Q f s' | .error e => cameBackBy (model prog w) A env E e s') s₂) E s := by
  have hI := N _ (List.Mem.head _)
  have N0 : News h₀ env.locals s.heap (Led c₀) := fun p hp => N p (List.Mem.tail _ hp)
  have hl : s.heap.IsList ax vs.toArray := ⟨_, N0.get (hsrc c₀), rfl, _, rfl⟩
  have hne : ax ≠ I := hoff _ (hsrc c₀)
  have hit : s.heap.IsRevIter I ax ((vs.length : Int) - 1) := ⟨_, hI.1, rfl, rfl⟩
  refine wpAny_pyIter_revIter hit ?_
  have W := Walks.listRev (prog := prog) (w := w) hh I ax hne vs.toArray
  rw [List.size_toArray] at W
  refine fl Led ps P c₀ W (fun i h st => by obtain ⟨o, e, _⟩ := st.2.1; exact ⟨o, e⟩) (fun b hb hbI => ?_) hI.2.1 hI.2.2
    ⟨Nat.zero_le _, by simpa using hit, hl⟩ F N0 hoff hk hP ?_ done hx hp hE
  · rcases List.mem_cons.mp hb with rfl | hb
    · exact absurd rfl hbI
    · rw [List.mem_singleton.mp hb]; exact ⟨_, hsrc⟩
  · intro i v c' u h tk oI hi hv hc off F' N'
    refine turn i v c' u h tk oI hi ?_ hc off F' N'
    rw [List.getElem?_reverse hi]
    simpa using hv
end
end Mine
end

-- KitR
section
open PySem PySem.W PyProof.Rows PySem.Calls
set_option maxRecDepth 100000
set_option maxHeartbeats 8000000
set_option linter.unusedVariables false
namespace Mine
section
variable {prog : Program} {w : World} {A : Around} {E : Value → Shared → Prop} {s : Shared} {h₀ : Heap} {L : Addr} {m : Str → Option Value} {env : Env}
/-- a comprehension's turns by an invariant over the items made and the ledger -/
theorem lc_rest {elt : PySem.Expr} {x : Str} {scope : Scope} {cl : List (Str × Addr)} {S : List (Addr × Obj) → Prop} {P : Nat → Value → Prop} {Fin : List Value → List (Addr × Obj) → Prop} {n : Nat} {news : List (Addr × Obj)}
    (J : Nat → List Value → List (Addr × Obj) → Prop) (hJ : J 0 [] news)
    (turn : ∀ i ys nw v I oI C oC D m₂ h tk (E' : Value → Shared → Prop), i < n → J i ys nw → P i v → LCg.NsObj oC m₂ → m₂ x = some v → Fr h₀ L h m → News h₀ L h ((I, oI) :: (C, oC) :: (D, LCg.lst ys) :: nw) → LCg.Off3 I C D nw → ((@Ne Nat I C) ∧ (@Ne Nat I D) ∧ (@Ne Nat C D)) →
      wpAny (model prog w) A (eval elt (compEnvC scope cl C env)) (LCg.CompEnd h₀ L m { s with heap := h, toks := tk } I oI C oC D (LCg.lst ys) S (fun y nw' => J (i + 1) (ys ++ [y]) nw')) E' { s with heap := h, toks := tk })
    (fin : ∀ ys nw, J n ys nw → Fin ys nw) :
    LCg.CompRest prog w A h₀ L m env elt x scope cl s S P Fin n 0 [] news := by
  have key : ∀ (k i : Nat) (ys : List Value) (nw : List (Addr × Obj)), i + k = n → J i ys nw → LCg.CompRest prog w A h₀ L m env elt x scope cl s S P Fin k i ys nw := by
    intro k
    induction k with
    | zero =>
      intro i ys nw hi hj
      obtain rfl : i = n := by omega
      exact fin ys nw hj
    | succ k ih =>
      intro i ys nw hi hj
      refine LCg.CompRest.succ ?_
      intro v I oI C oC D m₂ h tk E' hv hC hx F N off ne
      refine wpAny_mono (turn i ys nw v I oI C oC D m₂ h tk E' (by omega) hj hv hC hx F N off ne) (fun y s₂ q => ?_) fun _ _ e => e
      obtain ⟨h', tk', nw', e, F', N', off', hS, hj'⟩ := q
      exact ⟨h', tk', nw', e, F', N', off', hS, ih (i + 1) _ _ (by omega) hj'⟩
  exact key n 0 [] news (by omega) hJ
theorem off3_of {I C D : Addr} {l : List (Addr × Obj)} (h : ∀ p ∈ l, p.1 ≠ I ∧ p.1 ≠ C ∧ p.1 ≠ D) : LCg.Off3 I C D l := LCg.Off3.of h
end
end Mine
end

-- KitS
section
open PySem PySem.W PyProof.Rows PySem.Calls
set_option maxRecDepth 100000
set_option maxHeartbeats 8000000
set_option linter.unusedVariables false
namespace Mine
/-- a set's maker follows the order (no text says it) -/
noncomputable def Led (w : World) : Bool := !(w.params.followText "set-order")
noncomputable def tab1 (w : World) (j : Nat) : SetTable := { mask := 7, place := #[j], dummies := #[], finger := 0, led := Led w, moves := 0, plain := false }
noncomputable def setOne (w : World) (hh : Int) (x : Str) (t : Tok) (j : Nat) : Obj := { cls := .type "set", dict := none, data := .set #[(hh, .str x t)] 1 (tab1 w j) }
noncomputable def setNone (w : World) : Obj := { cls := .type "set", dict := none, data := .set #[] 0 (.fresh 0 0 (Led w)) }

section
variable {prog : Program} {w : World} {A : Around} {E : Value → Shared → Prop} {s : Shared}
theorem setsByText_at {Q : Bool → Shared → Prop} (h : Q (w.params.followText "set-order") s) : wpAny (model prog w) A setsByText Q E s := by
  unfold setsByText
  exact wpAny_bind (wpAny_askSetting (wpAny_pure h))

theorem set_new1 (a : Value) {Q₁ : Value → Shared → Prop}
    (h : Q₁ (.ref s.heap.objs.size) { s with heap := s.heap.push (setNone w) }) :
    codeAny (model prog w) A (.call (.builtin "set.__new__") ⟨[.type "set", a], []⟩) (wants Q₁ E) s := by
  refine codeAny_of_tree ?_
  show wpAny _ A.in1 (do checkBuiltinCall "set.__new__" ⟨[.type "set", a], []⟩; again (.builtin "set.__new__" ⟨[.type "set", a], []⟩)) _ _ s
  refine wpAny_bind (wpAny_of_eq (F.newCall_set_1 a) (wpAny_pure ⟨plainId_quiet F.plain_set_new _, codeAny_builtin F.entry_set_new ?_⟩))
  rw [Around.under_plainId F.plain_set_new _]
  unfold Builtin.«set.__new__» Builtin.Frozenset.newClass
  have hsub := sub_set_self
  obtain ⟨hp, g, d, tk, os⟩ := s
  dsimp only
  wp_walk
  refine wpAny_askSetting (wpAny_pure ?_)
  dsimp only
  simp only [newObj]
  refine wpAny_bind (wpAny_alloc (wpAny_pure ?_))
  exact wpAny_pure h

theorem layNew_one (led : Bool) (hh : Int) (x : Value) : ∃ j, layNew (.fresh 0 0 led) #[] hh x = (#[(hh, x)], { mask := 7, place := #[j], dummies := #[], finger := 0, led := led, moves := 0, plain := true }, false, false) := by
  have e : SetTable.freeSlot (.fresh 0 0 led) hh = some ((SetTable.probeStart (.fresh 0 0 led) hh).j, false) := by
    unfold SetTable.freeSlot SetTable.probe
    have e2 : SetTable.slot (.fresh 0 0 led) (SetTable.probeStart (.fresh 0 0 led) hh).j = .empty := by
      generalize (SetTable.probeStart (.fresh 0 0 led) hh).j = j
      rfl
    have e3 : 10 * SetTable.turns (SetTable.fresh 0 0 led).mask = 219 + 1 := rfl
    rw [e3]
    unfold SetTable.probe.go
    rw [e2]
    rfl
  refine ⟨(SetTable.probeStart (.fresh 0 0 led) hh).j, ?_⟩
  unfold layNew
  rw [e]
  dsimp only
  generalize (SetTable.probeStart (.fresh 0 0 led) hh).j = j
  rfl

theorem wp_gave {b : Bool} {Q : Unit → Shared → Prop} (hq : Q () s) : wpAny (model prog w) A (match b with | true => rule "set.scan.the-table-gave-way" | false => pure ()) Q E s := by
  cases b
  · exact wpAny_pure hq
  · exact wpAny_rule hq

theorem add_first {a : Addr} {x : Str} {t : Tok} {Q : Bool → Shared → Prop} (ho : s.heap.get? a = some (setNone w))
    (h : ∀ h' hh j, hh = (strKind prog w).hash x → Heap.SameBut a s.heap h' → h'.get? a = some (setOne w hh x t j) → Q true { s with heap := h', toks := s.toks + 1 }) :
    wpAny (model prog w) A (setAdd a (.str x t)) Q E s := by
  unfold setAdd
  refine wpAny_holding ?_
  refine wpAny_bind ((strKind prog w).pyHash (k := x) (strKind_is _ _ _ _) ?_)
  unfold setAddHashed setAddHashedIn
  have hd : (setNone w).data = .set #[] 0 (.fresh 0 0 (Led w)) := rfl
  refine wpAny_holding (wpAny_bind (wpAny_setState_of (s := { s with toks := s.toks + 1 }) ho hd rfl ?_))
  dsimp only
  rw [show byScan (.str x t) (#[] : Array (Int × Value)) = true from by simp [byScan, Value.scannable, scanBound]]
  simp only [↓reduceIte]
  unfold setAddByScan
  refine wpAny_bind ?_
  refine wpAny_bind (wpAny_rule ?_)
  unfold setScan
  refine wpAny_bind (wpAny_of_eq (a := ScanMet.absent) (by first | (simp [setScanStrs]; done) | (simp [setScanStrs]; rfl)) ?_)
  obtain ⟨j, hj⟩ := layNew_one (Led w) ((strKind prog w).hash x) (.str x t)
  dsimp only
  rw [hj]
  dsimp only
  refine wpAny_bind (wpAny_of_eq (a := ()) rfl ?_)
  simp only [↓reduceIte]
  refine wpAny_bind ?_
  rw [hashByValue_scannable 8 rfl]
  refine wpAny_pure ?_
  rw [show plainKind (Value.str x t) = false from rfl]
  simp only [Bool.false_eq_true, if_false]
  refine wpAny_bind (wpAny_storeSet_of (s := { s with toks := s.toks + 1 }) ho hd ?_ (by rw [sizeLine_eq]; simp))
  rw [if_neg (by simp [SetTable.tooFull, SetTable.fill])]
  refine wpAny_pure ?_
  dsimp only
  refine wpAny_pure ?_
  refine h _ ((strKind prog w).hash x) j rfl (Heap.SameBut.update ..) ?_
  have hg := Heap.get?_update_self (Obj.putSet #[((strKind prog w).hash x, Value.str x t)] (tab1 w j)) ho (by rw [putSet_of _ _ hd]; rfl)
  rw [putSet_of _ _ hd] at hg
  exact hg

theorem set_loop_one {S I l : Addr} {x : Str} {t : Tok} {R : Result → Shared → Prop} (hh : A.handled = none) (hSI : S ≠ I) (hSl : S ≠ l) (hlI : l ≠ I)
    (hI : s.heap.IsListIter I l 0) (hl : s.heap.IsList l #[.str x t]) (hS : s.heap.get? S = some (setNone w))
    (hR : ∀ h' tk hs j, hs = (strKind prog w).hash x → h'.get? S = some (setOne w hs x t j) → (∀ b o, b ≠ S → b ≠ I → s.heap.get? b = some o → h'.get? b = some o) → R (.ok (.ret .none)) { s with heap := h', toks := tk }) :
    codeAny (model prog w) A (.builtin "set.update.loop" ⟨[.ref S, .ref I], []⟩) R s := by
  have W := Walks.list (prog := prog) (w := w) (A := A.in1) hh I l hlI #[Value.str x t]
  refine codeAny_builtin F.entry_set_update_loop ?_
  rw [Around.under_plainId F.plain_set_update_loop _]
  show wpAny _ A.in1 (pyNext (.ref I) >>= _) _ _ s
  refine wpAny_bind (W.item 0 s _ _ (by simp) ⟨hI, hl⟩ fun v h' tk hPv hst' hk => ?_)
  obtain rfl : v = .str x t := by
    have : some (Value.str x t) = some v := hPv
    exact (Option.some.inj this).symm
  have hS' : h'.get? S = some (setNone w) := hk S _ (by simpa using hSI) hS
  show wpAny _ A.in1 (holding [Value.str x t] (setAdd S (.str x t)) >>= _) _ _ _
  refine wpAny_bind (wpAny_holding (add_first (s := { s with heap := h', toks := tk }) hS' fun h'' hs j ehs sb hg => ?_))
  refine wpAny_pure ⟨plainId_quiet F.plain_set_update_loop _, codeAny_builtin F.entry_set_update_loop ?_⟩
  rw [Around.under_plainId F.plain_set_update_loop _]
  show wpAny _ A.in1 (pyNext (.ref I) >>= _) _ _ _
  have st2 := W.frame 1 h' h'' hst' fun b hb o e => by
    rw [sb.2 b ?_]; · exact e
    rcases List.mem_cons.mp hb with rfl | hb
    · exact hSI.symm
    · rw [List.mem_singleton.mp hb]; exact hSl.symm
  refine wpAny_bind (W.done { s with heap := h'', toks := tk + 1 } _ _ st2 fun h3 tk3 hk3 => ?_)
  show wpAny _ A.in1 (ret Value.none) _ _ _
  refine wpAny_pure (hR h3 tk3 hs j ehs (hk3 S _ (by simpa using hSI) hg) fun b o hbS hbI e => ?_)
  exact hk3 b o (by simpa using hbI) ((sb.2 b hbS).trans (hk b o (by simpa using hbI) e))

theorem call_set_one {l : Addr} {x : Str} {t : Tok} {Q : Value → Shared → Prop}
    (hh : A.handled = none) (hl : s.heap.IsList l #[.str x t])
    (h : ∀ (h' : Heap) (tk : Nat) hs j, hs = (strKind prog w).hash x → h'.get? s.heap.objs.size = some (setOne w hs x t j) → (∀ b o, b < s.heap.objs.size → s.heap.get? b = some o → h'.get? b = some o) → Q (.ref s.heap.objs.size) { s with heap := h', toks := tk }) :
    wpAny (model prog w) A (call (.type "set") [.ref l]) Q E s := by
  obtain ⟨c, tl, hmro⟩ := F.called_set.mro
  have hmade := F.called_set.made
  have hsub := F.called_set.sub
  refine wpAny_call (codeAny_of_tree ?_)
  show wpAny _ _ (callAny (.type "set") _) _ _ _
  refine wpAny_pure ⟨Code.quiet_builtin _ (by decide +kernel), codeAny_builtin F.entry_type_call ?_⟩
  rw [Around.under_plain (weight_type_call_type "set" [.ref l] []) rfl]
  have h1 := F.called_set.notType
  have h2 := F.called_set.canCreate
  have hct := F.typeCall_set_1 (.ref l)
  repeat (any_goals (first | assumption | wp_step))
  refine codeAny_mono (set_new1 (.ref l) (E := E) (Q₁ := fun obj s₁ => obj = .ref s.heap.objs.size ∧ s₁ = { s with heap := s.heap.push (setNone w) }) ⟨rfl, rfl⟩) fun r s₁ hr => ?_
  cases r with
  | error e => exact hr
  | ok fl =>
    cases fl with
    | ret obj =>
      obtain ⟨rfl, rfl⟩ := hr
      have hS : (s.heap.push (setNone w)).get? s.heap.objs.size = some (setNone w) := Heap.get?_push_size _ rfl
      have hT : Shared.TypeIs { s with heap := s.heap.push (setNone w) } (.ref s.heap.objs.size) "set" := ⟨_, hS, rfl⟩
      have hli := F.called_set.init.lookup
      have hbi := F.called_set.init.bind (.ref s.heap.objs.size)
      repeat (any_goals (first | assumption | wp_step))
      refine codeAny_mono (codeAny_call_builtin (R := wants (fun r s₂ => r = .none ∧ ∃ h' tk hs j, s₂ = { s with heap := h', toks := tk } ∧ hs = (strKind prog w).hash x ∧ h'.get? s.heap.objs.size = some (setOne w hs x t j) ∧
          (∀ b o, b < s.heap.objs.size → s.heap.get? b = some o → h'.get? b = some o)) E) F.called_set.init.plain F.entry_set_init (check_set_init_1 hT ?_)) fun r₂ s₂ hr₂ => ?_
      · obtain ⟨ol, hol, hcl, nl, hdl⟩ := hl
        obtain ⟨ocls, odict, odata, oslots⟩ := ol
        simp only at hcl hdl
        subst hcl; subst hdl
        have hlS : l < s.heap.objs.size := Heap.lt_size hol
        have hol' : (s.heap.push (setNone w)).get? l = some { cls := .type "list", dict := odict, data := .seq #[.str x t] nl, slots := oslots } := Heap.get?_push_of_some _ hol
        have hsls := F.sub_list_set
        have hslf := F.sub_list_frozenset
        have hne : (Value.type "list" == Value.type "dict") = false := by decide
        have hl1 : (s.heap.push (setNone w)).IsList l #[.str x t] := ⟨_, hol', rfl, nl, rfl⟩
        unfold Builtin.«set.__init__» noKeywords Builtin.Frozenset.updateFrom
        generalize hPI : pyIter = PI
        wp_walk
        subst hPI
        refine wpAny_pyIter_list hl1 ?_
        refine wpAny_bind (wpAny_runValue ?_)
        refine set_loop_one (by simp [hh]) ?_ (Nat.ne_of_gt hlS) ?_ ⟨_, Heap.get?_push_size _ rfl, rfl, rfl⟩ (hl1.push _) (Heap.get?_push_of_some _ hS) fun h' tk hs j ehs hg hk => ?_
        · rw [Heap.size_push]; exact Nat.ne_of_lt (Nat.lt_succ_self _)
        · rw [Heap.size_push]; exact Nat.ne_of_lt (Nat.lt_succ_of_lt hlS)
        show wpAny _ _ _ _ _ _
        refine wpAny_pure ?_
        show wpAny _ _ (ret Value.none) _ _ _
        refine wpAny_pure ⟨rfl, h', tk, hs, j, rfl, ehs, hg, fun b o hb e => ?_⟩
        exact hk b o (Nat.ne_of_lt hb) (by rw [Heap.size_push]; exact Nat.ne_of_lt (Nat.lt_succ_of_lt hb)) (Heap.get?_push_of_some _ (Heap.get?_push_of_some _ e))
      · cases r₂ with
        | error e => exact hr₂
        | ok fl₂ =>
          cases fl₂ with
          | ret r =>
            obtain ⟨rfl, h', tk, hs, j, rfl, ehs, hS', hk'⟩ := hr₂
            repeat (any_goals (first | assumption | wp_step))
            exact h _ _ _ _ ehs hS' hk'
          | _ => exact hr₂.elim
    | _ => exact hr.elim
theorem call_set_N {h₀ : Heap} {L : Addr} {m : Str → Option Value} {news : List (Addr × Obj)} {l : Addr} {x : Str} {t : Tok} {n : Nat} {Q : Value → Shared → Prop} (F : Fr h₀ L s.heap m) (N : News h₀ L s.heap news) (hh : A.handled = none) (hm : (l, listOf [Value.str x t].toArray n) ∈ news)
    (h : ∀ D h' (tk : Nat) hs j, hs = (strKind prog w).hash x → Fr h₀ L h' m → News h₀ L h' ((D, setOne w hs x t j) :: news) → (∀ p ∈ news, p.1 < D) → Q (.ref D) { s with heap := h', toks := tk }) :
    wpAny (model prog w) A (call (.type "set") [.ref l]) Q E s := by
  refine call_set_one hh (isL N hm) fun h' tk hs j ehs hg hk => ?_
  obtain ⟨oL, es, ep, hL, r⟩ := F.ns
  have hLlt : L < s.heap.objs.size := Heap.lt_size hL
  refine h _ h' tk hs j ehs ⟨⟨oL, es, ep, hk L oL hLlt hL, r⟩, fun b o e => hk b o (Heap.lt_size (F.keep b o e)) (F.keep b o e), F.above⟩ (fun p hp => ?_) (fun p hp => Heap.lt_size (N p hp).1)
  rcases List.mem_cons.mp hp with rfl | hp
  · refine ⟨hg, Nat.ne_of_gt hLlt, ?_⟩
    cases hq : h₀.get? s.heap.objs.size with
    | none => rfl
    | some o' => exact absurd (Heap.lt_size (F.keep _ _ hq)) (Nat.lt_irrefl _)
  · exact ⟨hk _ _ (Heap.lt_size (N p hp).1) (N p hp).1, (N p hp).2⟩
end
end Mine
end

-- KitW
section
open PySem PySem.W PyProof.Rows PySem.Calls
set_option maxRecDepth 100000
set_option maxHeartbeats 8000000
set_option linter.unusedVariables false
namespace Mine
theorem owner_setit : Manifest.owners.lookup (String.ofList ['r', 'o', 't', 'a', 'r', 'e', 't', 'i', '_', 't', 'e', 's'].reverse) = some Manifest.sig_set_iterator := by kernel_rfl
theorem slot_setit_next : Slot "set_iterator" "__next__" "set_iterator.__next__" :=
  .of (owner := "set_iterator") (n := "__next__") (by rw [typeLookup_type, builtinLookup_eq_fast]; kernel_rfl) (by decide +kernel) (by decide +kernel) (by decide +kernel)
    (by first | exact .inl (by decide +kernel) | exact .inr (by decide +kernel)) (by rw [isSubtype_type]; kernel_rfl)
theorem entry_setit_next : entryFor table "set_iterator.__next__" = some Builtin.«set_iterator.__next__» := entryFor_of_tree (by kernel_rfl)
theorem args_setit_next (a : Value) : argsOk "set_iterator.__next__" ⟨[a], []⟩ := by
  unfold argsOk; rw [signature?_of (id := "set_iterator.__next__") (n := ['_', '_', 't', 'x', 'e', 'n', '_', '_']) (o := ['r', 'o', 't', 'a', 'r', 'e', 't', 'i', '_', 't', 'e', 's']) (by kernel_rfl) owner_setit]; kernel_rfl
theorem slot_setit_iter : Slot "set_iterator" "__iter__" "set_iterator.__iter__" :=
  .of (owner := "set_iterator") (n := "__iter__") (by rw [typeLookup_type, builtinLookup_eq_fast]; kernel_rfl) (by decide +kernel) (by decide +kernel) (by decide +kernel)
    (by first | exact .inl (by decide +kernel) | exact .inr (by decide +kernel)) (by rw [isSubtype_type]; kernel_rfl)
theorem args_setit_iter (a : Value) : argsOk "set_iterator.__iter__" ⟨[a], []⟩ := by
  unfold argsOk; rw [signature?_of (id := "set_iterator.__iter__") (n := ['_', '_', 'r', 'e', 't', 'i', '_', '_']) (o := ['r', 'o', 't', 'a', 'r', 'e', 't', 'i', '_', 't', 'e', 's']) (by kernel_rfl) owner_setit]; kernel_rfl
theorem entry_setit_iter : entryFor table "set_iterator.__iter__" = some Builtin.«dict_keyiterator.__iter__» :=
  entryFor_alias (id' := "dict_keyiterator.__iter__") (by kernel_rfl) (by first | rfl | decide +kernel | (unfold String.splitOn; simp +decide [String.splitOnAux])) (by decide +kernel) (by kernel_rfl)
theorem entry_set_iter : entryFor table "set.__iter__" = some Builtin.«frozenset.__iter__» :=
  entryFor_alias (id' := "frozenset.__iter__") (by kernel_rfl) (by first | rfl | decide +kernel | (unfold String.splitOn; simp +decide [String.splitOnAux])) (by decide +kernel) (by kernel_rfl)
end Mine
end

-- KitV
section
open PySem PySem.W PyProof.Rows PySem.Calls
set_option maxRecDepth 100000
set_option maxHeartbeats 8000000
set_option linter.unusedVariables false
namespace Mine
noncomputable def setIt (S : Addr) (n ep i slot : Nat) : Obj := { cls := .type "set_iterator", data := .fields #[rawInt slot, rawInt i, .ref S, rawInt n, rawInt ep] }
section
variable {prog : Program} {w : World} {A : Around} {E : Value → Shared → Prop} {s : Shared}
theorem iter_set {S : Addr} {so : Obj} {es : Array (Int × Value)} {ep : Nat} {t : SetTable} {Q : Value → Shared → Prop} (ho : s.heap.get? S = some so) (hc : so.cls = .type "set") (hd : so.data = .set es ep t) (hf : t.fits es.size = true) (h1 : es.size ≤ 1)
    (h : Q (.ref s.heap.objs.size) { s with heap := s.heap.push (setIt S es.size ep 0 0) }) : wpAny (model prog w) A (pyIter (.ref S)) Q E s := by
  have hT : s.TypeIs (.ref S) "set" := ⟨_, ho, hc⟩
  refine wpAny_pyIter_slot hT F.slot_set_iter (wpAny_call_entry F.slot_set_iter hT entry_set_iter ?_ (F.args_set_iter_1 _))
  unfold Builtin.«frozenset.__iter__»
  refine wpAny_bind (wpAny_of_eq (a := S) rfl ?_)
  unfold Builtin.Frozenset.sizeOf
  refine wpAny_bind (wpAny_bind (wpAny_setEntries_of ho hd hf (wpAny_pure ?_)))
  unfold setDrawn
  refine wpAny_bind ?_
  refine wpAny_bind (wpAny_setState_of ho hd hf ?_)
  refine wpAny_bind (setsByText_at (wpAny_pure ?_))
  dsimp only
  rw [if_neg (fun hq => ?_)]
  · refine wpAny_bind (wpAny_pure ?_)
    unfold setEpoch
    refine wpAny_bind (wpAny_bind (wpAny_setState_of ho hd hf (wpAny_pure ?_)))
    unfold newFields
    refine wpAny_bind (wpAny_newObj_type (wpAny_pure ?_))
    refine ⟨_, rfl, "set_iterator", _, ⟨_, Heap.get?_push_size _ rfl, rfl⟩, slot_setit_next.lookup, ?_⟩
    exact h
  · have hq2 : (!t.plain && decide (es.size > 1)) = true := (Bool.and_eq_true _ _ ▸ hq).2
    rw [Bool.and_eq_true, decide_eq_true_eq] at hq2
    omega

theorem pick_one {α : Type} (f : Nat → Nat) : ∀ (es : Array α), es.size ≤ 1 → pickOrder f es = es := by
  rintro ⟨l⟩ h
  match l, h with
  | [], _ => rfl
  | [a], _ =>
    unfold pickOrder
    show pickOrder.go f 1 0 [a] #[] = #[a]
    unfold pickOrder.go
    rw [show ([a] : List α)[f 0 % [a].length]? = some a by simp [Nat.mod_one]]
    rfl
  | a :: b :: l, h => simp at h

noncomputable def nextOf (w : World) (es : Array (Int × Value)) (t : SetTable) (slot i : Nat) : Option (Value × Nat) :=
  if w.params.followText "set-order" = true then es[i]?.map fun e => (e.2, slot) else
    match es[SetTable.below t.place slot]?, t.place[SetTable.below t.place slot]? with
    | some (_, x), some j => some (x, j + 1)
    | _, _ => none

theorem setNext_at {S : Addr} {so : Obj} {es : Array (Int × Value)} {ep : Nat} {t : SetTable} {slot i : Nat} {Q : Option (Value × Nat) → Shared → Prop} (ho : s.heap.get? S = some so) (hd : so.data = .set es ep t) (hf : t.fits es.size = true) (h1 : es.size ≤ 1)
    (hl : es = #[] ∨ t.led = Led w) (h : Q (nextOf w es t slot i) s) : wpAny (model prog w) A (setNext S slot i ep) Q E s := by
  unfold setNext
  refine wpAny_bind (wpAny_setState_of ho hd hf ?_)
  refine wpAny_bind (setsByText_at ?_)
  unfold nextOf at h
  cases hb : w.params.followText "set-order" with
  | true =>
    rw [hb, if_pos rfl] at h
    simp only [if_true, bne_self_eq_false, Bool.false_eq_true, if_false]
    refine wpAny_bind ?_
    unfold setWalk
    refine wpAny_bind (wpAny_setState_of ho hd hf ?_)
    refine wpAny_bind (setsByText_at ?_)
    rw [hb]
    simp only [if_true]
    refine wpAny_bind (wpAny_askSetting (wpAny_pure ?_))
    rw [pick_one _ es h1]
    exact wpAny_pure h
  | false =>
    rw [hb, if_neg Bool.false_ne_true] at h
    simp only [Bool.false_eq_true, if_false]
    rw [if_neg (fun hq => ?_)]
    · rcases hl with hl | hl
      · subst hl
        obtain ⟨mask, place, dummies, finger, led, moves, plain⟩ := t
        cases led
        · refine wpAny_bind (wpAny_of_eq (a := ()) rfl ?_)
          exact wpAny_pure h
        · refine wpAny_bind (wpAny_of_eq (a := ()) rfl ?_)
          exact wpAny_pure h
      · have hlt : t.led = true := by rw [hl]; unfold Led; rw [hb]; rfl
        obtain ⟨mask, place, dummies, finger, led, moves, plain⟩ := t
        obtain rfl : led = true := hlt
        refine wpAny_bind (wpAny_of_eq (a := ()) rfl ?_)
        exact wpAny_pure h
    · have hq2 : (!t.plain && decide (es.size > 1)) = true := hq
      rw [Bool.and_eq_true, decide_eq_true_eq] at hq2
      omega

theorem setit_typeIs {I S : Addr} {n ep i slot : Nat} (hI : s.heap.get? I = some (setIt S n ep i slot)) : s.TypeIs (.ref I) "set_iterator" := ⟨_, hI, rfl⟩

theorem next_set_item {I S : Addr} {so : Obj} {es : Array (Int × Value)} {ep : Nat} {t : SetTable} {slot i slot' : Nat} {v : Value} {Q : Option Value → Shared → Prop} (ho : s.heap.get? S = some so) (hd : so.data = .set es ep t) (hf : t.fits es.size = true) (h1 : es.size ≤ 1)
    (hl : es = #[] ∨ t.led = Led w) (hI : s.heap.get? I = some (setIt S es.size ep i slot)) (hn : nextOf w es t slot i = some (v, slot'))
    (hQ : ∀ h', h'.get? I = some (setIt S es.size ep (i + 1) slot') → Heap.SameBut I s.heap h' → Q (some v) { s with heap := h' }) : wpAny (model prog w) A (pyNext (.ref I)) Q E s := by
  unfold pyNext
  refine wpAny_bind (wpAny_attempt (wpAny_callSpecial?_slot (name := Str.ofString "__next__") (setit_typeIs hI) slot_setit_next
    (wpAny_call_entry slot_setit_next (setit_typeIs hI) entry_setit_next ?_ (args_setit_next _))))
  unfold Builtin.«set_iterator.__next__»
  refine wpAny_bind (wpAny_of_eq (a := (Value.ref I, [])) rfl ?_)
  dsimp only
  have hdI : (setIt S es.size ep i slot).data = .fields #[rawInt slot, rawInt i, .ref S, rawInt es.size, rawInt ep] := rfl
  refine wpAny_bind (wpAny_fieldsOf hI hdI ?_)
  show wpAny _ _ (setEntries S >>= _) _ _ _
  refine wpAny_bind (wpAny_setEntries_of ho hd hf ?_)
  rw [if_neg (by simp)]
  show wpAny _ _ (setNext S (slot : Int).toNat (i : Int).toNat (ep : Int).toNat >>= _) _ _ _
  simp only [Int.toNat_natCast]
  refine wpAny_bind (setNext_at ho hd hf h1 hl ?_)
  rw [hn]
  dsimp only
  refine wpAny_bind (wpAny_setField hI hdI (by simp) ?_)
  have hg1 := Heap.get?_update_self (Obj.mapFields (·.setIfInBounds 0 (rawInt (slot' : Nat)))) hI (Obj.isFreed_of_fields (Obj.data_mapFields hdI _))
  have hd1 := Obj.data_mapFields hdI (·.setIfInBounds 0 (rawInt (slot' : Nat)))
  refine wpAny_bind (wpAny_setField hg1 hd1 (by simp) ?_)
  have hg2 := Heap.get?_update_self (Obj.mapFields (·.setIfInBounds 1 (rawInt ((i : Int) + 1)))) hg1 (Obj.isFreed_of_fields (Obj.data_mapFields hd1 _))
  have hq := hQ _ (hg2.trans rfl) ((Heap.SameBut.update s.heap I _).trans (Heap.SameBut.update _ I _))
  first
  | exact wpAny_pure ⟨v, rfl, wpAny_pure hq⟩
  | exact wpAny_bind (wpAny_pure (wpAny_pure ⟨v, rfl, wpAny_pure hq⟩))

theorem next_set_end {I S : Addr} {so : Obj} {es : Array (Int × Value)} {ep : Nat} {t : SetTable} {slot i : Nat} {Q : Option Value → Shared → Prop} (hh : A.handled = none) (ho : s.heap.get? S = some so) (hd : so.data = .set es ep t) (hf : t.fits es.size = true) (h1 : es.size ≤ 1)
    (hl : es = #[] ∨ t.led = Led w) (hI : s.heap.get? I = some (setIt S es.size ep i slot)) (hn : nextOf w es t slot i = none)
    (hQ : ∀ h', Heap.ExtBut I s.heap h' → Q none { s with heap := h' }) : wpAny (model prog w) A (pyNext (.ref I)) Q E s := by
  unfold pyNext
  refine wpAny_bind (wpAny_attempt (wpAny_callSpecial?_slot (name := Str.ofString "__next__") (setit_typeIs hI) slot_setit_next
    (wpAny_call_entry slot_setit_next (setit_typeIs hI) entry_setit_next ?_ (args_setit_next _))))
  unfold Builtin.«set_iterator.__next__»
  refine wpAny_bind (wpAny_of_eq (a := (Value.ref I, [])) rfl ?_)
  dsimp only
  have hdI : (setIt S es.size ep i slot).data = .fields #[rawInt slot, rawInt i, .ref S, rawInt es.size, rawInt ep] := rfl
  refine wpAny_bind (wpAny_fieldsOf hI hdI ?_)
  show wpAny _ _ (setEntries S >>= _) _ _ _
  refine wpAny_bind (wpAny_setEntries_of ho hd hf ?_)
  rw [if_neg (by simp)]
  show wpAny _ _ (setNext S (slot : Int).toNat (i : Int).toNat (ep : Int).toNat >>= _) _ _ _
  simp only [Int.toNat_natCast]
  refine wpAny_bind (setNext_at ho hd hf h1 hl ?_)
  rw [hn]
  dsimp only
  refine wpAny_bind (wpAny_setField hI hdI (by simp) ?_)
  refine wpAny_bind ?_
  simp only [newExc, newTuple]
  refine wpAny_bind (wpAny_newObj_type ?_ (by size_fits))
  refine wpAny_bind (m := firstArgMember _ _) (wpAny_of_eq (a := Value.none) (by first | rfl | (simp only [firstArgMember]; rfl)) ?_)
  refine wpAny_newObj_type ?_ (by size_fits)
  simp only [raiseNew]
  refine wpAny_bind (wpAny_handled ?_)
  first | rw [show A.in1.handled = none from hh] | rw [hh]
  refine wpAny_bind (wpAny_pure (wpAny_throw ?_))
  refine wpAny_bind (wpAny_isInstance (T := "StopIteration") (b := true) ⟨_, Heap.get?_push_size _ rfl, rfl⟩ isSubtype_stop ?_)
  exact wpAny_pure (hQ _ ((((Heap.SameBut.update s.heap I _).extBut).push _).push _))

noncomputable def slotAt (w : World) (t : SetTable) (i : Nat) : Nat := if i = 0 ∨ w.params.followText "set-order" = true then 0 else t.place.getD 0 0 + 1
theorem below_one (j k : Nat) : SetTable.below #[j] k = if j < k then 1 else 0 := by
  unfold SetTable.below
  show SetTable.below.go #[j] k 1 0 1 = _
  unfold SetTable.below.go
  rw [if_pos (by decide)]
  show (if j < k then SetTable.below.go #[j] k 0 1 1 else SetTable.below.go #[j] k 0 0 0) = _
  rfl
theorem place_of_fits {t : SetTable} {n : Nat} (hf : t.fits n = true) : t.place.size = n := by
  unfold SetTable.fits at hf
  rw [Bool.and_eq_true, beq_iff_eq] at hf
  exact hf.1
theorem nextOf_item {es : Array (Int × Value)} {t : SetTable} (hf : t.fits es.size = true) (h1 : es.size ≤ 1) {i : Nat} (hi : i < es.size) : ∃ hs v, es[i]? = some (hs, v) ∧ nextOf w es t (slotAt w t i) i = some (v, slotAt w t (i + 1)) := by
  have hp := place_of_fits hf
  obtain rfl : i = 0 := by omega
  obtain ⟨mask, ⟨pl⟩, dummies, finger, led, moves, plain⟩ := t
  obtain ⟨el⟩ := es
  obtain ⟨⟨hs, v⟩, rfl⟩ : ∃ p, el = [p] := List.length_eq_one_iff.mp (by simp only [List.size_toArray] at h1 hi; omega)
  obtain ⟨j, rfl⟩ : ∃ j, pl = [j] := List.length_eq_one_iff.mp (by simpa using hp)
  · refine ⟨hs, v, rfl, ?_⟩
    unfold nextOf slotAt
    cases hb : w.params.followText "set-order" with
    | true => simp
    | false =>
      simp only [Bool.false_eq_true, if_false, true_or, if_true, or_false]
      rw [show SetTable.below #[j] 0 = 0 by rw [below_one, if_neg (by omega)]]
      rfl
theorem nextOf_end {es : Array (Int × Value)} {t : SetTable} (hf : t.fits es.size = true) (h1 : es.size ≤ 1) : nextOf w es t (slotAt w t es.size) es.size = none := by
  have hp := place_of_fits hf
  obtain ⟨mask, ⟨pl⟩, dummies, finger, led, moves, plain⟩ := t
  obtain ⟨el⟩ := es
  have hel : el = [] ∨ ∃ p, el = [p] := by
    rcases el with _ | ⟨p, _ | ⟨q, r⟩⟩
    · exact .inl rfl
    · exact .inr ⟨p, rfl⟩
    · simp at h1
  rcases hel with rfl | ⟨⟨hs, v⟩, rfl⟩
  · obtain rfl : pl = [] := List.eq_nil_of_length_eq_zero (by simpa using hp)
    unfold nextOf slotAt
    cases hb : w.params.followText "set-order" <;> simp
  · obtain ⟨j, rfl⟩ : ∃ j, pl = [j] := List.length_eq_one_iff.mp (by simpa using hp)
    unfold nextOf slotAt
    cases hb : w.params.followText "set-order" with
    | true => simp
    | false =>
      simp only [Bool.false_eq_true, if_false, or_false]
      rw [if_neg (by simp)]
      rw [show SetTable.below #[j] (#[j].getD 0 0 + 1) = 1 by rw [below_one, if_pos (by simp)]]
      rfl
theorem walks_set {S I : Addr} {so : Obj} {es : Array (Int × Value)} {ep : Nat} {t : SetTable} (hh : A.handled = none) (hne : S ≠ I) (hd : so.data = .set es ep t) (hf : t.fits es.size = true) (h1 : es.size ≤ 1) (hl : es = #[] ∨ t.led = Led w) :
    Walks prog w A I [I, S] [I] es.size (fun i v => ∃ hs, es[i]? = some (hs, v)) (fun i h => i ≤ es.size ∧ h.get? S = some so ∧ h.get? I = some (setIt S es.size ep i (slotAt w t i))) where
  sub := fun b hb => by simp at hb; simp [hb]
  frame := fun _ _ _ x hk => ⟨x.1, hk S (by simp) _ x.2.1, hk I (by simp) _ x.2.2⟩
  item := fun i s Q E hi x hQ => by
    obtain ⟨hs, v, hv, hn⟩ := nextOf_item (w := w) hf h1 hi
    refine next_set_item x.2.1 hd hf h1 hl x.2.2 hn fun h' hI' hs' => ?_
    exact hQ v h' s.toks ⟨hs, hv⟩ ⟨hi, (hs'.2 S hne).trans x.2.1, hI'⟩ fun b o hb eo => (hs'.2 b (by simpa using hb)).trans eo
  done := fun s Q E x hQ => by
    refine next_set_end hh x.2.1 hd hf h1 hl x.2.2 (nextOf_end hf h1) fun h' he' => hQ h' s.toks fun b o hb eo => he' b o (by simpa using hb) eo
  self := fun i s Q E x hQ => by
    have hT := setit_typeIs x.2.2
    refine wpAny_pyIter_slot hT slot_setit_iter (wpAny_call_entry slot_setit_iter hT entry_setit_iter ?_ (args_setit_iter _))
    show wpAny _ _ (ret (.ref I)) _ _ s
    exact wpAny_pure ⟨_, rfl, "set_iterator", _, hT, slot_setit_next.lookup, hQ⟩
end
section
variable {prog : Program} {w : World} {A : Around} {E : Value → Shared → Prop} {Q : Flow → Shared → Prop} {s : Shared} {env : Env} {h₀ : Heap}
/-- for x in a set of at most one, at the set's iter -/
theorem fl_set {σ : Type} {x : Str} {px : Pos} {body : List Stmt} {S : Addr} {so : Obj} {es : Array (Int × Value)} {ep : Nat} {t : SetTable} {m₀ : Str → Option Value}
    (Led₁ : σ → List (Addr × Obj)) (ps : σ → List (Str × Value)) (P : Nat → σ → Prop) (c₀ : σ)
    (hh : A.handled = none) (hc : so.cls = .type "set") (hd : so.data = .set es ep t) (hf : t.fits es.size = true) (h1 : es.size ≤ 1) (hl : es = #[] ∨ t.led = Led w) (hsrc : ∀ c, (S, so) ∈ Led₁ c)
    (F : Fr h₀ env.locals s.heap m₀) (N : News h₀ env.locals s.heap (Led₁ c₀)) (hk : ∀ p ∈ ps c₀, m₀ p.1 = some p.2) (hP : P 0 c₀)
    (turn : ∀ I (i : Nat) v (c' : σ) (u : Str → Option Value) h tk oI, (∃ hs, es[i]? = some (hs, v)) → P i c' → (∀ p ∈ Led₁ c', p.1 ≠ I) → (∀ p ∈ Led₁ c₀, p.1 < I) → Fr h₀ env.locals h (fun y => if y = x then some v else kstB u (ps c') y) → News h₀ env.locals h ((I, oI) :: Led₁ c') →
      wpAny (model prog w) A (execs body env) (FlPost h₀ env.locals s I oI Led₁ ps (P (i + 1)) Q) E { s with heap := h, toks := tk })
    (done : ∀ (c : σ) (u : Str → Option Value) h tk, P es.size c → Fr h₀ env.locals h (kstB u (ps c)) → News h₀ env.locals h (Led₁ c) → Q .next { s with heap := h, toks := tk })
    (hx : env.kindOf x = some .local) (hp : (env.scope.kind == .class || (env.scope.kind == .module && env.locals != env.globals)) = false)
    (hE : PassesOwn (model prog w) A env E := by passes_own) :
    wpAny (model prog w) A (pyIter (.ref S)) (fun it s₂ => codeAny (model prog w) A (.forLoop (.Name x px) it body [] env) (fun r s' => match r with | .ok f => Q f s' | .error e => cameBackBy (model prog w) A env E e s') s₂) E s := by
  have hS := (N _ (hsrc c₀)).1
  have hlt := Heap.lt_size hS
  refine iter_set hS hc hd hf h1 ?_
  have up : ∀ b o, s.heap.get? b = some o → (s.heap.push (setIt S es.size ep 0 0)).get? b = some o := fun b o e => Heap.get?_push_of_some _ e
  have W := walks_set (prog := prog) (w := w) (A := A) (I := s.heap.objs.size) hh (Nat.ne_of_lt hlt) hd hf h1 hl
  refine fl (s := { s with heap := s.heap.push (setIt S es.size ep 0 0) }) Led₁ ps P c₀ W (fun i h st => ⟨_, st.2.2⟩) (fun b hb hbI => ?_) (Nat.ne_of_gt F.ns.lt) (next_is_new F)
    ⟨Nat.zero_le _, up _ _ hS, by unfold slotAt; rw [if_pos (.inl rfl)]; exact Heap.get?_push_size _ rfl⟩ (F.keeps up) (N.grown up) (fun p hp => Nat.ne_of_lt (Heap.lt_size (N p hp).1)) hk hP ?_ done hx hp hE
  · rcases List.mem_cons.mp hb with rfl | hb
    · exact absurd rfl hbI
    · rw [List.mem_singleton.mp hb]; exact ⟨_, hsrc⟩
  · intro i v c u h tk oI _ hv hc' off F' N'
    exact turn _ i v c u h tk oI hv hc' off (fun p hp => Heap.lt_size (N p hp).1) F' N'
end
end Mine
end

-- KitQ
section
open PySem PySem.W PyProof.Rows
set_option maxRecDepth 100000
set_option maxHeartbeats 8000000
set_option linter.unusedVariables false
namespace Mine
section
variable {M : Model} {A : Around} {E : Value → Shared → Prop} {s : Shared}
/-- what is to hold at the end gets a name: the proof's terms stay small -/
theorem gen_post {α : Type} {c : Sem α} {Q : α → Shared → Prop} (h : ∀ Q' : α → Shared → Prop, (∀ x s', Q x s' → Q' x s') → wpAny M A c Q' E s) : wpAny M A c Q E s := h Q fun _ _ q => q
theorem gen_wh {t : Sem Bool} {c : Sem Flow} {W : Flow → Shared → Prop} {R : Shared → Prop} (h : ∀ W' : Flow → Shared → Prop, (∀ x s', W x s' → W' x s') → wpAny M A t (fun b s₂ => if b = true then wpAny M A c W' E s₂ else R s₂) E s) :
    wpAny M A t (fun b s₂ => if b = true then wpAny M A c W E s₂ else R s₂) E s := h W fun _ _ q => q
theorem gen_both {α : Type} {c : Sem α} {Q : α → Shared → Prop} (h : ∀ (Q' : α → Shared → Prop) (E' : Value → Shared → Prop), (∀ x s', Q x s' → Q' x s') → wpAny M A c Q' E' s) : wpAny M A c Q E s := h Q E fun _ _ q => q
end
theorem fit_lt {i n : Nat} (h : i < n) (hn : n < 100000) : (i : Int) < 2 ^ 63 := by omega
theorem small_nat {n : Nat} (h : n < 100000) : Builtin.Range.small 0 (n : Int) 1 = true := small_one (by decide) (by decide) (by omega) (by omega)
theorem room {d k a R : Nat} (h : d + a < R) (hk : 1 + k ≤ a) : d + 1 + k < R := by omega
theorem room3 {d k a R : Nat} (h : d + a < R) (hk : 3 + k ≤ a) : d + 3 + k < R := by omega
end Mine
end

-- M2
section
open PySem PySem.W PyProof.Rows
set_option maxRecDepth 100000
set_option maxHeartbeats 8000000
set_option linter.unusedVariables false
namespace Mine
noncomputable def WordsIn (rest : List (Addr × Obj)) (xs : List (Value × List Int)) : Prop :=
  ∀ p ∈ xs, ∃ a vs k, p.1 = .ref a ∧ (a, listOf vs.toArray k) ∈ rest ∧ IntsAre vs p.2

/-- the loop of _siftdown, the hole at pos -/
noncomputable def sdLoop (e : Value × List Int) : Nat → List (Value × List Int) → Nat → List (Value × List Int)
  | 0, xs, pos => xs.set pos e
  | f + 1, xs, pos => if pos = 0 then xs.set pos e else
      let pp := (pos - 1) / 2
      let p := xs.getD pp e
      if lexLt e.2 p.2 then sdLoop e f (xs.set pos p) pp else xs.set pos e

local macro_rules | `(tactic| walk_at "WhPost") => `(tactic| (dsimp only [WhPost]))
local macro_rules | `(tactic| walk_at "exec While Compare cons nil") => `(tactic| refine hold ?_)
set_option pp.deepTerms false
set_option pp.deepTerms.threshold 6
theorem siftdown_ok (w : World) (hp : Addr) (xs : List (Value × List Int)) (n : Nat) (rest : List (Addr × Obj)) (pos : Nat) (t0 tp : Tok) (e : Value × List Int)
    (hne : ∀ p ∈ rest, p.1 ≠ hp) (hw : WordsIn rest xs) (hpos : pos < xs.length) (hsz : xs.length < 1000) (he : xs[pos]? = some e) :
    Ctr w 56 [.ref hp, .int 0 t0, .int pos tp] ((hp, listOf (xs.map (·.1)).toArray n) :: rest) 3 60
      (fun r news' => r = .none ∧ news' = (hp, listOf ((sdLoop e pos xs pos).map (·.1)).toArray n) :: rest) := by
  unfold Ctr
  w_top off
  k_fill
  intro mean mg mb dp un gd cn cs a ccd cl outer A₀ base h₀ L m s Q E B F X N T hk hdp hun hret
  refine wpAny_call ?_
  k_dflt ktr_enter
  rename_i g1 L1 h1 FG1 F1 N1 B1 X1 T1
  obtain ⟨u, F2⟩ := fr_named [(Str.ofString "heap", .ref hp), (Str.ofString "startpos", .int 0 t0), (Str.ofString "pos", .int pos tp)] F1 (by kst_all)
  clear F1
  k_steps
  refine item_at (by k_asm) (by k_mem) (by first | exact Int.natCast_nonneg _ | omega) (by first | exact fit_lt (by assumption) (Nat.lt_of_le_of_lt (by assumption) (by decide)) | exact fit_lt (by assumption) (Nat.lt_trans (by assumption) (by decide)) | omega) (v := e.1) (by simp [he]) ?_
  k_steps
  refine unhold ?_
  rename_i h2 F3 N3
  obtain ⟨ae, vs, ke, he1, hem, hei⟩ := hw e (List.mem_of_getElem? he)
  refine wh (σ := List (Value × List Int) × Nat × Nat × Tok) (fun c => (hp, listOf (c.1.map (·.1)).toArray n) :: rest)
    (fun c => [(Str.ofString "heap", .ref hp), (Str.ofString "startpos", .int 0 t0), (Str.ofString "pos", .int c.2.1 c.2.2.2), (Str.ofString "newitem", .ref ae)])
    (fun c => c.1.length = xs.length ∧ c.2.1 < c.1.length ∧ c.2.1 ≤ c.2.2.1 ∧ WordsIn rest c.1 ∧ sdLoop e pos xs pos = sdLoop e c.2.2.1 c.1 c.2.1)
    (fun c => c.2.1) (xs, pos, pos, tp) F3 N3 (by rw [he1]; kst_all) ⟨rfl, hpos, Nat.le_refl _, hw, rfl⟩ ?_
  clear N3 F3
  rintro ⟨xs', pos', f, t'⟩ u' h3 tk3 ⟨hl', hp', hf', hw', hsd⟩ F4 N4
  dsimp only at hl' hp' hf' hw' hsd F4 N4
  refine gen_wh fun QW hQW => ?_
  k_steps
  · rename_i hpos0 h4 F5 N5
    have e1 : ((pos' : Int) - 1).fdiv (2 ^ Int.toNat 1) = (((pos' - 1) / 2 : Nat) : Int) := by
      have : (2 ^ Int.toNat 1 : Int) = 2 := by decide
      rw [this, Int.fdiv_eq_ediv_of_nonneg _ (by omega)]
      omega
    have hpp : (pos' - 1) / 2 < xs'.length := by omega
    obtain ⟨p, hpd⟩ : ∃ p, xs'[(pos' - 1) / 2]? = some p := ⟨_, List.getElem?_eq_getElem hpp⟩
    obtain ⟨ap, vp, kp, hp1, hpm, hpi⟩ := hw' p (List.mem_of_getElem? hpd)
    have hgd : xs'.getD ((pos' - 1) / 2) e = p := by simp [List.getD, hpd]
    rw [e1] at F5 ⊢
    refine item_at (by k_asm) (by k_mem) (by first | exact Int.natCast_nonneg _ | omega) (by first | exact fit_lt (by assumption) (Nat.lt_of_le_of_lt (by assumption) (by decide)) | exact fit_lt (by assumption) (Nat.lt_trans (by assumption) (by decide)) | omega) (v := .ref ap) (by simp only [Int.toNat_natCast, List.getElem?_map, hpd, Option.map_some, hp1]) ?_
    k_steps
    refine lt_lists ⟨_, News.get (by assumption) (List.Mem.tail _ hem), rfl, _, rfl⟩ hei ⟨_, News.get (by assumption) (List.Mem.tail _ hpm), rfl, _, rfl⟩ hpi (by simp only [units_deeper]; omega) ?_
    k_steps
    · have hlt : lexLt e.2 p.2 = true := by assumption
      dsimp only
      refine set_at (by k_asm) (by k_asm) (Upd.head hne) (by omega) (by simp; omega) (by omega) ?_
      intro h5 F6 N6
      k_steps
      rename_i h6 F7 N7
      have eN : (xs'.map (·.1)).set (pos' : Int).toNat (.ref ap) = (xs'.set pos' p).map (·.1) := by simp [List.map_set, hp1]
      rw [eN] at N7
      cases f with
      | zero => omega
      | succ f =>
        refine hQW _ _ ?_
        dsimp only [WhPost]
        refine wh_end (xs'.set pos' p, (pos' - 1) / 2, f, _) F7 N7 (fun p hp => hp) (by kst_all) ⟨by simpa using hl', by simpa using hpp, by show (pos' - 1) / 2 ≤ f; omega, ?_, ?_⟩ (by show (pos' - 1) / 2 < pos'; omega)
        · intro q hq
          rcases List.mem_or_eq_of_mem_set hq with hq | rfl
          · exact hw' q hq
          · exact hw' q (List.mem_of_getElem? hpd)
        · rw [hsd, sdLoop, if_neg (by omega)]
          dsimp only
          rw [hgd, if_pos hlt]
    · have hlt : lexLt e.2 p.2 = false := by assumption
      refine hQW _ _ ?_
      dsimp only [WhPost]
      k_steps
      dsimp only
      refine set_at (by k_asm) (by k_asm) (Upd.head hne) (by omega) (by simp; omega) (by omega) ?_
      intro h5 F6 N6
      k_steps
      refine hret _ _ _ _ (by assumption) (by assumption) ⟨rfl, ?_⟩
      have : sdLoop e f xs' pos' = xs'.set pos' e := by
        cases f with
        | zero => rfl
        | succ f => rw [sdLoop, if_neg (by omega)]; dsimp only; rw [hgd, if_neg (by rw [hlt]; exact Bool.false_ne_true)]
      rw [hsd, this, Int.toNat_natCast, List.map_set, he1]
  · dsimp only
    refine set_at (by k_asm) (by k_asm) (Upd.head hne) (by omega) (by simp; omega) (by omega) ?_
    intro h5 F6 N6
    k_steps
    refine hret _ _ _ _ (by assumption) (by assumption) ⟨rfl, ?_⟩
    have : sdLoop e f xs' pos' = xs'.set pos' e := by
      cases f with
      | zero => rfl
      | succ f => rw [sdLoop, if_pos (by omega)]
    rw [hsd, this, Int.toNat_natCast, List.map_set, he1]
end Mine
end

-- M8
section
open PySem PySem.W PyProof.Rows
set_option maxRecDepth 100000
set_option maxHeartbeats 8000000
set_option linter.unusedVariables false
namespace Mine
local macro_rules | `(tactic| walk_at "FlPost") => `(tactic| (dsimp only [FlPost]))
local macro_rules | `(tactic| walk_at "call ref") => `(tactic| refine hold ?_)
local macro_rules | `(tactic| walk_at "call builtin:len") => `(tactic| refine hold ?_)
local macro_rules | `(tactic| walk_at "exec For Name Call cons nil") => `(tactic| refine hold ?_)
local macro_rules | `(tactic| walk_at "subscriptTail Name Name ref int") => `(tactic| refine hold ?_)
local macro_rules | `(tactic| k_all) => `(tactic| assumption)
set_option pp.deepTerms false
set_option pp.deepTerms.threshold 6
noncomputable def powersW : Nat → Int
  | 0 => 0
  | n + 1 => powersW n + 1000 ^ n
theorem q_int {Q : Value → Shared → Prop} {X Y : Int} {t : Tok} {s : Shared} (e : X = Y) (h : Q (.int Y t) s) : Q (.int X t) s := e ▸ h
theorem powers_ok (w : World) (n : Nat) (t : Tok) (rest : List (Addr × Obj)) (hn : n ≤ 5) :
    Ctr w 189 [.int n t] rest 6 90 (fun r news' => news' = rest ∧ ∃ t, r = .int (powersW n) t) := by
  unfold Ctr
  w_top off
  k_fill
  intro mean mg mb dp un gd cn cs a ccd cl outer A₀ base h₀ L m s Q E B F X N T hk hdp hun hret
  refine wpAny_call ?_
  k_dflt ktr_enter
  rename_i g1 L1 h1 FG1 F1 N1 B1 X1 T1
  obtain ⟨u, F2⟩ := fr_named [(Str.ofString "size", .int n t)] F1 (by kst_all)
  clear F1
  k_steps
  rename_i NR _ _
  refine q_int (Y := powersW n) ?_ (hret _ _ _ _ (by assumption) (fun p hp => NR p (List.Mem.tail _ hp)) ⟨rfl, _, rfl⟩)
  rcases n with _ | _ | _ | _ | _ | _ | n
  all_goals first | omega | decide | rfl
noncomputable def brStep (ps : List Int) (sz : List Int) (k : Nat) : List Int := if 0 ≤ ps.getD k 0 then sz.set (ps.getD k 0).toNat (sz.getD (ps.getD k 0).toNat 0 + sz.getD k 0) else sz
noncomputable def branchesW (ps : List Int) : List Int := ((List.range ps.length).reverse).foldl (brStep ps) (List.replicate ps.length 1)
theorem brStep_length' (ps sz : List Int) (k : Nat) : (brStep ps sz k).length = sz.length := by
  unfold brStep; split <;> simp
theorem rep_flat {α : Type} (n : Nat) (x : α) : (List.replicate n [x]).flatten = List.replicate n x := by
  induction n with
  | zero => rfl
  | succ n ih => rw [List.replicate_succ, List.flatten_cons, ih]; rfl
theorem fold_len (ps : List Int) : ∀ (l : List Nat) (sz : List Int), (l.foldl (brStep ps) sz).length = sz.length
  | [], _ => rfl
  | k :: l, sz => by rw [List.foldl_cons, fold_len ps l]; exact brStep_length' ps sz k
theorem getitem_at {prog : Program} {w : World} {A : Around} {E : Value → Shared → Prop} {s : Shared} {h₀ : Heap} {L : Addr} {news : List (Addr × Obj)} {l : Addr} {vs : List Value} {k : Int} {n : Nat} {u : Tok} {v : Value} {Q : Value → Shared → Prop}
    (N : News h₀ L s.heap news) (hm : (l, listOf vs.toArray n) ∈ news) (h0 : 0 ≤ k) (hhi : k < 2 ^ 63) (hx : vs[k.toNat]? = some v) (h : Q v s) :
    wpAny (model prog w) A (getItem (.ref l) (.int k u)) Q E s :=
  wpAny_getItem_list (isL N hm) h0 hhi (by simpa using hx) h
theorem br_take (ps : List Int) (i : Nat) (hi : i < ps.length) (z : List Int) : ((List.range ps.length).reverse.take (i + 1)).foldl (brStep ps) z = brStep ps (((List.range ps.length).reverse.take i).foldl (brStep ps) z) (ps.length - 1 - i) := by
  have e : (List.range ps.length).reverse[i]? = some (ps.length - 1 - i) := by
    rw [List.getElem?_reverse (by simpa using hi)]
    rw [List.length_range, List.getElem?_range (by omega)]
  rw [List.take_add_one, e, Option.toList_some, List.foldl_append]
  rfl
theorem news_swap {h₀ h : Heap} {L : Addr} {a b : Addr × Obj} {r : List (Addr × Obj)} (N : News h₀ L h (a :: b :: r)) : News h₀ L h (b :: a :: r) := fun p hp => by
  refine N p ?_
  rcases List.mem_cons.mp hp with rfl | hp
  · exact List.Mem.tail _ (List.Mem.head _)
  · rcases List.mem_cons.mp hp with rfl | hp
    · exact List.Mem.head _
    · exact List.Mem.tail _ (List.Mem.tail _ hp)
theorem ints_set : ∀ {vs : List Value} {ns : List Int}, IntsAre vs ns → ∀ (i : Nat) (x : Int) (t : Tok), IntsAre (vs.set i (.int x t)) (ns.set i x)
  | _, _, .nil, _, _, _ => .nil
  | _, _, .cons m t h, 0, x, t' => .cons x t' h
  | _, _, .cons m t h, i + 1, x, t' => .cons m t (ints_set h i x t')
theorem branches_ok (w : World) (pa : Addr) (vs : List Value) (ps : List Int) (k : Nat) (rest : List (Addr × Obj))
    (hm : (pa, listOf vs.toArray k) ∈ rest) (hi : IntsAre vs ps) (hsz : ps.length < 1000) (hps : ∀ i : Nat, i < ps.length → -1 ≤ ps.getD i 0 ∧ ps.getD i 0 < (i : Int)) :
    Ctr w 184 [.ref pa] rest 6 90 (fun r news' => ∃ ra vr, r = .ref ra ∧ IntsAre vr (branchesW ps) ∧ news' = (ra, listOf vr.toArray 0) :: rest ∧ ∀ p ∈ rest, p.1 < ra) := by
  unfold Ctr
  k_fill
  intro mean mg mb dp un gd cn cs a ccd cl outer A₀ base h₀ L m s Q E B F X N T hk hdp hun hret
  refine wpAny_call ?_
  k_dflt ktr_enter
  rename_i g1 L1 h1 FG1 F1 N1 B1 X1 T1
  obtain ⟨u, F2⟩ := fr_named [(Str.ofString "parents", .ref pa)] F1 (by kst_all)
  clear F1
  have hvl := hi.length
  k_steps
  refine unhold ?_
  rename_i l3 h3 F3 N3 lt3
  refine len_at N3 (List.Mem.tail _ hm) (by omega) ?_
  rw [hvl]
  k_steps
  refine unhold ?_
  rename_i ra h4i hi4 _ _ _ _ _ lra h4 F4 N4
  rw [Int.toNat_natCast] at hi4 N4
  rw [rep_flat (x := (1 : Int))] at hi4
  generalize hv0 : (List.replicate ps.length [Value.int 1 _]).flatten = v0 at hi4 N4
  have hra : ∀ p ∈ rest, p.1 < ra := fun p hp => allLt_mem lra.2 p hp
  refine wpAny_For ?_ (fun _ => rfl)
  k_steps
  refine unhold ?_
  refine len_at (by k_asm) (List.Mem.tail _ (List.Mem.tail _ hm)) (by omega) ?_
  rw [hvl]
  k_steps
  rename_i h5 tkk t5 u5 v5 hrg F5 N5 keep5
  have N6 : News g1 L1 h5 ((ra, listOf v0.toArray 0) :: rest) := fun p hp => by
    refine N5 p ?_
    rcases List.mem_cons.mp hp with rfl | hp
    · exact List.Mem.head _
    · exact List.Mem.tail _ (List.Mem.tail _ hp)
  clear N5
  refine fl_range (σ := List Value × List Int) (n := ps.length) (fun c => (ra, listOf c.1.toArray 0) :: rest) (fun _ => [(Str.ofString "parents", .ref pa), (Str.ofString "sizes", .ref ra)])
    (fun i c => IntsAre c.1 c.2 ∧ c.2 = ((List.range ps.length).reverse.take i).foldl (brStep ps) (List.replicate ps.length 1)) (v0, List.replicate ps.length 1) rfl hrg ?sm ?sz F5 N6 (by kst_all) ⟨hi4, rfl⟩ ?turn ?done rfl rfl
  case sz => rw [rangeSize_downNat]; omega
  case sm => exact small_down (by omega) (by omega) (by omega) (by omega)
  case turn =>
    rintro I i t ⟨vc, c⟩ u4 h4 tk4 oI hil ⟨hc1, hc2⟩ offI lowI F4 N4
    refine gen_post fun QI hQI => ?_
    dsimp only at hc1 hc2 F4 N4
    have ei : ((ps.length : Int) - 1) + (i : Int) * -1 = ((ps.length - 1 - i : Nat) : Int) := by omega
    rw [ei] at F4
    generalize hkk : ps.length - 1 - i = kk at F4
    have hi1 : kk < ps.length := by omega
    obtain ⟨t1, hq1⟩ := ints_at hi hi1
    k_steps
    refine unhold ?_
    refine item_at N4 (List.Mem.tail _ (List.Mem.tail _ hm)) (by first | exact Int.natCast_nonneg _ | omega) (by first | exact fit_lt (by assumption) (Nat.lt_of_le_of_lt (by assumption) (by decide)) | exact fit_lt (by assumption) (Nat.lt_trans (by assumption) (by decide)) | omega) (v := .int ps[kk] t1) (by simpa using hq1) ?_
    have hcl : c.length = ps.length := by rw [hc2, fold_len]; simp
    have hgk : ps.getD kk 0 = ps[kk] := by simp [List.getD, hi1]
    have N4' : News g1 L1 h4 ((ra, listOf vc.toArray 0) :: (I, oI) :: rest) := fun p hp => by
      refine N4 p ?_
      rcases List.mem_cons.mp hp with rfl | hp
      · exact List.Mem.tail _ (List.Mem.head _)
      · rcases List.mem_cons.mp hp with rfl | hp
        · exact List.Mem.head _
        · exact List.Mem.tail _ (List.Mem.tail _ hp)
    have hneA : ∀ p ∈ (I, oI) :: rest, p.1 ≠ ra := fun p hp => by
      rcases List.mem_cons.mp hp with rfl | hp
      · exact Nat.ne_of_gt (lowI _ (List.Mem.head _))
      · exact Nat.ne_of_lt (hra p hp)
    k_steps
    · have hp0 : 0 ≤ ps[kk] := by assumption
      refine unhold ?_
      have hb := (hps kk hi1).2
      rw [hgk] at hb
      have hpl : ps[kk].toNat < c.length := by omega
      have hkl : kk < c.length := by omega
      obtain ⟨t2, hq2⟩ := ints_at hc1 hpl
      obtain ⟨t3, hq3⟩ := ints_at hc1 hkl
      refine item_at N4 (List.Mem.tail _ (List.Mem.tail _ hm)) (by first | exact Int.natCast_nonneg _ | omega) (by first | exact fit_lt (by assumption) (Nat.lt_of_le_of_lt (by assumption) (by decide)) | exact fit_lt (by assumption) (Nat.lt_trans (by assumption) (by decide)) | omega) (v := .int ps[kk] t1) (by simpa using hq1) ?_
      k_steps
      refine unhold ?_
      refine item_at N4 (List.Mem.tail _ (List.Mem.head _)) (by first | exact Int.natCast_nonneg _ | omega) (by first | exact fit_lt (by assumption) (Nat.lt_of_le_of_lt (by assumption) (by decide)) | exact fit_lt (by assumption) (Nat.lt_trans (by assumption) (by decide)) | omega) (v := .int c[kk] t3) (by simpa using hq3) ?_
      k_steps
      dsimp only
      refine set_at F4 N4' (Upd.head hneA) (by omega) (by rw [hc1.length]; omega) (by omega) ?_
      intro h6 F6 N6
      k_steps
      have hgc : c.getD kk 0 = c[kk] := by simp [List.getD, hkl]
      refine hQI _ _ ?_
      dsimp only [FlPost]
      refine fl_end (_, c.set ps[kk].toNat (c.getD ps[kk].toNat 0 + c[kk])) F6 (news_swap N6) (fun p hp => hp) (fun p hp => ?_) (by kst_all) ⟨ints_set hc1 _ _ _, ?_⟩
      · rcases List.mem_cons.mp hp with rfl | hp
        · exact offI (ra, listOf vc.toArray 0) (List.Mem.head _)
        · exact offI p (List.Mem.tail _ hp)
      · dsimp only
        rw [br_take ps i hil, ← hc2, hkk, brStep, hgk, if_pos hp0, hgc]
    · have hp0 : ¬ 0 ≤ ps[kk] := by assumption
      refine hQI _ _ ?_
      dsimp only [FlPost]
      refine fl_end (vc, c) F4 N4 (fun p hp => hp) offI (by kst_all) ⟨hc1, ?_⟩
      dsimp only
      rw [br_take ps i hil, ← hc2, hkk, brStep, hgk, if_neg hp0]
  case done =>
    rintro ⟨vc, c⟩ u5 h5 tk5 ⟨hc1, hc2⟩ F5 N5
    dsimp only at hc1 hc2 F5 N5
    k_steps
    rw [List.take_of_length_le (by simp)] at hc2
    subst hc2
    exact hret _ _ _ _ (by assumption) (by assumption) ⟨ra, vc, rfl, hc1, rfl, hra⟩
end Mine
end

-- M11
section
open PySem PySem.W PyProof.Rows
set_option maxRecDepth 100000
set_option maxHeartbeats 8000000
set_option linter.unusedVariables false
namespace Mine
local macro_rules | `(tactic| walk_at "FlPost") => `(tactic| (dsimp only [FlPost]))
local macro_rules | `(tactic| walk_at "call ref") => `(tactic| refine hold ?_)
local macro_rules | `(tactic| walk_at "call builtin:len") => `(tactic| refine hold ?_)
local macro_rules | `(tactic| walk_at "call builtin:list.append") => `(tactic| refine hold ?_)
local macro_rules | `(tactic| walk_at "binaryOp Add ref ref") => `(tactic| refine hold ?_)
local macro_rules | `(tactic| walk_at "exec For Name Call cons nil") => `(tactic| refine hold ?_)
local macro_rules | `(tactic| walk_at "subscriptTail Name Name ref int") => `(tactic| refine hold ?_)
local macro_rules | `(tactic| walk_at "subscriptTail") => `(tactic| refine hold ?_)
local macro_rules | `(tactic| k_all) => `(tactic| assumption)
set_option pp.deepTerms false
set_option pp.deepTerms.threshold 6
noncomputable def RowsIn (rest : List (Addr × Obj)) (xs : List (Value × List Str)) : Prop :=
  ∀ p ∈ xs, ∃ a vs k, p.1 = .ref a ∧ (a, listOf vs.toArray k) ∈ rest ∧ StrsAre vs p.2
noncomputable def partsL : List Str := [Str.ofString "a", Str.ofString "ab", Str.ofString "abc", Str.ofString "b", Str.ofString "ba"]
noncomputable def rowsTo (ps : List Int) : Nat → List (List Str)
  | 0 => []
  | i + 1 => rowsTo ps i ++ [(if ps.getD i 0 < 0 then [] else (rowsTo ps i).getD (ps.getD i 0).toNat []) ++ [partsL.getD i (Str.ofString "")]]
theorem rowsTo_length (ps : List Int) : ∀ i, (rowsTo ps i).length = i
  | 0 => rfl
  | i + 1 => by rw [rowsTo, List.length_append, rowsTo_length ps i]; rfl
theorem rowsTo_short (ps : List Int) : ∀ i, ∀ r ∈ rowsTo ps i, r.length ≤ i
  | 0, r, h => nomatch h
  | i + 1, r, h => by
    rw [rowsTo] at h
    rcases List.mem_append.mp h with h | h
    · exact Nat.le_succ_of_le (rowsTo_short ps i r h)
    · rw [List.mem_singleton.mp h, List.length_append, List.length_singleton]
      refine Nat.succ_le_succ ?_
      split
      · exact Nat.zero_le _
      · generalize (ps.getD i 0).toNat = j
        unfold List.getD
        cases hz : (rowsTo ps i)[j]? with
        | none => exact Nat.zero_le _
        | some q => exact rowsTo_short ps i q (List.mem_of_getElem? hz)
theorem swap01 {α : Type} {a b x : α} {l : List α} (h : x ∈ a :: b :: l) : x ∈ b :: a :: l := by
  rcases List.mem_cons.mp h with rfl | h
  · exact List.Mem.tail _ (List.Mem.head _)
  · rcases List.mem_cons.mp h with rfl | h
    · exact List.Mem.head _
    · exact List.Mem.tail _ (List.Mem.tail _ h)
theorem rows_ok (w : World) (pa : Addr) (vs : List Value) (ps : List Int) (k : Nat) (rest : List (Addr × Obj))
    (hm : (pa, listOf vs.toArray k) ∈ rest) (hi : IntsAre vs ps) (hsz : ps.length ≤ 5) (hps : ∀ i : Nat, i < ps.length → -1 ≤ ps.getD i 0 ∧ ps.getD i 0 < (i : Int)) :
    Ctr w 139 [.ref pa] rest 6 90 (fun r news' => ∃ ra rp kr ob, r = .ref ra ∧ news' = (ra, listOf (rp.map (·.1)).toArray kr) :: (ob ++ rest) ∧ RowsIn (ob ++ rest) rp ∧ rp.map (·.2) = rowsTo ps ps.length ∧ ∀ p ∈ ob ++ rest, p.1 ≠ ra) := by
  unfold Ctr
  w_top off
  k_fill
  intro mean mg mb dp un gd cn cs a ccd cl outer A₀ base h₀ L m s Q E B F X N T hk hdp hun hret
  refine wpAny_call ?_
  k_dflt ktr_enter
  rename_i g1 L1 h1 FG1 F1 N1 B1 X1 T1
  obtain ⟨u, F2⟩ := fr_named [(Str.ofString "parents", .ref pa)] F1 (by kst_all)
  clear F1
  have hvl := hi.length
  k_steps
  refine unhold ?_
  rename_i qa h4 lq h5 tk5 ra h6 lr h7 F7 N7
  obtain ⟨pv, hpv, N8⟩ : ∃ pv, StrsAre pv partsL ∧ News g1 L1 h7 ((ra, listOf #[] 0) :: (qa, listOf pv.toArray 0) :: rest) := ⟨_, .cons _ _ (.cons _ _ (.cons _ _ (.cons _ _ (.cons _ _ .nil)))), N7⟩
  clear N7
  have hrr : ∀ p ∈ rest, p.1 ≠ ra := fun p hp => Nat.ne_of_lt (allLt_mem lr.2 p hp)
  have hqr : qa ≠ ra := Nat.ne_of_lt lr.1
  refine wpAny_For ?_ (fun _ => rfl)
  k_steps
  refine unhold ?_
  refine len_at (by k_asm) (List.Mem.tail _ (List.Mem.tail _ hm)) (by omega) ?_
  rw [hvl]
  k_steps
  rename_i h9 tk9 t9 u9 v9 hrg F9 N9 keep9
  refine fl_range (σ := List (Value × List Str) × Nat × List (Addr × Obj)) (n := ps.length) (fun c => (ra, listOf (c.1.map (·.1)).toArray c.2.1) :: (c.2.2 ++ (qa, listOf pv.toArray 0) :: rest)) (fun _ => [(Str.ofString "parents", .ref pa), (Str.ofString "rows", .ref ra), (Str.ofString "parts", .ref qa)])
    (fun i c => RowsIn (c.2.2 ++ (qa, listOf pv.toArray 0) :: rest) c.1 ∧ c.1.map (·.2) = rowsTo ps i ∧ ∀ p ∈ c.2.2, p.1 ≠ ra) ([], 0, []) rfl hrg (by first | exact small_nat (Nat.lt_of_le_of_lt (by assumption) (by decide)) | exact small_nat (Nat.lt_trans (by assumption) (by decide)) | exact small_one (by omega) (by omega) (by omega) (by omega)) (by rw [rangeSize_nat]; omega) F9 N9 (by kst_all) ⟨(fun p hp => nomatch hp), rfl, (fun p hp => nomatch hp)⟩ ?turn ?done rfl rfl
  case turn =>
    rintro I i t ⟨xs, kx, ob⟩ u4 h4 tk4 oI hil ⟨hc1, hc2, hc3⟩ offI lowI F4 N4
    refine gen_post fun QI hQI => ?_
    dsimp only at hc1 hc2 hc3 F4 N4
    replace F4 : Fr g1 L1 h4 _ := F4
    replace N4 : News g1 L1 h4 _ := N4
    have ei : (0 : Int) + (i : Int) * 1 = (i : Int) := by omega
    rw [ei] at F4
    obtain ⟨t1, hq1⟩ := ints_at hi hil
    have hxl : xs.length = i := by have := congrArg List.length hc2; rwa [List.length_map, rowsTo_length] at this
    have hgp : ps.getD i 0 = ps[i] := by simp [List.getD, hil]
    have hpi := hps i hil
    rw [hgp] at hpi
    have hi5 : i < partsL.length := by show i < 5; omega
    obtain ⟨tq, hqq⟩ := hpv.get i _ (List.getElem?_eq_getElem hi5)
    k_steps
    refine unhold ?_
    refine item_at N4 (List.Mem.tail _ (List.Mem.tail _ (List.mem_append_right _ (List.Mem.tail _ hm)))) (by first | exact Int.natCast_nonneg _ | omega) (by first | exact fit_lt (by assumption) (Nat.lt_of_le_of_lt (by assumption) (by decide)) | exact fit_lt (by assumption) (Nat.lt_trans (by assumption) (by decide)) | omega) (v := .int ps[i] t1) (by simpa using hq1) ?_
    have hgd : partsL.getD i (Str.ofString "") = partsL[i] := by simp [List.getD, hi5]
    by_cases hneg : ps[i] < 0
    · obtain ⟨av, ar, hav, har, hal⟩ : ∃ (av : List Value) (ar : List Str), StrsAre av ar ∧ ar = (if ps.getD i 0 < 0 then [] else (rowsTo ps i).getD (ps.getD i 0).toNat []) ∧ av = [] ∧ ar.length ≤ 5 := ⟨[], [], .nil, by rw [hgp, if_pos hneg], rfl, by simp⟩
      obtain ⟨hal0, hal⟩ := hal
      k_steps
      rename_i lc hc1' hc2' hc3' Fc N10
      rw [show (#[] : Array Value) = av.toArray by rw [hal0]] at N10
      refine unhold ?_
      refine item_at N10 (List.Mem.tail _ (List.Mem.tail _ (List.Mem.tail _ (List.mem_append_right _ (List.Mem.head _))))) (by first | exact Int.natCast_nonneg _ | omega) (by first | exact fit_lt (by assumption) (Nat.lt_of_le_of_lt (by assumption) (by decide)) | exact fit_lt (by assumption) (Nat.lt_trans (by assumption) (by decide)) | omega) (v := .str partsL[i] tq) (by simpa using hqq) ?_
      k_steps
      refine unhold ?_
      rename_i lb hb Fb Nb lbt
      refine add_lists Fb Nb (isL Nb (List.Mem.tail _ (List.Mem.head _))) (isL (vs := [Value.str partsL[i] tq]) Nb (List.Mem.head _)) ?_ (by rw [hav.length, sizeLine_eq]; simp only [List.length_cons, List.length_nil]; omega)
      intro h16 F16 N16
      have lt16 : ∀ q ∈ (ra, listOf (xs.map (·.1)).toArray kx) :: (I, oI) :: (ob ++ (qa, listOf pv.toArray 0) :: rest), q.1 < hb.objs.size := fun q hq => Heap.lt_size (Nb q (List.Mem.tail _ (List.Mem.tail _ (swap01 hq)))).1
      have N17 : News g1 L1 h16 ((ra, listOf (xs.map (·.1)).toArray kx) :: (hb.objs.size, listOf (av ++ [Value.str partsL[i] tq]).toArray 0) :: (I, oI) :: (ob ++ (qa, listOf pv.toArray 0) :: rest)) := fun q hq => by
        refine N16 q ?_
        rcases List.mem_cons.mp hq with rfl | hq
        · exact List.Mem.tail _ (List.Mem.tail _ (List.Mem.tail _ (List.Mem.tail _ (List.Mem.head _))))
        · rcases List.mem_cons.mp hq with rfl | hq
          · exact List.Mem.head _
          · refine List.Mem.tail _ (List.Mem.tail _ ?_)
            rcases List.mem_cons.mp hq with rfl | hq
            · exact List.Mem.tail _ (List.Mem.head _)
            · exact List.Mem.tail _ (List.Mem.tail _ (List.Mem.tail _ hq))
      clear N16 Nb
      dsimp only at N17 lt16 ⊢
      generalize hb.objs.size = na at N17 lt16 ⊢
      k_steps
      refine unhold ?_
      refine append_K F16 N17 (.head ?hne) ?_ (by rw [List.size_toArray, List.length_map, hxl, sizeLine_eq]; omega)
      case hne =>
        intro p hp
        rcases List.mem_cons.mp hp with rfl | hp
        · exact Nat.ne_of_gt (lt16 _ (List.Mem.head _))
        · rcases List.mem_cons.mp hp with rfl | hp
          · exact (offI _ (List.Mem.head _)).symm
          · rcases List.mem_append.mp hp with hp | hp
            · exact hc3 p hp
            · rcases List.mem_cons.mp hp with rfl | hp
              · exact hqr
              · exact hrr p hp
      intro h19 F19 N19
      have eN : (xs.map (·.1)).toArray.push (.ref na) = ((xs ++ [(Value.ref na, ar ++ [partsL[i]])]).map (·.1)).toArray := by simp
      rw [eN] at N19
      clear N17
      k_steps
      refine hQI _ _ ?_
      dsimp only [FlPost]
      refine fl_end (xs ++ [(Value.ref na, ar ++ [partsL[i]])], kx + 1, (na, listOf (av ++ [Value.str partsL[i] tq]).toArray 0) :: ob) F19 N19 ?e1 ?e2 ?e3 ?e4
      case e3 => kst_all
      case e1 =>
        intro p hp
        rcases List.mem_cons.mp hp with rfl | hp
        · exact List.Mem.tail _ (List.Mem.tail _ (List.Mem.head _))
        · rcases List.mem_cons.mp hp with rfl | hp
          · exact List.Mem.head _
          · rcases List.mem_cons.mp hp with rfl | hp
            · exact List.Mem.tail _ (List.Mem.head _)
            · exact List.Mem.tail _ (List.Mem.tail _ (List.Mem.tail _ hp))
      case e2 =>
        intro p hp
        rcases List.mem_cons.mp hp with rfl | hp
        · exact offI (ra, listOf (xs.map (·.1)).toArray kx) (List.Mem.head _)
        · rcases List.mem_cons.mp hp with rfl | hp
          · exact Nat.ne_of_gt (lt16 (I, oI) (List.Mem.tail _ (List.Mem.head _)))
          · exact offI p (List.Mem.tail _ hp)
      case e4 =>
        refine ⟨fun p hp => ?_, ?_, fun p hp => ?_⟩
        · rcases List.mem_append.mp hp with hp | hp
          · obtain ⟨a1, v1, k1, e1, m1, i1⟩ := hc1 p hp
            exact ⟨a1, v1, k1, e1, List.Mem.tail _ m1, i1⟩
          · rw [List.mem_singleton.mp hp]
            exact ⟨na, _, 0, rfl, List.Mem.head _, StrsAre.append' hav (.cons _ _ .nil)⟩
        · show (xs ++ [(Value.ref na, ar ++ [partsL[i]])]).map (·.2) = rowsTo ps (i + 1)
          rw [rowsTo, List.map_append, hc2, ← har, hgd]
          rfl
        · rcases List.mem_cons.mp hp with rfl | hp
          · exact Nat.ne_of_gt (lt16 _ (List.Mem.head _))
          · exact hc3 p hp
    · have hpl : ps[i].toNat < xs.length := by omega
      obtain ⟨q, hq⟩ : ∃ q, xs[ps[i].toNat]? = some q := ⟨_, List.getElem?_eq_getElem hpl⟩
      obtain ⟨ab, av, ka, eab, hma, hav⟩ := hc1 q (List.mem_of_getElem? hq)
      obtain ⟨ar, har0⟩ : ∃ ar, ar = q.2 := ⟨_, rfl⟩
      rw [← har0] at hav
      have hqr2 : (rowsTo ps i)[ps[i].toNat]? = some q.2 := by rw [← hc2, List.getElem?_map, hq]; rfl
      have har : ar = (if ps.getD i 0 < 0 then [] else (rowsTo ps i).getD (ps.getD i 0).toNat []) := by
        rw [hgp, if_neg hneg, har0]; unfold List.getD; rw [hqr2]; rfl
      have hal : ar.length ≤ 5 := by
        have := rowsTo_short ps i q.2 (List.mem_of_getElem? hqr2)
        rw [har0]; omega
      k_steps
      refine unhold ?_
      refine item_at N4 (List.Mem.tail _ (List.Mem.tail _ (List.mem_append_right _ (List.Mem.tail _ hm)))) (by first | exact Int.natCast_nonneg _ | omega) (by first | exact fit_lt (by assumption) (Nat.lt_of_le_of_lt (by assumption) (by decide)) | exact fit_lt (by assumption) (Nat.lt_trans (by assumption) (by decide)) | omega) (v := .int ps[i] t1) (by simpa using hq1) ?_
      k_steps
      refine unhold ?_
      refine item_at N4 (List.Mem.tail _ (List.Mem.head _)) (by omega) (by omega) (v := .ref ab) (by simp only [List.getElem?_map, hq, Option.map_some, eab]) ?_
      k_steps
      rename_i h12 F12 N12
      refine unhold ?_
      refine item_at N12 (List.Mem.tail _ (List.Mem.tail _ (List.mem_append_right _ (List.Mem.head _)))) (by first | exact Int.natCast_nonneg _ | omega) (by first | exact fit_lt (by assumption) (Nat.lt_of_le_of_lt (by assumption) (by decide)) | exact fit_lt (by assumption) (Nat.lt_trans (by assumption) (by decide)) | omega) (v := .str partsL[i] tq) (by simpa using hqq) ?_
      k_steps
      refine unhold ?_
      rename_i lb hb Fb Nb lbt
      refine add_lists Fb Nb (isL Nb (List.Mem.tail _ (List.Mem.tail _ (List.Mem.tail _ hma)))) (isL (vs := [Value.str partsL[i] tq]) Nb (List.Mem.head _)) ?_ (by rw [hav.length, sizeLine_eq]; simp only [List.length_cons, List.length_nil]; omega)
      intro h16 F16 N16
      have lt16 : ∀ q ∈ (ra, listOf (xs.map (·.1)).toArray kx) :: (I, oI) :: (ob ++ (qa, listOf pv.toArray 0) :: rest), q.1 < hb.objs.size := fun q hq => Heap.lt_size (Nb q (List.Mem.tail _ (swap01 hq))).1
      have N17 : News g1 L1 h16 ((ra, listOf (xs.map (·.1)).toArray kx) :: (hb.objs.size, listOf (av ++ [Value.str partsL[i] tq]).toArray 0) :: (I, oI) :: (ob ++ (qa, listOf pv.toArray 0) :: rest)) := fun q hq => by
        refine N16 q ?_
        rcases List.mem_cons.mp hq with rfl | hq
        · exact List.Mem.tail _ (List.Mem.tail _ (List.Mem.tail _ (List.Mem.head _)))
        · rcases List.mem_cons.mp hq with rfl | hq
          · exact List.Mem.head _
          · refine List.Mem.tail _ (List.Mem.tail _ ?_)
            rcases List.mem_cons.mp hq with rfl | hq
            · exact List.Mem.head _
            · exact List.Mem.tail _ (List.Mem.tail _ hq)
      clear N16 Nb
      dsimp only at N17 lt16 ⊢
      generalize hb.objs.size = na at N17 lt16 ⊢
      k_steps
      refine unhold ?_
      refine append_K F16 N17 (.head ?hne) ?_ (by rw [List.size_toArray, List.length_map, hxl, sizeLine_eq]; omega)
      case hne =>
        intro p hp
        rcases List.mem_cons.mp hp with rfl | hp
        · exact Nat.ne_of_gt (lt16 _ (List.Mem.head _))
        · rcases List.mem_cons.mp hp with rfl | hp
          · exact (offI _ (List.Mem.head _)).symm
          · rcases List.mem_append.mp hp with hp | hp
            · exact hc3 p hp
            · rcases List.mem_cons.mp hp with rfl | hp
              · exact hqr
              · exact hrr p hp
      intro h19 F19 N19
      have eN : (xs.map (·.1)).toArray.push (.ref na) = ((xs ++ [(Value.ref na, ar ++ [partsL[i]])]).map (·.1)).toArray := by simp
      rw [eN] at N19
      clear N17
      k_steps
      refine hQI _ _ ?_
      dsimp only [FlPost]
      refine fl_end (xs ++ [(Value.ref na, ar ++ [partsL[i]])], kx + 1, (na, listOf (av ++ [Value.str partsL[i] tq]).toArray 0) :: ob) F19 N19 ?e1 ?e2 ?e3 ?e4
      case e3 => kst_all
      case e1 =>
        intro p hp
        rcases List.mem_cons.mp hp with rfl | hp
        · exact List.Mem.tail _ (List.Mem.tail _ (List.Mem.head _))
        · rcases List.mem_cons.mp hp with rfl | hp
          · exact List.Mem.head _
          · rcases List.mem_cons.mp hp with rfl | hp
            · exact List.Mem.tail _ (List.Mem.head _)
            · exact List.Mem.tail _ (List.Mem.tail _ (List.Mem.tail _ hp))
      case e2 =>
        intro p hp
        rcases List.mem_cons.mp hp with rfl | hp
        · exact offI (ra, listOf (xs.map (·.1)).toArray kx) (List.Mem.head _)
        · rcases List.mem_cons.mp hp with rfl | hp
          · exact Nat.ne_of_gt (lt16 (I, oI) (List.Mem.tail _ (List.Mem.head _)))
          · exact offI p (List.Mem.tail _ hp)
      case e4 =>
        refine ⟨fun p hp => ?_, ?_, fun p hp => ?_⟩
        · rcases List.mem_append.mp hp with hp | hp
          · obtain ⟨a1, v1, k1, e1, m1, i1⟩ := hc1 p hp
            exact ⟨a1, v1, k1, e1, List.Mem.tail _ m1, i1⟩
          · rw [List.mem_singleton.mp hp]
            exact ⟨na, _, 0, rfl, List.Mem.head _, StrsAre.append' hav (.cons _ _ .nil)⟩
        · show (xs ++ [(Value.ref na, ar ++ [partsL[i]])]).map (·.2) = rowsTo ps (i + 1)
          rw [rowsTo, List.map_append, hc2, ← har, hgd]
          rfl
        · rcases List.mem_cons.mp hp with rfl | hp
          · exact Nat.ne_of_gt (lt16 _ (List.Mem.head _))
          · exact hc3 p hp
  case done =>
    rintro ⟨xs, kx, ob⟩ u5 h5 tk5 ⟨hc1, hc2, hc3⟩ F5 N5
    dsimp only at hc1 hc2 hc3 F5 N5
    k_steps
    rename_i kF NR _ _
    have e : ob ++ (qa, listOf pv.toArray 0) :: rest = (ob ++ [(qa, listOf pv.toArray 0)]) ++ rest := by simp
    rw [e] at NR hc1
    refine hret _ _ _ _ kF NR ⟨ra, xs, kx, _, rfl, rfl, hc1, hc2, fun p hp => ?_⟩
    rw [← e] at hp
    rcases List.mem_append.mp hp with hp | hp
    · exact hc3 p hp
    · rcases List.mem_cons.mp hp with rfl | hp
      · exact hqr
      · exact hrr p hp
end Mine
end

-- M13
section
open PySem PySem.W PyProof.Rows
set_option maxRecDepth 100000
set_option maxHeartbeats 8000000
set_option linter.unusedVariables false
namespace Mine
local macro_rules | `(tactic| walk_at "FlPost") => `(tactic| (dsimp only [FlPost]))
local macro_rules | `(tactic| walk_at "call ref") => `(tactic| refine hold ?_)
local macro_rules | `(tactic| walk_at "exec For Name Name cons nil") => `(tactic| refine hold ?_)
local macro_rules | `(tactic| walk_at "call builtin:str.join") => `(tactic| refine hold ?_)
local macro_rules | `(tactic| walk_at "call builtin:list.append") => `(tactic| refine hold ?_)
local macro_rules | `(tactic| k_all) => `(tactic| assumption)
set_option pp.deepTerms false
set_option pp.deepTerms.threshold 6
theorem kind_ok (w : World) (x nm : Str) (t1 t2 : Tok) (rest : List (Addr × Obj)) :
    Ctr w 70 [.str nm t1, .str x t2] rest 3 60 (fun r news' => news' = rest ∧ ∃ t, r = .str (Str.ofString "") t) := by
  unfold Ctr
  w_top off
  k_fill
  intro mean mg mb dp un gd cn cs a ccd cl outer A₀ base h₀ L m s Q E B F X N T hk hdp hun hret
  refine wpAny_call ?_
  k_dflt ktr_enter
  rename_i g1 L1 h1 FG1 F1 N1 B1 X1 T1
  obtain ⟨u, F2⟩ := fr_named [(Str.ofString "name", .str nm t1), (Str.ofString "x", .str x t2)] F1 (by kst_all)
  clear F1
  k_steps
  exact hret _ _ _ _ (by assumption) (by assumption) ⟨rfl, _, rfl⟩
theorem join_at {prog : Program} {w : World} {A : Around} {E : Value → Shared → Prop} {s : Shared} {h₀ : Heap} {L : Addr} {news : List (Addr × Obj)} {D : Addr} {vs : List Value} {n : Nat} {ys : List Str} {x : Str} {t : Tok} {Q : Value → Shared → Prop}
    (N : News h₀ L s.heap news) (hm : (D, listOf vs.toArray n) ∈ news) (hi : StrsAre vs ys) (hsz : (ys.map (·.length)).sum + ys.length ≤ 100) (hx : x.length ≤ 1)
    (h : ∀ t' k, Q (.str (Str.join x ys) t') { s with toks := k }) : wpAny (model prog w) A (call (.builtin "str.join") [.str x t, .ref D]) Q E s := by
  refine join_list (isL N hm) hi (Nat.le_trans ?_ (show 1600 ≤ 16777216 by decide)) ?_
  · have := Nat.mul_le_mul_left ys.length hx
    omega
  · intro t' k
    rw [show Txt.join x ys = Str.join x ys from eq_of_beq (join_plain_closes x ys)]
    exact h t' k
noncomputable def GoodPath (p : Str) : Prop := (((Txt.split p (Str.ofString "/")).map (·.length)).sum + (Txt.split p (Str.ofString "/")).length ≤ 100) ∧ p.length ≤ 100 ∧ (p.length == 0) = false ∧ (Txt.slice p none (some 1) == Str.ofString "/") = false ∧ ∀ c ∈ Txt.split p (Str.ofString "/"), (c.length == 0) = false ∧ (c == Str.ofString ".") = false ∧ (c == Str.ofString "..") = false
theorem splitroot_ok (w : World) (p : Str) (t : Tok) (rest : List (Addr × Obj)) (hp : GoodPath p) :
    Ctr w 84 [.str p t] rest 3 60 (fun r news' => ∃ d t1 t2 t3 k, r = .ref d ∧ news' = (d, ({ cls := .type "tuple", data := .seq #[.str (Str.ofString "") t1, .str (Str.ofString "") t2, .str p t3] k } : Obj)) :: rest) := by
  obtain ⟨_, hlen, _, hsl, _⟩ := hp
  unfold Ctr
  k_fill
  intro mean mg mb dp un gd cn cs a ccd cl outer A₀ base h₀ L m s Q E B F X N T hk hdp hun hret
  refine wpAny_call ?_
  k_dflt ktr_enter
  rename_i g1 L1 h1 FG1 F1 N1 B1 X1 T1
  obtain ⟨u, F2⟩ := fr_named [(Str.ofString "p", .str p t)] F1 (by kst_all)
  clear F1
  have hsl' : (Txt.slice p none (some 1) != Str.ofString "/") = true := by unfold bne; rw [hsl]; rfl
  k_steps
  rename_i D hh FF NN ll kF kN _ _
  exact hret _ _ _ _ kF kN ⟨D, _, _, _, _, rfl, rfl⟩
theorem empty_app (p : Str) : Str.ofString "" ++ p = p := by
  obtain ⟨⟨l⟩⟩ := p
  show Str.append (Str.ofString "") ⟨⟨l⟩⟩ = _
  unfold Str.append
  simp [Str.ofString]
  rfl
theorem normpath0_ok (w : World) (p : Str) (t : Tok) (rest : List (Addr × Obj)) (hp : GoodPath p) :
    Ctr w 91 [.str p t] rest 6 130 (fun r news' => news' = rest ∧ ∃ t, r = .str p t) := by
  have hp' := hp
  obtain ⟨hsum, hlen, h0, hsl, hparts⟩ := hp
  unfold Ctr
  k_fill
  intro mean mg mb dp un gd cn cs a ccd cl outer A₀ base h₀ L m s Q E B F X N T hk hdp hun hret
  refine wpAny_call ?_
  k_dflt ktr_enter
  rename_i g1 L1 h1 FG1 F1 N1 B1 X1 T1
  obtain ⟨u, F2⟩ := fr_named [(Str.ofString "path", .str p t)] F1 (by kst_all)
  clear F1
  have h0' : (p.length : Int) ≠ 0 := by simpa using h0
  k_steps
  refine unhold ?_
  rename_i h2 h3 F4 N4 _
  refine ctr_use (splitroot_ok w p t rest hp') B1 F4 X1 N4 T1 rfl (show dp + 1 + 3 < recursionLimit from room hdp (by decide)) (show un + 3 + 60 < cLine from room3 hun (by decide)) ?_
  rintro r news' h5 tk5 F5 N5 ⟨d, t1, t2, t3, kd, rfl, rfl⟩
  k_steps
  · refine unhold ?_
    rename_i hA tkA l0 hB kB el0 il0 ll0 hl0 h7 na h8 lna h9 F9 N9
    have hcna : hA.objs.size < na := lna.1
    have hrna : ∀ p ∈ rest, p.1 ≠ na := fun p hp => Nat.ne_of_lt (allLt_mem lna.2.2 p hp)
    rw [el0] at il0
    generalize strValues l0 = vs0 at il0 N9
    obtain ⟨u6, F10⟩ := fr_named [(Str.ofString "dot", .str (Str.ofString ".") _), (Str.ofString "dotdot", .str (Str.ofString "..") _), (Str.ofString "sep", .str (Str.ofString "/") _), (Str.ofString "initial_slashes", .str (Str.ofString "") t2), (Str.ofString "new_comps", .ref na), (Str.ofString "comps", .ref hA.objs.size)] F9 (by kst_all)
    have N10 : News g1 L1 h9 ((na, listOf ([] : List Value).toArray 0) :: (hA.objs.size, listOf vs0.toArray 0) :: rest) := fun p hp => by
      refine N9 p ?_
      rcases List.mem_cons.mp hp with rfl | hp
      · exact List.Mem.head _
      · rcases List.mem_cons.mp hp with rfl | hp
        · exact List.Mem.tail _ (List.Mem.head _)
        · exact List.Mem.tail _ (List.Mem.tail _ (List.Mem.tail _ hp))
    generalize hA.objs.size = ca at N10 hcna F10
    clear F9 N9
    refine fl_list (σ := List Value × Nat) (ax := ca) (vs := vs0) (kv := 0) (fun c => (na, listOf c.1.toArray c.2) :: (ca, listOf vs0.toArray 0) :: rest)
      (fun _ => [(Str.ofString "dot", .str (Str.ofString ".") _), (Str.ofString "dotdot", .str (Str.ofString "..") _), (Str.ofString "sep", .str (Str.ofString "/") _), (Str.ofString "initial_slashes", .str (Str.ofString "") t2), (Str.ofString "new_comps", .ref na)])
      (fun i c => StrsAre c.1 ((Txt.split p (Str.ofString "/")).take i)) ([], 0) rfl (fun c => List.Mem.tail _ (List.Mem.head _)) F10 N10 (by kst_all) .nil ?iter ?turn ?done rfl rfl
    case iter =>
      intro Q' E' hq
      k_steps
      exact hq
    case turn =>
      rintro I i v ⟨cv, ck⟩ u7 h11 tk11 oI hv hc off lI F11 N11
      refine gen_post fun QI hQI => ?_
      dsimp only at hc F11 N11
      obtain ⟨c, tc, hcv, hci⟩ := il0.item i v hv
      subst hcv
      obtain ⟨g1', g2', g3'⟩ := hparts c (List.mem_of_getElem? hci)
      have g1 : (c.length : Int) ≠ 0 := by simpa using g1'
      have g3 : (c != Str.ofString "..") = true := by unfold bne; rw [g3']; rfl
      have hcl : c.length ≤ 100 := Nat.le_trans (ll0 c (by rw [el0]; exact List.mem_of_getElem? hci)) hlen
      have hcv : cv.length ≤ 200 := by
        rw [hc.len_eq, List.length_take]
        omega
      k_steps
      · refine unhold ?_
        have hna : na ≠ I := off (na, listOf cv.toArray ck) (List.Mem.head _)
        refine append_K (by assumption) N11 (.tail hna.symm (.head ?hne)) ?_ (by rw [List.size_toArray, sizeLine_eq]; omega)
        case hne =>
          intro p hp
          rcases List.mem_cons.mp hp with rfl | hp
          · exact Nat.ne_of_lt hcna
          · exact hrna p hp
        intro h13 F13 N13
        k_steps
        refine hQI _ _ ?_
        dsimp only [FlPost]
        refine fl_end (cv ++ [.str c tc], ck + 1) F13 N13 (fun p hp => ?_) (fun p hp => ?_) (by kst_all) ?_
        · rcases List.mem_cons.mp hp with rfl | hp
          · exact List.Mem.head _
          · rcases List.mem_cons.mp hp with rfl | hp
            · exact List.Mem.tail _ (by rw [List.push_toArray]; exact List.Mem.head _)
            · exact List.Mem.tail _ (List.Mem.tail _ hp)
        · rcases List.mem_cons.mp hp with rfl | hp
          · exact hna
          · exact off p (List.Mem.tail _ hp)
        · show StrsAre (cv ++ [.str c tc]) ((Txt.split p (Str.ofString "/")).take (i + 1))
          rw [List.take_add_one, hci]
          exact StrsAre.append' hc (.cons _ _ .nil)
      · exact absurd (by assumption) g1
    case done =>
      rintro ⟨cv, ck⟩ u7 h11 tk11 hc F11 N11
      dsimp only at hc F11 N11
      rw [List.take_of_length_le (by rw [il0.len_eq]; exact Nat.le_refl _)] at hc
      k_steps
      refine unhold ?_
      rename_i h12 F12 N12
      refine join_at N12 (List.Mem.head _) hc hsum (by decide) ?_
      intro tj kj
      rw [PySem.StrLaws.join_split]
      have e0 : Str.ofString "" ++ p = p := empty_app p
      k_steps
      rw [e0]
      k_steps
      · rename_i kF kN _ _
        exact hret _ _ _ _ kF (fun p hp => kN p (List.Mem.tail _ (List.Mem.tail _ hp))) ⟨rfl, _, rfl⟩
      all_goals first | exact absurd (by assumption) h0' | skip
      all_goals trace_state
  all_goals exact absurd (by assumption) h0'
end Mine
end

-- M14
section
open PySem PySem.W PyProof.Rows
set_option maxRecDepth 100000
set_option maxHeartbeats 8000000
set_option linter.unusedVariables false
namespace Mine
local macro_rules | `(tactic| walk_at "call ref") => `(tactic| refine hold ?_)
local macro_rules | `(tactic| k_all) => `(tactic| assumption)
set_option pp.deepTerms false
set_option pp.deepTerms.threshold 6
theorem cpath_ok (w : World) (n1 n2 n3 p : Str) (t1 t2 t3 t : Tok) (C D : Addr) (o : Obj) (rest : List (Addr × Obj)) (kt : Nat) (hlen : p.length ≤ 100)
    (lo : (D == sysModules) = false) (hs : o.IsDictOf (strKind Challenge.rw_oy0105_01.row.prog w) []) (fs : PyProof.V.FlatPairs PyData.str [] []) :
    Ctr w 77 [.str n1 t1, .str n2 t2, .str n3 t3, .ref C, .ref D] ((D, o) :: (C, ({ cls := .type "tuple", data := .seq #[.str p t] kt } : Obj)) :: rest) 5 90 (fun r news' => news' = (D, o) :: (C, ({ cls := .type "tuple", data := .seq #[.str p t] kt } : Obj)) :: rest ∧ ∃ t, r = .str p t) := by
  unfold Ctr
  w_top off
  k_fill
  intro mean mg mb dp un gd cn cs a ccd cl outer A₀ base h₀ L m s Q E B F X N T hk hdp hun hret
  refine wpAny_call ?_
  k_dflt ktr_enter
  rename_i g1 L1 h1 FG1 F1 N1 B1 X1 T1
  obtain ⟨u, F2⟩ := fr_named [(Str.ofString "name", .str n1 t1), (Str.ofString "cname", .str n2 t2), (Str.ofString "argname", .str n3 t3), (Str.ofString "args", .ref C), (Str.ofString "kwargs", .ref D)] F1 (by kst_all)
  clear F1
  k_steps
  refine unhold ?_
  rename_i h4 F4 N4
  refine ctr_use (kind_ok w p n1 t1 t _) B1 F4 X1 N4 T1 rfl (show dp + 1 + 3 < recursionLimit from room hdp (by decide)) (show un + 3 + 60 < cLine from room3 hun (by decide)) ?_
  rintro r news' h5 tk5 F5 N5 ⟨rfl, t5, rfl⟩
  clear N4 F4
  k_steps
  exact hret _ _ _ _ (by assumption) (by assumption) ⟨rfl, _, rfl⟩
theorem normpath_ok (w : World) (p : Str) (t : Tok) (rest : List (Addr × Obj)) (hp : GoodPath p) :
    Ctr w 98 [.str p t] rest 9 230 (fun r news' => news' = rest ∧ ∃ t, r = .str p t) := by
  unfold Ctr
  k_fill
  intro mean mg mb dp un gd cn cs a ccd cl outer A₀ base h₀ L m s Q E B F X N T hk hdp hun hret
  refine wpAny_call ?_
  k_dflt (refine' kp_both ?k1 ?k2 ?k3 ?k4 ?k5 ?kA ?kF ?kK ?k6 ?k7 ?k8 ?kV ?kX ?kQ ?kM ?kN ?kD ?kR ?kP ?kS ?kT ?kB ?_ ?c2 ?c3 ?c4 ?c5; (case kA => exact rfl); (case kF => exact rfl); (case kK => assumption); (case k1 => k_asm); (case k2 => k_asm); (case k3 => k_asm); (case k4 => k_asm); (case k5 => k_asm); (case k6 => k_is); (case k7 => k_is); (case k8 => ktr_room); (case kV => kp_lit); (case kX => kp_lit); (case kQ => exact rfl); (case kM => exact rfl); (case kN => exact rfl); (case kD => kp_flats); (case kR => exact rfl); (case kP => exact rfl); (case kS => exact fun _ => rfl); (case kT => exact fun _ _ => rfl); (case kB => exact fun _ _ => locs rfl); (case c5 => decide); (case c2 => exact rfl); (case c3 => exact rfl); (case c4 => exact rfl); k_whole)
  intro C D o g1 L1 h1 tk1 l1 l2 lo hs fs FG1 F1 N1 B1 X1 T1
  obtain ⟨u, F2⟩ := fr_named [(Str.ofString "args", .ref C), (Str.ofString "kwargs", .ref D)] F1 (by kst_all)
  clear F1
  (try dsimp only)
  k_fold
  k_steps
  refine unhold ?_
  refine ctr_use (cpath_ok w _ _ _ p _ _ _ t C D o rest _ hp.2.1 lo hs fs) B1 F2 X1 N1 T1 rfl (show dp + 1 + 5 < recursionLimit from room hdp (by decide)) (show un + 3 + 90 < cLine from room3 hun (by decide)) ?_
  rintro r news' h5 tk5 F5 N5 ⟨rfl, t5, rfl⟩
  clear F2 N1
  k_steps
  refine unhold ?_
  refine ctr_use (normpath0_ok w p t5 _ hp) B1 F5 X1 N5 T1 rfl (show dp + 1 + 6 < recursionLimit from room hdp (by decide)) (show un + 3 + 130 < cLine from room3 hun (by decide)) ?_
  rintro r news' h7 tk7 F7 N7 ⟨rfl, t7, rfl⟩
  k_steps
  rename_i kF kN _ _
  exact hret _ _ _ _ kF (fun p hp => kN p (List.Mem.tail _ (List.Mem.tail _ hp))) ⟨rfl, _, rfl⟩
end Mine
end

-- M12
section
open PySem PySem.W PyProof.Rows
set_option maxRecDepth 100000
set_option maxHeartbeats 8000000
set_option linter.unusedVariables false
namespace Mine
local macro_rules | `(tactic| walk_at "FlPost") => `(tactic| (dsimp only [FlPost]))
local macro_rules | `(tactic| walk_at "call ref") => `(tactic| refine hold ?_)
local macro_rules | `(tactic| walk_at "truthy ref") => `(tactic| refine hold ?_)
local macro_rules | `(tactic| walk_at "CompSrc") => `(tactic| refine hold ?_)
local macro_rules | `(tactic| k_all) => `(tactic| assumption)
set_option pp.deepTerms false
set_option pp.deepTerms.threshold 6
/-- a set of texts, at most one -/
noncomputable def SetIs (w : World) (so : Obj) (xs : List Str) : Prop :=
  so.cls = .type "set" ∧ (∃ (es : Array (Int × Value)) (ep : Nat) (t : SetTable), so.data = .set es ep t ∧ t.fits es.size = true ∧ es.size ≤ 1 ∧ (es = #[] ∨ t.led = Led w) ∧ es.size = xs.length ∧ ∀ (i : Nat) (hs : Int) (v : Value), es[i]? = some (hs, v) → ∃ x tk, xs[i]? = some x ∧ v = Value.str x tk) ∧
    so.SetObjOf (strKind Challenge.rw_oy0105_01.row.prog w) (fun k => xs.contains k) xs.length
theorem setIs_nil {w : World} {led : Bool} : SetIs w { cls := .type "set", dict := none, data := .set #[] 0 (.fresh 0 0 led) } [] :=
  ⟨rfl, ⟨#[], 0, _, rfl, rfl, Nat.zero_le _, .inl rfl, rfl, fun i hs v h => by simp at h⟩, setObjOf_fresh led⟩
theorem setIs_one {w : World} {hs : Int} {x : Str} {t : Tok} {j : Nat} (e : hs = (strKind Challenge.rw_oy0105_01.row.prog w).hash x) : SetIs w (setOne w hs x t j) [x] := by
  refine ⟨rfl, ⟨_, 1, tab1 w j, rfl, rfl, Nat.le_refl _, .inr rfl, rfl, fun i hs' v h => ?_⟩, ⟨rfl, rfl, rfl⟩, _, 1, tab1 w j, rfl, ?_, ?_, rfl, rfl⟩
  · match i, h with
    | 0, h => exact ⟨x, t, rfl, by have := Option.some.inj h; exact (congrArg Prod.snd this).symm⟩
    | i + 1, h => simp at h
  · intro p hp
    obtain rfl := List.mem_singleton.mp hp
    exact ⟨⟨x, strKind_is _ _ _ _, e⟩, rfl⟩
  · intro k
    constructor
    · intro h
      have : k = x := by simpa using h
      subst this
      exact ⟨_, List.mem_singleton.mpr rfl, strKind_is _ _ _ _⟩
    · rintro ⟨p, hp, hk⟩
      obtain rfl := List.mem_singleton.mp hp
      have := (strKind Challenge.rw_oy0105_01.row.prog w).inj _ _ _ hk (strKind_is _ _ x t)
      subst this
      simp
structure Rdr where
  x : Addr
  dx : Addr
  nd : Nat
  t1 : Tok
  t2 : Tok
  t3 : Tok
  sm : Addr
  so : Obj
  dl : Addr
  dv : List Value
  kd : Nat
  ig : Addr
  io : Obj
  kvs : List (Str × Value)
noncomputable def Rdr.entries (w : World) (r : Rdr) : List DictEntry :=
  [{ hash := PyData.keyHash w.params (Str.ofString "_mods"), key := .str (Str.ofString "_mods") r.t1, val := .ref r.sm }, { hash := PyData.keyHash w.params (Str.ofString "_dirs"), key := .str (Str.ofString "_dirs") r.t2, val := .ref r.dl },
    { hash := PyData.keyHash w.params (Str.ofString "_ignore"), key := .str (Str.ofString "_ignore") r.t3, val := .ref r.ig }]
noncomputable def Rdr.led (w : World) (r : Rdr) : List (Addr × Obj) := [(r.dl, listOf r.dv.toArray r.kd), (r.sm, r.so), (r.x, instObj 121 r.dx), (r.dx, dictOf (r.entries w) r.nd)]
noncomputable def Rdr.Ok (w : World) (r : Rdr) (mods dirs : List Str) (D : List (PyData × PyData)) : Prop :=
  SetIs w r.so mods ∧ StrsAre r.dv dirs ∧ r.io.IsDictOf (strKind Challenge.rw_oy0105_01.row.prog w) r.kvs ∧ PyProof.V.FlatPairs PyData.str r.kvs D ∧ (r.ig == sysModules) = false
noncomputable def RdrPost (w : World) (mods dirs : List Str) (rest : List (Addr × Obj)) (v : Value) (news' : List (Addr × Obj)) : Prop :=
  ∃ r : Rdr, v = .ref r.x ∧ news' = (r.ig, r.io) :: (r.led w ++ rest) ∧ r.Ok w mods dirs [(.str (Str.ofString "<string>"), .int 1)] ∧ ∀ p ∈ r.led w ++ rest, p.1 ≠ r.ig
theorem rdr_fin {w : World} {h₀ h : Heap} {L : Addr} {r : Rdr} {extra rest : List (Addr × Obj)} {mods dirs : List Str} (N : News h₀ L h ((r.ig, r.io) :: (r.led w ++ (extra ++ rest)))) (ok : r.Ok w mods dirs [(.str (Str.ofString "<string>"), .int 1)])
    (hap : ∀ p ∈ r.led w ++ (extra ++ rest), p.1 ≠ r.ig) : ∃ news', News h₀ L h news' ∧ RdrPost w mods dirs rest (.ref r.x) news' := by
  have sub : ∀ p ∈ r.led w ++ rest, p ∈ r.led w ++ (extra ++ rest) := fun p hp => by
    rcases List.mem_append.mp hp with hp | hp
    · exact List.mem_append_left _ hp
    · exact List.mem_append_right _ (List.mem_append_right _ hp)
  refine ⟨(r.ig, r.io) :: (r.led w ++ rest), fun p hp => N p ?_, r, rfl, rfl, ok, fun p hp => hap p (sub p hp)⟩
  rcases List.mem_cons.mp hp with rfl | hp
  · exact List.Mem.head _
  · exact List.Mem.tail _ (sub p hp)
theorem reader_ok0 (w : World) (k : Int) (tk0 : Tok) (pa : Addr) (vs : List Value) (row : List Str) (n : Nat) (rest : List (Addr × Obj))
    (hm : (pa, listOf vs.toArray n) ∈ rest) (hi : StrsAre vs row) (hsz : (row.map (·.length)).sum + row.length ≤ 100) (hk : k.fmod 2 = 0) :
    Ctr w 146 [.int k tk0, .ref pa] rest 16 290 (RdrPost w [Str.join (Str.ofString ".") row] [] rest) := by
  unfold Ctr
  w_top off
  k_fill
  intro mean mg mb dp un gd cn cs a ccd cl outer A₀ base h₀ L m s Q E B F X N T hk' hdp hun hret
  refine wpAny_call ?_
  k_dflt ktr_enter
  rename_i g1 L1 h1 FG1 F1 N0 B1 X1 T1
  have N1 : News g1 L1 h1 ((pa, listOf vs.toArray n) :: rest) := fun p hp => by
    rcases List.mem_cons.mp hp with rfl | hp
    · exact N0 _ hm
    · exact N0 p hp
  clear N0
  obtain ⟨u, F2⟩ := fr_named [(Str.ofString "k", .int k tk0), (Str.ofString "row", .ref pa)] F1 (by kst_all)
  clear F1
  k_steps
  · refine join_at N1 (List.Mem.head _) hi hsz (by decide) ?_
    intro t' k'
    generalize Str.join (Str.ofString ".") row = nm at hret
    k_steps
    refine unhold ?_
    rename_i lm hm1 lm1 ld hd1 Fd Nd ld1
    k_dflt (refine' call_cls ?k1 ?k2 ?k3 ?k4 ?k5 ?k6 ?_; (case k1 => k_asm); (case k2 => k_asm); (case k3 => k_asm); (case k4 => k_is); (case k5 => k_is); (case k6 => k_is); k_whole; intro x' d' h' F' N' l1 l2; (try k_lt l1); (try k_lt2 l2); (try k_sweep); (refine' code_def ?k1 ?k2 ?k3 ?k4 ?k5 ?kA ?kF ?kK ?k6 ?k7 ?k8 ?k9 ?kB ?_ ?c2 ?c3 ?c4 ?c5; (case kA => exact rfl); (case kF => exact rfl); (case kK => exact rfl); (case k1 => k_asm); (case k2 => k_asm); (case k3 => k_asm); (case k4 => k_asm); (case k5 => k_asm); (case k6 => k_is); (case k7 => k_is); (case k8 => ktr_room); (case k9 => first | exact BindsTo.of_eq rfl | exact binds_K (by k_in) rfl (by k_is) rfl rfl rfl); (case c5 => decide); (case kB => exact locs rfl); (case c2 => exact rfl); (case c3 => exact rfl); (case c4 => exact rfl); k_whole; intro g' L' h' FG' F' N' B' X' T'; (try dsimp only); (try k_lift B'); (try k_fold)))
    obtain ⟨u3, F3⟩ := fr_named [(Str.ofString "self", .ref x'), (Str.ofString "modules", .ref lm), (Str.ofString "dirs", .ref ld)] F' (by kst_all)
    clear F'
    k_steps
    refine unhold ?_
    refine wpAny_truthy_list (isL (vs := [.str nm _]) N' (List.Mem.tail _ (List.Mem.tail _ (List.Mem.tail _ (List.Mem.head _))))) (by simp) ?_
    rw [show (!([Value.str nm _].toArray.isEmpty)) = true from rfl]
    k_steps
    refine call_set_N F3 N' (by with_unfolding_all rfl) (List.Mem.tail _ (List.Mem.tail _ (List.Mem.tail _ (List.Mem.head _)))) ?_
    intro sm h5 tk5 hs5 j5 ehs F5 N5 lt5
    have hsm := setIs_one (w := w) (t := t') (j := j5) ehs
    generalize setOne w hs5 nm t' j5 = so at N5 hsm
    clear N' F3
    k_lt lt5
    k_steps
    refine unhold ?_
    rename_i h6 F6 N6
    refine wpAny_truthy_list (isL (vs := []) N6 (List.Mem.tail _ (List.Mem.tail _ (List.Mem.tail _ (List.Mem.head _))))) (by simp) ?_
    rw [show (!(([] : List Value).toArray.isEmpty)) = false from rfl]
    k_steps
    rename_i la h7 hx7 h8 h9 io hig hd hf hap hl10 h10 F10 N10 _ _ _ _ kF kN _ _
    obtain ⟨q1, q2, q3, q4, q5, q6, q7, q8⟩ := hl10
    obtain ⟨nw, hn, hp⟩ := rdr_fin (r := ⟨x', d', _, _, _, _, sm, so, la, [], 0, _, io, _⟩) (extra := [_, _, _]) kN ⟨hsm, .nil, hd, hf, hig⟩ (fun p hp => by
      rcases List.mem_cons.mp hp with rfl | hp
      · exact Nat.ne_of_lt q1
      rcases List.mem_cons.mp hp with rfl | hp
      · exact Nat.ne_of_lt q2
      rcases List.mem_cons.mp hp with rfl | hp
      · exact Nat.ne_of_lt q3
      rcases List.mem_cons.mp hp with rfl | hp
      · exact Nat.ne_of_lt q4
      rcases List.mem_cons.mp hp with rfl | hp
      · exact Nat.ne_of_lt q5
      rcases List.mem_cons.mp hp with rfl | hp
      · exact Nat.ne_of_lt q6
      rcases List.mem_cons.mp hp with rfl | hp
      · exact Nat.ne_of_lt q7
      exact Nat.ne_of_lt (allLt_mem q8 p hp))
    exact hret _ _ _ _ kF hn hp
  · exact absurd hk (by assumption)
theorem reader_ok1 (w : World) (k : Int) (tk0 : Tok) (pa : Addr) (vs : List Value) (row : List Str) (n : Nat) (rest : List (Addr × Obj))
    (hm : (pa, listOf vs.toArray n) ∈ rest) (hi : StrsAre vs row) (hsz : (row.map (·.length)).sum + row.length ≤ 100) (hk : k.fmod 2 = 1) (hgp : GoodPath (Str.join (Str.ofString "/") row)) :
    Ctr w 146 [.int k tk0, .ref pa] rest 16 290 (RdrPost w [] [Str.join (Str.ofString "/") row] rest) := by
  unfold Ctr
  k_fill
  intro mean mg mb dp un gd cn cs a ccd cl outer A₀ base h₀ L m s Q E B F X N T hk' hdp hun hret
  refine wpAny_call ?_
  k_dflt ktr_enter
  rename_i g1 L1 h1 FG1 F1 N0 B1 X1 T1
  have N1 : News g1 L1 h1 ((pa, listOf vs.toArray n) :: rest) := fun p hp => by
    rcases List.mem_cons.mp hp with rfl | hp
    · exact N0 _ hm
    · exact N0 p hp
  clear N0
  obtain ⟨u, F2⟩ := fr_named [(Str.ofString "k", .int k tk0), (Str.ofString "row", .ref pa)] F1 (by kst_all)
  clear F1
  k_steps
  · exfalso; omega
  rename_i lm h2 F2' N2 l2
  · refine join_at N2 (List.Mem.tail _ (List.Mem.head _)) hi hsz (by decide) ?_
    intro t' k'
    generalize Str.join (Str.ofString "/") row = nm at hret hgp
    k_steps
    refine unhold ?_
    rename_i ld hd1 Fd Nd ld1
    k_dflt (refine' call_cls ?k1 ?k2 ?k3 ?k4 ?k5 ?k6 ?_; (case k1 => k_asm); (case k2 => k_asm); (case k3 => k_asm); (case k4 => k_is); (case k5 => k_is); (case k6 => k_is); k_whole; intro x' d' h' F' N' l1 l2; (try k_lt l1); (try k_lt2 l2); (try k_sweep); (refine' code_def ?k1 ?k2 ?k3 ?k4 ?k5 ?kA ?kF ?kK ?k6 ?k7 ?k8 ?k9 ?kB ?_ ?c2 ?c3 ?c4 ?c5; (case kA => exact rfl); (case kF => exact rfl); (case kK => exact rfl); (case k1 => k_asm); (case k2 => k_asm); (case k3 => k_asm); (case k4 => k_asm); (case k5 => k_asm); (case k6 => k_is); (case k7 => k_is); (case k8 => ktr_room); (case k9 => first | exact BindsTo.of_eq rfl | exact binds_K (by k_in) rfl (by k_is) rfl rfl rfl); (case c5 => decide); (case kB => exact locs rfl); (case c2 => exact rfl); (case c3 => exact rfl); (case c4 => exact rfl); k_whole; intro g' L' h' FG' F' N' B' X' T'; (try dsimp only); (try k_lift B'); (try k_fold)))
    obtain ⟨u3, F3⟩ := fr_named [(Str.ofString "self", .ref x'), (Str.ofString "modules", .ref lm), (Str.ofString "dirs", .ref ld)] F' (by kst_all)
    clear F'
    k_steps
    refine unhold ?_
    refine wpAny_truthy_list (isL (vs := []) N' (List.Mem.tail _ (List.Mem.tail _ (List.Mem.tail _ (List.Mem.head _))))) (by simp) ?_
    rw [show (!(([] : List Value).toArray.isEmpty)) = false from rfl]
    k_steps
    refine unhold ?_
    rename_i sm hq1 led hq2 hq3 lsm h6 F6 N6
    refine wpAny_truthy_list (isL (vs := [.str nm _]) N6 (List.Mem.tail _ (List.Mem.tail _ (List.Mem.tail _ (List.Mem.head _))))) (by simp) ?_
    rw [show (!([Value.str nm _].toArray.isEmpty)) = true from rfl]
    k_steps
    refine unhold ?_
    refine LCg.CompSrc.ledger (by rfl) F6 N6 (List.Mem.tail _ (List.Mem.tail _ (List.Mem.tail _ (List.Mem.head _)))) (by exact Nat.le_of_ble_eq_true rfl) ?_
    intro g
    refine lc_rest (fun i ys nw => nw = _ ∧ StrsAre ys (List.take i [nm])) ⟨rfl, .nil⟩ ?turn ?fin
    case turn =>
      rintro i ys nw v I oI C oC D m₂ h tk E' hil ⟨rfl, hys⟩ hv hC hx F3 N3 off3 ne3
      refine gen_post fun QI hQI => ?_
      obtain rfl : i = 0 := by
        have : i < 1 := hil
        omega
      obtain rfl : v = .str nm _ := (Option.some.inj hv).symm
      k_steps
      refine unhold ?_
      refine ctr_use (normpath_ok w nm _ _ hgp) B' F3 X' N3 T' rfl (by first | ktr_room | (show dp + 1 + 1 + 9 < recursionLimit; omega) | (show dp + 1 + 1 + 1 + 9 < recursionLimit; omega)) (by first | ktr_units | (show un + 3 + 1 + 3 + 230 < cLine; omega) | (show un + 3 + 2 + 3 + 230 < cLine; omega)) ?_
      rintro r news' h7 tk7 F7 N7 ⟨rfl, t7, rfl⟩
      k_steps
      refine hQI _ _ ?_
      refine LCg.CompEnd.intro F7 N7 _ (fun p hp => hp) off3 (.inr ⟨_, List.Mem.tail _ (List.Mem.tail _ (List.Mem.tail _ (List.Mem.head _))), rfl, _, rfl⟩) ⟨rfl, ?_⟩
      exact StrsAre.append' hys (.cons _ _ .nil)
    case fin =>
      rintro ys nw ⟨rfl, hys⟩
      have hys : StrsAre ys [nm] := hys
      k_steps
      rename_i la h7 tkx hx7 h8 h9 io hig hd hf hap hl10 h10 F10 N10 _ _ _ _ kF kN _ _
      obtain ⟨q1, q2, q3, q4, q5, q6, q7, q8⟩ := hl10
      obtain ⟨nw, hn, hp⟩ := rdr_fin (r := ⟨x', d', _, _, _, _, sm, _, la, ys, ys.length, _, io, _⟩) (extra := [_, _, _]) kN ⟨setIs_nil, hys, hd, hf, hig⟩ (fun p hp => by
        rcases List.mem_cons.mp hp with rfl | hp
        · exact Nat.ne_of_lt q1
        rcases List.mem_cons.mp hp with rfl | hp
        · exact Nat.ne_of_lt q2
        rcases List.mem_cons.mp hp with rfl | hp
        · exact Nat.ne_of_lt q3
        rcases List.mem_cons.mp hp with rfl | hp
        · exact Nat.ne_of_lt q4
        rcases List.mem_cons.mp hp with rfl | hp
        · exact Nat.ne_of_lt q5
        rcases List.mem_cons.mp hp with rfl | hp
        · exact Nat.ne_of_lt q6
        rcases List.mem_cons.mp hp with rfl | hp
        · exact Nat.ne_of_lt q7
        exact Nat.ne_of_lt (allLt_mem q8 p hp))
      exact hret _ _ _ _ kF hn hp
end Mine
end

-- M7
section
open PySem PySem.W PyProof.Rows
set_option maxRecDepth 100000
set_option maxHeartbeats 8000000
set_option linter.unusedVariables false
namespace Mine
noncomputable def cmpI (x y : Int) : Int := b2i (decide (y < x)) - b2i (decide (x < y))
noncomputable def cmpW (x y : List Int) : Int := b2i (lexLt y x) - b2i (lexLt x y)
local macro_rules | `(tactic| walk_at "FlPost") => `(tactic| (dsimp only [FlPost]))
local macro_rules | `(tactic| walk_at "call ref") => `(tactic| refine hold ?_)
local macro_rules | `(tactic| walk_at "call builtin:len") => `(tactic| refine hold ?_)
local macro_rules | `(tactic| walk_at "exec For Name Call cons nil") => `(tactic| refine hold ?_)
local macro_rules | `(tactic| walk_at "subscriptTail Name Name ref int") => `(tactic| refine hold ?_)
local macro_rules | `(tactic| k_all) => `(tactic| assumption)
set_option pp.deepTerms false
set_option pp.deepTerms.threshold 6
theorem cmp_int (w : World) (x y : Int) (tx ty : Tok) (rest : List (Addr × Obj)) :
    Ctr w 35 [.int x tx, .int y ty] rest 3 60 (fun r news' => news' = rest ∧ ∃ t, r = .int (cmpI x y) t) := by
  unfold Ctr
  w_top off
  k_fill
  intro mean mg mb dp un gd cn cs a ccd cl outer A₀ base h₀ L m s Q E B F X N T hk hdp hun hret
  refine wpAny_call ?_
  k_dflt ktr_enter
  rename_i g1 L1 h1 FG1 F1 N1 B1 X1 T1
  obtain ⟨u, F2⟩ := fr_named [(Str.ofString "x", .int x tx), (Str.ofString "y", .int y ty)] F1 (by kst_all)
  clear F1
  k_steps
  exact hret _ _ _ _ (by assumption) (by assumption) ⟨rfl, _, rfl⟩
theorem cmp_list (w : World) (x y : Addr) (vx vy : List Value) (nx ny : List Int) (kx ky : Nat) (rest : List (Addr × Obj))
    (mx : (x, listOf vx.toArray kx) ∈ rest) (my : (y, listOf vy.toArray ky) ∈ rest) (ix : IntsAre vx nx) (iy : IntsAre vy ny) :
    Ctr w 35 [.ref x, .ref y] rest 3 60 (fun r news' => news' = rest ∧ ∃ t, r = .int (cmpW nx ny) t) := by
  unfold Ctr
  k_fill
  intro mean mg mb dp un gd cn cs a ccd cl outer A₀ base h₀ L m s Q E B F X N T hk hdp hun hret
  refine wpAny_call ?_
  k_dflt ktr_enter
  rename_i g1 L1 h1 FG1 F1 N1 B1 X1 T1
  obtain ⟨u, F2⟩ := fr_named [(Str.ofString "x", .ref x), (Str.ofString "y", .ref y)] F1 (by kst_all)
  clear F1
  k_steps
  dsimp only
  refine gt_lists (isL N1 mx) ix (isL N1 my) iy (by simp only [units_deeper]; omega) ?_
  k_steps
  dsimp only
  refine lt_lists (isL N1 mx) ix (isL N1 my) iy (by simp only [units_deeper]; omega) ?_
  k_steps
  exact hret _ _ _ _ (by assumption) (by assumption) ⟨rfl, _, rfl⟩
theorem rising_ok (w : World) (wl : Addr) (wp : List (Value × List Int)) (k : Nat) (rest : List (Addr × Obj))
    (hm : (wl, listOf (wp.map (·.1)).toArray k) ∈ rest) (hw : WordsIn rest wp) (hsz : wp.length < 100000)
    (hr : ∀ i, i + 1 < wp.length → cmpW ((wp.map (·.2)).getD i []) ((wp.map (·.2)).getD (i + 1) []) = -1) :
    Ctr w 170 [.ref wl] rest 6 90 (fun r news' => r = .bool true ∧ news' = rest) := by
  unfold Ctr
  k_fill
  intro mean mg mb dp un gd cn cs a ccd cl outer A₀ base h₀ L m s Q E B F X N T hk hdp hun hret
  refine wpAny_call ?_
  k_dflt ktr_enter
  rename_i g1 L1 h1 FG1 F1 N1 B1 X1 T1
  obtain ⟨u, F2⟩ := fr_named [(Str.ofString "words", .ref wl)] F1 (by kst_all)
  clear F1
  k_steps
  refine unhold ?_
  refine wpAny_For ?_ (fun _ => rfl)
  k_steps
  refine unhold ?_
  refine len_at (by k_asm) hm (by simp; omega) ?_
  rw [List.length_map]
  k_steps
  rename_i h' t0 u0 v0 hrg F3 N3 keep3
  refine fl_range (σ := Unit) (n := wp.length - 1) (fun _ => rest) (fun _ => [(Str.ofString "words", .ref wl)]) (fun _ _ => True) () rfl hrg (small_one (by omega) (by omega) (by omega) (by omega)) (by rw [rangeSize_nat]; omega) F3 N3 (by kst_all) trivial ?turn ?done rfl rfl
  case turn =>
    intro I i t _ u4 h4 tk4 oI hi _ offI lowI F4 N4
    refine gen_post fun QI hQI => ?_
    have ei : (0 : Int) + (i : Int) * 1 = (i : Int) := by omega
    rw [ei] at F4
    have hi1 : i < wp.length := by omega
    have hi2 : i + 1 < wp.length := by omega
    obtain ⟨q1, hq1⟩ : ∃ q, wp[i]? = some q := ⟨_, List.getElem?_eq_getElem hi1⟩
    obtain ⟨q2, hq2⟩ : ∃ q, wp[i + 1]? = some q := ⟨_, List.getElem?_eq_getElem hi2⟩
    obtain ⟨a1, w1, k1, e1, m1, i1⟩ := hw q1 (List.mem_of_getElem? hq1)
    obtain ⟨a2, w2, k2, e2, m2, i2⟩ := hw q2 (List.mem_of_getElem? hq2)
    k_steps
    refine unhold ?_
    refine item_at N4 (List.Mem.tail _ hm) (by first | exact Int.natCast_nonneg _ | omega) (by first | exact fit_lt (by assumption) (Nat.lt_of_le_of_lt (by assumption) (by decide)) | exact fit_lt (by assumption) (Nat.lt_trans (by assumption) (by decide)) | omega) (v := .ref a1) (by simp only [Int.toNat_natCast, List.getElem?_map, hq1, Option.map_some, e1]) ?_
    k_steps
    refine unhold ?_
    refine item_at N4 (List.Mem.tail _ hm) (by first | exact Int.natCast_nonneg _ | omega) (by first | exact fit_lt (by assumption) (Nat.lt_of_le_of_lt (by assumption) (by decide)) | exact fit_lt (by assumption) (Nat.lt_trans (by assumption) (by decide)) | omega) (v := .ref a2) (by rw [show ((i : Int) + 1).toNat = i + 1 by omega]; simp only [List.getElem?_map, hq2, Option.map_some, e2]) ?_
    k_steps
    refine unhold ?_
    refine ctr_use (cmp_list w a1 a2 w1 w2 q1.2 q2.2 k1 k2 _ (List.Mem.tail _ m1) (List.Mem.tail _ m2) i1 i2) B1 F4 X1 N4 T1 rfl (show dp + 1 + 3 < recursionLimit from room hdp (by decide)) (show un + 3 + 60 < cLine from room3 hun (by decide)) ?_
    rintro r news' h7 tk7 F7 N7 ⟨rfl, t7, rfl⟩
    have hc := hr i hi2
    rw [show (wp.map (·.2)).getD i [] = q1.2 by simp [List.getD, hq1], show (wp.map (·.2)).getD (i + 1) [] = q2.2 by simp [List.getD, hq2]] at hc
    rw [hc]
    k_steps
    refine hQI _ _ ?_
    dsimp only [FlPost]
    exact fl_end () F7 N7 (fun p hp => hp) offI (by kst_all) trivial
  case done =>
    intro _ u5 h5 tk5 _ F5 N5
    k_steps
    exact hret _ _ _ _ (by assumption) (by assumption) ⟨rfl, rfl⟩
noncomputable def turnsTo (ns : List Int) : Nat → Nat
  | 0 => 0
  | i + 1 => if ns.getD (i + 1) 0 < ns.getD i 0 then turnsTo ns i + (i + 1) else turnsTo ns i
noncomputable def turnsW (ns : List Int) : Nat := turnsTo ns (ns.length - 1)
theorem turns_ok (w : World) (wa : Addr) (vs : List Value) (ns : List Int) (k : Nat) (rest : List (Addr × Obj))
    (hm : (wa, listOf vs.toArray k) ∈ rest) (hi : IntsAre vs ns) (hsz : ns.length < 1000) :
    Ctr w 177 [.ref wa] rest 6 90 (fun r news' => news' = rest ∧ ∃ t, r = .int (turnsW ns : Nat) t) := by
  unfold Ctr
  k_fill
  intro mean mg mb dp un gd cn cs a ccd cl outer A₀ base h₀ L m s Q E B F X N T hk hdp hun hret
  refine wpAny_call ?_
  k_dflt ktr_enter
  rename_i g1 L1 h1 FG1 F1 N1 B1 X1 T1
  obtain ⟨u, F2⟩ := fr_named [(Str.ofString "word", .ref wa)] F1 (by kst_all)
  clear F1
  have hvl := hi.length
  k_steps
  refine unhold ?_
  refine wpAny_For ?_ (fun _ => rfl)
  k_steps
  refine unhold ?_
  refine len_at (by k_asm) hm (by omega) ?_
  rw [hvl]
  k_steps
  rename_i h' t0 u0 v0 hrg F3 N3 keep3
  refine fl_range (σ := Nat × Tok) (n := ns.length - 1) (fun _ => rest) (fun c => [(Str.ofString "word", .ref wa), (Str.ofString "turns", .int (c.1 : Nat) c.2)]) (fun i c => c.1 = turnsTo ns i) (0, _) rfl hrg (small_one (by omega) (by omega) (by omega) (by omega)) (by rw [rangeSize_nat]; omega) F3 N3 (by kst_all) rfl ?turn ?done rfl rfl
  case turn =>
    rintro I i t ⟨c, tc⟩ u4 h4 tk4 oI hil hc offI lowI F4 N4
    refine gen_post fun QI hQI => ?_
    dsimp only at hc F4
    have ei : (0 : Int) + (i : Int) * 1 = (i : Int) := by omega
    rw [ei] at F4
    have hi1 : i < ns.length := by omega
    have hi2 : i + 1 < ns.length := by omega
    obtain ⟨t1, hq1⟩ := ints_at hi hi1
    obtain ⟨t2, hq2⟩ := ints_at hi hi2
    k_steps
    refine unhold ?_
    refine item_at N4 (List.Mem.tail _ hm) (by first | exact Int.natCast_nonneg _ | omega) (by first | exact fit_lt (by assumption) (Nat.lt_of_le_of_lt (by assumption) (by decide)) | exact fit_lt (by assumption) (Nat.lt_trans (by assumption) (by decide)) | omega) (v := .int ns[i] t1) (by simpa using hq1) ?_
    k_steps
    refine unhold ?_
    refine item_at N4 (List.Mem.tail _ hm) (by first | exact Int.natCast_nonneg _ | omega) (by first | exact fit_lt (by assumption) (Nat.lt_of_le_of_lt (by assumption) (by decide)) | exact fit_lt (by assumption) (Nat.lt_trans (by assumption) (by decide)) | omega) (v := .int ns[i + 1] t2) (by rw [show ((i : Int) + 1).toNat = i + 1 by omega]; exact hq2) ?_
    k_steps
    refine unhold ?_
    refine ctr_use (cmp_int w ns[i] ns[i + 1] t1 t2 _) B1 F4 X1 N4 T1 rfl (show dp + 1 + 3 < recursionLimit from room hdp (by decide)) (show un + 3 + 60 < cLine from room3 hun (by decide)) ?_
    rintro r news' h7 tk7 F7 N7 ⟨rfl, t7, rfl⟩
    have g1 : ns.getD i 0 = ns[i] := by simp [List.getD, hi1]
    have g2 : ns.getD (i + 1) 0 = ns[i + 1] := by simp [List.getD, hi2]
    clear F4 N4
    by_cases hlt : ns[i + 1] < ns[i]
    · rw [show cmpI ns[i] ns[i + 1] = 1 by unfold cmpI b2i; rw [decide_eq_true hlt, decide_eq_false (by omega)]; rfl]
      k_steps
      rename_i h8 F8 N8
      refine hQI _ _ ?_
      dsimp only [FlPost]
      refine fl_end (c + (i + 1), _) F8 N8 (fun p hp => hp) offI (by kst_all) ?_
      show c + (i + 1) = turnsTo ns (i + 1)
      rw [turnsTo, g1, g2, if_pos hlt, hc]
    · have hc0 : cmpI ns[i] ns[i + 1] ≠ 1 := by
        unfold cmpI b2i; rw [decide_eq_false hlt]; intro h
        cases hd : decide (ns[i] < ns[i + 1]) <;> rw [hd] at h <;> simp at h
      k_steps
      · exact absurd (by assumption) hc0
      refine hQI _ _ ?_
      dsimp only [FlPost]
      refine fl_end (c, _) F7 N7 (fun p hp => hp) offI (by kst_all) ?_
      show c = turnsTo ns (i + 1)
      rw [turnsTo, g1, g2, if_neg hlt, hc]
  case done =>
    rintro ⟨c, tc⟩ u5 h5 tk5 hc F5 N5
    dsimp only at hc F5 N5
    subst hc
    k_steps
    exact hret _ _ _ _ (by assumption) (by assumption) ⟨rfl, _, rfl⟩
end Mine
end

-- M9
section
open PySem PySem.W PyProof.Rows
set_option maxRecDepth 100000
set_option maxHeartbeats 8000000
set_option linter.unusedVariables false
namespace Mine
local macro_rules | `(tactic| walk_at "FlPost") => `(tactic| (dsimp only [FlPost]))
local macro_rules | `(tactic| walk_at "call ref") => `(tactic| refine hold ?_)
local macro_rules | `(tactic| walk_at "CompSrc") => `(tactic| refine hold ?_)
local macro_rules | `(tactic| walk_at "call builtin:len") => `(tactic| refine hold ?_)
local macro_rules | `(tactic| walk_at "call builtin:list.index") => `(tactic| refine hold ?_)
local macro_rules | `(tactic| walk_at "exec For Name Call cons nil") => `(tactic| refine hold ?_)
local macro_rules | `(tactic| walk_at "subscriptTail Name Name ref int") => `(tactic| refine hold ?_)
local macro_rules | `(tactic| k_all) => `(tactic| assumption)
set_option pp.deepTerms false
set_option pp.deepTerms.threshold 6
theorem turnsTo_le (ns : List Int) : ∀ i, turnsTo ns i ≤ i * i
  | 0 => Nat.le_refl _
  | i + 1 => by
    have ih := turnsTo_le ns i
    have e : (i + 1) * (i + 1) = i * i + i + i + 1 := by rw [Nat.add_mul, Nat.mul_add]; omega
    unfold turnsTo
    split <;> omega
theorem turnsW_le {ns : List Int} (h : ns.length ≤ 5) : turnsW ns ≤ 16 := by
  have h1 := turnsTo_le ns (ns.length - 1)
  have h2 : (ns.length - 1) * (ns.length - 1) ≤ 4 * 4 := Nat.mul_le_mul (by omega) (by omega)
  unfold turnsW; omega
noncomputable def bothStep (ps ls sz : List Int) (c : Int × Int) (k : Nat) : Int × Int :=
  (c.1 * powersW (sz.getD k 0).toNat, if 0 ≤ ps.getD k 0 ∧ ls.idxOf (ps.getD k 0) < ls.idxOf (k : Int) then c.2 * powersW (k + 1) * 1000 ^ (sz.getD k 0).toNat else c.2 * powersW (k + 1))
noncomputable def bothTo (ws : List (List Int)) (ps ls : List Int) (i : Nat) : Int × Int := (List.range i).foldl (bothStep ps ls (branchesW ps)) ((ws.map fun q => 1000 ^ turnsW q).sum, 1)
noncomputable def bothW (ws : List (List Int)) (ps ls : List Int) : Int × Int := bothTo ws ps ls ps.length
theorem bothTo_succ (ws : List (List Int)) (ps ls : List Int) (i : Nat) : bothTo ws ps ls (i + 1) = bothStep ps ls (branchesW ps) (bothTo ws ps ls i) i := by
  unfold bothTo; rw [List.range_succ, List.foldl_append]; rfl
theorem powersW_short {n : Nat} (h : n ≤ 5) : Builtin.Int.intBits (powersW n) ≤ 64 := by
  rcases n with _ | _ | _ | _ | _ | _ | n
  all_goals first | omega | decide +kernel
theorem pow1000_short {n : Nat} (h : n ≤ 5) : Builtin.Int.intBits ((1000 : Int) ^ n) ≤ 64 := by
  rcases n with _ | _ | _ | _ | _ | _ | n
  all_goals first | omega | decide +kernel
theorem news_drop2 {h₀ h : Heap} {L : Addr} {a b : Addr × Obj} {r : List (Addr × Obj)} (N : News h₀ L h (a :: b :: r)) : News h₀ L h (a :: r) := fun p hp => by
  refine N p ?_
  rcases List.mem_cons.mp hp with rfl | hp
  · exact List.Mem.head _
  · exact List.Mem.tail _ (List.Mem.tail _ hp)
theorem both_ok (w : World) (wl pa la : Addr) (wp : List (Value × List Int)) (vp vl : List Value) (ps ls : List Int) (kw kp kl : Nat) (rest : List (Addr × Obj))
    (hmw : (wl, listOf (wp.map (·.1)).toArray kw) ∈ rest) (hw : WordsIn rest wp) (hwl : wp.length < 1000) (hw5 : ∀ q ∈ wp, q.2.length ≤ 5)
    (hmp : (pa, listOf vp.toArray kp) ∈ rest) (hip : IntsAre vp ps) (hsz : ps.length ≤ 5) (hps : ∀ i : Nat, i < ps.length → -1 ≤ ps.getD i 0 ∧ ps.getD i 0 < (i : Int))
    (hml : (la, listOf vl.toArray kl) ∈ rest) (hil : IntsAre vl ls) (hbr : ∀ x ∈ branchesW ps, 0 ≤ x ∧ x ≤ 5) (hlay : PyData.layable0 (.list (ls.map .int)) = true) (hin : ∀ i : Nat, i < ps.length → (i : Int) ∈ ls) :
    Ctr w 194 [.ref wl, .ref pa, .ref la] rest 9 120 (fun r news' => ∃ t t1 t2 kt, r = .ref t ∧ news' = (t, ({ cls := .type "tuple", data := .seq #[.int (bothW (wp.map (·.2)) ps ls).1 t1, .int (bothW (wp.map (·.2)) ps ls).2 t2] kt } : Obj)) :: rest ∧ ∀ p ∈ rest, p.1 ≠ t) := by
  unfold Ctr
  w_top off
  k_fill
  intro mean mg mb dp un gd cn cs a ccd cl outer A₀ base h₀ L m s Q E B F X N T hk hdp hun hret
  refine wpAny_call ?_
  k_dflt ktr_enter
  rename_i g1 L1 h1 FG1 F1 N1 B1 X1 T1
  obtain ⟨u, F2⟩ := fr_named [(Str.ofString "words", .ref wl), (Str.ofString "parents", .ref pa), (Str.ofString "line", .ref la)] F1 (by kst_all)
  clear F1
  k_steps
  refine unhold ?_
  refine LCg.CompSrc.ledger (by rfl) (by k_asm) (by k_asm) hmw (by rw [List.size_toArray, List.length_map, sizeLine_eq]; omega) ?_
  intro g
  refine lc_rest (fun i ys nw => nw = rest ∧ IntsAre ys ((wp.take i).map fun q => 1000 ^ turnsW q.2)) ⟨rfl, .nil⟩ ?turn1 ?fin1
  case turn1 =>
    rintro i ys nw v I oI C oC D m₂ h tk E' hil2 ⟨rfl, hys⟩ hv hC hx F3 N3 off3 ne3
    refine gen_post fun QI hQI => ?_
    obtain ⟨q, hq, hqv⟩ : ∃ q, wp[i]? = some q ∧ v = q.1 := by
      rw [List.getElem?_toArray, List.getElem?_map] at hv
      cases hz : wp[i]? with
      | none => rw [hz] at hv; cases hv
      | some q => rw [hz] at hv; exact ⟨q, rfl, (Option.some.inj hv).symm⟩
    subst hqv
    obtain ⟨aq, vq, kq, eq, mq, iq⟩ := hw q (List.mem_of_getElem? hq)
    have hq5 := hw5 q (List.mem_of_getElem? hq)
    have htb := turnsW_le hq5
    k_steps
    refine unhold ?_
    rw [eq]
    refine ctr_use (turns_ok w aq vq q.2 kq _ (List.Mem.tail _ (List.Mem.tail _ (List.Mem.tail _ mq))) iq (by omega)) B1 F3 X1 N3 T1 rfl (show dp + 1 + 6 < recursionLimit from room hdp (by decide)) (show un + 3 + 90 < cLine from room3 hun (by decide)) ?_
    rintro r news' h7 tk7 F7 N7 ⟨rfl, t7, rfl⟩
    k_steps
    refine hQI _ _ ?_
    refine LCg.CompEnd.intro F7 N7 nw (fun p hp => hp) off3 (.inr ⟨_, hmw, rfl, _, rfl⟩) ⟨rfl, ?_⟩
    rw [List.take_add_one, hq, List.map_append]
    exact IntsAre.append hys (.cons _ _ .nil)
  case fin1 =>
    rintro ys nw ⟨rfl, hys⟩
    k_steps
    refine unhold ?_
    rename_i hF FF NF
    have NF2 : News g1 L1 hF nw := fun p hp => NF p (List.Mem.tail _ hp)
    clear NF
    refine ctr_use (branches_ok w pa vp ps kp nw hmp hip (by omega) hps) B1 FF X1 NF2 T1 rfl (show dp + 1 + 6 < recursionLimit from room hdp (by decide)) (show un + 3 + 90 < cLine from room3 hun (by decide)) ?_
    rintro r news' h7 tk7 F7 N7 ⟨ra, vr, rfl, hir, rfl, hra⟩
    clear NF2 FF
    k_steps
    refine unhold ?_
    refine wpAny_For ?_ (fun _ => rfl)
    k_steps
    refine unhold ?_
    refine len_at (by k_asm) (List.Mem.tail _ hmp) (by rw [hip.length]; omega) ?_
    rw [hip.length]
    k_steps
    rename_i h8 tk8 t8 u8 v8 hrg F8 N8 keep8
    have hone : ((wp.take (wp.map (·.1)).toArray.size).map fun q => (1000 : Int) ^ turnsW q.2).sum = ((wp.map (·.2)).map fun q => (1000 : Int) ^ turnsW q).sum := by
      rw [List.size_toArray, List.length_map, List.take_of_length_le (Nat.le_refl _), List.map_map]; rfl
    have hbl : (branchesW ps).length = ps.length := by unfold branchesW; rw [fold_len]; simp
    rw [hone] at F8
    refine fl_range (σ := (Int × Int) × Tok × Tok) (n := ps.length) (fun _ => (ra, listOf vr.toArray 0) :: nw)
      (fun c => [(Str.ofString "parents", .ref pa), (Str.ofString "line", .ref la), (Str.ofString "sizes", .ref ra), (Str.ofString "one", .int c.1.1 c.2.1), (Str.ofString "other", .int c.1.2 c.2.2)])
      (fun i c => c.1 = bothTo (wp.map (·.2)) ps ls i) (bothTo (wp.map (·.2)) ps ls 0, _, _) rfl hrg (by first | exact small_nat (Nat.lt_of_le_of_lt (by assumption) (by decide)) | exact small_nat (Nat.lt_trans (by assumption) (by decide)) | exact small_one (by omega) (by omega) (by omega) (by omega)) (by rw [rangeSize_nat]; omega) F8 N8 (by kst_all) rfl ?turn2 ?done2 rfl rfl
    case turn2 =>
      rintro I i t ⟨c, tc1, tc2⟩ u4 h4 tk4 oI hil2 hc offI lowI F4 N4
      refine gen_post fun QI hQI => ?_
      dsimp only at hc F4 N4
      have ei : (0 : Int) + (i : Int) * 1 = (i : Int) := by omega
      rw [ei] at F4
      obtain ⟨ts, hqs⟩ := ints_at hir (show i < (branchesW ps).length by omega)
      obtain ⟨tp, hqp⟩ := ints_at hip hil2
      have hsb := hbr _ (List.getElem_mem (show i < (branchesW ps).length by omega))
      generalize hsz : (branchesW ps)[i]'(by omega) = sz at hqs hsb
      obtain ⟨zn, rfl⟩ : ∃ zn : Nat, sz = (zn : Int) := ⟨sz.toNat, by omega⟩
      have hzn : zn ≤ 5 := by omega
      k_steps
      refine unhold ?_
      refine item_at N4 (List.Mem.tail _ (List.Mem.head _)) (by first | exact Int.natCast_nonneg _ | omega) (by first | exact fit_lt (by assumption) (Nat.lt_of_le_of_lt (by assumption) (by decide)) | exact fit_lt (by assumption) (Nat.lt_trans (by assumption) (by decide)) | omega) (v := .int zn ts) (by simpa using hqs) ?_
      k_steps
      refine unhold ?_
      refine ctr_use (powers_ok w zn ts _ hzn) B1 F4 X1 N4 T1 rfl (show dp + 1 + 6 < recursionLimit from room hdp (by decide)) (show un + 3 + 90 < cLine from room3 hun (by decide)) ?_
      rintro r news' h9 tk9 F9 N9 ⟨rfl, t9, rfl⟩
      clear F4 N4
      have hps1 := powersW_short hzn
      k_steps
      refine unhold ?_
      rename_i h10 F10 N10
      rw [show ((i : Int) + 1) = ((i + 1 : Nat) : Int) from rfl]
      refine ctr_use (powers_ok w (i + 1) _ _ (by omega)) B1 F10 X1 N10 T1 rfl (show dp + 1 + 6 < recursionLimit from room hdp (by decide)) (show un + 3 + 90 < cLine from room3 hun (by decide)) ?_
      rintro r news' h11 tk11 F11 N11 ⟨rfl, t11, rfl⟩
      clear F10 N10
      have hps2 := powersW_short (show i + 1 ≤ 5 by omega)
      k_steps
      refine unhold ?_
      rename_i h12 F12 N12
      refine item_at N12 (List.Mem.tail _ (List.Mem.tail _ hmp)) (by first | exact Int.natCast_nonneg _ | omega) (by first | exact fit_lt (by assumption) (Nat.lt_of_le_of_lt (by assumption) (by decide)) | exact fit_lt (by assumption) (Nat.lt_trans (by assumption) (by decide)) | omega) (v := .int ps[i] tp) (by simpa using hqp) ?_
      have N13 : News g1 L1 h12 ((la, listOf vl.toArray kl) :: (I, oI) :: (ra, listOf vr.toArray 0) :: nw) := fun p hp => by
        rcases List.mem_cons.mp hp with rfl | hp
        · exact N12 _ (List.Mem.tail _ (List.Mem.tail _ hml))
        · exact N12 p hp
      have hgp : ps.getD i 0 = ps[i] := by simp [List.getD, hil2]
      have hgz : (branchesW ps).getD i 0 = (zn : Int) := by rw [← hsz]; simp [List.getD, show i < (branchesW ps).length by omega]
      have hpi := hps i hil2
      rw [hgp] at hpi
      by_cases hp0 : 0 ≤ ps[i]
      · have hpin : ps[i] ∈ ls := by
          have := hin ps[i].toNat (by omega)
          rwa [show ((ps[i].toNat : Nat) : Int) = ps[i] by omega] at this
        clear N12
        k_steps
        refine unhold ?_
        refine index_list_ints (isL N13 (List.Mem.head _)) hil hlay (hin i hil2) ?_
        k_steps
        refine unhold ?_
        refine item_at N13 (List.Mem.tail _ (List.Mem.tail _ (List.Mem.tail _ hmp))) (by first | exact Int.natCast_nonneg _ | omega) (by first | exact fit_lt (by assumption) (Nat.lt_of_le_of_lt (by assumption) (by decide)) | exact fit_lt (by assumption) (Nat.lt_trans (by assumption) (by decide)) | omega) (v := .int ps[i] tp) (by simpa using hqp) ?_
        k_steps
        refine unhold ?_
        refine index_list_ints (isL N13 (List.Mem.head _)) hil hlay hpin ?_
        by_cases hlt : ls.idxOf ps[i] < ls.idxOf (i : Int)
        · have hps3 : Builtin.Int.intBits ((1000 : Int) ^ ((zn : Int)).toNat) ≤ 64 := by rw [Int.toNat_natCast]; exact pow1000_short hzn
          k_steps
          refine unhold ?_
          refine item_at N13 (List.Mem.tail _ (List.Mem.tail _ (List.Mem.head _))) (by first | exact Int.natCast_nonneg _ | omega) (by first | exact fit_lt (by assumption) (Nat.lt_of_le_of_lt (by assumption) (by decide)) | exact fit_lt (by assumption) (Nat.lt_trans (by assumption) (by decide)) | omega) (v := .int zn ts) (by simpa using hqs) ?_
          k_steps
          rename_i h14 F14 N14
          refine hQI _ _ ?_
          dsimp only [FlPost]
          refine fl_end ((c.1 * powersW zn, c.2 * powersW (i + 1) * 1000 ^ ((zn : Int)).toNat), _, _) F14 N14 (fun p hp => List.Mem.tail _ hp) offI (by kst_all) ?_
          show _ = bothTo (wp.map (·.2)) ps ls (i + 1)
          rw [bothTo_succ, ← hc, bothStep, hgz, hgp, if_pos ⟨hp0, hlt⟩]
          rfl
        · k_steps
          refine hQI _ _ ?_
          dsimp only [FlPost]
          refine fl_end ((c.1 * powersW zn, c.2 * powersW (i + 1)), _, _) F12 N13 (fun p hp => List.Mem.tail _ hp) offI (by kst_all) ?_
          show _ = bothTo (wp.map (·.2)) ps ls (i + 1)
          rw [bothTo_succ, ← hc, bothStep, hgz, hgp, if_neg (fun q => hlt q.2)]
          rfl
      · clear N13
        k_steps
        refine hQI _ _ ?_
        dsimp only [FlPost]
        refine fl_end ((c.1 * powersW zn, c.2 * powersW (i + 1)), _, _) F12 N12 (fun p hp => hp) offI (by kst_all) ?_
        show _ = bothTo (wp.map (·.2)) ps ls (i + 1)
        rw [bothTo_succ, ← hc, bothStep, hgz, hgp, if_neg (fun q => hp0 q.1)]
        rfl
    case done2 =>
      rintro ⟨c, tc1, tc2⟩ u5 h5 tk5 hc F5 N5
      dsimp only at hc F5 N5
      subst hc
      k_steps
      rename_i D hh FF NN lD kF NR _ _
      exact hret _ _ _ _ kF (news_drop2 NR) ⟨D, _, _, _, rfl, rfl, fun p hp => Nat.ne_of_lt (allLt_mem lD.2 p hp)⟩
end Mine
end

-- M15
section
open PySem PySem.W PyProof.Rows
set_option maxRecDepth 100000
set_option maxHeartbeats 8000000
set_option linter.unusedVariables false
namespace Mine
local macro_rules | `(tactic| walk_at "FlPost") => `(tactic| (dsimp only [FlPost]))
local macro_rules | `(tactic| walk_at "call ref") => `(tactic| refine hold ?_)
local macro_rules | `(tactic| walk_at "compareOp In str ref") => `(tactic| refine hold ?_)
local macro_rules | `(tactic| walk_at "exec For Name Attribute cons nil") => `(tactic| refine hold ?_)
local macro_rules | `(tactic| walk_at "setItem ref str") => `(tactic| refine hold ?_)
local macro_rules | `(tactic| walk_at "call builtin:str.join") => `(tactic| refine hold ?_)
local macro_rules | `(tactic| k_all) => `(tactic| assumption)
set_option pp.deepTerms false
set_option pp.deepTerms.threshold 6
noncomputable def toldV (mods dirs : List Str) (fn mn : Str) : Int :=
  if mods.contains mn = true then 1 else if (mods.any fun m => Txt.startswith mn (m ++ Str.ofString ".")) = true then 1 else if (dirs.any fun d => Txt.startswith fn (d ++ Str.ofString "/")) = true then 1 else 0
section
variable {prog : Program} {w : World} {A : Around} {E : Value → Shared → Prop} {Q : Flow → Shared → Prop} {s : Shared} {env : Env} {h₀ : Heap}
/-- for x in a list of the ledger, at the list's iter -/
theorem fl_lst {σ : Type} {x : Str} {px : Pos} {body : List Stmt} {ax : Addr} {vs : List Value} {kv : Nat} {m₀ : Str → Option Value}
    (Led₁ : σ → List (Addr × Obj)) (ps : σ → List (Str × Value)) (P : Nat → σ → Prop) (c₀ : σ)
    (hh : A.handled = none) (hsrc : ∀ c, (ax, listOf vs.toArray kv) ∈ Led₁ c)
    (F : Fr h₀ env.locals s.heap m₀) (N : News h₀ env.locals s.heap (Led₁ c₀)) (hk : ∀ p ∈ ps c₀, m₀ p.1 = some p.2) (hP : P 0 c₀)
    (turn : ∀ I i v (c : σ) (u : Str → Option Value) h tk oI, vs[i]? = some v → P i c → (∀ p ∈ Led₁ c, p.1 ≠ I) → (∀ p ∈ Led₁ c₀, p.1 < I) → Fr h₀ env.locals h (fun y => if y = x then some v else kstB u (ps c) y) → News h₀ env.locals h ((I, oI) :: Led₁ c) →
      wpAny (model prog w) A (execs body env) (FlPost h₀ env.locals s I oI Led₁ ps (P (i + 1)) Q) E { s with heap := h, toks := tk })
    (done : ∀ (c : σ) (u : Str → Option Value) h tk, P vs.length c → Fr h₀ env.locals h (kstB u (ps c)) → News h₀ env.locals h (Led₁ c) → Q .next { s with heap := h, toks := tk })
    (hx : env.kindOf x = some .local) (hp : (env.scope.kind == .class || (env.scope.kind == .module && env.locals != env.globals)) = false)
    (hE : PassesOwn (model prog w) A env E := by passes_own) :
    wpAny (model prog w) A (pyIter (.ref ax)) (fun it s₂ => codeAny (model prog w) A (.forLoop (.Name x px) it body [] env) (fun r s' => match r with | .ok f => Q f s' | .error e => cameBackBy (model prog w) A env E e s') s₂) E s := by
  have hl : s.heap.IsList ax vs.toArray := ⟨_, N.get (hsrc c₀), rfl, _, rfl⟩
  have hlt := Heap.lt_size (N.get (hsrc c₀))
  refine wpAny_pyIter_list hl ?_
  have up : ∀ b o, s.heap.get? b = some o → (s.heap.push { cls := .type "list_iterator", data := .fields #[.ref ax, .int 0 0] }).get? b = some o := fun b o e => Heap.get?_push_of_some _ e
  have W := Walks.list (prog := prog) (w := w) hh s.heap.objs.size ax (Nat.ne_of_lt hlt) vs.toArray
  rw [List.size_toArray] at W
  refine fl (s := { s with heap := s.heap.push { cls := .type "list_iterator", data := .fields #[.ref ax, .int 0 0] } }) Led₁ ps P c₀ W (fun i h st => by obtain ⟨o, e, _⟩ := st.1; exact ⟨o, e⟩) (fun b hb hbI => ?_) (Nat.ne_of_gt F.ns.lt) (next_is_new F)
    ⟨⟨_, Heap.get?_push_size _ rfl, rfl, rfl⟩, hl.push _⟩ (F.keeps up) (N.grown up) (fun p hp => Nat.ne_of_lt (Heap.lt_size (N p hp).1)) hk hP ?_ done hx hp hE
  · rcases List.mem_cons.mp hb with rfl | hb
    · exact absurd rfl hbI
    · rw [List.mem_singleton.mp hb]; exact ⟨_, hsrc⟩
  · intro i v c u h tk oI _ hv hc off F' N'
    exact turn _ i v c u h tk oI (by simpa using hv) hc off (fun p hp => Heap.lt_size (N p hp).1) F' N'
end
noncomputable def NamesPost (w : World) (r : Rdr) (val : Int) (mn : Str) (D : List (PyData × PyData)) (rest : List (Addr × Obj)) (v : Value) (news' : List (Addr × Obj)) : Prop :=
  ∃ io' kvs' D' t, v = .int val t ∧ news' = (r.ig, io') :: (r.led w ++ rest) ∧ io'.IsDictOf (strKind Challenge.rw_oy0105_01.row.prog w) kvs' ∧ PyProof.V.FlatPairs PyData.str kvs' D' ∧ (D' = D ∨ D' = PyProof.V.putD (.str mn) (.int val) D)
theorem names_ok (w : World) (r : Rdr) (fn mn : Str) (tf tm : Tok) (mods dirs : List Str) (D : List (PyData × PyData)) (rest : List (Addr × Obj)) (val : Int)
    (hr : r.Ok w mods dirs D) (hap : ∀ p ∈ r.led w ++ rest, p.1 ≠ r.ig) (hfn : fn.length ≤ 300) (hmn : mn.length ≤ 300) (hDl : D.length ≤ 100) (hml : ∀ m ∈ mods, m.length ≤ 300) (hdl : ∀ m ∈ dirs, m.length ≤ 300) (hd1 : dirs.length ≤ 100)
    (hval : toldV mods dirs fn mn = val) (hD : ∀ d, Spec.lookup (.str mn) D = some d → d = .int val) :
    Ctr w 118 [.ref r.x, .str fn tf, .str mn tm] ((r.ig, r.io) :: (r.led w ++ rest)) 6 130 (NamesPost w r val mn D rest) := by
  unfold Ctr
  w_top off
  k_fill
  intro mean mg mb dp un gd cn cs a ccd cl outer A₀ base h₀ L m s Q E B F X N T hk' hdp hun hret
  refine wpAny_call ?_
  k_dflt ktr_enter
  rename_i g1 L1 h1 FG1 F1 N1 B1 X1 T1
  obtain ⟨u, F2⟩ := fr_named [(Str.ofString "self", .ref r.x), (Str.ofString "filename", .str fn tf), (Str.ofString "modulename", .str mn tm)] F1 (by kst_all)
  clear F1
  obtain ⟨hso, hdv, hio, hfl, hlo⟩ := hr
  obtain ⟨hcls, ⟨es, ep, tb, hsd, hfit, hs1, hled, hsl, hsx⟩, hsobj⟩ := hso
  have hT : StrTab Challenge.rw_oy0105_01.row.prog w h1 r.ig D := TabAt.ofNews N1 (List.Mem.head _) hlo hio hfl
  have N1' : News g1 L1 h1 ((r.ig, r.io) :: (r.dl, listOf r.dv.toArray r.kd) :: (r.sm, r.so) :: (r.x, instObj 121 r.dx) :: (r.dx, dictOf (r.entries w) r.nd) :: rest) := N1
  k_steps
  refine unhold ?_
  refine in_strTab hT ?_
  cases hlk : Spec.lookup (.str mn) D with
  | some d =>
    rw [show (some d).isSome = true from rfl]
    obtain rfl := hD d hlk
    k_steps
    rename_i tv kF kN _ _
    exact hret _ _ _ _ kF kN ⟨r.io, r.kvs, D, _, rfl, rfl, hio, hfl, .inl rfl⟩
  | none =>
    rw [show (none : Option PyData).isSome = false from rfl]
    k_steps
    refine unhold ?_
    refine kse_in (news := [(r.sm, r.so)]) (fun p hp => N1' p (by rw [List.mem_singleton.mp hp]; exact List.Mem.tail _ (List.Mem.tail _ (List.Mem.head _)))) (.head (fun p hp => nomatch hp)) hsobj (by rw [← hsl]; have : scanBound = 4096 := rfl; omega) (strKind_is _ _ _ _) rfl ?_
    by_cases hmods : mods.contains mn = true
    · rw [hmods]
      have hv1 : (1 : Int) = val := by rw [← hval]; unfold toldV; rw [if_pos hmods]
      subst hv1
      k_steps
      refine unhold ?_
      refine setItem_made_str (dv := .int 1) (PyProof.V.Flat.int _ _) F2 N1 hap hio hfl ?_ (by rw [sizeLine_eq]; omega)
      intro h20 io20 F20 N20 hio20 hfl20
      k_steps
      rename_i kF kN _ _
      exact hret _ _ _ _ kF kN ⟨io20, _, _, _, rfl, rfl, hio20, hfl20, .inr rfl⟩
    · rw [Bool.not_eq_true] at hmods
      rw [hmods]
      k_steps
      refine unhold ?_
      refine wpAny_For ?_ (fun _ => rfl)
      k_steps
      refine fl_set (σ := Unit) (fun _ => (r.ig, r.io) :: (r.led w ++ rest)) (fun _ => [(Str.ofString "self", .ref r.x), (Str.ofString "filename", .str fn tf), (Str.ofString "modulename", .str mn tm)])
        (fun i _ => ∀ j, j < i → ∀ q, mods[j]? = some q → Txt.startswith mn (q ++ Str.ofString ".") = false) () rfl hcls hsd hfit hs1 hled (fun _ => List.Mem.tail _ (List.Mem.tail _ (List.Mem.head _))) F2 N1 (by kst_all) (fun j hj => absurd hj (Nat.not_lt_zero _)) ?turn ?done rfl rfl
      case turn =>
        rintro I i v c' u4 h4 tk4 oI ⟨hs, hes⟩ hP offI lowI F4 N4
        obtain ⟨x, tkx, hx, hvx⟩ := hsx i hs v hes
        subst hvx
        have hxl := hml x (List.mem_of_getElem? hx)
        have hxx := hap
        by_cases hst : Txt.startswith mn (x ++ Str.ofString ".") = true
        · have hv1 : (1 : Int) = val := by
            rw [← hval]; unfold toldV
            rw [if_neg (by rw [hmods]; decide), if_pos (List.any_eq_true.mpr ⟨x, List.mem_of_getElem? hx, hst⟩)]
          subst hv1
          have N5 := news_swap N4
          have hap5 : ∀ p ∈ (I, oI) :: (r.led w ++ rest), p.1 ≠ r.ig := fun p hp => by
            rcases List.mem_cons.mp hp with rfl | hp
            · exact (offI _ (List.Mem.head _)).symm
            · exact hap p hp
          k_steps
          refine unhold ?_
          refine setItem_made_str (dv := .int 1) (PyProof.V.Flat.int _ _) F4 N5 hap5 hio hfl ?_ (by rw [sizeLine_eq]; omega)
          intro h20 io20 F20 N20 hio20 hfl20
          k_steps
          rename_i kF kN _ _
          exact hret _ _ _ _ kF (news_drop2 kN) ⟨io20, _, _, _, rfl, rfl, hio20, hfl20, .inr rfl⟩
        · rw [Bool.not_eq_true] at hst
          k_steps
          refine fl_end () F4 N4 (fun p hp => hp) offI (by kst_all) (fun j hj q hq => ?_)
          rcases Nat.lt_or_ge j i with h | h
          · exact hP j h q hq
          · obtain rfl : j = i := by omega
            rw [hx] at hq
            rw [← Option.some.inj hq]
            exact hst
      case done =>
        rintro c' u4 h4 tk4 hP F4 N4
        have hany : (mods.any fun m => Txt.startswith mn (m ++ Str.ofString ".")) = false := by
          rw [List.any_eq_false]
          intro q hq
          obtain ⟨j, hj, hjq⟩ := List.mem_iff_getElem.mp hq
          have := hP j (by rw [hsl]; exact hj) q (by rw [List.getElem?_eq_getElem hj, hjq])
          rw [this]; decide
        clear F2 N1 N1' hT
        k_steps
        refine unhold ?_
        refine wpAny_For ?_ (fun _ => rfl)
        k_steps
        refine fl_lst (σ := Unit) (ax := r.dl) (vs := r.dv) (kv := r.kd) (fun _ => (r.ig, r.io) :: (r.led w ++ rest)) (fun _ => [(Str.ofString "self", .ref r.x), (Str.ofString "filename", .str fn tf), (Str.ofString "modulename", .str mn tm)])
          (fun i _ => ∀ j, j < i → ∀ q, dirs[j]? = some q → Txt.startswith fn (q ++ Str.ofString "/") = false) () rfl (fun _ => List.Mem.tail _ (List.Mem.head _)) F4 N4 (by kst_all) (fun j hj => absurd hj (Nat.not_lt_zero _)) ?turnD ?doneD rfl rfl
        case turnD =>
          rintro I i v c' u5 h5 tk5 oI hv hP2 offI lowI F5 N5
          obtain ⟨x, tkx, hvx, hx⟩ := hdv.item i v hv
          subst hvx
          have hxl := hdl x (List.mem_of_getElem? hx)
          by_cases hst : Txt.startswith fn (x ++ Str.ofString "/") = true
          · have hv1 : (1 : Int) = val := by
              rw [← hval]; unfold toldV
              rw [if_neg (by rw [hmods]; decide), if_neg (by rw [hany]; decide), if_pos (List.any_eq_true.mpr ⟨x, List.mem_of_getElem? hx, hst⟩)]
            subst hv1
            have N6 := news_swap N5
            have hap6 : ∀ p ∈ (I, oI) :: (r.led w ++ rest), p.1 ≠ r.ig := fun p hp => by
              rcases List.mem_cons.mp hp with rfl | hp
              · exact (offI _ (List.Mem.head _)).symm
              · exact hap p hp
            k_steps
            refine unhold ?_
            refine setItem_made_str (dv := .int 1) (PyProof.V.Flat.int _ _) F5 N6 hap6 hio hfl ?_ (by rw [sizeLine_eq]; omega)
            intro h20 io20 F20 N20 hio20 hfl20
            k_steps
            rename_i kF kN _ _
            exact hret _ _ _ _ kF (news_drop2 kN) ⟨io20, _, _, _, rfl, rfl, hio20, hfl20, .inr rfl⟩
          · rw [Bool.not_eq_true] at hst
            k_steps
            refine fl_end () F5 N5 (fun p hp => hp) offI (by kst_all) (fun j hj q hq => ?_)
            rcases Nat.lt_or_ge j i with h | h
            · exact hP2 j h q hq
            · obtain rfl : j = i := by omega
              rw [hx] at hq
              rw [← Option.some.inj hq]
              exact hst
        case doneD =>
          rintro c' u5 h5 tk5 hP2 F5 N5
          have hany2 : (dirs.any fun m => Txt.startswith fn (m ++ Str.ofString "/")) = false := by
            rw [List.any_eq_false]
            intro q hq
            obtain ⟨j, hj, hjq⟩ := List.mem_iff_getElem.mp hq
            have := hP2 j (by rw [hdv.len_eq]; exact hj) q (by rw [List.getElem?_eq_getElem hj, hjq])
            rw [this]; decide
          have hv0 : (0 : Int) = val := by
            rw [← hval]; unfold toldV
            rw [if_neg (by rw [hmods]; decide), if_neg (by rw [hany]; decide), if_neg (by rw [hany2]; decide)]
          subst hv0
          k_steps
          refine unhold ?_
          refine setItem_made_str (dv := .int 0) (PyProof.V.Flat.int _ _) F5 N5 hap hio hfl ?_ (by rw [sizeLine_eq]; omega)
          intro h20 io20 F20 N20 hio20 hfl20
          k_steps
          rename_i kF kN _ _
          exact hret _ _ _ _ kF kN ⟨io20, _, _, _, rfl, rfl, hio20, hfl20, .inr rfl⟩
end Mine
end

-- M16
section
open PySem PySem.W PyProof.Rows
set_option maxRecDepth 100000
set_option maxHeartbeats 8000000
set_option linter.unusedVariables false
namespace Mine
local macro_rules | `(tactic| walk_at "call ref") => `(tactic| refine hold ?_)
local macro_rules | `(tactic| walk_at "call builtin:str.join") => `(tactic| refine hold ?_)
local macro_rules | `(tactic| k_all) => `(tactic| assumption)
set_option pp.deepTerms false
set_option pp.deepTerms.threshold 6
noncomputable def fileOf (row : List Str) : Str := Str.join (Str.ofString "/") row ++ Str.ofString "/x.py"
noncomputable def nameOf (row : List Str) : Str := Str.join (Str.ofString ".") row
theorem told_ok (w : World) (r : Rdr) (pa : Addr) (vs : List Value) (row : List Str) (n : Nat) (mods dirs : List Str) (D : List (PyData × PyData)) (rest : List (Addr × Obj)) (val : Int)
    (hm : (pa, listOf vs.toArray n) ∈ rest) (hi : StrsAre vs row) (hsz : (row.map (·.length)).sum + row.length ≤ 100) (hj1 : (Str.join (Str.ofString "/") row).length ≤ 100) (hj2 : (nameOf row).length ≤ 100)
    (hr : r.Ok w mods dirs D) (hap : ∀ p ∈ r.led w ++ rest, p.1 ≠ r.ig) (hDl : D.length ≤ 100) (hml : ∀ m ∈ mods, m.length ≤ 300) (hdl : ∀ m ∈ dirs, m.length ≤ 300) (hd1 : dirs.length ≤ 100)
    (hval : toldV mods dirs (fileOf row) (nameOf row) = val) (hD : ∀ d, Spec.lookup (.str (nameOf row)) D = some d → d = .int val) :
    Ctr w 153 [.ref r.x, .ref pa] ((r.ig, r.io) :: (r.led w ++ rest)) 16 290 (NamesPost w r val (nameOf row) D rest) := by
  unfold Ctr
  w_top off
  k_fill
  intro mean mg mb dp un gd cn cs a ccd cl outer A₀ base h₀ L m s Q E B F X N T hk' hdp hun hret
  refine wpAny_call ?_
  k_dflt ktr_enter
  rename_i g1 L1 h1 FG1 F1 N1 B1 X1 T1
  obtain ⟨u, F2⟩ := fr_named [(Str.ofString "reader", .ref r.x), (Str.ofString "row", .ref pa)] F1 (by kst_all)
  clear F1
  have hmN : (pa, listOf vs.toArray n) ∈ (r.ig, r.io) :: (r.led w ++ rest) := List.Mem.tail _ (List.mem_append_right _ hm)
  k_steps
  refine unhold ?_
  refine join_at N1 hmN hi hsz (by decide) ?_
  intro t1 k1
  k_steps
  refine unhold ?_
  refine join_at N1 hmN hi hsz (by decide) ?_
  intro t2 k2
  k_steps
  refine unhold ?_
  rename_i tf kf hlf
  refine ctr_use (names_ok w r (fileOf row) (nameOf row) _ _ mods dirs D rest val hr hap (by
    have h1 : (Str.ofString "/x.py").length = 5 := by decide
    have h2 : (fileOf row).length ≤ (Str.join (Str.ofString "/") row).length + (Str.ofString "/x.py").length := hlf.2
    omega) (by omega) hDl hml hdl hd1 hval hD) B1 F2 X1 N1 T1 rfl (show dp + 1 + 6 < recursionLimit from room hdp (by decide)) (show un + 3 + 130 < cLine from room3 hun (by decide)) ?_
  rintro v news' h7 tk7 F7 N7 ⟨io', kvs', D', t7, rfl, rfl, q1, q2, q3⟩
  k_steps
  exact hret _ _ _ _ (by assumption) (by assumption) ⟨io', kvs', D', t7, rfl, rfl, q1, q2, q3⟩
end Mine
end

-- KitZ
section
open PySem PySem.W PyProof.Rows PySem.Calls
set_option maxRecDepth 100000
set_option maxHeartbeats 8000000
set_option linter.unusedVariables false
namespace Mine
section
variable {prog : Program} {w : World} {A : Around} {E : Value → Shared → Prop} {s : Shared} {h₀ : Heap} {m : Str → Option Value} {env : Env}
theorem ne_by {h : Heap} {L : Addr} {news : List (Addr × Obj)} {p q : Addr × Obj} (N : News h₀ L h news) (hp : p ∈ news) (hq : q ∈ news) (hd : p.2.data ≠ q.2.data) : p.1 ≠ q.1 := fun e => by
  have h1 := (N p hp).1
  have h2 := (N q hq).1
  rw [e, h2] at h1
  exact hd (congrArg Obj.data (Option.some.inj h1)).symm
/-- a name that is a cell is stored -/
theorem cell_store {x : Str} {K : Addr} {oK : Obj} {ck : Option Value} {v : Value} {news : List (Addr × Obj)} {Q : Unit → Shared → Prop} (F : Fr h₀ env.locals s.heap m) (N : News h₀ env.locals s.heap news) (hm : (K, oK) ∈ news) (hd : oK.data = .cell ck)
    (hks : env.scope.kind = .function) (hkx : env.kindOf x = some .cell) (hcl : env.cells.lookup x = some K) (sub : List (Addr × Obj)) (hsub : ∀ p ∈ sub, p ∈ news ∧ p.1 ≠ K)
    (h : ∀ h' oK', oK'.data = .cell (some v) → Fr h₀ env.locals h' m → News h₀ env.locals h' ((K, oK') :: sub) → Q () { s with heap := h' }) :
    wpAny (model prog w) A (storeName env x v) Q E s := by
  have hK := N _ hm
  refine wpAny_storeName_cell (c := K) (v₀ := ck) hks hkx hcl ⟨oK, hK.1, hd⟩ fun h₃ hc₃ hs₃ => ?_
  obtain ⟨oK', heK, hdK⟩ := hc₃
  refine h h₃ oK' hdK (F.change hs₃ hK.2.1 hK.2.2) fun p hp => ?_
  rcases List.mem_cons.mp hp with rfl | hp
  · exact ⟨heK, hK.2⟩
  · obtain ⟨h1, h2⟩ := hsub p hp
    have z := N p h1
    exact ⟨(hs₃.2 _ h2).trans z.1, z.2⟩
end
end Mine
end

-- M17
section
open PySem PySem.W PyProof.Rows
set_option maxRecDepth 100000
set_option maxHeartbeats 8000000
set_option linter.unusedVariables false
namespace Mine
local macro_rules | `(tactic| walk_at "FlPost") => `(tactic| (dsimp only [FlPost]))
local macro_rules | `(tactic| walk_at "call ref") => `(tactic| refine hold ?_)
local macro_rules | `(tactic| walk_at "CompSrc") => `(tactic| refine hold ?_)
local macro_rules | `(tactic| walk_at "CompSrcT") => `(tactic| refine hold ?_)
local macro_rules | `(tactic| walk_at "call builtin:len") => `(tactic| refine hold ?_)
local macro_rules | `(tactic| walk_at "call builtin:list.append") => `(tactic| refine hold ?_)
local macro_rules | `(tactic| walk_at "exec For Name Call cons nil") => `(tactic| refine hold ?_)
local macro_rules | `(tactic| walk_at "exec Assign cons ListComp") => `(tactic| refine hold ?_)
local macro_rules | `(tactic| walk_at "eval ListComp") => `(tactic| refine hold ?_)
local macro_rules | `(tactic| walk_at "subscriptTail Name Name ref int") => `(tactic| refine hold ?_)
local macro_rules | `(tactic| walk_at "subscriptTail") => `(tactic| refine hold ?_)
local macro_rules | `(tactic| k_all) => `(tactic| assumption)
set_option pp.deepTerms false
set_option pp.deepTerms.threshold 6
noncomputable def rdrMods (i : Nat) (R : List Str) : List Str := if i % 2 = 0 then [nameOf R] else []
noncomputable def rdrDirs (i : Nat) (R : List Str) : List Str := if i % 2 = 0 then [] else [Str.join (Str.ofString "/") R]
noncomputable def rowAt (rs : List (List Str)) (k : Int) : List Str := rs.getD k.toNat []
noncomputable def toldAt (rs : List (List Str)) (ls : List Int) (i : Nat) (k : Int) : Int := toldV (rdrMods i (rowAt rs (ls.getD i 0))) (rdrDirs i (rowAt rs (ls.getD i 0))) (fileOf (rowAt rs k)) (nameOf (rowAt rs k))
noncomputable def underRow (rs : List (List Str)) (ls : List Int) (i : Nat) : List Int := (rangeKs 0 ls.length).filter (fun o => (ls.map (toldAt rs ls i)).getD o.toNat 0 == 1)
noncomputable def underTo (rs : List (List Str)) (ls : List Int) : Nat → List (List Int)
  | 0 => []
  | i + 1 => underTo rs ls i ++ [underRow rs ls i]
noncomputable def GoodRow (row : List Str) : Prop := (row.map (·.length)).sum + row.length ≤ 100 ∧ (Str.join (Str.ofString "/") row).length ≤ 100 ∧ (nameOf row).length ≤ 100 ∧ GoodPath (Str.join (Str.ofString "/") row) ∧ nameOf row ≠ Str.ofString "<string>"
theorem adr3 {a b : Nat} (h : a + 1 + 1 + 1 < b) : b ≠ a + 1 ∧ b ≠ a + 1 + 1 ∧ b ≠ a + 1 + 1 + 1 := by omega
theorem adr4 {a b : Nat} (h : b < a) : b ≠ a + 1 ∧ b ≠ a + 1 + 1 ∧ b ≠ a + 1 + 1 + 1 := by omega
theorem lookup_first {x y : Str} {e d : PyData} (h : Spec.lookup (.str x) [(.str y, e)] = some d) : x = y := by
  by_cases hxy : x = y
  · exact hxy
  · exfalso
    have h2 := lookup_putD_str x y e []
    rw [if_neg hxy] at h2
    have h3 : PyProof.V.putD (.str y) e [] = [(.str y, e)] := rfl
    rw [h3, h] at h2
    cases h2
theorem underTo_length (rs : List (List Str)) (ls : List Int) : ∀ i, (underTo rs ls i).length = i
  | 0 => rfl
  | i + 1 => by rw [underTo, List.length_append, underTo_length rs ls i]; rfl
theorem off1_at {D : Addr} : ∀ {l : List (Addr × Obj)}, LCg.Off1 D l → ∀ p ∈ l, p.1 ≠ D
  | [], _, _, h => nomatch h
  | _ :: _, x, p, h => by
    rcases List.mem_cons.mp h with rfl | h
    · exact x.1
    · exact off1_at x.2 p h
theorem foldl_filt0 (f : Int → Bool) : ∀ (ks l : List Int), ks.foldl (fun l k => if f k = true then l ++ [k] else l) l = l ++ ks.filter f
  | [], l => by simp
  | k :: ks, l => by
    rw [List.foldl_cons, foldl_filt0 f ks, List.filter_cons]
    split <;> simp
theorem foldl_filt (f : Int → Bool) (ks : List Int) : ks.foldl (fun l k => if f k = true then l ++ [k] else l) [] = ks.filter f := by rw [foldl_filt0, List.nil_append]
theorem dict_not_cell {w : World} {o : Obj} {kvs : List (Str × Value)} (h : o.IsDictOf (strKind Challenge.rw_oy0105_01.row.prog w) kvs) : ∀ v, o.data ≠ .cell v := by
  intro v hc
  obtain ⟨es, ep, _, hd, _⟩ := h
  rw [hd] at hc
  cases hc
theorem reader_ok (w : World) (i : Nat) (tk0 : Tok) (pa : Addr) (vs : List Value) (row : List Str) (n : Nat) (rest : List (Addr × Obj)) (hm : (pa, listOf vs.toArray n) ∈ rest) (hi : StrsAre vs row) (hg : GoodRow row) :
    Ctr w 146 [.int i tk0, .ref pa] rest 16 290 (RdrPost w (rdrMods i row) (rdrDirs i row) rest) := by
  have e : ((i : Int)).fmod 2 = ((i % 2 : Nat) : Int) := by rw [Int.fmod_eq_emod_of_nonneg _ (by decide)]; omega
  rcases Nat.mod_two_eq_zero_or_one i with h | h
  · have := reader_ok0 w (i : Int) tk0 pa vs row n rest hm hi hg.1 (by rw [e, h]; rfl)
    unfold rdrMods rdrDirs
    rw [if_pos h, if_pos h]
    exact this
  · have := reader_ok1 w (i : Int) tk0 pa vs row n rest hm hi hg.1 (by rw [e, h]; rfl) hg.2.2.2.1
    unfold rdrMods rdrDirs
    rw [if_neg (by omega), if_neg (by omega)]
    exact this
theorem under_ok (w : World) (ra la : Addr) (rp : List (Value × List Str)) (vl : List Value) (ls : List Int) (kr kl : Nat) (rest : List (Addr × Obj))
    (hmr : (ra, listOf (rp.map (·.1)).toArray kr) ∈ rest) (hrows : RowsIn rest rp) (hml : (la, listOf vl.toArray kl) ∈ rest) (hil : IntsAre vl ls) (hl5 : ls.length ≤ 5) (hlr : ∀ k ∈ ls, 0 ≤ k ∧ k < (rp.length : Int))
    (hgood : ∀ q ∈ rp, GoodRow q.2) (hinj : ∀ q ∈ rp, ∀ q' ∈ rp, nameOf q.2 = nameOf q'.2 → q.2 = q'.2) (hrl : rp.length ≤ 5) :
    Ctr w 158 [.ref ra, .ref la] rest 20 400 (fun v news' => ∃ ua xs ku ob, v = .ref ua ∧ news' = (ua, listOf (xs.map (·.1)).toArray ku) :: (ob ++ rest) ∧ WordsIn (ob ++ rest) xs ∧ xs.map (·.2) = underTo (rp.map (·.2)) ls ls.length ∧ ∀ p ∈ ob ++ rest, p.1 ≠ ua) := by
  unfold Ctr
  w_top off
  k_fill
  intro mean mg mb dp un gd cn cs a ccd cl outer A₀ base h₀ L m s Q E B F X N T hk' hdp hun hret
  refine wpAny_call ?_
  k_dflt (refine' code_defC ?k1 ?k2 ?k3 ?k4 ?k5 ?kA ?kF ?kK ?k6 ?k7 ?k8 ?k9 ?kB ?kD ?_ ?c2 ?c3 ?c4; (case kA => exact rfl); (case kF => exact rfl); (case kK => assumption); (case k1 => k_asm); (case k2 => k_asm); (case k3 => k_asm); (case k4 => k_asm); (case k5 => k_asm); (case k6 => k_is); (case k7 => k_is); (case k8 => ktr_room); (case k9 => exact BindsTo.of_eq rfl); (case kB => exact rfl); (case kD => decide +kernel); (case c2 => exact rfl); (case c3 => exact rfl); (case c4 => exact rfl); k_whole; intro g1 L1 h1 tk1 cells FG1 F1 N1 Y1 B1 X1 T1 l1)
  obtain ⟨oT0, oD0, oR, rfl, dT0, dD0, dR⟩ := CellsAre.three Y1
  clear Y1
  (try dsimp only)
  k_fold
  simp only [List.cons_append, List.nil_append] at N1
  replace dR : oR.data = .cell (some (.ref ra)) := by with_unfolding_all exact dR
  replace dT0 : oT0.data = .cell none := by with_unfolding_all exact dT0
  replace dD0 : oD0.data = .cell none := by with_unfolding_all exact dD0
  obtain ⟨u, F2⟩ := fr_named [(Str.ofString "line", .ref la)] F1 (by kst_all)
  clear F1
  k_steps
  refine unhold ?_
  rename_i ua h3 lua h4 F4 N4
  refine wpAny_For ?_ (fun _ => rfl)
  k_steps
  refine unhold ?_
  refine len_at (by k_asm) (List.Mem.tail _ (List.Mem.tail _ (List.Mem.tail _ (List.Mem.tail _ hml)))) (by rw [hil.length]; omega) ?_
  rw [hil.length]
  k_steps
  rename_i h5 tkk t5 u5 v5 hrg F5 N5 keep5
  refine fl_range (σ := List (Value × List Int) × Nat × List (Addr × Obj) × Obj × Obj) (n := ls.length)
    (fun c => (ua, listOf (c.1.map (·.1)).toArray c.2.1) :: (L1 + 1 + 1 + 1, c.2.2.2.1) :: (L1 + 1 + 1, c.2.2.2.2) :: (L1 + 1, oR) :: (c.2.2.1 ++ rest)) (fun _ => [(Str.ofString "line", .ref la), (Str.ofString "under", .ref ua)])
    (fun i c => WordsIn (c.2.2.1 ++ rest) c.1 ∧ c.1.map (·.2) = underTo (rp.map (·.2)) ls i ∧ (∀ p ∈ c.2.2.1, p.1 ≠ ua ∧ p.1 ≠ L1 + 1 ∧ p.1 ≠ L1 + 1 + 1 ∧ p.1 ≠ L1 + 1 + 1 + 1) ∧ (∃ ct, c.2.2.2.1.data = .cell ct) ∧ ∃ cd, c.2.2.2.2.data = .cell cd)
    ([], 0, [], oT0, oD0) rfl hrg (by first | exact small_nat (Nat.lt_of_le_of_lt (by assumption) (by decide)) | exact small_nat (Nat.lt_trans (by assumption) (by decide)) | exact small_one (by omega) (by omega) (by omega) (by omega)) (by rw [rangeSize_nat]; omega) F5 N5 (by kst_all)
    ⟨(fun p hp => nomatch hp), rfl, (fun p hp => nomatch hp), ⟨_, dT0⟩, ⟨_, dD0⟩⟩ ?turn ?done rfl rfl
  case turn =>
    rintro I i t ⟨xs, ku, ob, oT, oD⟩ u4 h6 tk6 oI hi5 ⟨hc1, hc2, hc3, ⟨ct, dT⟩, ⟨cd, dD⟩⟩ offI lowI F6 N6
    refine gen_post fun QI hQI => ?_
    dsimp only at hc1 hc2 hc3 dT dD F6 N6
    have ei : (0 : Int) + (i : Int) * 1 = (i : Int) := by omega
    rw [ei] at F6
    replace F6 : Fr g1 L1 h6 _ := F6
    replace N6 : News g1 L1 h6 _ := N6
    obtain ⟨t1, hq1⟩ := ints_at hil hi5
    have hlb := hlr ls[i] (List.getElem_mem hi5)
    have hlt2 : ls[i].toNat < rp.length := by omega
    obtain ⟨q, hq⟩ : ∃ q, rp[ls[i].toNat]? = some q := ⟨rp[ls[i].toNat], List.getElem?_eq_getElem hlt2⟩
    obtain ⟨aq, vq, kq, eq, mq, iq⟩ := hrows q (List.mem_of_getElem? hq)
    clear N5 F5
    k_steps
    refine unhold ?_
    refine item_at N6 (List.Mem.tail _ (List.Mem.tail _ (List.Mem.tail _ (List.Mem.tail _ (List.Mem.tail _ (List.mem_append_right _ hml)))))) (by first | exact Int.natCast_nonneg _ | omega) (by first | exact fit_lt (by assumption) (Nat.lt_of_le_of_lt (by assumption) (by decide)) | exact fit_lt (by assumption) (Nat.lt_trans (by assumption) (by decide)) | omega) (v := .int ls[i] t1) (by simpa using hq1) ?_
    k_steps
    refine unhold ?_
    refine item_at N6 (List.Mem.tail _ (List.Mem.tail _ (List.Mem.tail _ (List.Mem.tail _ (List.Mem.tail _ (List.mem_append_right _ hmr)))))) (by omega) (by omega) (v := .ref aq) (by simp only [List.getElem?_map, hq, Option.map_some, eq]) ?_
    k_steps
    refine unhold ?_
    refine ctr_use (reader_ok w i t aq vq q.2 kq _ (List.Mem.tail _ (List.Mem.tail _ (List.Mem.tail _ (List.Mem.tail _ (List.Mem.tail _ (List.mem_append_right _ mq)))))) iq (hgood q (List.mem_of_getElem? hq))) B1 F6 X1 N6 T1 rfl (show dp + 1 + 16 < recursionLimit from room hdp (by decide)) (show un + 3 + 290 < cLine from room3 hun (by decide)) ?_
    rintro rv news' h7 tk7 F7 N7 ⟨r, rfl, rfl, hrok, hrap⟩
    k_steps
    have hD0 : (L1 + 1 + 1, oD) ∈ (r.ig, r.io) :: (r.led w ++ (I, oI) :: (ua, listOf (xs.map (·.1)).toArray ku) :: (L1 + 1 + 1 + 1, oT) :: (L1 + 1 + 1, oD) :: (L1 + 1, oR) :: (ob ++ rest)) := List.Mem.tail _ (List.mem_append_right _ (List.Mem.tail _ (List.Mem.tail _ (List.Mem.tail _ (List.Mem.head _)))))
    have hledD : ∀ p ∈ r.led w, ∀ v, p.2.data ≠ .cell v := by
      intro p hp v hc
      have hsd := hrok.1.2.1
      obtain ⟨es, ep, tb, hsd, _⟩ := hsd
      rcases List.mem_cons.mp hp with rfl | hp
      · cases hc
      rcases List.mem_cons.mp hp with rfl | hp
      · rw [hsd] at hc; cases hc
      rcases List.mem_cons.mp hp with rfl | hp
      · cases hc
      rcases List.mem_cons.mp hp with rfl | hp
      · cases hc
      cases hp
    have hioD : ∀ v, r.io.data ≠ .cell v := dict_not_cell hrok.2.2.1
    have hI1 : L1 + 1 + 1 + 1 < I := lowI (L1 + 1 + 1 + 1, oT0) (List.Mem.tail _ (List.Mem.head _))
    have hua1 : L1 + 1 + 1 + 1 < ua := lua.1
    have hold : ∀ p ∈ (ob ++ rest), p.1 ≠ L1 + 1 ∧ p.1 ≠ L1 + 1 + 1 ∧ p.1 ≠ L1 + 1 + 1 + 1 := by
      intro p hp
      rcases List.mem_append.mp hp with hp | hp
      · exact (hc3 p hp).2
      · have := l1 p hp
        exact adr4 this
    have hnewD : ∀ p ∈ (r.ig, r.io) :: r.led w, ∀ v, p.2.data ≠ .cell v := by
      intro p hp
      rcases List.mem_cons.mp hp with rfl | hp
      · exact hioD
      · exact hledD p hp
    refine cell_store F7 N7 hD0 dD rfl rfl rfl ((r.ig, r.io) :: (r.led w ++ (I, oI) :: (ua, listOf (xs.map (·.1)).toArray ku) :: (L1 + 1 + 1 + 1, oT) :: (L1 + 1, oR) :: (ob ++ rest))) ?hsub ?_
    case hsub =>
      intro p hp
      have hin : p ∈ (r.ig, r.io) :: (r.led w ++ (I, oI) :: (ua, listOf (xs.map (·.1)).toArray ku) :: (L1 + 1 + 1 + 1, oT) :: (L1 + 1 + 1, oD) :: (L1 + 1, oR) :: (ob ++ rest)) := by
        rcases List.mem_cons.mp hp with rfl | hp
        · exact List.Mem.head _
        · refine List.Mem.tail _ ?_
          rcases List.mem_append.mp hp with hp | hp
          · exact List.mem_append_left _ hp
          · refine List.mem_append_right _ ?_
            rcases List.mem_cons.mp hp with rfl | hp
            · exact List.Mem.head _
            rcases List.mem_cons.mp hp with rfl | hp
            · exact List.Mem.tail _ (List.Mem.head _)
            rcases List.mem_cons.mp hp with rfl | hp
            · exact List.Mem.tail _ (List.Mem.tail _ (List.Mem.head _))
            · exact List.Mem.tail _ (List.Mem.tail _ (List.Mem.tail _ (List.Mem.tail _ hp)))
      refine ⟨hin, ?_⟩
      rcases List.mem_append.mp (show p ∈ ((r.ig, r.io) :: r.led w) ++ ((I, oI) :: (ua, listOf (xs.map (·.1)).toArray ku) :: (L1 + 1 + 1 + 1, oT) :: (L1 + 1, oR) :: (ob ++ rest)) from hp) with hp | hp
      · exact ne_by N7 hin hD0 (by rw [dD]; exact hnewD p hp _)
      · rcases List.mem_cons.mp hp with rfl | hp
        · exact (adr3 hI1).2.1
        rcases List.mem_cons.mp hp with rfl | hp
        · exact (adr3 hua1).2.1
        rcases List.mem_cons.mp hp with rfl | hp
        · exact Nat.ne_of_gt (Nat.lt_succ_self _)
        rcases List.mem_cons.mp hp with rfl | hp
        · exact Nat.ne_of_lt (Nat.lt_succ_self _)
        · exact (hold p hp).2.1
    intro h8 oD8 dD8 F8 N8
    replace F8 : Fr g1 L1 h8 _ := F8
    replace N8 : News g1 L1 h8 _ := N8
    clear F7 N7
    k_steps
    refine unhold ?_
    refine wpAny_Assign_Name ?_ (by with_unfolding_all rfl)
    refine LCg.ListComp_U (cl := [(Str.ofString "rows", L1 + 1), (Str.ofString "reader", L1 + 1 + 1)]) F8 (by with_unfolding_all rfl) (by decide) rfl (by decide) rfl ?_
    k_steps
    refine unhold ?_
    have hml2 : (la, listOf vl.toArray kl) ∈ r.led w ++ (I, oI) :: (ua, listOf (xs.map (·.1)).toArray ku) :: (L1 + 1 + 1 + 1, oT) :: (L1 + 1, oR) :: (ob ++ rest) := List.mem_append_right _ (List.Mem.tail _ (List.Mem.tail _ (List.Mem.tail _ (List.Mem.tail _ (List.mem_append_right _ hml)))))
    refine LCg.CompSrc.ledger (by rfl) F8 N8 (List.Mem.tail _ (List.Mem.tail _ hml2)) (by rw [List.size_toArray, hil.length, sizeLine_eq]; omega) ?_
    intro g
    refine lc_rest (fun j ys nw => ∃ io kvs D, nw = (L1 + 1 + 1, oD8) :: (r.ig, io) :: (r.led w ++ (I, oI) :: (ua, listOf (xs.map (·.1)).toArray ku) :: (L1 + 1 + 1 + 1, oT) :: (L1 + 1, oR) :: (ob ++ rest)) ∧ Obj.IsDictOf (strKind Challenge.rw_oy0105_01.row.prog w) io kvs ∧ PyProof.V.FlatPairs PyData.str kvs D ∧ D.length ≤ 1 + j ∧
      (∀ x d, Spec.lookup (.str x) D = some d → x = Str.ofString "<string>" ∨ ∃ q' ∈ rp, x = nameOf q'.2 ∧ d = .int (toldV (rdrMods i q.2) (rdrDirs i q.2) (fileOf q'.2) (nameOf q'.2))) ∧ IntsAre ys ((ls.take j).map (toldAt (rp.map (·.2)) ls i)))
      ⟨r.io, r.kvs, [(.str (Str.ofString "<string>"), .int 1)], rfl, hrok.2.2.1, hrok.2.2.2.1, Nat.le_refl _, ?first, .nil⟩ ?turnT ?finT
    case first =>
      intro x d hx
      left
      exact lookup_first hx
    case turnT =>
      rintro j ys nw v I2 oI2 C2 oC2 D2 m2 h9 tk9 E9 hj5 ⟨io, kvs, D, rfl, hio, hfl, hDl, hDq, hys⟩ hv hC2 hm2 F9 N9 off9 ne9
      refine gen_post fun QI hQI => ?_
      have hj6 : j < ls.length := by
        have : j < vl.toArray.size := hj5
        rw [List.size_toArray, hil.length] at this
        exact this
      obtain ⟨tj, hqj⟩ := ints_at hil hj6
      obtain rfl : v = .int ls[j] tj := by
        rw [List.getElem?_toArray, hqj] at hv
        exact (Option.some.inj hv).symm
      have hlb2 := hlr ls[j] (List.getElem_mem hj6)
      have hlt3 : ls[j].toNat < rp.length := by omega
      obtain ⟨q2, hq2⟩ : ∃ q, rp[ls[j].toNat]? = some q := ⟨rp[ls[j].toNat], List.getElem?_eq_getElem hlt3⟩
      obtain ⟨a2, v2, k2, e2, m2', i2⟩ := hrows q2 (List.mem_of_getElem? hq2)
      have mrest : ∀ p ∈ rest, p ∈ (I2, oI2) :: (C2, oC2) :: (D2, LCg.lst ys) :: (L1 + 1 + 1, oD8) :: (r.ig, io) :: (r.led w ++ (I, oI) :: (ua, listOf (xs.map (·.1)).toArray ku) :: (L1 + 1 + 1 + 1, oT) :: (L1 + 1, oR) :: (ob ++ rest)) := fun p hp =>
        List.Mem.tail _ (List.Mem.tail _ (List.Mem.tail _ (List.Mem.tail _ (List.Mem.tail _ (List.mem_append_right _ (List.Mem.tail _ (List.Mem.tail _ (List.Mem.tail _ (List.Mem.tail _ (List.mem_append_right _ hp))))))))))
      k_steps
      refine unhold ?_
      refine item_at N9 (mrest _ hmr) (by omega) (by omega) (v := .ref a2) (by simp only [List.getElem?_map, hq2, Option.map_some, e2]) ?_
      k_steps
      refine unhold ?_
      have hof := off9.mem
      have hig := hof (r.ig, io) (List.Mem.tail _ (List.Mem.head _))
      have hgq := hgood q (List.mem_of_getElem? hq)
      have hgq2 := hgood q2 (List.mem_of_getElem? hq2)
      have N10 : News g1 L1 h9 ((r.ig, io) :: (r.led w ++ ((I2, oI2) :: (C2, oC2) :: (D2, LCg.lst ys) :: (L1 + 1 + 1, oD8) :: (I, oI) :: (ua, listOf (xs.map (·.1)).toArray ku) :: (L1 + 1 + 1 + 1, oT) :: (L1 + 1, oR) :: (ob ++ rest)))) := by
        intro p hp
        refine N9 p ?_
        rcases List.mem_cons.mp hp with rfl | hp
        · exact List.Mem.tail _ (List.Mem.tail _ (List.Mem.tail _ (List.Mem.tail _ (List.Mem.head _))))
        rcases List.mem_append.mp hp with hp | hp
        · exact List.Mem.tail _ (List.Mem.tail _ (List.Mem.tail _ (List.Mem.tail _ (List.Mem.tail _ (List.mem_append_left _ hp)))))
        rcases List.mem_cons.mp hp with rfl | hp
        · exact List.Mem.head _
        rcases List.mem_cons.mp hp with rfl | hp
        · exact List.Mem.tail _ (List.Mem.head _)
        rcases List.mem_cons.mp hp with rfl | hp
        · exact List.Mem.tail _ (List.Mem.tail _ (List.Mem.head _))
        rcases List.mem_cons.mp hp with rfl | hp
        · exact List.Mem.tail _ (List.Mem.tail _ (List.Mem.tail _ (List.Mem.head _)))
        · exact List.Mem.tail _ (List.Mem.tail _ (List.Mem.tail _ (List.Mem.tail _ (List.Mem.tail _ (List.mem_append_right _ hp)))))
      have hap10 : ∀ p ∈ r.led w ++ ((I2, oI2) :: (C2, oC2) :: (D2, LCg.lst ys) :: (L1 + 1 + 1, oD8) :: (I, oI) :: (ua, listOf (xs.map (·.1)).toArray ku) :: (L1 + 1 + 1 + 1, oT) :: (L1 + 1, oR) :: (ob ++ rest)), p.1 ≠ r.ig := by
        intro p hp
        rcases List.mem_append.mp hp with hp | hp
        · exact hrap p (List.mem_append_left _ hp)
        rcases List.mem_cons.mp hp with rfl | hp
        · exact hig.1.symm
        rcases List.mem_cons.mp hp with rfl | hp
        · exact hig.2.1.symm
        rcases List.mem_cons.mp hp with rfl | hp
        · exact hig.2.2.symm
        rcases List.mem_cons.mp hp with rfl | hp
        · exact hrap (L1 + 1 + 1, oD) (List.mem_append_right _ (List.Mem.tail _ (List.Mem.tail _ (List.Mem.tail _ (List.Mem.head _)))))
        rcases List.mem_cons.mp hp with rfl | hp
        · exact hrap (I, oI) (List.mem_append_right _ (List.Mem.head _))
        rcases List.mem_cons.mp hp with rfl | hp
        · exact hrap (ua, listOf (xs.map (·.1)).toArray ku) (List.mem_append_right _ (List.Mem.tail _ (List.Mem.head _)))
        rcases List.mem_cons.mp hp with rfl | hp
        · exact hrap (L1 + 1 + 1 + 1, oT) (List.mem_append_right _ (List.Mem.tail _ (List.Mem.tail _ (List.Mem.head _))))
        · exact hrap p (List.mem_append_right _ (List.Mem.tail _ (List.Mem.tail _ (List.Mem.tail _ (List.Mem.tail _ hp)))))
      have hDval : ∀ d, Spec.lookup (.str (nameOf q2.2)) D = some d → d = .int (toldV (rdrMods i q.2) (rdrDirs i q.2) (fileOf q2.2) (nameOf q2.2)) := by
        intro d hd
        rcases hDq _ d hd with h | ⟨q', hq', h1, h2⟩
        · exact absurd h hgq2.2.2.2.2
        · rw [h2, hinj q2 (List.mem_of_getElem? hq2) q' hq' h1]
      refine ctr_use (told_ok w { r with io := io, kvs := kvs } a2 v2 q2.2 k2 (rdrMods i q.2) (rdrDirs i q.2) D _ _ (List.Mem.tail _ (List.Mem.tail _ (List.Mem.tail _ (List.Mem.tail _ (List.Mem.tail _ (List.Mem.tail _ (List.Mem.tail _ (List.Mem.tail _ (List.mem_append_right _ m2'))))))))) i2 hgq2.1 hgq2.2.1 hgq2.2.2.1
        ⟨hrok.1, hrok.2.1, hio, hfl, hrok.2.2.2.2⟩ hap10 (by omega) (by
          intro m hm; unfold rdrMods at hm; split at hm
          · rw [List.mem_singleton.mp hm]; have := hgq.2.2.1; omega
          · cases hm) (by
          intro m hm; unfold rdrDirs at hm; split at hm
          · cases hm
          · rw [List.mem_singleton.mp hm]; have := hgq.2.1; omega) (by unfold rdrDirs; split <;> simp) rfl hDval) B1 F9 X1 N10 T1 rfl (show dp + 1 + 16 < recursionLimit from room hdp (by decide)) (show un + 3 + 290 < cLine from room3 hun (by decide)) ?_
      rintro vr news' h11 tk11 F11 N11 ⟨io', kvs', D', t11, rfl, rfl, hio', hfl', hD'⟩
      clear N9 N10 F9
      k_steps
      refine hQI _ _ ?_
      refine LCg.CompEnd.intro F11 N11 ((L1 + 1 + 1, oD8) :: (r.ig, io') :: (r.led w ++ (I, oI) :: (ua, listOf (xs.map (·.1)).toArray ku) :: (L1 + 1 + 1 + 1, oT) :: (L1 + 1, oR) :: (ob ++ rest))) ?s1 off9 (.inr ⟨_, List.Mem.tail _ (List.Mem.tail _ hml2), rfl, _, rfl⟩) ⟨io', kvs', D', rfl, hio', hfl', ?s2, ?s3, ?s4⟩
      case s1 =>
        intro p hp
        rcases List.mem_cons.mp hp with rfl | hp
        · exact List.Mem.tail _ (List.mem_append_right _ (List.Mem.head _))
        rcases List.mem_cons.mp hp with rfl | hp
        · exact List.Mem.tail _ (List.mem_append_right _ (List.Mem.tail _ (List.Mem.head _)))
        rcases List.mem_cons.mp hp with rfl | hp
        · exact List.Mem.tail _ (List.mem_append_right _ (List.Mem.tail _ (List.Mem.tail _ (List.Mem.head _))))
        rcases List.mem_cons.mp hp with rfl | hp
        · exact List.Mem.tail _ (List.mem_append_right _ (List.Mem.tail _ (List.Mem.tail _ (List.Mem.tail _ (List.Mem.head _)))))
        rcases List.mem_cons.mp hp with rfl | hp
        · exact List.Mem.head _
        rcases List.mem_append.mp hp with hp | hp
        · exact List.Mem.tail _ (List.mem_append_left _ hp)
        · exact List.Mem.tail _ (List.mem_append_right _ (List.Mem.tail _ (List.Mem.tail _ (List.Mem.tail _ (List.Mem.tail _ hp)))))
      case s2 =>
        rcases hD' with rfl | rfl
        · omega
        · exact Nat.le_trans (PyProof.V.putD_length_le _ _ _) (by omega)
      case s3 =>
        intro x d hx
        rcases hD' with rfl | rfl
        · exact hDq x d hx
        · rw [lookup_putD_str] at hx
          split at hx
          · rename_i hxe
            exact .inr ⟨q2, List.mem_of_getElem? hq2, hxe, (Option.some.inj hx).symm⟩
          · exact hDq x d hx
      case s4 =>
        have e1 : rowAt (rp.map (·.2)) ls[j] = q2.2 := by unfold rowAt; simp [List.getD, hq2]
        have e3 : rowAt (rp.map (·.2)) (ls.getD i 0) = q.2 := by unfold rowAt; simp [List.getD, hi5, hq]
        have ev : toldV (rdrMods i q.2) (rdrDirs i q.2) (fileOf q2.2) (nameOf q2.2) = toldAt (rp.map (·.2)) ls i ls[j] := by unfold toldAt; rw [e1, e3]
        rw [List.take_add_one, List.getElem?_eq_getElem hj6, List.map_append, ev]
        exact IntsAre.append hys (.cons _ _ .nil)
    case finT =>
      rintro ys nw ⟨io, kvs, D, rfl, hio, hfl, hDl, hDq, hys⟩
      unfold LCg.FinE
      intro D3 h12 tk12 F12 N12 o12
      dsimp only
      clear F8 N8
      have hT1 : (L1 + 1 + 1 + 1, oT) ∈ (D3, LCg.lst ys) :: (L1 + 1 + 1, oD8) :: (r.ig, io) :: (r.led w ++ (I, oI) :: (ua, listOf (xs.map (·.1)).toArray ku) :: (L1 + 1 + 1 + 1, oT) :: (L1 + 1, oR) :: (ob ++ rest)) :=
        List.Mem.tail _ (List.Mem.tail _ (List.Mem.tail _ (List.mem_append_right _ (List.Mem.tail _ (List.Mem.tail _ (List.Mem.head _))))))
      refine cell_store F12 N12 hT1 dT rfl rfl rfl ((D3, LCg.lst ys) :: (L1 + 1 + 1, oD8) :: (r.ig, io) :: (r.led w ++ (I, oI) :: (ua, listOf (xs.map (·.1)).toArray ku) :: (L1 + 1, oR) :: (ob ++ rest))) ?hsubT ?_
      case hsubT =>
        intro p hp
        have hin : p ∈ (D3, LCg.lst ys) :: (L1 + 1 + 1, oD8) :: (r.ig, io) :: (r.led w ++ (I, oI) :: (ua, listOf (xs.map (·.1)).toArray ku) :: (L1 + 1 + 1 + 1, oT) :: (L1 + 1, oR) :: (ob ++ rest)) := by
          rcases List.mem_cons.mp hp with rfl | hp
          · exact List.Mem.head _
          rcases List.mem_cons.mp hp with rfl | hp
          · exact List.Mem.tail _ (List.Mem.head _)
          rcases List.mem_cons.mp hp with rfl | hp
          · exact List.Mem.tail _ (List.Mem.tail _ (List.Mem.head _))
          refine List.Mem.tail _ (List.Mem.tail _ (List.Mem.tail _ ?_))
          rcases List.mem_append.mp hp with hp | hp
          · exact List.mem_append_left _ hp
          refine List.mem_append_right _ ?_
          rcases List.mem_cons.mp hp with rfl | hp
          · exact List.Mem.head _
          rcases List.mem_cons.mp hp with rfl | hp
          · exact List.Mem.tail _ (List.Mem.head _)
          · exact List.Mem.tail _ (List.Mem.tail _ (List.Mem.tail _ hp))
        refine ⟨hin, ?_⟩
        rcases List.mem_cons.mp hp with rfl | hp
        · exact ne_by N12 hin hT1 (by rw [dT]; exact fun h => by cases h)
        rcases List.mem_cons.mp hp with rfl | hp
        · exact Nat.ne_of_lt (Nat.lt_succ_self _)
        rcases List.mem_cons.mp hp with rfl | hp
        · exact ne_by N12 hin hT1 (by rw [dT]; exact dict_not_cell hio _)
        rcases List.mem_append.mp hp with hp | hp
        · exact ne_by N12 hin hT1 (by rw [dT]; exact hledD p hp _)
        rcases List.mem_cons.mp hp with rfl | hp
        · exact (adr3 hI1).2.2
        rcases List.mem_cons.mp hp with rfl | hp
        · exact (adr3 hua1).2.2
        rcases List.mem_cons.mp hp with rfl | hp
        · exact Nat.ne_of_lt (Nat.lt_succ_of_lt (Nat.lt_succ_self _))
        · exact (hold p hp).2.2
      intro h13 oT13 dT13 F13 N13
      replace F13 : Fr g1 L1 h13 _ := F13
      replace N13 : News g1 L1 h13 ((L1 + 1 + 1 + 1, oT13) :: (ua, listOf (xs.map (·.1)).toArray ku) :: (D3, listOf ys.toArray ys.length) :: (L1 + 1 + 1, oD8) :: (I, oI) :: (L1 + 1, oR) :: (ob ++ rest)) := by
        intro p hp
        refine N13 p ?_
        rcases List.mem_cons.mp hp with rfl | hp
        · exact List.Mem.head _
        rcases List.mem_cons.mp hp with rfl | hp
        · exact List.Mem.tail _ (List.Mem.tail _ (List.Mem.tail _ (List.Mem.tail _ (List.mem_append_right _ (List.Mem.tail _ (List.Mem.head _))))))
        rcases List.mem_cons.mp hp with rfl | hp
        · exact List.Mem.tail _ (List.Mem.head _)
        rcases List.mem_cons.mp hp with rfl | hp
        · exact List.Mem.tail _ (List.Mem.tail _ (List.Mem.head _))
        rcases List.mem_cons.mp hp with rfl | hp
        · exact List.Mem.tail _ (List.Mem.tail _ (List.Mem.tail _ (List.Mem.tail _ (List.mem_append_right _ (List.Mem.head _)))))
        · exact List.Mem.tail _ (List.Mem.tail _ (List.Mem.tail _ (List.Mem.tail _ (List.mem_append_right _ (List.Mem.tail _ (List.Mem.tail _ hp))))))
      clear F12 N12
      k_steps
      refine unhold ?_
      refine LCt.ListComp_T (cl := [(Str.ofString "told", L1 + 1 + 1 + 1)]) F13 (by with_unfolding_all rfl) (by decide) rfl (by decide) rfl ?_
      k_steps
      refine unhold ?_
      refine len_at N13 (List.Mem.tail _ (List.Mem.tail _ (List.Mem.tail _ (List.Mem.tail _ (List.Mem.tail _ (List.Mem.tail _ (List.mem_append_right _ hml))))))) (by rw [hil.length]; omega) ?_
      rw [hil.length]
      k_steps
      refine unhold ?_
      rename_i h14 tk14 t14 u14 v14 hrg14 F14 N14 keep14
      have hTL : IntsAre ys (ls.map (toldAt (rp.map (·.2)) ls i)) := by
        have h := hys
        rw [List.size_toArray, hil.length, List.take_of_length_le (Nat.le_refl _)] at h
        exact h
      generalize hTLe : ls.map (toldAt (rp.map (·.2)) ls i) = TL at hTL
      have hTLl : TL.length = ls.length := by rw [← hTLe, List.length_map]
      refine LCt.CompSrcT.range (n := ls.length) (by rfl) F14 N14 hrg14 (by first | exact small_nat (Nat.lt_of_le_of_lt (by assumption) (by decide)) | exact small_nat (Nat.lt_trans (by assumption) (by decide)) | exact small_one (by omega) (by omega) (by omega) (by omega)) (by rw [rangeSize_nat]; omega) (by rw [sizeLine_eq]; omega) ?_
      intro g14
      refine kci_range (fun l k => if (TL.getD k.toNat 0 == 1) = true then l ++ [k] else l) ?turnC ?finC ?growsC
      case growsC =>
        intro l k
        dsimp only
        split <;> simp
      case turnC =>
        intro k t2 I3 oI3 C3 oC3 D4 m4 ys4 l4 h15 tk15 E15 hk0 hk1 hys4 hoC hm4 F15 N15 off15 ne15 mk15
        have hkl : k.toNat < TL.length := by omega
        obtain ⟨tq, hqk⟩ := ints_at hTL hkl
        have hgk : TL.getD k.toNat 0 = TL[k.toNat] := by simp [List.getD, hkl]
        k_steps
        refine unhold ?_
        refine item_at N15 (List.Mem.tail _ (List.Mem.tail _ (List.Mem.tail _ (List.Mem.tail _ (List.Mem.tail _ (List.Mem.head _)))))) hk0 (by omega) (v := .int TL[k.toNat] tq) hqk ?_
        k_steps
        · have h1 : TL[k.toNat] = 1 := by assumption
          refine LCg.CompEnd.intro (by assumption) (by assumption) _ (fun p hp => hp) off15 trivial (kci_el (a := k) (t := t2) ?_ rfl rfl)
          rw [hgk, h1]; rfl
        · have h1 : ¬ TL[k.toNat] = 1 := by assumption
          refine LCg.CompEnd.intro (by assumption) (by assumption) _ (fun p hp => hp) off15 trivial (kci_no ?_ rfl)
          rw [hgk, if_neg (by simpa using h1)]
      case finC =>
        intro ys2 hys2 hlen2 D5 h16 tk16 F16 N16 o16
        have hm16 := off1_at o16
        have hm12 := off1_at o12
        have hur : IntsAre ys2 (underRow (rp.map (·.2)) ls i) := by
          rw [foldl_filt] at hys2
          unfold underRow
          rw [hTLe]
          exact hys2
        have hneU : ∀ p ∈ (D5, LCg.lst ys2) :: (L1 + 1 + 1 + 1, oT13) :: (L1 + 1 + 1, oD8) :: (I, oI) :: (L1 + 1, oR) :: (ob ++ rest), p.1 ≠ ua := by
          intro p hp
          rcases List.mem_cons.mp hp with rfl | hp
          · exact (hm16 (ua, listOf (xs.map (·.1)).toArray ku) (List.Mem.tail _ (List.Mem.head _))).symm
          rcases List.mem_cons.mp hp with rfl | hp
          · exact (adr3 hua1).2.2.symm
          rcases List.mem_cons.mp hp with rfl | hp
          · exact (adr3 hua1).2.1.symm
          rcases List.mem_cons.mp hp with rfl | hp
          · exact (offI (ua, listOf (xs.map (·.1)).toArray ku) (List.Mem.head _)).symm
          rcases List.mem_cons.mp hp with rfl | hp
          · exact (adr3 hua1).1.symm
          rcases List.mem_append.mp hp with hp | hp
          · exact (hc3 p hp).1
          · exact Nat.ne_of_lt (allLt_mem lua.2.2.2 p hp)
        have N17 : News g1 L1 h16 ((ua, listOf (xs.map (·.1)).toArray ku) :: (D5, LCg.lst ys2) :: (L1 + 1 + 1 + 1, oT13) :: (L1 + 1 + 1, oD8) :: (I, oI) :: (L1 + 1, oR) :: (ob ++ rest)) := by
          intro p hp
          refine N16 p ?_
          rcases List.mem_cons.mp hp with rfl | hp
          · exact List.Mem.tail _ (List.Mem.tail _ (List.Mem.head _))
          rcases List.mem_cons.mp hp with rfl | hp
          · exact List.Mem.head _
          rcases List.mem_cons.mp hp with rfl | hp
          · exact List.Mem.tail _ (List.Mem.head _)
          · exact List.Mem.tail _ (List.Mem.tail _ (List.Mem.tail _ (List.Mem.tail _ hp)))
        have hxl : xs.length = i := by have := congrArg List.length hc2; rwa [List.length_map, underTo_length] at this
        clear N14 F14 N16
        dsimp only
        k_steps
        refine unhold ?_
        refine append_K F16 N17 (.head hneU) ?_ (by rw [List.size_toArray, List.length_map, hxl, sizeLine_eq]; omega)
        intro h18 F18 N18
        have eN : (xs.map (·.1)).toArray.push (.ref D5) = ((xs ++ [(Value.ref D5, underRow (rp.map (·.2)) ls i)]).map (·.1)).toArray := by simp
        rw [eN] at N18
        clear N17 F16
        k_steps
        refine hQI _ _ ?_
        dsimp only [FlPost]
        refine fl_end (xs ++ [(Value.ref D5, underRow (rp.map (·.2)) ls i)], ku + 1, (D5, LCg.lst ys2) :: ob, oT13, oD8) F18 N18 ?e1 ?e2 ?e3 ?e4
        case e3 => kst_all
        case e1 =>
          intro p hp
          rcases List.mem_cons.mp hp with rfl | hp
          · exact List.Mem.tail _ (List.Mem.tail _ (List.Mem.tail _ (List.Mem.tail _ (List.Mem.head _))))
          rcases List.mem_cons.mp hp with rfl | hp
          · exact List.Mem.head _
          rcases List.mem_cons.mp hp with rfl | hp
          · exact List.Mem.tail _ (List.Mem.tail _ (List.Mem.head _))
          rcases List.mem_cons.mp hp with rfl | hp
          · exact List.Mem.tail _ (List.Mem.tail _ (List.Mem.tail _ (List.Mem.head _)))
          rcases List.mem_cons.mp hp with rfl | hp
          · exact List.Mem.tail _ (List.Mem.tail _ (List.Mem.tail _ (List.Mem.tail _ (List.Mem.tail _ (List.Mem.head _)))))
          rcases List.mem_cons.mp hp with rfl | hp
          · exact List.Mem.tail _ (List.Mem.head _)
          · exact List.Mem.tail _ (List.Mem.tail _ (List.Mem.tail _ (List.Mem.tail _ (List.Mem.tail _ (List.Mem.tail _ hp)))))
        case e2 =>
          intro p hp
          rcases List.mem_cons.mp hp with rfl | hp
          · exact offI (ua, listOf (xs.map (·.1)).toArray ku) (List.Mem.head _)
          rcases List.mem_cons.mp hp with rfl | hp
          · exact (adr3 hI1).2.2.symm
          rcases List.mem_cons.mp hp with rfl | hp
          · exact (adr3 hI1).2.1.symm
          rcases List.mem_cons.mp hp with rfl | hp
          · exact (adr3 hI1).1.symm
          rcases List.mem_cons.mp hp with rfl | hp
          · exact (hm16 (I, oI) (List.Mem.tail _ (List.Mem.tail _ (List.Mem.tail _ (List.Mem.tail _ (List.Mem.head _)))))).symm
          · exact offI p (List.Mem.tail _ (List.Mem.tail _ (List.Mem.tail _ (List.Mem.tail _ hp))))
        case e4 =>
          refine ⟨fun p hp => ?_, ?_, fun p hp => ?_, ⟨_, dT13⟩, ⟨_, dD8⟩⟩
          · rcases List.mem_append.mp hp with hp | hp
            · obtain ⟨a1, v1, k1, e1, m1, i1⟩ := hc1 p hp
              exact ⟨a1, v1, k1, e1, List.Mem.tail _ m1, i1⟩
            · rw [List.mem_singleton.mp hp]
              exact ⟨D5, ys2, ys2.length, rfl, List.Mem.head _, hur⟩
          · show (xs ++ [(Value.ref D5, underRow (rp.map (·.2)) ls i)]).map (·.2) = underTo (rp.map (·.2)) ls (i + 1)
            rw [underTo, List.map_append, hc2]; rfl
          · rcases List.mem_cons.mp hp with rfl | hp
            · exact ⟨(hm16 (ua, listOf (xs.map (·.1)).toArray ku) (List.Mem.tail _ (List.Mem.head _))).symm, (hm16 (L1 + 1, oR) (List.Mem.tail _ (List.Mem.tail _ (List.Mem.tail _ (List.Mem.tail _ (List.Mem.tail _ (List.Mem.head _))))))).symm,
                (hm16 (L1 + 1 + 1, oD8) (List.Mem.tail _ (List.Mem.tail _ (List.Mem.tail _ (List.Mem.head _))))).symm, (hm16 (L1 + 1 + 1 + 1, oT13) (List.Mem.head _)).symm⟩
            · exact hc3 p hp
  case done =>
    rintro ⟨xs, ku, ob, oT, oD⟩ u4 h6 tk6 ⟨hc1, hc2, hc3, hcT, hcD⟩ F6 N6
    dsimp only at hc1 hc2 hc3 F6 N6
    k_steps
    rename_i kF NR _ _
    refine hret _ _ _ _ kF NR ⟨ua, xs, ku, (L1 + 1 + 1 + 1, oT) :: (L1 + 1 + 1, oD) :: (L1 + 1, oR) :: ob, rfl, rfl, ?_, hc2, ?_⟩
    · intro p hp
      obtain ⟨a1, v1, k1, e1, m1, i1⟩ := hc1 p hp
      exact ⟨a1, v1, k1, e1, List.Mem.tail _ (List.Mem.tail _ (List.Mem.tail _ m1)), i1⟩
    · intro p hp
      rcases List.mem_cons.mp hp with rfl | hp
      · exact (adr3 lua.1).2.2.symm
      rcases List.mem_cons.mp hp with rfl | hp
      · exact (adr3 lua.1).2.1.symm
      rcases List.mem_cons.mp hp with rfl | hp
      · exact (adr3 lua.1).1.symm
      rcases List.mem_append.mp hp with hp | hp
      · exact (hc3 p hp).1
      · exact Nat.ne_of_lt (allLt_mem lua.2.2.2 p hp)
end Mine
end

-- M1b
section
open PySem PySem.W PyProof.Rows
set_option maxRecDepth 100000
set_option maxHeartbeats 8000000
set_option linter.unusedVariables false
namespace Mine
open AutoSeq1 (wpAny_loadPart')
open MeetsSeq MeetsSeq2 MeetsSeq3 SeqRoads2 SeqAt
theorem list_neNil (l b : Addr) (vs : List Value) (n n2 : Nat) (dd dd2 : Option Addr) (sl sl2 : Array (Option Value)) :
    Meets (Builtin.«list.__ne__» ⟨[.ref l, .ref b], []⟩)
      (fun A R s => s.heap.get? l = some { cls := .type "list", dict := dd, data := .seq vs.toArray n, slots := sl } ∧ s.heap.get? b = some { cls := .type "list", dict := dd2, data := .seq #[] n2, slots := sl2 } ∧
        R (.ok (.ret (.bool (!vs.isEmpty)))) s) := by
  intro prog w A R s h
  obtain ⟨hp, g, d, tk, os⟩ := s; obtain ⟨hl, hb, h⟩ := h
  have f3 := AutoSeq1.sub_list_list
  cases vs with
  | nil =>
    have hne : ¬ ((([] : List Value).toArray).size != (#[] : Array Value).size) = true := by simp
    wp_walk using wpAny_loadPart' hl, wpAny_loadPart' hb
    refine ⟨plainId_quiet plain_eq_loop _, codeAny_builtin entry_eq_loop ?_⟩
    rw [Around.under_plainId plain_eq_loop _]
    wp_walk using wpAny_loadPart' hl, wpAny_loadPart' hb
    exact h
  | cons v r =>
    have hne : (((v :: r).toArray).size != (#[] : Array Value).size) = true := by simp
    wp_walk using wpAny_loadPart' hl, wpAny_loadPart' hb
    exact h
theorem ne_nil {prog : Program} {w : World} {A : Around} {E : Value → Shared → Prop} {s : Shared} {a b : Addr} {vs : List Value} {Q : Value → Shared → Prop} (hl : s.heap.IsList a vs.toArray) (hl' : s.heap.IsList b #[]) (hu : A.units < cLine)
    (h : Q (.bool (!vs.isEmpty)) s) : wpAny (model prog w) A (compareOp .NotEq (.ref a) (.ref b)) Q E s := by
  obtain ⟨⟨cls, dd, data, sl⟩, ho, hc, n, hd⟩ := id hl
  obtain ⟨⟨cls2, dd2, data2, sl2⟩, ho2, hc2, n2, hd2⟩ := id hl'
  simp only at hc hd hc2 hd2
  subst hc hd hc2 hd2
  refine cmp_ofNotEq ?_
  exact richCompare_meets_room (op := .NotEq) ⟨_, ho, rfl⟩ ⟨_, ho2, rfl⟩ F.slot_list_ne F.entry_list_ne (F.args_list_ne_2 _ _) (list_neNil a b vs n n2 dd dd2 sl sl2)
    ⟨ho, ho2, show Value.bool (!vs.isEmpty) ≠ Value.notImplemented ∧ Q (.bool (!vs.isEmpty)) s from ⟨(fun x => nomatch x), h⟩⟩ hu
end Mine
end

-- M1c
section
open PySem PySem.W PyProof.Rows
set_option maxRecDepth 100000
set_option maxHeartbeats 8000000
set_option linter.unusedVariables false
namespace Mine
open AutoSeq1 (wpAny_loadPart')
open MeetsSeq MeetsSeq2 MeetsSeq3 SeqRoads2 SeqAt
theorem list_eqNil (l b : Addr) (vs : List Value) (n n2 : Nat) (dd dd2 : Option Addr) (sl sl2 : Array (Option Value)) :
    Meets (Builtin.«list.__eq__» ⟨[.ref l, .ref b], []⟩)
      (fun A R s => s.heap.get? l = some { cls := .type "list", dict := dd, data := .seq vs.toArray n, slots := sl } ∧ s.heap.get? b = some { cls := .type "list", dict := dd2, data := .seq #[] n2, slots := sl2 } ∧
        R (.ok (.ret (.bool vs.isEmpty))) s) := by
  intro prog w A R s h
  obtain ⟨hp, g, d, tk, os⟩ := s; obtain ⟨hl, hb, h⟩ := h
  have f3 := AutoSeq1.sub_list_list
  cases vs with
  | nil =>
    have hne : ¬ ((([] : List Value).toArray).size != (#[] : Array Value).size) = true := by simp
    wp_walk using wpAny_loadPart' hl, wpAny_loadPart' hb
    refine ⟨plainId_quiet plain_eq_loop _, codeAny_builtin entry_eq_loop ?_⟩
    rw [Around.under_plainId plain_eq_loop _]
    wp_walk using wpAny_loadPart' hl, wpAny_loadPart' hb
    exact h
  | cons v r =>
    have hne : (((v :: r).toArray).size != (#[] : Array Value).size) = true := by simp
    wp_walk using wpAny_loadPart' hl, wpAny_loadPart' hb
    exact h
theorem eq_nil {prog : Program} {w : World} {A : Around} {E : Value → Shared → Prop} {s : Shared} {a b : Addr} {vs : List Value} {Q : Value → Shared → Prop} (hl : s.heap.IsList a vs.toArray) (hl' : s.heap.IsList b #[]) (hu : A.units < cLine)
    (h : Q (.bool vs.isEmpty) s) : wpAny (model prog w) A (compareOp .Eq (.ref a) (.ref b)) Q E s := by
  obtain ⟨⟨cls, dd, data, sl⟩, ho, hc, n, hd⟩ := id hl
  obtain ⟨⟨cls2, dd2, data2, sl2⟩, ho2, hc2, n2, hd2⟩ := id hl'
  simp only at hc hd hc2 hd2
  subst hc hd hc2 hd2
  refine cmp_ofEq ?_
  exact richCompare_meets_room (op := .Eq) ⟨_, ho, rfl⟩ ⟨_, ho2, rfl⟩ F.slot_list_eq F.entry_list_eq (F.args_list_eq_2 _ _) (list_eqNil a b vs n n2 dd dd2 sl sl2)
    ⟨ho, ho2, show Value.bool vs.isEmpty ≠ Value.notImplemented ∧ Q (.bool vs.isEmpty) s from ⟨(fun x => nomatch x), h⟩⟩ hu
end Mine
end

-- P5
section
namespace Mine
section
variable {es as : List Int} {ms target : List Int} {i j : Nat}
theorem sld_le (hes : es.Pairwise (· < ·)) (hin : ∀ x ∈ as.drop j, x ∈ es.drop i) (hi : i < es.length) (hj : j < as.length) : es[i] ≤ as[j] := by
  have h1 : as[j] ∈ as.drop j := by rw [List.drop_eq_getElem_cons hj]; exact List.mem_cons_self
  have h2 := hin _ h1
  rw [List.drop_eq_getElem_cons hi] at h2
  have h3 : (es.drop i).Pairwise (· < ·) := hes.sublist (List.drop_sublist _ _)
  rw [List.drop_eq_getElem_cons hi] at h3
  rcases List.mem_cons.mp h2 with h2 | h2
  · omega
  · exact Int.le_of_lt ((List.pairwise_cons.mp h3).1 _ h2)
theorem sld_next (hes : es.Pairwise (· < ·)) (hi : i + 1 < es.length) : es[i + 1] ≠ es[i] := by
  have := List.pairwise_iff_getElem.mp hes i (i + 1) (by omega) hi (by omega)
  omega
theorem sld_ge (has : as.Pairwise (· ≤ ·)) (hj : j < as.length) : ∀ x ∈ as.drop j, as[j] ≤ x := by
  intro x hx
  have h3 : (as.drop j).Pairwise (· ≤ ·) := has.sublist (List.drop_sublist _ _)
  rw [List.drop_eq_getElem_cons hj] at h3 hx
  rcases List.mem_cons.mp hx with h2 | h2
  · omega
  · exact (List.pairwise_cons.mp h3).1 _ h2
theorem sld_lt (has : as.Pairwise (· ≤ ·)) (hin : ∀ x ∈ as.drop j, x ∈ es.drop i) (hi : i < es.length) (hj : j < as.length) (hlt : es[i] < as[j])
    (heq : ms ++ (es.drop i).filter (fun x => !(as.drop j).contains x) = target) :
    (ms ++ [es[i]]) ++ (es.drop (i + 1)).filter (fun x => !(as.drop j).contains x) = target ∧ (∀ x ∈ as.drop j, x ∈ es.drop (i + 1)) ∧ i + 1 < es.length := by
  have hge := sld_ge has hj
  have hin2 : ∀ x ∈ as.drop j, x ∈ es.drop (i + 1) := by
    intro x hx
    have h2 := hin x hx
    rw [List.drop_eq_getElem_cons hi] at h2
    rcases List.mem_cons.mp h2 with h2 | h2
    · have := hge x hx; omega
    · exact h2
  refine ⟨?_, hin2, ?_⟩
  · rw [← heq, List.drop_eq_getElem_cons hi, List.filter_cons]
    have hn : es[i] ∉ as.drop j := by
      intro h; have := hge _ h; omega
    simp [hn]
  · have h1 : as[j] ∈ as.drop j := by rw [List.drop_eq_getElem_cons hj]; exact List.mem_cons_self
    have h2 := hin2 _ h1
    rcases Nat.lt_or_ge (i + 1) es.length with h | h
    · exact h
    · rw [List.drop_of_length_le h] at h2; cases h2
theorem sld_eq (hes : es.Pairwise (· < ·)) (hin : ∀ x ∈ as.drop j, x ∈ es.drop i) (hi : i < es.length) (hj : j < as.length) (he : es[i] = as[j])
    (heq : ms ++ (es.drop i).filter (fun x => !(as.drop j).contains x) = target) {j' : Nat} (hj' : j < j') (hsame : ∀ k (hk : k < as.length), j ≤ k → k < j' → as[k] = as[j]) (hl : j' ≤ as.length)
    (hnot : as[j] ∉ as.drop j') :
    ms ++ (es.drop (i + 1)).filter (fun x => !(as.drop j').contains x) = target ∧ (∀ x ∈ as.drop j', x ∈ es.drop (i + 1)) := by
  have hsplit : ∀ x, x ∈ as.drop j → x = as[j] ∨ x ∈ as.drop j' := by
    intro x hx
    obtain ⟨k, hk, rfl⟩ := List.mem_iff_getElem.mp hx
    simp only [List.length_drop] at hk
    simp only [List.getElem_drop]
    rcases Nat.lt_or_ge (j + k) j' with h | h
    · exact .inl (hsame (j + k) (by omega) (by omega) h)
    · refine .inr ?_
      have : (as.drop j')[j + k - j']'(by simp; omega) = as[j + k] := by
        simp only [List.getElem_drop]; congr 1; omega
      rw [← this]; exact List.getElem_mem _
  have hback : ∀ x, x ∈ as.drop j' → x ∈ as.drop j := by
    intro x hx
    have : as.drop j' = (as.drop j).drop (j' - j) := by rw [List.drop_drop]; congr 1; omega
    rw [this] at hx
    exact List.mem_of_mem_drop hx
  have hpw : (es.drop i).Pairwise (· < ·) := hes.sublist (List.drop_sublist _ _)
  rw [List.drop_eq_getElem_cons hi] at hpw
  have hgt := (List.pairwise_cons.mp hpw).1
  refine ⟨?_, ?_⟩
  · rw [← heq, List.drop_eq_getElem_cons hi, List.filter_cons]
    have hc : (as.drop j).contains es[i] = true := by
      rw [List.contains_eq_mem, he]
      simp only [decide_eq_true_eq]
      rw [List.drop_eq_getElem_cons hj]; exact List.mem_cons_self
    simp only [hc, Bool.not_true, Bool.false_eq_true, if_false]
    congr 1
    apply List.filter_congr
    intro x hx
    have h1 := hgt x hx
    congr 1
    rw [Bool.eq_iff_iff]
    simp only [List.contains_eq_mem, decide_eq_true_eq]
    constructor
    · exact hback x
    · intro h
      rcases hsplit x h with h | h
      · omega
      · exact h
  · intro x hx
    have h2 := hin x (hback x hx)
    rw [List.drop_eq_getElem_cons hi] at h2
    rcases List.mem_cons.mp h2 with h2 | h2
    · exfalso; apply hnot; rw [← he, ← h2]; exact hx
    · exact h2
theorem sld_notin (has : as.Pairwise (· ≤ ·)) (hj : j < as.length) {j' : Nat} (hj' : j < j') (hl : j' < as.length) (hne : as[j'] ≠ as[j]) : as[j] ∉ as.drop j' := by
  intro h
  have h1 := sld_ge has hl _ h
  have h2 := List.pairwise_iff_getElem.mp has j j' hj hl hj'
  omega
end
end Mine
end

-- M5
section
open PySem PySem.W PyProof.Rows
set_option maxRecDepth 100000
set_option maxHeartbeats 8000000
set_option linter.unusedVariables false
namespace Mine
local macro_rules | `(tactic| walk_at "WhPost") => `(tactic| (dsimp only [WhPost]))
local macro_rules | `(tactic| walk_at "exec While") => `(tactic| refine hold ?_)
local macro_rules | `(tactic| walk_at "exec While Compare cons nil") => `(tactic| refine hold ?_)
local macro_rules | `(tactic| walk_at "call ref") => `(tactic| refine hold ?_)
local macro_rules | `(tactic| walk_at "noteFrame ref") => `(tactic| refine hold ?_)
local macro_rules | `(tactic| walk_at "subscriptTail Name Name ref int") => `(tactic| refine hold ?_)
local macro_rules | `(tactic| walk_at "exec Try") => `(tactic| refine hold ?_)
local macro_rules | `(tactic| walk_at "call builtin:list.append") => `(tactic| refine hold ?_)
local macro_rules | `(tactic| walk_at "call builtin:list.extend") => `(tactic| refine hold ?_)
local macro_rules | `(tactic| k_all) => `(tactic| assumption)
set_option pp.deepTerms false
set_option pp.deepTerms.threshold 6
noncomputable def SldPost (es as : List Int) (rest : List (Addr × Obj)) (r : Value) (news' : List (Addr × Obj)) : Prop :=
  ∃ t m u vm k k' k'', r = .ref t ∧ news' = (t, ({ cls := .type "tuple", data := .seq #[.ref m, .ref u] k'' } : Obj)) :: (m, listOf vm.toArray k) :: (u, listOf #[] k') :: rest ∧ IntsAre vm (es.filter (fun x => !as.contains x)) ∧
        (∀ p ∈ rest, p.1 < m ∧ p.1 < u ∧ p.1 < t)
noncomputable def SldExc (es as : List Int) (h₀ : Heap) (L1 ea aa ma ua : Addr) (rest frs1 : List (Addr × Obj)) (s : Shared) (e : Value) (s₂ : Shared) : Prop :=
  ∃ (e' : Addr) (h : Heap) (tk i j : Nat) (vm : List Value) (ms : List Int) (km : Nat) (t1 t2 : Tok) (u : Str → Option Value) (frs' : List (Addr × Obj)), e = .ref e' ∧ s₂ = { s with heap := h, toks := tk } ∧ TI.SameUp frs1 frs' ∧
    TT.HeldN h₀ L1 h (kstB u [(Str.ofString "expected", .ref ea), (Str.ofString "actual", .ref aa), (Str.ofString "missing", .ref ma), (Str.ofString "unexpected", .ref ua), (Str.ofString "i", .int i t1), (Str.ofString "j", .int j t2)]) e' "IndexError" ((ua, listOf #[] 0) :: (ma, listOf vm.toArray km) :: (rest ++ frs')) ∧
    i ≤ es.length ∧ j ≤ as.length ∧ IntsAre vm ms ∧ ms ++ es.drop i = es.filter (fun x => !as.contains x) ∧ as.drop j = []

theorem sld_raise {prog : Program} {w : World} {A₀ : Around} {E : Value → Shared → Prop} {es as : List Int} {h₀ h h' : Heap} {L1 ea aa ma ua e' fa : Addr} {rest frs1 : List (Addr × Obj)} {s : Shared} {tk' i j km : Nat} {vm : List Value} {ms : List Int} {t1 t2 : Tok} {m' : Str → Option Value} {l : List Env} {name : Str} {scope : Scope} {cd : Value}
    (hfr : A₀.frames = some l) (tF : TI.Frs l frs1) (x' : Heap.NewExc h h' e' "IndexError") (F : Fr h₀ L1 h m') (N : News h₀ L1 h (((ua, listOf #[] 0) :: (ma, listOf vm.toArray km) :: rest) ++ frs1)) (hap : ∀ p ∈ rest, p.1 ∉ frs1.map (·.1)) (hma : ∀ p ∈ rest ++ frs1, p.1 < ma) (hua : ∀ p ∈ rest ++ frs1, p.1 < ua)
    (hk : ∀ p ∈ [(Str.ofString "expected", .ref ea), (Str.ofString "actual", .ref aa), (Str.ofString "missing", .ref ma), (Str.ofString "unexpected", .ref ua), (Str.ofString "i", .int i t1), (Str.ofString "j", .int j t2)], m' p.1 = some p.2)
    (hi : i ≤ es.length) (hj : j ≤ as.length) (hms : IntsAre vm ms) (heq : ms ++ es.drop i = es.filter (fun x => !as.contains x)) (hdr : as.drop j = []) (hsk : scope.kind = .function) :
    wpAny (model prog w) (A₀.deeper (envOf name scope L1 fa cd)) (noteFrame (.ref e') (envOf name scope L1 fa cd)) (fun _ s₂ => SldExc es as h₀ L1 ea aa ma ua rest frs1 s (.ref e') s₂) E { s with heap := h', toks := tk' } := by
  refine TLg.noted_newA (new := (ua, listOf #[] 0) :: (ma, listOf vm.toArray km) :: rest) hfr tF x' F N ?_ ?_ hsk
  · intro p hp hm
    have hne := (N p (List.mem_append_left _ hp)).2.1
    rcases List.mem_cons.mp hm with q | hm
    · exact hne q
    · rcases List.mem_cons.mp hp with rfl | hp
      · obtain ⟨q, hq, e⟩ := List.mem_map.mp hm
        exact Nat.ne_of_lt (hua q (List.mem_append_right _ hq)) e
      · rcases List.mem_cons.mp hp with rfl | hp
        · obtain ⟨q, hq, e⟩ := List.mem_map.mp hm
          exact Nat.ne_of_lt (hma q (List.mem_append_right _ hq)) e
        · exact hap p hp hm
  · intro h5 frs5 su5 fs5 tiH
    refine ⟨e', h5, tk', i, j, vm, ms, km, t1, t2, m', frs5, rfl, rfl, su5, ?_, hi, hj, hms, heq, hdr⟩
    rw [kstB_self hk]
    exact tiH

theorem sld_raise2 {prog : Program} {w : World} {A₀ : Around} {E : Value → Shared → Prop} {es as : List Int} {h₀ h h' : Heap} {L1 ea aa ma ua e' fa a1 : Addr} {rest frs1 frs0 : List (Addr × Obj)} {s : Shared} {tk' i j km : Nat} {vm : List Value} {ms : List Int} {t1 t2 : Tok} {m' : Str → Option Value} {l : List Env} {name : Str} {scope : Scope} {cd : Value}
    (hfr : A₀.frames = some l) (su0 : TI.SameUp frs0 frs1) (tF : TI.Frs l frs1) (x' : NewExcIn h h' e' a1 "IndexError") (F : Fr h₀ L1 h m') (N : News h₀ L1 h (((ua, listOf #[] 0) :: (ma, listOf vm.toArray km) :: rest) ++ frs1)) (hap : ∀ p ∈ rest, p.1 ∉ frs1.map (·.1)) (hma : ∀ p ∈ rest ++ frs1, p.1 < ma) (hua : ∀ p ∈ rest ++ frs1, p.1 < ua)
    (hk : ∀ p ∈ [(Str.ofString "expected", .ref ea), (Str.ofString "actual", .ref aa), (Str.ofString "missing", .ref ma), (Str.ofString "unexpected", .ref ua), (Str.ofString "i", .int i t1), (Str.ofString "j", .int j t2)], m' p.1 = some p.2)
    (hi : i ≤ es.length) (hj : j ≤ as.length) (hms : IntsAre vm ms) (heq : ms ++ es.drop i = es.filter (fun x => !as.contains x)) (hdr : as.drop j = []) (hsk : scope.kind = .function) :
    wpAny (model prog w) (A₀.deeper (envOf name scope L1 fa cd)) (noteFrame (.ref e') (envOf name scope L1 fa cd)) (fun _ s₂ => SldExc es as h₀ L1 ea aa ma ua rest frs0 s (.ref e') s₂) E { s with heap := h', toks := tk' } := by
  refine noted_newB (new := (ua, listOf #[] 0) :: (ma, listOf vm.toArray km) :: rest) hfr tF x' F N ?_ ?_ hsk
  · intro p hp hm
    have hne := (N p (List.mem_append_left _ hp)).2.1
    rcases List.mem_cons.mp hm with q | hm
    · exact hne q
    · rcases List.mem_cons.mp hp with rfl | hp
      · obtain ⟨q, hq, e⟩ := List.mem_map.mp hm
        exact Nat.ne_of_lt (hua q (List.mem_append_right _ hq)) e
      · rcases List.mem_cons.mp hp with rfl | hp
        · obtain ⟨q, hq, e⟩ := List.mem_map.mp hm
          exact Nat.ne_of_lt (hma q (List.mem_append_right _ hq)) e
        · exact hap p hp hm
  · intro h5 frs5 su5 fs5 tiH
    refine ⟨e', h5, tk', i, j, vm, ms, km, t1, t2, m', frs5, rfl, rfl, su0.trans su5, ?_, hi, hj, hms, heq, hdr⟩
    rw [kstB_self hk]
    exact tiH

theorem sld_ok (w : World) (ea aa : Addr) (vse vsa : List Value) (ne na : Nat) (es as : List Int) (rest : List (Addr × Obj))
    (hem : (ea, listOf vse.toArray ne) ∈ rest) (ham : (aa, listOf vsa.toArray na) ∈ rest) (hei : IntsAre vse es) (hai : IntsAre vsa as)
    (hes : es.Pairwise (· < ·)) (has : as.Pairwise (· ≤ ·)) (hsub : ∀ x ∈ as, x ∈ es) (hel : es.length < 1000) (hal : as.length < 1000) :
    CtrT w 28 [.ref ea, .ref aa] rest 6 80 (SldPost es as rest) := by
  unfold CtrT
  w_top off
  k_fill
  intro mean mg mb dp un gd cn cs a ccd cl outer h₀ L m s Q E frs F X N Fs hap T hk hdp hun hret
  refine wpAny_call ?_
  k_dflt (refine' code_defT (env := envX cn cs L a ccd cl) ?k2 ?k3 ?k4 ?k5 ?kFs ?kap ?kF ?kK ?k6 ?k7 ?k8 ?k9 ?kB ?_ ?c2 ?c3 ?c4 ?c5; (case kF => exact rfl); (case kK => assumption); (case k2 => k_asm); (case k3 => k_asm); (case k4 => k_asm); (case k5 => k_asm); (case kFs => k_asm); (case kap => k_asm); (case k6 => k_is); (case k7 => k_is); (case k8 => ktr_room); (case k9 => exact BindsTo.of_eq rfl); (case c5 => decide); (case kB => exact locs rfl); (case c2 => exact rfl); (case c3 => exact rfl); (case c4 => exact rfl); k_whole)
  intro oL L1 h1 tC tF hap1 hfL _ F1 N1
  obtain ⟨u, F2⟩ := fr_named [(Str.ofString "expected", .ref ea), (Str.ofString "actual", .ref aa)] F1 (by kst_all)
  clear F1 F N
  (try dsimp only)
  k_fold
  generalize hR : rest ++ (L, oL) :: frs = R0 at N1
  k_steps
  refine unhold ?_
  rename_i ma _ hma _ _ ua _ hua _ F3 N3
  have hem0 : (ea, listOf vse.toArray ne) ∈ R0 := by rw [← hR]; exact List.mem_append_left _ hem
  have ham0 : (aa, listOf vsa.toArray na) ∈ R0 := by rw [← hR]; exact List.mem_append_left _ ham
  refine wh (σ := Nat × Nat × List Value × List Int × Nat × Tok × Tok) (fun c => (ua, listOf #[] 0) :: (ma, listOf c.2.2.1.toArray c.2.2.2.2.1) :: R0)
    (fun c => [(Str.ofString "expected", .ref ea), (Str.ofString "actual", .ref aa), (Str.ofString "missing", .ref ma), (Str.ofString "unexpected", .ref ua), (Str.ofString "i", .int c.1 c.2.2.2.2.2.1), (Str.ofString "j", .int c.2.1 c.2.2.2.2.2.2)])
    (fun c => c.1 ≤ es.length ∧ c.2.1 ≤ as.length ∧ IntsAre c.2.2.1 c.2.2.2.1 ∧ c.2.2.2.1 ++ (es.drop c.1).filter (fun x => !(as.drop c.2.1).contains x) = es.filter (fun x => !as.contains x) ∧ ∀ x ∈ as.drop c.2.1, x ∈ es.drop c.1)
    (fun c => 2 * es.length + as.length - c.1 - c.2.1) (0, 0, [], [], 0, _, _) F3 N3 (by kst_all) ⟨Nat.zero_le _, Nat.zero_le _, .nil, rfl, hsub⟩ ?_
  clear F3 N3
  have hle := hei.length
  have hla := hai.length
  rintro ⟨i, j, vm, ms, km, t1, t2⟩ u' h3 tk3 ⟨hi, hj, hms, heq, hin⟩ F4 N4
  dsimp only at hi hj hms heq hin F4 N4
  refine gen_wh fun QW hQW => ?_
  k_steps
  refine unhold ?_
  refine wpAny_Try_except ?_
  have hmaA : ∀ p ∈ rest ++ (L, oL) :: frs, p.1 < ma := by rw [hR]; exact hma
  have huaA : ∀ p ∈ rest ++ (L, oL) :: frs, p.1 < ua := by rw [hR]; exact allLt_mem hua.2
  have hmu : ma < ua := hua.1
  refine wpAny_mono (E := fun e s' => wpAny _ _ (noteFrame e _) (fun _ s₂ => SldExc es as h₀ L1 ea aa ma ua rest ((L, oL) :: frs) s e s₂) _ s') ?body (fun _ _ x => x) (fun e s' hx => wpAny_mono hx (fun _ s₂ k => ?handler) (fun _ _ x => x))
  case handler =>
    obtain ⟨e', h5, tk5, i, j, vm, ms, km, t1, t2, u5, frs5, rfl, rfl, su5, tiH, hi5, hj5, hms5, heq5, hdr5⟩ := k
    have tiHH := TT.HeldNA.held tiH
    have hem5 : (ea, listOf vse.toArray ne) ∈ rest ++ frs5 := List.mem_append_left _ hem
    have ham5 : (aa, listOf vsa.toArray na) ∈ rest ++ frs5 := List.mem_append_left _ ham
    have hma5 : ∀ p ∈ rest ++ frs5, p.1 < ma := lt_up hmaA su5
    have hua5 : ∀ p ∈ rest ++ frs5, p.1 < ua := lt_up huaA su5
    generalize hR5 : rest ++ frs5 = R5 at tiH hem5 ham5 hma5 hua5
    clear heq hin hms hi hj F4 N4
    k_steps
    refine kmk_slice_ints (by k_asm) (by k_asm) (isL (by k_asm) (List.Mem.tail _ (List.Mem.tail _ hem5))) (.int _ _) .none hei (kmk_from hei (by omega)) rfl ?_ (by with_unfolding_all rfl) (by intro _; with_unfolding_all rfl) (by rw [List.size_toArray, sizeLine_eq]; omega)
    intro D1 ws1 h6 F6 N6 l1 hI1 _ _
    rw [Int.toNat_natCast] at hI1
    k_steps
    refine unhold ?_
    have hD1u : ua < D1 := l1 _ (List.Mem.head _)
    have hlen1 := hI1.length
    have hlenm := hms5.length
    have hlm : ms.length ≤ es.length := by
      have := congrArg List.length heq5
      have h2 := List.length_filter_le (fun x => !as.contains x) es
      simp only [List.length_append] at this
      omega
    refine extend_in (own := [(D1, listOf ws1.toArray 0), (ua, listOf #[] 0)]) (ys := vm) (n := km) (rest := R5) F6 N6 (by intro p hp; rcases List.mem_cons.mp hp with rfl | hp; (· exact Nat.ne_of_gt (Nat.lt_trans hmu hD1u)); rcases List.mem_cons.mp hp with rfl | hp; (· exact Nat.ne_of_gt hmu); exact nomatch hp) (fun p hp => Nat.ne_of_lt (hma5 p hp)) (N6.get (List.Mem.head _)) ?_ (by rw [List.size_toArray, hlen1, List.length_drop, sizeLine_eq]; omega)
    intro h7 n7 F7 N7
    dsimp only [List.cons_append, List.nil_append] at N7
    k_steps
    refine kmk_slice_ints (by k_asm) (by k_asm) (isL (by k_asm) (List.Mem.tail _ (List.Mem.tail _ (List.Mem.tail _ ham5)))) (.int _ _) .none hai (kmk_from hai (by omega)) rfl ?_ (by with_unfolding_all rfl) (by intro _; with_unfolding_all rfl) (by rw [List.size_toArray, sizeLine_eq]; omega)
    intro D2 ws2 h8 F8 N8 l2 hI2 _ _
    rw [Int.toNat_natCast, hdr5] at hI2
    cases hI2
    k_steps
    refine unhold ?_
    refine extend_in (own := [(D2, listOf #[] 0), (D1, listOf ws1.toArray 0)]) (ys := []) (n := 0) (rest := (ma, listOf (vm ++ ws1.toArray.toList).toArray n7) :: R5) F8 N8 (by intro p hp; rcases List.mem_cons.mp hp with rfl | hp; (· exact Nat.ne_of_gt (l2 _ (List.Mem.tail _ (List.Mem.head _)))); rcases List.mem_cons.mp hp with rfl | hp; (· exact Nat.ne_of_gt hD1u); exact nomatch hp) (by intro p hp; rcases List.mem_cons.mp hp with rfl | hp; (· exact Nat.ne_of_lt hmu); exact Nat.ne_of_lt (hua5 p hp)) (N8.get (List.Mem.head _)) ?_ (by simp [sizeLine_eq])
    intro h9 n9 F9 N9
    dsimp only [List.cons_append, List.nil_append] at N9
    k_steps
    refine hQW _ _ ?_
    dsimp only [WhPost]
    k_steps
    rename_i t1' h10 F10 N10 lt10
    subst hR5
    have hlt := allLt_mem lt10.2.2.2.2
    have N11 : News h₀ L1 h10 (((t1', ({ cls := .type "tuple", data := .seq #[.ref ma, .ref ua] 0 } : Obj)) :: (ma, listOf (vm ++ ws1).toArray n7) :: (ua, listOf #[] n9) :: rest) ++ frs5) := by
      intro p hp
      refine N10 p ?_
      rcases List.mem_append.mp hp with hp | hp
      · rcases List.mem_cons.mp hp with rfl | hp
        · exact List.Mem.head _
        · rcases List.mem_cons.mp hp with rfl | hp
          · exact List.Mem.tail _ (List.Mem.tail _ (List.Mem.tail _ (List.Mem.tail _ (List.Mem.head _))))
          · rcases List.mem_cons.mp hp with rfl | hp
            · exact List.Mem.tail _ (List.Mem.tail _ (List.Mem.tail _ (List.Mem.head _)))
            · exact List.Mem.tail _ (List.Mem.tail _ (List.Mem.tail _ (List.Mem.tail _ (List.Mem.tail _ (List.mem_append_left _ hp)))))
      · exact List.Mem.tail _ (List.Mem.tail _ (List.Mem.tail _ (List.Mem.tail _ (List.Mem.tail _ (List.mem_append_right _ hp)))))
    have hap11 : ∀ p ∈ ((t1', ({ cls := .type "tuple", data := .seq #[.ref ma, .ref ua] 0 } : Obj)) :: (ma, listOf (vm ++ ws1).toArray n7) :: (ua, listOf #[] n9) :: rest), p.1 ∉ frs5.map (·.1) := by
      intro p hp hm
      obtain ⟨q, hq, e⟩ := List.mem_map.mp hm
      rcases List.mem_cons.mp hp with rfl | hp
      · exact Nat.ne_of_lt (hlt q (List.mem_append_right _ hq)) e
      · rcases List.mem_cons.mp hp with rfl | hp
        · exact Nat.ne_of_lt (hma5 q (List.mem_append_right _ hq)) e
        · rcases List.mem_cons.mp hp with rfl | hp
          · exact Nat.ne_of_lt (hua5 q (List.mem_append_right _ hq)) e
          · refine hap1 p hp ?_
            rw [← sameUp_addr su5]
            exact hm
    obtain ⟨frs6, su6, F12, N12, hap12⟩ := backT tC F10 N11 su5 hap11 hfL
    refine hret _ _ _ _ _ F12 N12 su6 hap12 ⟨t1', ma, ua, vm ++ ws1, n7, n9, 0, rfl, rfl, ?_, fun p hp => ⟨hma5 p (List.mem_append_left _ hp), hua5 p (List.mem_append_left _ hp), hlt p (List.mem_append_left _ hp)⟩⟩
    rw [← heq5]
    exact hms5.append hI1
  case body =>
    have hap1' : ∀ p ∈ rest, p.1 ∉ ((L, oL) :: frs).map (·.1) := hap1
    by_cases hi2 : i < es.length
    · obtain ⟨te, hte⟩ := ints_at hei hi2
      k_steps
      refine unhold ?_
      dsimp only
      refine item_at (by k_asm) (List.Mem.tail _ (List.Mem.tail _ hem0)) (by first | exact Int.natCast_nonneg _ | omega) (by first | exact fit_lt (by assumption) (Nat.lt_of_le_of_lt (by assumption) (by decide)) | exact fit_lt (by assumption) (Nat.lt_trans (by assumption) (by decide)) | omega) (v := .int es[i] te) (by simpa using hte) ?_
      by_cases hj2 : j < as.length
      · obtain ⟨ta, hta⟩ := ints_at hai hj2
        k_steps
        refine unhold ?_
        dsimp only
        refine item_at (by k_asm) (List.Mem.tail _ (List.Mem.tail _ ham0)) (by first | exact Int.natCast_nonneg _ | omega) (by first | exact fit_lt (by assumption) (Nat.lt_of_le_of_lt (by assumption) (by decide)) | exact fit_lt (by assumption) (Nat.lt_trans (by assumption) (by decide)) | omega) (v := .int as[j] ta) (by simpa using hta) ?_
        have hle1 := sld_le hes hin hi2 hj2
        have hlm : ms.length ≤ es.length := by
          have := congrArg List.length heq
          have h2 := List.length_filter_le (fun x => !as.contains x) es
          simp only [List.length_append] at this
          omega
        have hlv := hms.length
        k_steps
        · have hlt : es[i] < as[j] := by assumption
          obtain ⟨q1, q2, q3⟩ := sld_lt has hin hi2 hj2 hlt heq
          have hnx := sld_next hes q3
          refine unhold ?_
          refine append_K (by k_asm) (by k_asm) (Upd.tail (Nat.ne_of_gt hmu) (Upd.head (fun p hp => Nat.ne_of_lt (hma p hp)))) ?_ (by rw [List.size_toArray, sizeLine_eq]; omega)
          intro h6 F6 N6
          rw [List.push_toArray] at N6
          k_steps
          refine unhold ?_
          rename_i h7 F7 N7
          obtain ⟨ti, hti⟩ := ints_at hei q3
          refine wh (σ := Unit) (fun _ => (ua, listOf #[] 0) :: (ma, listOf (vm ++ [Value.int es[i] te]).toArray (km + 1)) :: R0)
            (fun _ => [(Str.ofString "expected", .ref ea), (Str.ofString "actual", .ref aa), (Str.ofString "missing", .ref ma), (Str.ofString "unexpected", .ref ua), (Str.ofString "i", .int (i + 1 : Nat) _), (Str.ofString "j", .int j t2), (Str.ofString "e", .int es[i] te)])
            (fun _ => True) (fun _ => 0) () F7 N7 (by kst_all) True.intro ?_
          clear F7 N7
          intro _ u7 h8 tk8 _ F8 N8
          k_steps
          refine unhold ?_
          dsimp only
          refine item_at (by k_asm) (List.Mem.tail _ (List.Mem.tail _ hem0)) (by first | exact Int.natCast_nonneg _ | omega) (by first | exact fit_lt (by assumption) (Nat.lt_of_le_of_lt (by assumption) (by decide)) | exact fit_lt (by assumption) (Nat.lt_trans (by assumption) (by decide)) | omega) (v := .int es[i + 1] ti) (by simpa using hti) ?_
          k_steps
          · exact absurd (by assumption) hnx
          · refine hQW _ _ ?_
            dsimp only [WhPost]
            refine wh_end (i + 1, j, vm ++ [Value.int es[i] te], ms ++ [es[i]], km + 1, _, _) F8 N8 (fun p hp => hp) (by kst_all) ⟨by show i + 1 ≤ _; omega, hj, hms.append (.cons _ _ .nil), q1, q2⟩ (by show 2 * es.length + as.length - (i + 1) - j < 2 * es.length + as.length - i - j; omega)
        · have heqv : es[i] = as[j] := by omega
          refine unhold ?_
          rename_i h6 F6 N6
          have hone : ∀ k (hk : k < as.length), j ≤ k → k < j + 1 → as[k] = as[j] := by
            intro k hk h1 h2
            have : k = j := by omega
            subst this
            rfl
          by_cases q3 : i + 1 < es.length
          · obtain ⟨ti, hti⟩ := ints_at hei q3
            have hnx := sld_next hes q3
            refine wh (σ := Unit) (fun _ => (ua, listOf #[] 0) :: (ma, listOf vm.toArray km) :: R0)
              (fun _ => [(Str.ofString "expected", .ref ea), (Str.ofString "actual", .ref aa), (Str.ofString "missing", .ref ma), (Str.ofString "unexpected", .ref ua), (Str.ofString "i", .int (i + 1 : Nat) _), (Str.ofString "j", .int j t2), (Str.ofString "e", .int es[i] te), (Str.ofString "a", .int as[j] ta)])
              (fun _ => True) (fun _ => 0) () F6 N6 (by kst_all) True.intro ?_
            clear F6 N6
            intro _ u7 h8 tk8 _ F8 N8
            k_steps
            refine unhold ?_
            dsimp only
            refine item_at (by k_asm) (List.Mem.tail _ (List.Mem.tail _ hem0)) (by first | exact Int.natCast_nonneg _ | omega) (by first | exact fit_lt (by assumption) (Nat.lt_of_le_of_lt (by assumption) (by decide)) | exact fit_lt (by assumption) (Nat.lt_trans (by assumption) (by decide)) | omega) (v := .int es[i + 1] ti) (by simpa using hti) ?_
            k_steps
            · exact absurd (by assumption) hnx
            · refine unhold ?_
              rename_i h9 F9 N9
              refine wh (σ := Nat × Tok) (fun _ => (ua, listOf #[] 0) :: (ma, listOf vm.toArray km) :: R0)
                (fun c => [(Str.ofString "expected", .ref ea), (Str.ofString "actual", .ref aa), (Str.ofString "missing", .ref ma), (Str.ofString "unexpected", .ref ua), (Str.ofString "i", .int (i + 1 : Nat) _), (Str.ofString "j", .int c.1 c.2), (Str.ofString "a", .int as[j] ta)])
                (fun c => j < c.1 ∧ c.1 ≤ as.length ∧ ∀ k (hk : k < as.length), j ≤ k → k < c.1 → as[k] = as[j]) (fun c => as.length - c.1) (j + 1, _) F9 N9 (by kst_all) ⟨Nat.lt_succ_self _, hj2, hone⟩ ?_
              clear F9 N9
              rintro ⟨j', t3⟩ u9 h10 tk10 ⟨p1, p2, p3⟩ F10 N10
              dsimp only at p1 p2 p3 F10
              refine gen_wh fun QV hQV => ?_
              by_cases hj3 : j' < as.length
              · obtain ⟨tj, htj⟩ := ints_at hai hj3
                k_steps
                refine unhold ?_
                dsimp only
                refine item_at (by k_asm) (List.Mem.tail _ (List.Mem.tail _ ham0)) (by first | exact Int.natCast_nonneg _ | omega) (by first | exact fit_lt (by assumption) (Nat.lt_of_le_of_lt (by assumption) (by decide)) | exact fit_lt (by assumption) (Nat.lt_trans (by assumption) (by decide)) | omega) (v := .int as[j'] tj) (by simpa using htj) ?_
                k_steps
                · have hsm : as[j'] = as[j] := by assumption
                  rename_i h11 F11 N11
                  refine hQV _ _ ?_
                  dsimp only [WhPost]
                  refine wh_end (j' + 1, _) F11 N11 (fun p hp => hp) (by kst_all) ⟨Nat.lt_succ_of_lt p1, hj3, fun k hk h1 h2 => ?_⟩ (by show as.length - (j' + 1) < as.length - j'; omega)
                  rcases Nat.lt_or_ge k j' with h3 | h3
                  · exact p3 k hk h1 h3
                  · have : k = j' := by have : k < j' + 1 := h2
                                        omega
                    subst this
                    exact hsm
                · have hdf : as[j'] ≠ as[j] := by assumption
                  obtain ⟨r1, r2⟩ := sld_eq hes hin hi2 hj2 heqv heq p1 p3 p2 (sld_notin has hj2 p1 hj3 hdf)
                  refine hQW _ _ ?_
                  dsimp only [WhPost]
                  refine wh_end (i + 1, j', vm, ms, km, _, _) F10 N10 (fun p hp => hp) (by kst_all) ⟨(Nat.le_of_lt q3), p2, hms, r1, r2⟩ (by show 2 * es.length + as.length - (i + 1) - j' < 2 * es.length + as.length - i - j; omega)
              · k_steps
                refine unhold ?_
                dsimp only
                refine item_outK rfl (isL N10 (List.Mem.tail _ (List.Mem.tail _ ham0))) (Or.inr (by rw [List.size_toArray]; omega)) (by omega) (by omega) ?_
                intro h' tk' e' x'
                have hje : j' = as.length := by omega
                have hd3 : as.drop j' = [] := by simp; omega
                obtain ⟨r1, r2⟩ := sld_eq hes hin hi2 hj2 heqv heq p1 p3 p2 (by rw [hd3]; exact List.not_mem_nil)
                refine PySem.PassesOwn.looking _ _ ?_
                refine sld_raise rfl tF x' F10 (by subst hR; exact N10) hap1' hmaA huaA (by kst_all) (Nat.le_of_lt q3) p2 hms (by rw [hd3] at r1; rw [← r1]; congr 1; exact (List.filter_eq_self.mpr (by intro x _; rfl)).symm) hd3 rfl
          · refine wh (σ := Unit) (fun _ => (ua, listOf #[] 0) :: (ma, listOf vm.toArray km) :: R0)
              (fun _ => [(Str.ofString "expected", .ref ea), (Str.ofString "actual", .ref aa), (Str.ofString "missing", .ref ma), (Str.ofString "unexpected", .ref ua), (Str.ofString "i", .int (i + 1 : Nat) _), (Str.ofString "j", .int j t2), (Str.ofString "e", .int es[i] te), (Str.ofString "a", .int as[j] ta)])
              (fun _ => True) (fun _ => 0) () F6 N6 (by kst_all) True.intro ?_
            clear F6 N6
            intro _ u7 h8 tk8 _ F8 N8
            k_steps
            refine unhold ?_
            dsimp only
            refine item_outK rfl (isL N8 (List.Mem.tail _ (List.Mem.tail _ hem0))) (Or.inr (by rw [List.size_toArray]; omega)) (by omega) (by omega) ?_
            intro h' tk' e1 x1
            refine note1 (new := (ua, listOf #[] 0) :: (ma, listOf vm.toArray km) :: rest) (frs := (L, oL) :: frs) rfl tF x1 F8 (by subst hR; exact N8) ?_ ?_ rfl
            · intro p hp hm
              have hne := (N8 p (by subst hR; exact List.mem_append_left ((L, oL) :: frs) hp)).2.1
              rcases List.mem_cons.mp hm with q | hm
              · exact hne q
              · rcases List.mem_cons.mp hp with rfl | hp
                · obtain ⟨q, hq, e⟩ := List.mem_map.mp hm
                  exact Nat.ne_of_lt (huaA q (List.mem_append_right _ hq)) e
                · rcases List.mem_cons.mp hp with rfl | hp
                  · obtain ⟨q, hq, e⟩ := List.mem_map.mp hm
                    exact Nat.ne_of_lt (hmaA q (List.mem_append_right _ hq)) e
                  · exact hap1' p hp hm
            clear F8 N8 x1
            intro h9 frs9 oe T9 oT ts tt su9 fs9 F9 N9 hc9 hd9 hdT9 h39 hTe9 hap9
            dsimp only [List.cons_append] at N9 hap9
            refine ⟨PySem.ref_ne_byPass _, ?_⟩
            refine note_again (N9.get (List.Mem.head _)) hd9 rfl (N9.get (List.Mem.tail _ (List.Mem.head _))) hdT9 h39 ?_
            refine flight_none F9 N9 hd9 rfl hdT9 (Array.getElem?_eq_some_iff.mp h39).1 hTe9 (fun p hp => (hap9 p hp).2) ?_
            clear F9 N9
            intro h10 oT10 F10 N10 hdT10
            have hem9 : (ea, listOf vse.toArray ne) ∈ rest ++ frs9 := List.mem_append_left _ hem
            have ham9 : (aa, listOf vsa.toArray na) ∈ rest ++ frs9 := List.mem_append_left _ ham
            generalize hR9 : rest ++ frs9 = R9 at N10 hem9 ham9 hap9
            k_steps
            refine unhold ?_
            rename_i h11 F11 N11
            refine wh (σ := Nat × Tok) (fun _ => (e1, oe) :: (T9, oT10) :: (ua, listOf #[] 0) :: (ma, listOf vm.toArray km) :: R9)
              (fun c => [(Str.ofString "expected", .ref ea), (Str.ofString "actual", .ref aa), (Str.ofString "missing", .ref ma), (Str.ofString "unexpected", .ref ua), (Str.ofString "i", .int (i + 1 : Nat) _), (Str.ofString "j", .int c.1 c.2), (Str.ofString "a", .int as[j] ta)])
              (fun c => j < c.1 ∧ c.1 ≤ as.length ∧ ∀ k (hk : k < as.length), j ≤ k → k < c.1 → as[k] = as[j]) (fun c => as.length - c.1) (j + 1, _) F11 N11 (by kst_all) ⟨Nat.lt_succ_self _, hj2, hone⟩ ?_
            clear F11 N11
            rintro ⟨j', t3⟩ u12 h12 tk12 ⟨p1, p2, p3⟩ F12 N12
            dsimp only at p1 p2 p3 F12
            refine gen_wh fun QV hQV => ?_
            have hlast : ∀ k (hk : k < as.length), j ≤ k → as[k] = as[j] := by
              intro k hk h1
              have hm : as[k] ∈ as.drop j := by
                rw [List.mem_iff_getElem]
                exact ⟨k - j, by simp; omega, by simp only [List.getElem_drop]; congr 1; omega⟩
              have := hin _ hm
              rw [List.drop_eq_getElem_cons hi2, List.drop_of_length_le (by omega)] at this
              rw [List.mem_singleton.mp this, heqv]
            by_cases hj3 : j' < as.length
            · obtain ⟨tj, htj⟩ := ints_at hai hj3
              k_steps
              refine unhold ?_
              dsimp only
              refine item_at (by k_asm) (List.Mem.tail _ (List.Mem.tail _ (List.Mem.tail _ (List.Mem.tail _ ham9)))) (by first | exact Int.natCast_nonneg _ | omega) (by first | exact fit_lt (by assumption) (Nat.lt_of_le_of_lt (by assumption) (by decide)) | exact fit_lt (by assumption) (Nat.lt_trans (by assumption) (by decide)) | omega) (v := .int as[j'] tj) (by simpa using htj) ?_
              k_steps
              · rename_i h13 F13 N13
                refine hQV _ _ ?_
                dsimp only [WhPost]
                refine wh_end (j' + 1, _) F13 N13 (fun p hp => hp) (by kst_all) ⟨Nat.lt_succ_of_lt p1, hj3, fun k hk h1 h2 => hlast k hk h1⟩ (by show as.length - (j' + 1) < as.length - j'; omega)
              · exact absurd (hlast j' hj3 (Nat.le_of_lt p1)) (by assumption)
            · k_steps
              refine unhold ?_
              dsimp only
              refine item_out_in rfl (N12.get (List.Mem.head _)) hd9 rfl (isL N12 (List.Mem.tail _ (List.Mem.tail _ (List.Mem.tail _ (List.Mem.tail _ ham9))))) (by rw [List.size_toArray]; omega) (by omega) ?_
              intro h' tk' e2 x2
              have hd3 : as.drop j' = [] := by simp; omega
              obtain ⟨r1, r2⟩ := sld_eq hes hin hi2 hj2 heqv heq p1 p3 p2 (by rw [hd3]; exact List.not_mem_nil)
              refine PySem.PassesOwnAt.lookingOf (PySem.SameStack.mark _ _) _ _ ?_
              refine sld_raise2 rfl su9 fs9 x2 F12 (by subst hR9; exact fun p hp => N12 p (List.Mem.tail _ (List.Mem.tail _ hp))) ?_ (lt_up hmaA su9) (lt_up huaA su9) (by kst_all) (show i + 1 ≤ es.length by omega) p2 hms (by rw [hd3] at r1; rw [← r1]; congr 1; exact (List.filter_eq_self.mpr (by intro x _; rfl)).symm) hd3 rfl
              intro p hp
              rw [sameUp_addr su9]
              exact hap1' p hp
      · have hd2 : as.drop j = [] := by simp; omega
        k_steps
        refine unhold ?_
        dsimp only
        rename_i h5 F5 N6
        refine item_outK rfl (isL N6 (List.Mem.tail _ (List.Mem.tail _ ham0))) (Or.inr (by rw [List.size_toArray]; omega)) (by omega) (by omega) ?_
        intro h' tk' e' x'
        have N7 : News h₀ L1 h5 (((ua, listOf #[] 0) :: (ma, listOf vm.toArray km) :: rest) ++ (L, oL) :: frs) := by subst hR; exact N6
        refine sld_raise rfl tF x' F5 N7 hap1' hmaA huaA (by kst_all) hi hj hms (by rw [hd2] at heq; rw [← heq]; congr 1; exact (List.filter_eq_self.mpr (by intro x _; rfl)).symm) hd2 rfl
    · have hd1 : es.drop i = [] := by simp; omega
      have hd2 : as.drop j = [] := by
        cases hq : as.drop j with
        | nil => rfl
        | cons x y => have := hin x (by rw [hq]; exact List.mem_cons_self); rw [hd1] at this; cases this
      k_steps
      refine unhold ?_
      dsimp only
      refine item_outK rfl (isL N4 (List.Mem.tail _ (List.Mem.tail _ hem0))) (Or.inr (by rw [List.size_toArray]; omega)) (by omega) (by omega) ?_
      intro h' tk' e' x'
      refine sld_raise rfl tF x' F4 (by subst hR; exact N4) hap1' hmaA huaA (by kst_all) hi hj hms (by rw [hd1] at heq ⊢; exact heq) hd2 rfl
end Mine
end

-- M3
section
open PySem PySem.W PyProof.Rows
set_option maxRecDepth 100000
set_option maxHeartbeats 8000000
set_option linter.unusedVariables false
namespace Mine
noncomputable def suLoop (d : Value × List Int) : Nat → List (Value × List Int) → Nat → List (Value × List Int) × Nat
  | 0, xs, pos => (xs, pos)
  | f + 1, xs, pos =>
    if 2 * pos + 1 < xs.length then
      let c := if 2 * pos + 2 < xs.length ∧ lexLt (xs.getD (2 * pos + 1) d).2 (xs.getD (2 * pos + 2) d).2 = false then 2 * pos + 2 else 2 * pos + 1
      suLoop d f (xs.set pos (xs.getD c d)) c
    else (xs, pos)

noncomputable def siftup (xs : List (Value × List Int)) : List (Value × List Int) :=
  match xs with
  | [] => []
  | e :: _ =>
    let r := suLoop e xs.length xs 0
    sdLoop e r.2 (r.1.set r.2 e) r.2

local macro_rules | `(tactic| walk_at "WhPost") => `(tactic| (dsimp only [WhPost]))
local macro_rules | `(tactic| walk_at "exec While Compare cons nil") => `(tactic| refine hold ?_)
local macro_rules | `(tactic| walk_at "call ref") => `(tactic| refine hold ?_)
set_option pp.deepTerms false
set_option pp.deepTerms.threshold 6
theorem siftup_ok (w : World) (hp : Addr) (xs : List (Value × List Int)) (n : Nat) (rest : List (Addr × Obj)) (tp : Tok) (e : Value × List Int)
    (hne : ∀ p ∈ rest, p.1 ≠ hp) (hw : WordsIn rest xs) (hsz : xs.length < 1000) (he : xs[0]? = some e) :
    Ctr w 63 [.ref hp, .int 0 tp] ((hp, listOf (xs.map (·.1)).toArray n) :: rest) 5 70
      (fun r news' => r = .none ∧ news' = (hp, listOf ((siftup xs).map (·.1)).toArray n) :: rest) := by
  unfold Ctr
  w_top off
  k_fill
  intro mean mg mb dp un gd cn cs a ccd cl outer A₀ base h₀ L m s Q E B F X N T hk hdp hun hret
  refine wpAny_call ?_
  k_dflt ktr_enter
  rename_i g1 L1 h1 FG1 F1 N1 B1 X1 T1
  obtain ⟨u, F2⟩ := fr_named [(Str.ofString "heap", .ref hp), (Str.ofString "pos", .int 0 tp)] F1 (by kst_all)
  clear F1
  k_steps
  refine len_at (by k_asm) (by k_mem) (by rw [List.length_map]; omega) ?_
  rw [List.length_map]
  k_steps
  refine item_at (by k_asm) (by k_mem) (by first | exact Int.natCast_nonneg _ | omega) (by first | exact fit_lt (by assumption) (Nat.lt_of_le_of_lt (by assumption) (by decide)) | exact fit_lt (by assumption) (Nat.lt_trans (by assumption) (by decide)) | omega) (v := e.1) (by simp [he]) ?_
  k_steps
  refine unhold ?_
  rename_i h2 F3 N3
  obtain ⟨ae, vs, ke, he1, hem, hei⟩ := hw e (List.mem_of_getElem? he)
  refine wh (σ := List (Value × List Int) × Nat × Nat × Tok × Tok) (fun c => (hp, listOf (c.1.map (·.1)).toArray n) :: rest)
    (fun c => [(Str.ofString "heap", .ref hp), (Str.ofString "endpos", .int xs.length _), (Str.ofString "startpos", .int 0 tp), (Str.ofString "pos", .int c.2.1 c.2.2.2.1), (Str.ofString "newitem", .ref ae), (Str.ofString "childpos", .int (2 * c.2.1 + 1 : Nat) c.2.2.2.2)])
    (fun c => c.1.length = xs.length ∧ c.2.1 < c.1.length ∧ xs.length ≤ c.2.2.1 + c.2.1 ∧ WordsIn rest c.1 ∧ suLoop e xs.length xs 0 = suLoop e c.2.2.1 c.1 c.2.1)
    (fun c => xs.length - c.2.1) (xs, 0, xs.length, tp, _) F3 N3 (by rw [he1]; kst_all) ⟨rfl, ?_, Nat.le_refl _, hw, rfl⟩ ?_
  · show 0 < xs.length
    cases xs with
    | nil => cases he
    | cons x y => exact Nat.zero_lt_succ _
  clear N3 F3
  rintro ⟨xs', pos', f, t1, t2⟩ u' h3 tk3 ⟨hl', hp', hf', hw', hsd⟩ F4 N4
  dsimp only at hl' hp' hf' hw' hsd F4 N4
  refine gen_wh fun QW hQW => ?_
  k_steps
  · have hc1 : 2 * pos' + 1 < xs'.length := by omega
    have hc2 : 2 * pos' + 2 < xs'.length := by omega
    obtain ⟨p, hpd⟩ : ∃ p, xs'[2 * pos' + 1]? = some p := ⟨_, List.getElem?_eq_getElem hc1⟩
    obtain ⟨q, hqd⟩ : ∃ q, xs'[2 * pos' + 2]? = some q := ⟨_, List.getElem?_eq_getElem hc2⟩
    obtain ⟨ap, vp, kp, hp1, hpm, hpi⟩ := hw' p (List.mem_of_getElem? hpd)
    obtain ⟨aq, vq, kq, hq1, hqm, hqi⟩ := hw' q (List.mem_of_getElem? hqd)
    have hgp : xs'.getD (2 * pos' + 1) e = p := by simp [List.getD, hpd]
    have hgq : xs'.getD (2 * pos' + 2) e = q := by simp [List.getD, hqd]
    refine item_at (by k_asm) (by k_mem) (by first | exact Int.natCast_nonneg _ | omega) (by first | exact fit_lt (by assumption) (Nat.lt_of_le_of_lt (by assumption) (by decide)) | exact fit_lt (by assumption) (Nat.lt_trans (by assumption) (by decide)) | omega) (v := .ref ap) (by simp only [Int.toNat_natCast, List.getElem?_map, hpd, Option.map_some, hp1]) ?_
    k_steps
    dsimp only
    rw [show ((2 * pos' + 1 : Nat) : Int) + 1 = ((2 * pos' + 2 : Nat) : Int) by omega]
    refine item_at (by k_asm) (by k_mem) (by first | exact Int.natCast_nonneg _ | omega) (by first | exact fit_lt (by assumption) (Nat.lt_of_le_of_lt (by assumption) (by decide)) | exact fit_lt (by assumption) (Nat.lt_trans (by assumption) (by decide)) | omega) (v := .ref aq) (by simp only [Int.toNat_natCast, List.getElem?_map, hqd, Option.map_some, hq1]) ?_
    k_steps
    refine lt_lists (isL (by assumption) (List.Mem.tail _ hpm)) hpi (isL (by assumption) (List.Mem.tail _ hqm)) hqi (by simp only [units_deeper]; omega) ?_
    k_steps
    · have hlt : lexLt p.2 q.2 = true := by assumption
      dsimp only
      rw [show (((2 * pos' + 1 : Nat) : Int) : Int) = ((2 * pos' + 1 : Nat) : Int) by omega]
      refine item_at (by k_asm) (by k_mem) (by first | exact Int.natCast_nonneg _ | omega) (by first | exact fit_lt (by assumption) (Nat.lt_of_le_of_lt (by assumption) (by decide)) | exact fit_lt (by assumption) (Nat.lt_trans (by assumption) (by decide)) | omega) (v := .ref ap) (by simp only [Int.toNat_natCast, List.getElem?_map, hpd, Option.map_some, hp1]) ?_
      k_steps
      dsimp only
      refine set_at (by k_asm) (by k_asm) (Upd.head hne) (by omega) (by simp; omega) (by omega) ?_
      intro h5 F6 N6
      k_steps
      rename_i h6 F7 N7
      have eN : (xs'.map (·.1)).set (pos' : Int).toNat (.ref ap) = (xs'.set pos' p).map (·.1) := by simp [List.map_set, hp1]
      rw [eN] at N7
      cases f with
      | zero => omega
      | succ f =>
        refine hQW _ _ ?_
        dsimp only [WhPost]
        refine wh_end (xs'.set pos' p, 2 * pos' + 1, f, _, _) F7 N7 (fun p hp => hp) (by kst_all) ⟨by simpa using hl', by simpa using hc1, by show xs.length ≤ f + (2 * pos' + 1); omega, ?_, ?_⟩ (by show xs.length - (2 * pos' + 1) < xs.length - pos'; omega)
        · intro q hq
          rcases List.mem_or_eq_of_mem_set hq with hq | rfl
          · exact hw' q hq
          · exact hw' q (List.mem_of_getElem? hpd)
        · rw [hsd, suLoop, if_pos (by omega)]
          dsimp only
          rw [if_neg (by rw [hgp, hgq, hlt]; simp), hgp]
    · have hlt : lexLt p.2 q.2 = false := by assumption
      dsimp only
      rw [show (((2 * pos' + 1 : Nat) : Int) + 1 : Int) = ((2 * pos' + 2 : Nat) : Int) by omega]
      refine item_at (by k_asm) (by k_mem) (by first | exact Int.natCast_nonneg _ | omega) (by first | exact fit_lt (by assumption) (Nat.lt_of_le_of_lt (by assumption) (by decide)) | exact fit_lt (by assumption) (Nat.lt_trans (by assumption) (by decide)) | omega) (v := .ref aq) (by simp only [Int.toNat_natCast, List.getElem?_map, hqd, Option.map_some, hq1]) ?_
      k_steps
      dsimp only
      refine set_at (by k_asm) (by k_asm) (Upd.head hne) (by omega) (by simp; omega) (by omega) ?_
      intro h5 F6 N6
      k_steps
      rename_i h6 F7 N7
      have eN : (xs'.map (·.1)).set (pos' : Int).toNat (.ref aq) = (xs'.set pos' q).map (·.1) := by simp [List.map_set, hq1]
      rw [eN] at N7
      cases f with
      | zero => omega
      | succ f =>
        refine hQW _ _ ?_
        dsimp only [WhPost]
        refine wh_end (xs'.set pos' q, 2 * pos' + 2, f, _, _) F7 N7 (fun p hp => hp) (by kst_all) ⟨by simpa using hl', by simpa using hc2, by show xs.length ≤ f + (2 * pos' + 2); omega, ?_, ?_⟩ (by show xs.length - (2 * pos' + 2) < xs.length - pos'; omega)
        · intro q hq
          rcases List.mem_or_eq_of_mem_set hq with hq | rfl
          · exact hw' q hq
          · exact hw' q (List.mem_of_getElem? hqd)
        · rw [hsd, suLoop, if_pos (by omega)]
          dsimp only
          rw [if_pos (by rw [hgp, hgq]; exact ⟨by omega, hlt⟩), hgq]
  · have hc1 : 2 * pos' + 1 < xs'.length := by omega
    obtain ⟨p, hpd⟩ : ∃ p, xs'[2 * pos' + 1]? = some p := ⟨_, List.getElem?_eq_getElem hc1⟩
    obtain ⟨ap, vp, kp, hp1, hpm, hpi⟩ := hw' p (List.mem_of_getElem? hpd)
    have hgp : xs'.getD (2 * pos' + 1) e = p := by simp [List.getD, hpd]
    · dsimp only
      rw [show (((2 * pos' + 1 : Nat) : Int) : Int) = ((2 * pos' + 1 : Nat) : Int) by omega]
      refine item_at (by k_asm) (by k_mem) (by first | exact Int.natCast_nonneg _ | omega) (by first | exact fit_lt (by assumption) (Nat.lt_of_le_of_lt (by assumption) (by decide)) | exact fit_lt (by assumption) (Nat.lt_trans (by assumption) (by decide)) | omega) (v := .ref ap) (by simp only [Int.toNat_natCast, List.getElem?_map, hpd, Option.map_some, hp1]) ?_
      k_steps
      dsimp only
      refine set_at (by k_asm) (by k_asm) (Upd.head hne) (by omega) (by simp; omega) (by omega) ?_
      intro h5 F6 N6
      k_steps
      rename_i h6 F7 N7
      have eN : (xs'.map (·.1)).set (pos' : Int).toNat (.ref ap) = (xs'.set pos' p).map (·.1) := by simp [List.map_set, hp1]
      rw [eN] at N7
      cases f with
      | zero => omega
      | succ f =>
        refine hQW _ _ ?_
        dsimp only [WhPost]
        refine wh_end (xs'.set pos' p, 2 * pos' + 1, f, _, _) F7 N7 (fun p hp => hp) (by kst_all) ⟨by simpa using hl', by simpa using hc1, by show xs.length ≤ f + (2 * pos' + 1); omega, ?_, ?_⟩ (by show xs.length - (2 * pos' + 1) < xs.length - pos'; omega)
        · intro q hq
          rcases List.mem_or_eq_of_mem_set hq with hq | rfl
          · exact hw' q hq
          · exact hw' q (List.mem_of_getElem? hpd)
        · rw [hsd, suLoop, if_pos (by omega)]
          dsimp only
          rw [if_neg (by omega), hgp]
  · dsimp only
    refine set_at (by k_asm) (by k_asm) (Upd.head hne) (by omega) (by simp; omega) (by omega) ?_
    intro h5 F6 N6
    k_steps
    refine unhold ?_
    have eN : (xs'.map (·.1)).set (pos' : Int).toNat (.ref ae) = (xs'.set pos' e).map (·.1) := by simp [List.map_set, he1]
    rw [eN] at N6
    have hw2 : WordsIn rest (xs'.set pos' e) := by
      intro q hq
      rcases List.mem_or_eq_of_mem_set hq with hq | rfl
      · exact hw' q hq
      · exact hw q (List.mem_of_getElem? he)
    have hend : siftup xs = sdLoop e pos' (xs'.set pos' e) pos' := by
      cases xs with
      | nil => cases he
      | cons x y =>
        have hx : x = e := by simpa using he
        subst hx
        have : suLoop x f xs' pos' = (xs', pos') := by
          cases f with
          | zero => rfl
          | succ f => rw [suLoop, if_neg (by omega)]
        show sdLoop x (suLoop x (x :: y).length (x :: y) 0).2 ((suLoop x (x :: y).length (x :: y) 0).1.set (suLoop x (x :: y).length (x :: y) 0).2 x) (suLoop x (x :: y).length (x :: y) 0).2 = _
        rw [hsd, this]
    refine ctr_use (siftdown_ok w hp (xs'.set pos' e) n rest pos' tp t1 e hne hw2 (by simpa using hp') (by rw [List.length_set]; omega) (by simp [hp'])) B1 F6 X1 N6 T1 rfl (show dp + 1 + 3 < recursionLimit from room hdp (by decide)) (show un + 3 + 60 < cLine from room3 hun (by decide)) ?_
    rintro r news' h7 tk7 F7 N7 ⟨rfl, rfl⟩
    k_steps
    refine hret _ _ _ _ (by assumption) (by assumption) ⟨rfl, ?_⟩
    rw [hend]
end Mine
end

-- M4
section
open PySem PySem.W PyProof.Rows
set_option maxRecDepth 100000
set_option maxHeartbeats 8000000
set_option linter.unusedVariables false
namespace Mine
noncomputable def hpush (xs : List (Value × List Int)) (e : Value × List Int) : List (Value × List Int) := sdLoop e xs.length (xs ++ [e]) xs.length

local macro_rules | `(tactic| walk_at "WhPost") => `(tactic| (dsimp only [WhPost]))
local macro_rules | `(tactic| walk_at "exec While Compare cons nil") => `(tactic| refine hold ?_)
local macro_rules | `(tactic| walk_at "call ref") => `(tactic| refine hold ?_)
local macro_rules | `(tactic| walk_at "call builtin:list.pop") => `(tactic| refine hold ?_)
local macro_rules | `(tactic| walk_at "truthy ref") => `(tactic| refine hold ?_)
local macro_rules | `(tactic| walk_at "call builtin:len") => `(tactic| refine hold ?_)
local macro_rules | `(tactic| k_all) => `(tactic| assumption)
set_option pp.deepTerms false
set_option pp.deepTerms.threshold 6
theorem heappush_ok (w : World) (hp : Addr) (xs : List (Value × List Int)) (n : Nat) (rest : List (Addr × Obj)) (e : Value × List Int)
    (hne : ∀ p ∈ rest, p.1 ≠ hp) (hw : WordsIn rest (xs ++ [e])) (hsz : xs.length < 900) :
    Ctr w 42 [.ref hp, e.1] ((hp, listOf (xs.map (·.1)).toArray n) :: rest) 6 80
      (fun r news' => r = .none ∧ ∃ n', news' = (hp, listOf ((hpush xs e).map (·.1)).toArray n') :: rest) := by
  obtain ⟨e1, e2⟩ := e
  dsimp only
  unfold Ctr
  w_top off
  k_fill
  intro mean mg mb dp un gd cn cs a ccd cl outer A₀ base h₀ L m s Q E B F X N T hk hdp hun hret
  refine wpAny_call ?_
  k_dflt ktr_enter
  rename_i g1 L1 h1 FG1 F1 N1 B1 X1 T1
  obtain ⟨u, F2⟩ := fr_named [(Str.ofString "heap", .ref hp), (Str.ofString "item", e1)] F1 (by kst_all)
  clear F1
  k_steps
  rename_i h2 F3 N3
  have eN : (xs.map (·.1)).toArray.push e1 = ((xs ++ [(e1, e2)]).map (·.1)).toArray := by simp
  rw [eN] at N3
  refine unhold ?_
  refine len_at (by k_asm) (by k_mem) (by simp; omega) ?_
  rw [List.length_map, List.length_append]
  k_steps
  refine unhold ?_
  rw [show (((xs.length + [(e1, e2)].length : Nat) : Int) - 1) = ((xs.length : Nat) : Int) by simp]
  refine ctr_use (siftdown_ok w hp (xs ++ [(e1, e2)]) (n + 1) rest xs.length _ _ (e1, e2) hne hw (by simp) (by simp; omega) (by simp)) B1 F3 X1 N3 T1 rfl (show dp + 1 + 3 < recursionLimit from room hdp (by decide)) (show un + 3 + 60 < cLine from room3 hun (by decide)) ?_
  rintro r news' h7 tk7 F7 N7 ⟨rfl, rfl⟩
  k_steps
  exact hret _ _ _ _ (by assumption) (by assumption) ⟨rfl, _, rfl⟩

noncomputable def hpop (xs : List (Value × List Int)) : List (Value × List Int) :=
  match xs.dropLast with
  | [] => []
  | y :: ys => siftup (xs.getLastD y :: ys)

theorem heappop_ok (w : World) (hp : Addr) (xs : List (Value × List Int)) (n : Nat) (rest : List (Addr × Obj)) (e : Value × List Int)
    (hne : ∀ p ∈ rest, p.1 ≠ hp) (hw : WordsIn rest xs) (hsz : xs.length < 900) (he : xs[0]? = some e) :
    Ctr w 49 [.ref hp] ((hp, listOf (xs.map (·.1)).toArray n) :: rest) 8 90
      (fun r news' => r = e.1 ∧ ∃ n', news' = (hp, listOf ((hpop xs).map (·.1)).toArray n') :: rest) := by
  unfold Ctr
  k_fill
  intro mean mg mb dp un gd cn cs a ccd cl outer A₀ base h₀ L m s Q E B F X N T hk hdp hun hret
  refine wpAny_call ?_
  k_dflt ktr_enter
  rename_i g1 L1 h1 FG1 F1 N1 B1 X1 T1
  obtain ⟨u, F2⟩ := fr_named [(Str.ofString "heap", .ref hp)] F1 (by kst_all)
  clear F1
  have hxne : xs ≠ [] := by rintro rfl; cases he
  obtain ⟨l, hl⟩ : ∃ l, xs = xs.dropLast ++ [l] := ⟨xs.getLast hxne, (List.dropLast_concat_getLast hxne).symm⟩
  generalize hys : xs.dropLast = ys at hl
  k_steps
  refine unhold ?_
  refine kl_pop (p := ys.map (·.1)) (y := l.1) (by k_asm) (by k_asm) (by rw [hl]; simpa using kpa_last l.1 (ys.map (·.1))) (Upd.head hne) (by rw [List.toList_toArray, List.length_map]; rw [sizeLine_eq]; omega) ?_
  intro h2 F3 N3
  k_steps
  refine unhold ?_
  refine wpAny_truthy_list (isL (by assumption) (List.Mem.head _)) (by rw [List.size_toArray, List.length_map]; have := congrArg List.length hl; simp at this; omega) ?_
  cases hy : ys with
  | nil =>
    subst hy
    have hle : l = e := by rw [hl] at he; simpa using he
    rw [show (!(([] : List (Value × List Int)).map (·.1)).toArray.isEmpty) = false by rfl]
    k_steps
    refine hret _ _ _ _ (by assumption) (by assumption) ⟨by rw [hle], n + 1, ?_⟩
    have : hpop xs = [] := by unfold hpop; rw [hys]
    rw [this]
  | cons y ys' =>
    subst hy
    have hye : y = e := by rw [hl] at he; simpa using he
    rw [show (!(((y :: ys') : List (Value × List Int)).map (·.1)).toArray.isEmpty) = true by simp]
    have hll : xs.length = ys'.length + 2 := by have := congrArg List.length hl; simpa using this
    have hw2 : WordsIn rest (l :: ys') := by
      intro q hq
      refine hw q ?_
      rw [hl]
      rcases List.mem_cons.mp hq with rfl | hq
      · simp
      · simp [hq]
    k_steps
    refine unhold ?_
    rename_i h5 F5 N5
    rw [show l.1 :: ys'.map (·.1) = (l :: ys').map (·.1) from rfl] at N5
    refine ctr_use (siftup_ok w hp (l :: ys') (n + 1) rest _ l hne hw2 (by simp; omega) rfl) B1 F5 X1 N5 T1 rfl (show dp + 1 + 5 < recursionLimit from room hdp (by decide)) (show un + 3 + 70 < cLine from room3 hun (by decide)) ?_
    rintro r news' h7 tk7 F7 N7 ⟨rfl, rfl⟩
    k_steps
    refine hret _ _ _ _ (by assumption) (by assumption) ⟨by rw [hye], n + 1, ?_⟩
    have : hpop xs = siftup (l :: ys') := by
      unfold hpop; rw [hys]
      show siftup (xs.getLastD y :: ys') = _
      rw [hl, List.getLastD_concat]
    rw [this]
end Mine
end

-- P6
section
open PySem PySem.W PyProof.Rows
set_option linter.unusedVariables false
namespace Mine
noncomputable def sdLoopW (e : List Int) : Nat → List (List Int) → Nat → List (List Int)
  | 0, xs, pos => xs.set pos e
  | f + 1, xs, pos => if pos = 0 then xs.set pos e else
      let pp := (pos - 1) / 2
      let p := xs.getD pp e
      if lexLt e p then sdLoopW e f (xs.set pos p) pp else xs.set pos e
noncomputable def suLoopW (d : List Int) : Nat → List (List Int) → Nat → List (List Int) × Nat
  | 0, xs, pos => (xs, pos)
  | f + 1, xs, pos =>
    if 2 * pos + 1 < xs.length then
      let c := if 2 * pos + 2 < xs.length ∧ lexLt (xs.getD (2 * pos + 1) d) (xs.getD (2 * pos + 2) d) = false then 2 * pos + 2 else 2 * pos + 1
      suLoopW d f (xs.set pos (xs.getD c d)) c
    else (xs, pos)
noncomputable def siftupW (xs : List (List Int)) : List (List Int) :=
  match xs with
  | [] => []
  | e :: _ =>
    let r := suLoopW e xs.length xs 0
    sdLoopW e r.2 (r.1.set r.2 e) r.2
noncomputable def hpushW (xs : List (List Int)) (e : List Int) : List (List Int) := sdLoopW e xs.length (xs ++ [e]) xs.length
noncomputable def hpopW (xs : List (List Int)) : List (List Int) :=
  match xs.dropLast with
  | [] => []
  | y :: ys => siftupW (xs.getLastD y :: ys)

theorem getD_map2 (xs : List (Value × List Int)) (i : Nat) (e : Value × List Int) : (xs.map (·.2)).getD i e.2 = (xs.getD i e).2 := by
  simp only [List.getD, List.getElem?_map]
  cases xs[i]? <;> rfl
theorem map_sd (e : Value × List Int) : ∀ (f : Nat) (xs : List (Value × List Int)) (pos : Nat), (sdLoop e f xs pos).map (·.2) = sdLoopW e.2 f (xs.map (·.2)) pos
  | 0, xs, pos => by simp [sdLoop, sdLoopW, List.map_set]
  | f + 1, xs, pos => by
    unfold sdLoop sdLoopW
    dsimp only
    rw [getD_map2]
    split
    · simp [List.map_set]
    · split
      · rw [map_sd e f, List.map_set]
      · simp [List.map_set]
theorem map_su (d : Value × List Int) : ∀ (f : Nat) (xs : List (Value × List Int)) (pos : Nat), ((suLoop d f xs pos).1.map (·.2), (suLoop d f xs pos).2) = suLoopW d.2 f (xs.map (·.2)) pos
  | 0, xs, pos => by simp [suLoop, suLoopW]
  | f + 1, xs, pos => by
    unfold suLoop suLoopW
    dsimp only
    rw [List.length_map, getD_map2, getD_map2]
    split
    · rw [map_su d f, List.map_set, getD_map2]
    · rfl
theorem map_siftup (xs : List (Value × List Int)) : (siftup xs).map (·.2) = siftupW (xs.map (·.2)) := by
  cases xs with
  | nil => rfl
  | cons e t =>
    have h := map_su e (e :: t).length (e :: t) 0
    show (sdLoop e (suLoop e (e :: t).length (e :: t) 0).2 ((suLoop e (e :: t).length (e :: t) 0).1.set (suLoop e (e :: t).length (e :: t) 0).2 e) (suLoop e (e :: t).length (e :: t) 0).2).map (·.2) = _
    rw [map_sd, List.map_set]
    show _ = sdLoopW e.2 (suLoopW e.2 (List.map (·.2) (e :: t)).length (List.map (·.2) (e :: t)) 0).2 ((suLoopW e.2 (List.map (·.2) (e :: t)).length (List.map (·.2) (e :: t)) 0).1.set (suLoopW e.2 (List.map (·.2) (e :: t)).length (List.map (·.2) (e :: t)) 0).2 e.2) (suLoopW e.2 (List.map (·.2) (e :: t)).length (List.map (·.2) (e :: t)) 0).2
    rw [List.length_map, ← h]
theorem map_hpush (xs : List (Value × List Int)) (e : Value × List Int) : (hpush xs e).map (·.2) = hpushW (xs.map (·.2)) e.2 := by
  unfold hpush hpushW
  rw [map_sd, List.map_append, List.length_map]; rfl
theorem map_hpop (xs : List (Value × List Int)) : (hpop xs).map (·.2) = hpopW (xs.map (·.2)) := by
  unfold hpop hpopW
  rw [← List.map_dropLast]
  cases h : xs.dropLast with
  | nil => rfl
  | cons y ys =>
    have hne : xs ≠ [] := by rintro rfl; cases h
    show (siftup (xs.getLastD y :: ys)).map (·.2) = siftupW ((xs.map (·.2)).getLastD y.2 :: ys.map (·.2))
    rw [map_siftup]
    have : (xs.map (·.2)).getLastD y.2 = (xs.getLastD y).2 := by
      rw [List.getLastD_eq_getLast?, List.getLastD_eq_getLast?, List.getLast?_map]
      cases xs.getLast? <;> rfl
    rw [List.map_cons, this]
theorem mem_getD {xs : List (Value × List Int)} {i : Nat} {e : Value × List Int} : xs.getD i e ∈ xs ∨ xs.getD i e = e := by
  simp only [List.getD]
  cases h : xs[i]? with
  | none => exact .inr rfl
  | some q => exact .inl (List.mem_of_getElem? h)
theorem mem_sd (e : Value × List Int) : ∀ (f : Nat) (xs : List (Value × List Int)) (pos : Nat), ∀ p ∈ sdLoop e f xs pos, p ∈ xs ∨ p = e
  | 0, xs, pos, p, h => List.mem_or_eq_of_mem_set h
  | f + 1, xs, pos, p, h => by
    unfold sdLoop at h
    dsimp only at h
    split at h
    · exact List.mem_or_eq_of_mem_set h
    · split at h
      · rcases mem_sd e f _ _ p h with h | h
        · rcases List.mem_or_eq_of_mem_set h with h | h
          · exact .inl h
          · rw [h]; exact mem_getD
        · exact .inr h
      · exact List.mem_or_eq_of_mem_set h
theorem mem_su (d : Value × List Int) : ∀ (f : Nat) (xs : List (Value × List Int)) (pos : Nat), ∀ p ∈ (suLoop d f xs pos).1, p ∈ xs ∨ p = d
  | 0, xs, pos, p, h => .inl h
  | f + 1, xs, pos, p, h => by
    unfold suLoop at h
    dsimp only at h
    split at h
    · rcases mem_su d f _ _ p h with h | h
      · rcases List.mem_or_eq_of_mem_set h with h | h
        · exact .inl h
        · rw [h]; exact mem_getD
      · exact .inr h
    · exact .inl h
theorem mem_siftup (xs : List (Value × List Int)) : ∀ p ∈ siftup xs, p ∈ xs := by
  cases xs with
  | nil => intro p h; cases h
  | cons e t =>
    intro p h
    have he : e ∈ e :: t := List.mem_cons_self
    have h : p ∈ sdLoop e (suLoop e (e :: t).length (e :: t) 0).2 ((suLoop e (e :: t).length (e :: t) 0).1.set (suLoop e (e :: t).length (e :: t) 0).2 e) (suLoop e (e :: t).length (e :: t) 0).2 := h
    rcases mem_sd e _ _ _ p h with h | h
    · rcases List.mem_or_eq_of_mem_set h with h | h
      · rcases mem_su e _ _ _ p h with h | h
        · exact h
        · rw [h]; exact he
      · rw [h]; exact he
    · rw [h]; exact he
theorem mem_hpush (xs : List (Value × List Int)) (e : Value × List Int) : ∀ p ∈ hpush xs e, p ∈ xs ++ [e] := by
  intro p h
  rcases mem_sd e _ _ _ p h with h | h
  · exact h
  · rw [h]; simp
theorem mem_hpop (xs : List (Value × List Int)) : ∀ p ∈ hpop xs, p ∈ xs := by
  intro p h
  unfold hpop at h
  cases hd : xs.dropLast with
  | nil => rw [hd] at h; cases h
  | cons y ys =>
    rw [hd] at h
    have hsub : ∀ q ∈ y :: ys, q ∈ xs := fun q hq => by rw [← hd] at hq; exact List.dropLast_subset _ hq
    have h := mem_siftup _ p h
    rcases List.mem_cons.mp h with h | h
    · rw [h, List.getLastD_eq_getLast?]
      cases hl : xs.getLast? with
      | none => exact hsub y List.mem_cons_self
      | some q => exact List.mem_of_getLast? hl
    · exact hsub p (List.mem_cons_of_mem _ h)
end Mine
end

-- P7
section
open PySem PySem.W PyProof.Rows
set_option linter.unusedVariables false
namespace Mine
/-- the ranks above other -/
noncomputable def overOf (us : List (List Int)) (other : Int) : List Int :=
  (rangeKs 0 us.length).filter (fun rank => decide (rank ≠ other) && (us.getD rank.toNat []).contains other)
noncomputable def heldOf (us : List (List Int)) (word : List Int) : List Int := (rangeKs 0 us.length).foldl (fun held other => if word.contains other = true then held else held ++ overOf us other) word
noncomputable def freeOf (us : List (List Int)) (word : List Int) : List Int := (rangeKs 0 us.length).filter (fun x => !(heldOf us word).contains x)
noncomputable def runW (us : List (List Int)) : Nat → List (List Int) → List (List Int) → Option (List (List Int))
  | 0, _, _ => none
  | _ + 1, [], ws => some ws
  | f + 1, e :: t, ws =>
    if (e :: t).length < 700 ∧ (heldOf us e).length < 64 ∧ (heldOf us e).all (fun x => (rangeKs 0 us.length).contains x) = true ∧ e.length < 100 ∧ ws.length < 900 then
      runW us f ((freeOf us e).reverse.foldl (fun h r => hpushW h (e ++ [r])) (hpopW (e :: t))) (if freeOf us e = [] then ws ++ [e] else ws)
    else none
end Mine
end

-- M6
section
open PySem PySem.W PyProof.Rows
set_option maxRecDepth 100000
set_option maxHeartbeats 8000000
set_option linter.unusedVariables false
namespace Mine
local macro_rules | `(tactic| walk_at "WhPost") => `(tactic| (dsimp only [WhPost]))
local macro_rules | `(tactic| walk_at "FlPost") => `(tactic| (dsimp only [FlPost]))
local macro_rules | `(tactic| walk_at "exec While") => `(tactic| refine hold ?_)
local macro_rules | `(tactic| walk_at "exec While Compare cons nil") => `(tactic| refine hold ?_)
local macro_rules | `(tactic| walk_at "call ref") => `(tactic| refine hold ?_)
local macro_rules | `(tactic| walk_at "call builtin:len") => `(tactic| refine hold ?_)
local macro_rules | `(tactic| k_all) => `(tactic| assumption)
local macro_rules | `(tactic| walk_at "subscriptTail Name Name ref int") => `(tactic| refine hold ?_)
local macro_rules | `(tactic| walk_at "compareOp Eq ref ref") => `(tactic| refine hold ?_)
local macro_rules | `(tactic| walk_at "compareOp NotEq ref ref") => `(tactic| refine hold ?_)
local macro_rules | `(tactic| walk_at "exec For Name Name cons nil") => `(tactic| refine hold ?_)
local macro_rules | `(tactic| walk_at "exec For Name Call cons nil") => `(tactic| refine hold ?_)
local macro_rules | `(tactic| walk_at "call builtin:sorted") => `(tactic| refine hold ?_)
local macro_rules | `(tactic| walk_at "CompSrcT") => `(tactic| refine hold ?_)
noncomputable def OverJ (us : List (List Int)) (N0 : List (Addr × Obj)) (i : Nat) (ys : List Value) (nw : List (Addr × Obj)) : Prop :=
  ∃ (os : List (Value × List Int)) (tl : List (Addr × Obj)), nw = tl ++ N0 ∧ ys = os.map (·.1) ∧ os.map (·.2) = ((rangeKs 0 us.length).take i).map (overOf us) ∧ WordsIn nw os ∧ ∀ p ∈ tl, ∃ v k, p.2.data = .seq v k
set_option pp.deepTerms false
set_option pp.deepTerms.threshold 6
theorem not_frame {h₀ h : Heap} {L : Addr} {news : List (Addr × Obj)} {frs : List (Addr × Obj)} {l : List Env} (N : News h₀ L h news) (hs : ∀ q ∈ frs, q ∈ news) (Fs : TI.Frs l frs) {p : Addr × Obj} (hp : p ∈ news) (hd : ∀ es ep, p.2.data ≠ .dict es ep) : p.1 ∉ frs.map (·.1) := by
  intro hm
  obtain ⟨q, hq, e⟩ := List.mem_map.mp hm
  have h1 := (N q (hs q hq)).1
  have h2 := (N p hp).1
  rw [e, h2] at h1
  obtain ⟨es, ep, hdd⟩ := Fs.dict q hq
  rw [← Option.some.inj h1] at hdd
  exact hd es ep hdd
noncomputable def WordsPost (ws : List (List Int)) (rest : List (Addr × Obj)) (r : Value) (news' : List (Addr × Obj)) : Prop :=
  ∃ x wp k ob, r = .ref x ∧ news' = (x, listOf (wp.map (·.1)).toArray k) :: (ob ++ rest) ∧ WordsIn (ob ++ rest) wp ∧ wp.map (·.2) = ws ∧ ∀ p ∈ rest, p.1 ≠ x
structure WSt where
  xs : List (Value × List Int)
  wp : List (Value × List Int)
  kx : Nat
  kw : Nat
  ob : List (Addr × Obj)
  fr : List (Addr × Obj)
  fu : Nat
theorem off1_mem {D : Addr} : ∀ {l : List (Addr × Obj)}, LCg.Off1 D l → ∀ p ∈ l, p.1 ≠ D
  | [], _, _, h => nomatch h
  | _ :: _, x, p, h => by
    rcases List.mem_cons.mp h with rfl | h
    · exact x.1
    · exact off1_mem x.2 p h
theorem foldl_filter (f : Int → Bool) : ∀ (ks l : List Int), ks.foldl (fun l k => if f k = true then l ++ [k] else l) l = l ++ ks.filter f
  | [], l => by simp
  | k :: ks, l => by
    rw [List.foldl_cons, foldl_filter f ks, List.filter_cons]
    split <;> simp
theorem held_le (f : Int → Bool) (g : Int → List Int) (j : Nat) : ∀ (ks l : List Int), ((ks.take j).foldl (fun held other => if f other = true then held else held ++ g other) l).length ≤ (ks.foldl (fun held other => if f other = true then held else held ++ g other) l).length := by
  have grow : ∀ (ks l : List Int), l.length ≤ (ks.foldl (fun held other => if f other = true then held else held ++ g other) l).length := by
    intro ks
    induction ks with
    | nil => intro l; exact Nat.le_refl _
    | cons k ks ih =>
      intro l
      rw [List.foldl_cons]
      refine Nat.le_trans ?_ (ih _)
      split
      · exact Nat.le_refl _
      · simp
  intro ks l
  conv => rhs; rw [← List.take_append_drop j ks, List.foldl_append]
  exact grow _ _
theorem len_sd (e : Value × List Int) : ∀ (f : Nat) (xs : List (Value × List Int)) (pos : Nat), (sdLoop e f xs pos).length = xs.length
  | 0, xs, pos => by simp [sdLoop]
  | f + 1, xs, pos => by
    unfold sdLoop
    dsimp only
    split
    · simp
    · split
      · rw [len_sd e f]; simp
      · simp
theorem len_su (d : Value × List Int) : ∀ (f : Nat) (xs : List (Value × List Int)) (pos : Nat), (suLoop d f xs pos).1.length = xs.length
  | 0, xs, pos => rfl
  | f + 1, xs, pos => by
    unfold suLoop
    dsimp only
    split
    · rw [len_su d f]; simp
    · rfl
theorem len_hpush (xs : List (Value × List Int)) (e : Value × List Int) : (hpush xs e).length = xs.length + 1 := by
  unfold hpush; rw [len_sd]; simp
theorem len_hpop (e : Value × List Int) (t : List (Value × List Int)) : (hpop (e :: t)).length = t.length := by
  unfold hpop
  cases hd : (e :: t).dropLast with
  | nil =>
    have := congrArg List.length hd
    simp at this
    simp [this]
  | cons y ys =>
    have h2 := congrArg List.length hd
    simp at h2
    show (sdLoop ((e :: t).getLastD y) (suLoop ((e :: t).getLastD y) ((e :: t).getLastD y :: ys).length ((e :: t).getLastD y :: ys) 0).2 ((suLoop ((e :: t).getLastD y) ((e :: t).getLastD y :: ys).length ((e :: t).getLastD y :: ys) 0).1.set (suLoop ((e :: t).getLastD y) ((e :: t).getLastD y :: ys).length ((e :: t).getLastD y :: ys) 0).2 ((e :: t).getLastD y)) (suLoop ((e :: t).getLastD y) ((e :: t).getLastD y :: ys).length ((e :: t).getLastD y :: ys) 0).2).length = _
    rw [len_sd, List.length_set, len_su, List.length_cons, h2]
theorem runW_nil {us : List (List Int)} {f : Nat} {e : List Int} {t ws0 ws : List (List Int)} (hfree : freeOf us e = [])
    (h : runW us f ((freeOf us e).reverse.foldl (fun h r => hpushW h (e ++ [r])) (hpopW (e :: t))) (if freeOf us e = [] then ws0 ++ [e] else ws0) = some ws) : runW us f (hpopW (e :: t)) (ws0 ++ [e]) = some ws := by
  rw [if_pos hfree, hfree] at h
  exact h
theorem runW_cons {us : List (List Int)} {f : Nat} {e : List Int} {t ws0 ws : List (List Int)} (hfree : ¬ freeOf us e = [])
    (h : runW us f ((freeOf us e).reverse.foldl (fun h r => hpushW h (e ++ [r])) (hpopW (e :: t))) (if freeOf us e = [] then ws0 ++ [e] else ws0) = some ws) : runW us f ((freeOf us e).reverse.foldl (fun h r => hpushW h (e ++ [r])) (hpopW (e :: t))) ws0 = some ws := by
  rw [if_neg hfree] at h
  exact h
theorem rangeKs_rising (n : Nat) : (rangeKs 0 n).Pairwise (· < ·) := by
  unfold rangeKs
  rw [List.pairwise_map]
  refine (List.pairwise_lt_range).imp ?_
  intro a b h
  omega
theorem words_ok (w : World) (ul : Addr) (up : List (Value × List Int)) (ku : Nat) (rest : List (Addr × Obj)) 
    (hum : (ul, listOf (up.map (·.1)).toArray ku) ∈ rest) (hu : WordsIn rest up) (hn : up.length < 100) (ws : List (List Int)) (fu : Nat) (hrun : runW (up.map (·.2)) fu [[]] [] = some ws) :
    CtrT w 163 [.ref ul] rest 20 200 (WordsPost ws rest) := by
  unfold CtrT
  w_top off
  k_fill
  intro mean mg mb dp un gd cn cs a ccd cl outer h₀ L m s Q E frs F X N Fs hap T hk hdp hun hret
  refine wpAny_call ?_
  k_dflt (refine' code_defTC (env := envX cn cs L a ccd cl) ?k2 ?k3 ?k4 ?k5 ?kFs ?kap ?kF ?kK ?k6 ?k7 ?k8 ?k9 ?kB ?kD ?_ ?c2 ?c3 ?c4; (case kF => exact rfl); (case kK => assumption); (case k2 => k_asm); (case k3 => k_asm); (case k4 => k_asm); (case k5 => k_asm); (case kFs => k_asm); (case kap => k_asm); (case k6 => k_is); (case k7 => k_is); (case k8 => ktr_room); (case k9 => exact BindsTo.of_eq rfl); (case kB => exact rfl); (case kD => decide +kernel); (case c2 => exact rfl); (case c3 => exact rfl); (case c4 => exact rfl); k_whole)
  intro oL L1 h1 tk1 cells tC tF hap1 hfL hlow F1 N1 Y1
  obtain ⟨oR, oU, rfl, dR, dU⟩ := CellsAre.two Y1
  clear Y1 F N
  (try dsimp only)
  k_fold
  generalize hR : rest ++ (L, oL) :: frs = R0 at N1 hlow
  simp only [List.cons_append, List.nil_append] at N1
  have hum0 : (ul, listOf (up.map (·.1)).toArray ku) ∈ R0 := by rw [← hR]; exact List.mem_append_left _ hum
  replace dR : oR.data = .cell none := by with_unfolding_all exact dR
  replace dU : oU.data = .cell (some (.ref ul)) := by with_unfolding_all exact dU
  obtain ⟨u, F2⟩ := fr_named [] F1 (List.forall_mem_nil _)
  clear F1
  k_steps
  refine unhold ?_
  refine len_at (by k_asm) (List.Mem.tail _ (List.Mem.tail _ hum0)) (by rw [List.length_map]; omega) ?_
  rw [List.length_map]
  have hR1 : ∀ p ∈ R0, p.1 ≠ L1 + 1 := fun p hp => Nat.ne_of_lt (Nat.lt_succ_of_lt (hlow p hp))
  have hR2 : ∀ p ∈ R0, p.1 ≠ L1 + 1 + 1 := fun p hp => Nat.ne_of_lt (Nat.lt_succ_of_lt (Nat.lt_succ_of_lt (hlow p hp)))
  k_steps
  rename_i ra vr kr _ _ hvr lr h3 oR2 F3 N3 dR2
  rw [show ((up.length : Int) - 0).toNat = up.length by omega] at hvr
  have hvl := hvr.length
  rw [rangeKs_length] at hvl
  have hvl0 := hvl
  refine cel_assign (ax := ra) (vs := vr) (kv := kr) (cl := [(Str.ofString "under", L1 + 1), (Str.ofString "ranks", L1 + 1 + 1)]) (OverJ (up.map (·.2)) ((ra, listOf vr.toArray kr) :: (L1 + 1 + 1, oR2) :: (L1 + 1, oU) :: R0)) F3 N3 rfl (by rw [hvl, sizeLine_eq]; omega) (by with_unfolding_all rfl) (by with_unfolding_all rfl) rfl (by decide) (by with_unfolding_all rfl) (by intro C K; with_unfolding_all rfl) (by with_unfolding_all rfl) (by with_unfolding_all rfl) ?iter ?src ?J0 ?turn ?fin
  case iter =>
    intro Q' E' hq
    k_dflt (refine nameX_C N3 rfl (List.Mem.tail _ (List.Mem.head _)) dR2 hq rfl rfl)
  case src =>
    rintro i ys nw ⟨os, tl, rfl, _⟩
    exact List.mem_append_right _ (List.Mem.head _)
  case J0 => exact ⟨[], [], rfl, rfl, rfl, (fun p hp => nomatch hp), fun p hp => nomatch hp⟩
  case turn =>
    rintro I C K D i v ys nw oI oC oK h tk5 E' hv ⟨os, tl, rfl, hys, hos, hwo, htl⟩ hdK F5 N5 off5
    obtain ⟨k, t, hvk, hki⟩ := IntsAre.at hvr i v hv
    subst hvk
    have hil : i < up.length := by
      rcases Nat.lt_or_ge i up.length with q | q
      · exact q
      · rw [List.getElem?_eq_none (by rw [rangeKs_length]; exact q)] at hki; cases hki
    have hkk : k = (i : Int) := by
      have : (rangeKs 0 up.length)[i]? = some (0 + (i : Int)) := by simp [rangeKs, hil]
      rw [this] at hki; simpa using hki.symm
    subst hkk
    refine gen_post fun QC hQC => ?_
    refine LCt.ListComp_T (cl := [(Str.ofString "under", L1 + 1), (Str.ofString "other", K)]) F5 (by with_unfolding_all rfl) (by decide) rfl (by decide) rfl ?_
    refine kcf_cell N5 (c := L1 + 1 + 1) (by rfl) (List.Mem.tail _ (List.Mem.tail _ (List.Mem.tail _ (List.Mem.tail _ (List.mem_append_right _ (List.Mem.tail _ (List.Mem.head _))))))) dR2 ?_ (by rfl) (by rfl)
    refine LCt.CompSrcT.ledger rfl F5 N5 (List.Mem.tail _ (List.Mem.tail _ (List.Mem.tail _ (List.Mem.tail _ (List.mem_append_right _ (List.Mem.head _)))))) (by rw [List.size_toArray, hvl, sizeLine_eq]; omega) ?_
    intro g
    refine kci_list (fun l k => if (decide (k ≠ (i : Int)) && ((up.map (·.2)).getD k.toNat []).contains (i : Int)) = true then l ++ [k] else l) hvr ?turn2 ?fin2 ?grows2
    case grows2 =>
      intro l k
      dsimp only
      split <;> simp
    case fin2 =>
      intro ys2 hys2 hlen2 D2 h2 tk2 F6 N6 off6
      have of1 := off1_mem off6
      refine hQC _ _ ?_
      refine ⟨h2, tk2, (D2, LCg.lst ys2) :: (tl ++ (ra, listOf vr.toArray kr) :: (L1 + 1 + 1, oR2) :: (L1 + 1, oU) :: R0), rfl, F6, ?_, ?_, os ++ [(.ref D2, overOf (up.map (·.2)) i)], (D2, LCg.lst ys2) :: tl, rfl, by simp [hys], ?_, ?_, ?_⟩
      · intro p hp
        refine N6 p ?_
        rcases List.mem_cons.mp hp with rfl | hp
        · exact List.Mem.tail _ (List.Mem.head _)
        · rcases List.mem_cons.mp hp with rfl | hp
          · exact List.Mem.tail _ (List.Mem.tail _ (List.Mem.head _))
          · rcases List.mem_cons.mp hp with rfl | hp
            · exact List.Mem.tail _ (List.Mem.tail _ (List.Mem.tail _ (List.Mem.head _)))
            · rcases List.mem_cons.mp hp with rfl | hp
              · exact List.Mem.tail _ (List.Mem.tail _ (List.Mem.tail _ (List.Mem.tail _ (List.Mem.head _))))
              · rcases List.mem_cons.mp hp with rfl | hp
                · exact List.Mem.head _
                · exact List.Mem.tail _ (List.Mem.tail _ (List.Mem.tail _ (List.Mem.tail _ (List.Mem.tail _ hp))))
      · intro p hp
        rcases List.mem_cons.mp hp with rfl | hp
        · exact ⟨(of1 _ (List.Mem.head _)).symm, (of1 _ (List.Mem.tail _ (List.Mem.head _))).symm, (of1 _ (List.Mem.tail _ (List.Mem.tail _ (List.Mem.head _)))).symm, (of1 _ (List.Mem.tail _ (List.Mem.tail _ (List.Mem.tail _ (List.Mem.head _))))).symm⟩
        · exact off5 p hp
      · rw [List.map_append, hos, List.take_add_one, List.length_map, hki, List.map_append]
        rfl
      · intro p hp
        rcases List.mem_append.mp hp with hp | hp
        · obtain ⟨a1, v1, k1, e1, m1, i1⟩ := hwo p hp
          exact ⟨a1, v1, k1, e1, List.Mem.tail _ m1, i1⟩
        · rw [List.mem_singleton.mp hp]
          refine ⟨D2, ys2, ys2.length, rfl, List.Mem.head _, ?_⟩
          rw [foldl_filter, List.nil_append] at hys2
          unfold overOf
          rw [List.length_map]
          exact hys2
      · intro p hp
        rcases List.mem_cons.mp hp with rfl | hp
        · exact ⟨_, _, rfl⟩
        · exact htl p hp
    case turn2 =>
      intro k t2 I2 oI2 C2 oC2 D2 m2 ys2 l2 h2 tk2 E2 hk hys2 hoC2 hm2 F6 N6 off6 ne6 mk6
      have kb := mem_rangeKs hk
      have hk0 : 0 ≤ k := by omega
      have hkn : k.toNat < up.length := by omega
      obtain ⟨q, hq⟩ : ∃ q, up[k.toNat]? = some q := ⟨_, List.getElem?_eq_getElem hkn⟩
      obtain ⟨aq, vq, kq, hq1, hqm, hqi⟩ := hu q (List.mem_of_getElem? hq)
      have hgq : (up.map (·.2)).getD k.toNat [] = q.2 := by simp [List.getD, hq]
      have mC : (C2, oC2) ∈ (I2, oI2) :: (C2, oC2) :: (D2, LCg.lst ys2) :: (I, oI) :: (C, oC) :: (K, oK) :: (D, LCg.lst ys) :: (tl ++ (ra, listOf vr.toArray kr) :: (L1 + 1 + 1, oR2) :: (L1 + 1, oU) :: R0) := List.Mem.tail _ (List.Mem.head _)
      have mK : (K, oK) ∈ (I2, oI2) :: (C2, oC2) :: (D2, LCg.lst ys2) :: (I, oI) :: (C, oC) :: (K, oK) :: (D, LCg.lst ys) :: (tl ++ (ra, listOf vr.toArray kr) :: (L1 + 1 + 1, oR2) :: (L1 + 1, oU) :: R0) := List.Mem.tail _ (List.Mem.tail _ (List.Mem.tail _ (List.Mem.tail _ (List.Mem.tail _ (List.Mem.head _)))))
      have mT : ∀ z ∈ (L1 + 1, oU) :: R0, z ∈ (I2, oI2) :: (C2, oC2) :: (D2, LCg.lst ys2) :: (I, oI) :: (C, oC) :: (K, oK) :: (D, LCg.lst ys) :: (tl ++ (ra, listOf vr.toArray kr) :: (L1 + 1 + 1, oR2) :: (L1 + 1, oU) :: R0) := fun z hz =>
        List.Mem.tail _ (List.Mem.tail _ (List.Mem.tail _ (List.Mem.tail _ (List.Mem.tail _ (List.Mem.tail _ (List.Mem.tail _ (List.mem_append_right _ (List.Mem.tail _ (List.Mem.tail _ hz)))))))))
      have mR : ∀ z ∈ rest, z ∈ R0 := fun z hz => by rw [← hR]; exact List.mem_append_left _ hz
      have hin : ∀ x ∈ [q.2], (x.any (· == (i : Int))) = x.contains (i : Int) := fun x _ => by
        rw [List.contains_eq_any_beq]; congr 1; funext y; exact Bool.beq_comm
      refine isTrue_and (wpAny_isTrue_Compare1 ?_)
      refine wpAny_Name (wpAny_loadName_local (by rfl) (by rfl) (hoC2.ns (N6.get mC)) hm2 ?_) (by decide)
      refine kcf_cell N6 (c := K) (by rfl) mK hdK ?_ (by rfl) (by rfl)
      refine ne_int (wpAny_truthy_bool ?_)
      have hG : ∀ b : Bool, (decide (k ≠ (i : Int)) && ((up.map (·.2)).getD k.toNat []).contains (i : Int)) = b → b = (decide (k ≠ (i : Int)) && q.2.contains (i : Int)) := fun b hb => by rw [← hb, hgq]
      have hS : LCg.SrcAt h₀ ra vr.toArray ((I, oI) :: (C, oC) :: (K, oK) :: (D, LCg.lst ys) :: (tl ++ (ra, listOf vr.toArray kr) :: (L1 + 1 + 1, oR2) :: (L1 + 1, oU) :: R0)) :=
        .inr ⟨_, List.Mem.tail _ (List.Mem.tail _ (List.Mem.tail _ (List.Mem.tail _ (List.mem_append_right _ (List.Mem.head _))))), rfl, _, rfl⟩
      by_cases hne : k = (i : Int)
      · rw [show (k != (i : Int)) = false by simpa using hne]
        simp only [Bool.false_eq_true, if_false]
        refine LCg.CompEnd.intro F6 N6 _ (fun p hp => hp) off6 hS (kci_no ?_ rfl)
        rw [if_neg]
        rw [hgq]; simp [hne]
      · rw [show (k != (i : Int)) = true by simpa using hne]
        simp only [if_true]
        refine isTrue_and (wpAny_isTrue_Compare1 ?_)
        refine kcf_cell N6 (c := K) (by rfl) mK hdK ?_ (by rfl) (by rfl)
        refine Subscript_ ?_
        refine kcf_cell N6 (c := L1 + 1) (by rfl) (mT _ (List.Mem.head _)) dU ?_ (by rfl) (by rfl)
        refine wpAny_Name (wpAny_loadName_local (by rfl) (by rfl) (hoC2.ns (N6.get mC)) hm2 ?_) (by decide)
        refine item_at N6 (mT _ (List.Mem.tail _ hum0)) hk0 (by omega) (v := .ref aq) (by simp only [List.getElem?_map, hq, Option.map_some, hq1]) ?_
        refine in_list_ints (isL N6 (mT _ (List.Mem.tail _ (mR _ hqm)))) hqi (wpAny_truthy_bool ?_)
        rw [hin q.2 (List.Mem.head _)]
        cases hc : q.2.contains (i : Int) with
        | false =>
          simp only [Bool.false_eq_true, if_false]
          refine LCg.CompEnd.intro F6 N6 _ (fun p hp => hp) off6 hS (kci_no ?_ rfl)
          rw [if_neg]
          rw [hgq, hc]; simp
        | true =>
          simp only [if_true]
          refine isTrue_and_nil ?_
          simp only [if_true]
          refine wpAny_Name (wpAny_loadName_local (by rfl) (by rfl) (hoC2.ns (N6.get mC)) hm2 ?_) (by decide)
          refine LCg.CompEnd.intro F6 N6 _ (fun p hp => hp) off6 hS (kci_el (a := k) (t := t2) ?_ rfl rfl)
          rw [if_pos]
          rw [hgq, hc]; simp [hne]
  case fin =>
    rintro D ys nw h tk5 ⟨os, tl, rfl, hys, hos, hwo, htl⟩ F5 N5 off5 low5
    clear F3 N3
    rw [List.take_of_length_le (by rw [rangeKs_length, hvl, List.length_map]; exact Nat.le_refl _)] at hos
    subst hys
    obtain ⟨u5, F6⟩ := fr_named [(Str.ofString "over", .ref D)] F5 (by kst_all)
    clear F5
    have eB : (D, LCg.lst (os.map (·.1))) :: (tl ++ (ra, listOf vr.toArray kr) :: (L1 + 1 + 1, oR2) :: (L1 + 1, oU) :: R0) = ((D, listOf (os.map (·.1)).toArray (os.map (·.1)).length) :: (tl ++ (ra, listOf vr.toArray kr) :: (L1 + 1 + 1, oR2) :: (L1 + 1, oU) :: rest)) ++ ((L, oL) :: frs) := by rw [← hR]; simp
    rw [eB] at N5
    generalize hB : (D, listOf (os.map (·.1)).toArray (os.map (·.1)).length) :: (tl ++ (ra, listOf vr.toArray kr) :: (L1 + 1 + 1, oR2) :: (L1 + 1, oU) :: rest) = B at N5
    have mD : (D, listOf (os.map (·.1)).toArray (os.map (·.1)).length) ∈ B := by rw [← hB]; exact List.Mem.head _
    have mra : (ra, listOf vr.toArray kr) ∈ B := by rw [← hB]; exact List.Mem.tail _ (List.mem_append_right _ (List.Mem.head _))
    have mrc : (L1 + 1 + 1, oR2) ∈ B := by rw [← hB]; exact List.Mem.tail _ (List.mem_append_right _ (List.Mem.tail _ (List.Mem.head _)))
    have mrest : ∀ p ∈ rest, p ∈ B := fun p hp => by rw [← hB]; exact List.Mem.tail _ (List.mem_append_right _ (List.Mem.tail _ (List.Mem.tail _ (List.Mem.tail _ hp))))
    have hB0 : ∀ p ∈ B, p.1 ∉ ((L, oL) :: frs).map (·.1) := by
      intro p hp
      have nf := fun hd => not_frame N5 (frs := (L, oL) :: frs) (fun q hq => List.mem_append_right _ hq) tF (p := p) (List.mem_append_left _ hp) hd
      rw [← hB] at hp
      rcases List.mem_cons.mp hp with rfl | hp
      · exact nf (fun _ _ q => nomatch q)
      · rcases List.mem_append.mp hp with hp | hp
        · obtain ⟨v, k, hd⟩ := htl p hp
          exact nf (fun _ _ q => by rw [hd] at q; cases q)
        · rcases List.mem_cons.mp hp with rfl | hp
          · exact nf (fun _ _ q => nomatch q)
          · rcases List.mem_cons.mp hp with rfl | hp
            · exact nf (fun _ _ q => by rw [dR2] at q; cases q)
            · rcases List.mem_cons.mp hp with rfl | hp
              · exact nf (fun _ _ q => by rw [dU] at q; cases q)
              · exact hap1 p hp
    have hwoB : WordsIn B os := by
      intro p hp
      obtain ⟨a1, v1, k1, e1, m1, i1⟩ := hwo p hp
      refine ⟨a1, v1, k1, e1, ?_, i1⟩
      rw [← hR] at m1
      rcases List.mem_append.mp m1 with m1 | m1
      · rw [← hB]; exact List.Mem.tail _ (List.mem_append_left _ m1)
      · rw [← hB]
        refine List.Mem.tail _ (List.mem_append_right _ ?_)
        rcases List.mem_cons.mp m1 with m1 | m1
        · rw [m1]; exact List.Mem.head _
        · rcases List.mem_cons.mp m1 with m1 | m1
          · rw [m1]; exact List.Mem.tail _ (List.Mem.head _)
          · rcases List.mem_cons.mp m1 with m1 | m1
            · rw [m1]; exact List.Mem.tail _ (List.Mem.tail _ (List.Mem.head _))
            · rcases List.mem_append.mp m1 with m1 | m1
              · exact List.Mem.tail _ (List.Mem.tail _ (List.Mem.tail _ m1))
              · obtain ⟨es, ep, hdd⟩ := tF.dict _ m1
                cases hdd
    generalize hBF : B ++ (L, oL) :: frs = BF at N5
    k_steps
    refine unhold ?_
    rename_i e0 _ le0 wl _ _ _ lwl _ _ wd _ lwd h6 F7 N7
    have hbl : ∀ p ∈ BF, p.1 ≠ wl := fun p hp => Nat.ne_of_lt (allLt_mem lwl.2 p hp)
    have hbd : ∀ p ∈ BF, p.1 ≠ wd := fun p hp => Nat.ne_of_lt (allLt_mem lwd.2.2 p hp)
    subst hBF
    refine wh (σ := WSt) (fun c => (wd, listOf (c.wp.map (·.1)).toArray c.kw) :: (wl, listOf (c.xs.map (·.1)).toArray c.kx) :: (c.ob ++ (B ++ c.fr)))
      (fun _ => [(Str.ofString "over", .ref D), (Str.ofString "waiting", .ref wl), (Str.ofString "words", .ref wd)])
      (fun c => TI.SameUp ((L, oL) :: frs) c.fr ∧ WordsIn (c.ob ++ B) c.xs ∧ WordsIn (c.ob ++ B) c.wp ∧ runW (up.map (·.2)) c.fu (c.xs.map (·.2)) (c.wp.map (·.2)) = some ws ∧ ∀ p ∈ c.ob, p.1 ≠ wl ∧ p.1 ≠ wd ∧ ∃ v k, p.2.data = .seq v k)
      (fun c => c.fu) ⟨[(.ref e0, [])], [], 0, 0, [(e0, listOf #[] 0)], (L, oL) :: frs, fu⟩ F7 N7 (by kst_all)
      ⟨TI.SameUp.refl _, (fun p hp => by rw [List.mem_singleton.mp hp]; exact ⟨e0, [], 0, rfl, List.Mem.head _, .nil⟩), (fun p hp => nomatch hp), hrun, (fun p hp => by rw [List.mem_singleton.mp hp]; exact ⟨Nat.ne_of_lt lwl.1, Nat.ne_of_lt lwd.2.1, _, _, rfl⟩)⟩ ?_
    clear F7 N7
    rintro ⟨xs, wp, kx, kw, ob, fr, fu'⟩ u8 h8 tk8 ⟨su, hxs, hwp, hrn, hob⟩ F8 N8
    dsimp only at su hxs hwp hrn hob F8 N8
    refine gen_wh fun QT hQT => ?_
    k_steps
    refine unhold ?_
    rename_i ne h9 F9 N9 lne
    refine ne_nil (isL N9 (List.Mem.tail _ (List.Mem.tail _ (List.Mem.head _)))) (isL (vs := []) N9 (List.Mem.head _)) (by simp only [units_deeper]; omega) ?_
    cases xs with
    | nil =>
      rw [show (!(([] : List (Value × List Int)).map (·.1)).isEmpty) = false from rfl]
      k_steps
      have hws : wp.map (·.2) = ws := by
        cases fu' with
        | zero => cases hrn
        | succ f => exact Option.some.inj hrn
      have e9 : ob ++ (B ++ fr) = ((ob ++ (D, listOf (os.map (·.1)).toArray (os.map (·.1)).length) :: (tl ++ [(ra, listOf vr.toArray kr), (L1 + 1 + 1, oR2), (L1 + 1, oU)])) ++ rest) ++ fr := by rw [← hB]; simp
      have eB2 : ob ++ B = (ob ++ (D, listOf (os.map (·.1)).toArray (os.map (·.1)).length) :: (tl ++ [(ra, listOf vr.toArray kr), (L1 + 1 + 1, oR2), (L1 + 1, oU)])) ++ rest := by rw [← hB]; simp
      have N10 : News h₀ L1 h9 (((wd, listOf (wp.map (·.1)).toArray kw) :: ((ob ++ (D, listOf (os.map (·.1)).toArray (os.map (·.1)).length) :: (tl ++ [(ra, listOf vr.toArray kr), (L1 + 1 + 1, oR2), (L1 + 1, oU)])) ++ rest)) ++ fr) := by
        intro p hp
        refine N9 p (List.Mem.tail _ ?_)
        rw [e9]
        rcases List.mem_append.mp hp with hp | hp
        · rcases List.mem_cons.mp hp with rfl | hp
          · exact List.Mem.head _
          · exact List.Mem.tail _ (List.Mem.tail _ (List.mem_append_left _ hp))
        · exact List.Mem.tail _ (List.Mem.tail _ (List.mem_append_right _ hp))
      have hap10 : ∀ p ∈ ((wd, listOf (wp.map (·.1)).toArray kw) :: ((ob ++ (D, listOf (os.map (·.1)).toArray (os.map (·.1)).length) :: (tl ++ [(ra, listOf vr.toArray kr), (L1 + 1 + 1, oR2), (L1 + 1, oU)])) ++ rest)), p.1 ∉ fr.map (·.1) := by
        intro p hp
        rcases List.mem_cons.mp hp with rfl | hp
        · exact not_frame N10 (fun q hq => List.mem_append_right _ hq) (tF.up su) (List.mem_append_left _ (List.Mem.head _)) (fun _ _ q => nomatch q)
        · rw [← eB2] at hp
          rcases List.mem_append.mp hp with hp | hp
          · obtain ⟨_, _, v, k, hd⟩ := hob p hp
            exact not_frame N9 (fun q hq => List.Mem.tail _ (List.Mem.tail _ (List.Mem.tail _ (List.mem_append_right _ (List.mem_append_right _ hq))))) (tF.up su) (List.Mem.tail _ (List.Mem.tail _ (List.Mem.tail _ (List.mem_append_left _ hp)))) (fun _ _ q => by rw [hd] at q; cases q)
          · rw [sameUp_addr su]; exact hB0 p hp
      obtain ⟨frs6, su6, F12, N12, hap12⟩ := backT tC F9 N10 su hap10 hfL
      exact hret _ _ _ _ _ F12 N12 su6 hap12 ⟨wd, wp, kw, _, rfl, rfl, eB2 ▸ hwp, hws, fun p hp => hbd p (List.mem_append_left _ (mrest p hp))⟩
    | cons e t =>
      rw [show (!((e :: t).map (·.1)).isEmpty) = true from rfl]
      cases fu' with
      | zero => cases hrn
      | succ f =>
      have hrn : runW (up.map (·.2)) (f + 1) (e.2 :: t.map (·.2)) (wp.map (·.2)) = some ws := hrn
      unfold runW at hrn
      split at hrn
      case isFalse => cases hrn
      rename_i hcond
      obtain ⟨hc1, hc2, hc3, hc4, hc5⟩ := hcond
      rw [List.length_map] at hc5
      have hc1' : t.length + 1 < 700 := by simpa using hc1
      k_steps
      refine unhold ?_
      have hfl : ∀ p ∈ fr, p.1 < L1 := fun p hp => lt_up (rest := rest) (by rw [hR]; exact hlow) su p (List.mem_append_right _ hp)
      have hneW : ∀ p ∈ (wd, listOf (wp.map (·.1)).toArray kw) :: (ob ++ B), p.1 ≠ wl := by
        intro p hp
        rcases List.mem_cons.mp hp with rfl | hp
        · exact Nat.ne_of_gt lwd.1
        · rcases List.mem_append.mp hp with hp | hp
          · exact (hob p hp).1
          · exact hbl p (List.mem_append_left _ hp)
      have N10 : News h₀ L1 h9 (((wl, listOf ((e :: t).map (·.1)).toArray kx) :: (wd, listOf (wp.map (·.1)).toArray kw) :: (ob ++ B)) ++ fr) := by
        intro p hp
        refine N9 p (List.Mem.tail _ ?_)
        rcases List.mem_append.mp hp with hp | hp
        · rcases List.mem_cons.mp hp with rfl | hp
          · exact List.Mem.tail _ (List.Mem.head _)
          · rcases List.mem_cons.mp hp with rfl | hp
            · exact List.Mem.head _
            · rw [← List.append_assoc]; exact List.Mem.tail _ (List.Mem.tail _ (List.mem_append_left _ hp))
        · rw [← List.append_assoc]; exact List.Mem.tail _ (List.Mem.tail _ (List.mem_append_right _ hp))
      have hapN : ∀ p ∈ (wl, listOf ((e :: t).map (·.1)).toArray kx) :: (wd, listOf (wp.map (·.1)).toArray kw) :: (ob ++ B), p.1 ∉ fr.map (·.1) := by
        intro p hp
        have nf := fun hd => not_frame N10 (frs := fr) (fun q hq => List.mem_append_right _ hq) (tF.up su) (p := p) (List.mem_append_left _ hp) hd
        rcases List.mem_cons.mp hp with rfl | hp
        · exact nf (fun _ _ q => nomatch q)
        · rcases List.mem_cons.mp hp with rfl | hp
          · exact nf (fun _ _ q => nomatch q)
          · rcases List.mem_append.mp hp with hp | hp
            · obtain ⟨_, _, v, k, hd⟩ := hob p hp
              exact nf (fun _ _ q => by rw [hd] at q; cases q)
            · rw [sameUp_addr su]; exact hB0 p hp
      refine ctr_useT (heappop_ok w wl (e :: t) kx ((wd, listOf (wp.map (·.1)).toArray kw) :: (ob ++ B)) e hneW (fun p hp => by obtain ⟨a1, v1, k1, e1, m1, i1⟩ := hxs p hp; exact ⟨a1, v1, k1, e1, List.Mem.tail _ m1, i1⟩) (by simp; omega) rfl) F9 X N10 (tF.up su) hapN hfl T rfl (show dp + 1 + 8 < recursionLimit from room hdp (by decide)) (show un + 3 + 90 < cLine from room3 hun (by decide)) ?_
      rintro r news' h11 tk11 F11 N11 hap11 ⟨rfl, kx2, rfl⟩
      obtain ⟨ae, ve, ke, he1, hem, hei⟩ := hxs e List.mem_cons_self
      rw [he1]
      have hemN : ∀ q ∈ ob ++ B, q ∈ (wl, listOf ((hpop (e :: t)).map (·.1)).toArray kx2) :: (wd, listOf (wp.map (·.1)).toArray kw) :: ((ob ++ B) ++ fr) := fun q hq => List.Mem.tail _ (List.Mem.tail _ (List.mem_append_left _ hq))
      simp only [List.cons_append] at N11
      generalize hOB : (ob ++ B) ++ fr = OB at N11 hemN
      have hemN' : (ae, listOf ve.toArray ke) ∈ OB := by rw [← hOB]; exact List.mem_append_left _ hem
      k_steps
      have hvl : ve.length = e.2.length := IntsAre.length hei
      rename_i h12 F12 N12
      refine list_copyK F12 N12 (isL N12 (List.Mem.tail _ (List.Mem.tail _ hemN'))) ?_ (by rw [List.size_toArray, sizeLine_eq]; omega)
      intro hl12 kh h13 F13 N13 lh13
      clear N12
      k_steps
      refine unhold ?_
      rename_i h14 F14 N14
      refine fl_list (σ := Addr × List Value × Nat) (ax := ra) (vs := vr) (kv := kr)
        (fun c => (c.1, listOf c.2.1.toArray c.2.2) :: (wl, listOf ((hpop (e :: t)).map (·.1)).toArray kx2) :: (wd, listOf (wp.map (·.1)).toArray kw) :: OB)
        (fun c => [(Str.ofString "over", .ref D), (Str.ofString "waiting", .ref wl), (Str.ofString "words", .ref wd), (Str.ofString "word", .ref ae), (Str.ofString "held", .ref c.1)])
        (fun i c => IntsAre c.2.1 (((rangeKs 0 up.length).take i).foldl (fun held other => if e.2.contains other = true then held else held ++ overOf (up.map (·.2)) other) e.2) ∧ ∀ q ∈ (wl, listOf ((hpop (e :: t)).map (·.1)).toArray kx2) :: (wd, listOf (wp.map (·.1)).toArray kw) :: OB, q.1 ≠ c.1)
        (hl12, ve, kh) rfl ?src F14 N14 (by kst_all) ⟨hei, fun q hq => Nat.ne_of_lt (lh13 q hq)⟩ ?iter ?turn ?done rfl rfl
      case src => intro c; exact List.Mem.tail _ (List.Mem.tail _ (List.Mem.tail _ (by rw [← hOB, ← hB]; exact List.mem_append_left _ (List.mem_append_right _ (List.Mem.tail _ (List.mem_append_right _ (List.Mem.head _)))))))
      case iter =>
        intro Q' E' hq
        k_dflt (refine nameX_C N14 rfl (List.Mem.tail _ (List.Mem.tail _ (List.Mem.tail _ (by rw [← hOB]; exact List.mem_append_left _ (List.mem_append_right _ mrc))))) dR2 hq rfl rfl)
      case turn =>
        intro I i v c u h tk oI hv hc off lI F15 N15
        obtain ⟨kk, tt, hvk, hki⟩ := IntsAre.at hvr i v hv
        subst hvk
        refine gen_post fun QI hQI => ?_
        k_steps
        refine notin_list_ints (isL N15 (List.Mem.tail _ (List.Mem.tail _ (List.Mem.tail _ (List.Mem.tail _ hemN'))))) hei (wpAny_truthy_bool ?_)
        rw [show (e.2.any (· == kk)) = e.2.contains kk by rw [Bool.eq_iff_iff]; simp]
        cases hcon : e.2.contains kk with
        | true =>
          rw [if_neg (by decide)]
          k_steps
          refine hQI _ _ ?_
          dsimp only [FlPost]
          refine fl_end c F15 N15 (fun p hp => hp) off (by kst_all) ⟨?_, hc.2⟩
          rw [List.take_add_one, hki, Option.toList_some, List.foldl_append, List.foldl_cons, List.foldl_nil, if_pos hcon]
          exact hc.1
        | false =>
          rw [if_pos (by decide)]
          k_steps
          refine unhold ?_
          have hil : i < up.length := by
            have := (List.getElem?_eq_some_iff.mp hki).1
            rwa [rangeKs_length] at this
          obtain rfl : kk = (i : Int) := by
            simp [rangeKs, hil] at hki
            omega
          have hos2 : (os.map (·.2))[i]? = some (overOf (up.map (·.2)) (i : Int)) := by
            rw [hos, List.getElem?_map, List.length_map, hki]; rfl
          obtain ⟨qo, hqo, hq2⟩ : ∃ q, os[i]? = some q ∧ q.2 = overOf (up.map (·.2)) (i : Int) := by
            rw [List.getElem?_map] at hos2
            cases hz : os[i]? with
            | none => rw [hz] at hos2; cases hos2
            | some q => rw [hz] at hos2; exact ⟨q, rfl, Option.some.inj hos2⟩
          obtain ⟨ao, vo, ko, eo, mo, io⟩ := hwoB qo (List.mem_of_getElem? hqo)
          refine item_at N15 (List.Mem.tail _ (List.Mem.tail _ (List.Mem.tail _ (List.Mem.tail _ (by rw [← hOB]; exact List.mem_append_left _ (List.mem_append_right _ mD)))))) (by omega) (by omega) (by rw [Int.toNat_natCast, List.getElem?_map, hqo]; rfl) ?_
          (try dsimp only); rw [eo]
          have hlen2 : (((rangeKs 0 up.length).take (i + 1)).foldl (fun held other => if e.2.contains other = true then held else held ++ overOf (up.map (·.2)) other) e.2).length ≤ 900 := by
            refine Nat.le_trans (held_le _ _ (i + 1) (rangeKs 0 up.length) e.2) (Nat.le_of_lt ?_)
            have := Nat.lt_of_lt_of_le hc2 (show 64 ≤ 900 by decide)
            unfold heldOf at this
            rwa [List.length_map] at this
          rw [List.take_add_one, hki, Option.toList_some, List.foldl_append, List.foldl_cons, List.foldl_nil, if_neg (by rw [hcon]; decide), List.length_append] at hlen2
          refine add_lists_ints F15 N15 (isL N15 (List.Mem.tail _ (List.Mem.head _))) (isL N15 (List.Mem.tail _ (List.Mem.tail _ (List.Mem.tail _ (List.Mem.tail _ (by rw [← hOB]; exact List.mem_append_left _ (List.mem_append_right _ mo))))))) hc.1 io ?_ (by rw [hq2, sizeLine_eq]; omega)
          intro h16 F16 N16 hi16
          have lt16 : ∀ q ∈ (I, oI) :: (c.1, listOf c.2.1.toArray c.2.2) :: (wl, listOf ((hpop (e :: t)).map (·.1)).toArray kx2) :: (wd, listOf (wp.map (·.1)).toArray kw) :: OB, q.1 < h.objs.size := fun q hq => Heap.lt_size (N15 q hq).1
          clear F15 N15
          k_steps
          rename_i h17 F17 N17
          refine hQI _ _ ?_
          dsimp only [FlPost]
          refine fl_end (h.objs.size, c.2.1 ++ vo, 0) F17 N17 ?_ ?_ (by kst_all) ⟨?_, ?_⟩
          · intro p hp
            rcases List.mem_cons.mp hp with rfl | hp
            · exact List.Mem.tail _ (List.Mem.head _)
            · rcases List.mem_cons.mp hp with rfl | hp
              · exact List.Mem.head _
              · exact List.Mem.tail _ (List.Mem.tail _ (List.Mem.tail _ hp))
          · intro p hp
            rcases List.mem_cons.mp hp with rfl | hp
            · exact Nat.ne_of_gt (lt16 _ (List.Mem.head _))
            · exact off p (List.Mem.tail _ hp)
          · rw [List.take_add_one, hki, Option.toList_some, List.foldl_append, List.foldl_cons, List.foldl_nil, if_neg (by rw [hcon]; decide), ← hq2]
            exact hi16
          · intro q hq
            exact Nat.ne_of_lt (lt16 q (List.Mem.tail _ (List.Mem.tail _ hq)))
      case done =>
        intro c u h tk hc F15 N15
        obtain ⟨hx, vh, kh2⟩ := c
        dsimp only at hc F15 N15
        have hmrc : (L1 + 1 + 1, oR2) ∈ OB := by rw [← hOB]; exact List.mem_append_left _ (List.mem_append_right _ mrc)
        have N16 : News h₀ L1 h ((L1 + 1 + 1, oR2) :: (hx, listOf vh.toArray kh2) :: (wl, listOf ((hpop (e :: t)).map (·.1)).toArray kx2) :: (wd, listOf (wp.map (·.1)).toArray kw) :: OB) := by
          intro p hp
          rcases List.mem_cons.mp hp with rfl | hp
          · exact N15 _ (List.Mem.tail _ (List.Mem.tail _ (List.Mem.tail _ hmrc)))
          · exact N15 p hp
        clear N15 N14 F14
        k_steps
        refine unhold ?_
        have hheld : IntsAre vh (heldOf (up.map (·.2)) e.2) := by
          have := hc.1
          rw [hvl0, List.take_of_length_le (by rw [rangeKs_length]; exact Nat.le_refl _)] at this
          unfold heldOf
          rwa [List.length_map]
        refine sorted_N F15 N16 (isL N16 (List.Mem.tail _ (List.Mem.head _))) hheld (by rw [hheld.length]; exact hc2) ?_
        intro h17 vs17 ns17 k17 F17 N17 hi17 hperm hsorted
        have lt17 : ∀ q ∈ (L1 + 1 + 1, oR2) :: (hx, listOf vh.toArray kh2) :: (wl, listOf ((hpop (e :: t)).map (·.1)).toArray kx2) :: (wd, listOf (wp.map (·.1)).toArray kw) :: OB, q.1 < h.objs.size := fun q hq => Heap.lt_size (N16 q hq).1
        generalize hsa : h.objs.size + 1 = sa at N17 ⊢
        clear N16 F15
        k_steps
        refine unhold ?_
        have N18 : News h₀ L1 h17 (((sa, listOf vs17.toArray k17) :: (wl, listOf ((hpop (e :: t)).map (·.1)).toArray kx2) :: (wd, listOf (wp.map (·.1)).toArray kw) :: (ob ++ B)) ++ fr) := by
          intro p hp
          refine N17 p ?_
          rw [← hOB]
          rcases List.mem_append.mp hp with hp | hp
          · rcases List.mem_cons.mp hp with rfl | hp
            · exact List.Mem.head _
            · rcases List.mem_cons.mp hp with rfl | hp
              · exact List.Mem.tail _ (List.Mem.tail _ (List.Mem.tail _ (List.Mem.head _)))
              · rcases List.mem_cons.mp hp with rfl | hp
                · exact List.Mem.tail _ (List.Mem.tail _ (List.Mem.tail _ (List.Mem.tail _ (List.Mem.head _))))
                · exact List.Mem.tail _ (List.Mem.tail _ (List.Mem.tail _ (List.Mem.tail _ (List.Mem.tail _ (List.mem_append_left _ hp)))))
          · exact List.Mem.tail _ (List.Mem.tail _ (List.Mem.tail _ (List.Mem.tail _ (List.Mem.tail _ (List.mem_append_right _ hp)))))
        have hap18 : ∀ p ∈ (sa, listOf vs17.toArray k17) :: (wl, listOf ((hpop (e :: t)).map (·.1)).toArray kx2) :: (wd, listOf (wp.map (·.1)).toArray kw) :: (ob ++ B), p.1 ∉ fr.map (·.1) := by
          intro p hp
          have nf := fun hd => not_frame N18 (frs := fr) (fun q hq => List.mem_append_right _ hq) (tF.up su) (p := p) (List.mem_append_left _ hp) hd
          rcases List.mem_cons.mp hp with rfl | hp
          · exact nf (fun _ _ q => nomatch q)
          · rcases List.mem_cons.mp hp with rfl | hp
            · exact nf (fun _ _ q => nomatch q)
            · rcases List.mem_cons.mp hp with rfl | hp
              · exact nf (fun _ _ q => nomatch q)
              · exact hapN p (List.Mem.tail _ (List.Mem.tail _ hp))
        have mra : (ra, listOf vr.toArray kr) ∈ B := by rw [← hB]; exact List.Mem.tail _ (List.mem_append_right _ (List.Mem.head _))
        have hlen17 : ns17.length < 64 := by rw [hperm.length_eq]; exact hc2
        refine ctrT_use (sld_ok w ra sa vr vs17 kr k17 (rangeKs 0 up.length) ns17 _ (List.Mem.tail _ (List.Mem.tail _ (List.Mem.tail _ (List.mem_append_right _ mra)))) (List.Mem.head _) hvr hi17 (rangeKs_rising up.length) hsorted ?sub (by rw [rangeKs_length]; omega) (by omega)) F17 X N18 (tF.up su) hap18 T rfl (show dp + 1 + 6 < recursionLimit from room hdp (by decide)) (show un + 3 + 80 < cLine from room3 hun (by decide)) ?_
        case sub =>
          intro x hx
          have h1 := List.all_eq_true.mp hc3 x (hperm.mem_iff.mp hx)
          rw [List.length_map] at h1
          simpa using h1
        rintro r news' frs' h18 tk18 F18 N19 su18 hap19 ⟨tt, mm, uu, vm, km, ku2, kt, rfl, rfl, hvm, hbelow⟩
        clear N17 N18 F17
        have efree : (rangeKs 0 up.length).filter (fun x => !ns17.contains x) = freeOf (up.map (·.2)) e.2 := by
          unfold freeOf
          rw [List.length_map]
          refine List.filter_congr fun x _ => ?_
          rw [show ns17.contains x = (heldOf (up.map (·.2)) e.2).contains x by rw [Bool.eq_iff_iff]; simp [hperm.mem_iff]]
        rw [efree] at hvm
        simp only [List.cons_append] at N19
        generalize hOB2 : (ob ++ B) ++ frs' = OB2 at N19
        k_steps
        refine unhold ?_
        rename_i lnil h20 F20 N20 l20
        refine ne_nil (isL (vs := []) N20 (List.Mem.tail _ (List.Mem.tail _ (List.Mem.tail _ (List.Mem.head _))))) (isL (vs := []) N20 (List.Mem.head _)) (by simp only [units_deeper]; omega) ?_
        rw [show (!([] : List Value).isEmpty) = false from rfl]
        k_steps
        refine unhold ?_
        rename_i lnil2 h21 F21 N21 l21
        refine eq_nil (isL N21 (List.Mem.tail _ (List.Mem.tail _ (List.Mem.tail _ (List.Mem.head _))))) (isL (vs := []) N21 (List.Mem.head _)) (by simp only [units_deeper]; omega) ?_
        have N22 : News h₀ L1 h21 ((wd, listOf (wp.map (·.1)).toArray kw) :: (wl, listOf ((hpop (e :: t)).map (·.1)).toArray kx2) :: (mm, listOf vm.toArray km) :: OB2) := by
          intro p hp
          refine N21 p ?_
          rcases List.mem_cons.mp hp with rfl | hp
          · repeat (first | exact List.Mem.head _ | apply List.Mem.tail)
          · rcases List.mem_cons.mp hp with rfl | hp
            · repeat (first | exact List.Mem.head _ | apply List.Mem.tail)
            · rcases List.mem_cons.mp hp with rfl | hp
              · repeat (first | exact List.Mem.head _ | apply List.Mem.tail)
              · exact List.Mem.tail _ (List.Mem.tail _ (List.Mem.tail _ (List.Mem.tail _ (List.Mem.tail _ (List.Mem.tail _ (List.Mem.tail _ (List.Mem.tail _ hp)))))))
        have hfrs : ∀ p ∈ frs', p.1 ≠ wd ∧ p.1 ≠ wl ∧ p.1 ≠ mm := by
          intro p hp
          have hp' : p.1 ∈ frs'.map (·.1) := List.mem_map_of_mem hp
          refine ⟨fun q => hap19 (wd, listOf (wp.map (·.1)).toArray kw) ?_ (q ▸ hp'), fun q => hap19 (wl, listOf ((hpop (e :: t)).map (·.1)).toArray kx2) ?_ (q ▸ hp'), fun q => hap19 (mm, listOf vm.toArray km) ?_ (q ▸ hp')⟩
          all_goals (repeat (first | exact List.Mem.head _ | apply List.Mem.tail))
        have hob2 : ∀ p ∈ OB2, p.1 ≠ wd ∧ p.1 ≠ wl ∧ p.1 ≠ mm := by
          intro p hp
          rw [← hOB2] at hp
          rcases List.mem_append.mp hp with hp | hp
          · have h1 := (hbelow p (List.Mem.tail _ (List.Mem.tail _ (List.Mem.tail _ hp)))).1
            refine ⟨?_, ?_, Nat.ne_of_lt h1⟩
            · rcases List.mem_append.mp hp with hp | hp
              · exact (hob p hp).2.1
              · exact hbd p (List.mem_append_left _ hp)
            · exact hneW p (List.Mem.tail _ hp)
          · exact hfrs p hp
        have hwm := hbelow (wd, listOf (wp.map (·.1)).toArray kw) (by repeat (first | exact List.Mem.head _ | apply List.Mem.tail))
        have hlm := hbelow (wl, listOf ((hpop (e :: t)).map (·.1)).toArray kx2) (by repeat (first | exact List.Mem.head _ | apply List.Mem.tail))
        have hwdO : ∀ p ∈ (wl, listOf ((hpop (e :: t)).map (·.1)).toArray kx2) :: (mm, listOf vm.toArray km) :: OB2, p.1 ≠ wd := by
          intro p hp
          rcases List.mem_cons.mp hp with rfl | hp
          · exact (hneW _ (List.Mem.head _)).symm
          · rcases List.mem_cons.mp hp with rfl | hp
            · exact Nat.ne_of_gt hwm.1
            · exact (hob2 p hp).1
        clear N21
        by_cases hfree : freeOf (up.map (·.2)) e.2 = []
        · have hvm0 : vm = [] := by
            have := hvm.length
            rw [hfree] at this
            exact List.eq_nil_of_length_eq_zero this
          subst hvm0
          rw [show ([] : List Value).isEmpty = true from rfl]
          have hlw : (wp.map (·.1)).length < 900 := by rw [List.length_map]; exact hc5
          k_steps
          refine unhold ?_
          refine wpAny_For ?_ (fun _ => rfl)
          k_steps
          rename_i DR hD FD ND lD
          have eN : (wp.map (·.1)).toArray.push (.ref ae) = ((wp ++ [e]).map (·.1)).toArray := by simp [he1]
          rw [eN] at ND
          refine fl_rev (σ := Unit) (I := DR) (ax := mm) (vs := []) (kv := km) (fun _ => (wd, listOf ((wp ++ [e]).map (·.1)).toArray (kw + 1)) :: (wl, listOf ((hpop (e :: t)).map (·.1)).toArray kx2) :: (mm, listOf ([] : List Value).toArray km) :: OB2)
            (fun _ => [(Str.ofString "over", .ref D), (Str.ofString "waiting", .ref wl), (Str.ofString "words", .ref wd)]) (fun _ _ => True) () rfl (fun _ => List.Mem.tail _ (List.Mem.tail _ (List.Mem.head _))) FD ?n1 ?off (by kst_all) trivial ?turnE ?doneE ?r1 ?r2
          case r1 => rfl
          case r2 => rfl
          case n1 => exact ND
          case off =>
            intro p hp
            rcases List.mem_cons.mp hp with rfl | hp
            · exact Nat.ne_of_lt lD.1
            · rcases List.mem_cons.mp hp with rfl | hp
              · exact Nat.ne_of_lt lD.2.1
              · rcases List.mem_cons.mp hp with rfl | hp
                · exact Nat.ne_of_lt lD.2.2.1
                · exact Nat.ne_of_lt (allLt_mem lD.2.2.2 p hp)
          case turnE =>
            intro i v c' u' h' tk' oI hi
            exact absurd hi (Nat.not_lt_zero _)
          case doneE =>
            intro _ u' h' tk' _ F' N'
            clear ND FD
            replace F' : Fr h₀ L1 h' (kstB u' [(Str.ofString "over", .ref D), (Str.ofString "waiting", .ref wl), (Str.ofString "words", .ref wd)]) := F'
            replace N' : News h₀ L1 h' ((wd, listOf ((wp ++ [e]).map (·.1)).toArray (kw + 1)) :: (wl, listOf ((hpop (e :: t)).map (·.1)).toArray kx2) :: (mm, listOf ([] : List Value).toArray km) :: OB2) := N'
            dsimp only
            refine wpAny_execs_nil ?_
            refine hQT _ _ ?_
            dsimp only [WhPost]
            refine wh_end ⟨hpop (e :: t), wp ++ [e], kx2, kw + 1, ob, frs', f⟩ F' N' ?w1 ?w2 ?w3 ?w4
            case w4 => exact Nat.lt_succ_self f
            case w1 =>
              intro p hp
              rcases List.mem_cons.mp hp with rfl | hp
              · exact List.Mem.head _
              · rcases List.mem_cons.mp hp with rfl | hp
                · exact List.Mem.tail _ (List.Mem.head _)
                · rw [← hOB2]
                  rw [← List.append_assoc] at hp
                  exact List.Mem.tail _ (List.Mem.tail _ (List.Mem.tail _ hp))
            case w2 => kst_all
            case w3 =>
              refine ⟨su.trans su18, fun p hp => hxs p (mem_hpop (e :: t) p hp), fun p hp => ?_, ?_, hob⟩
              · rcases List.mem_append.mp hp with hp | hp
                · exact hwp p hp
                · rw [List.mem_singleton.mp hp]; exact hxs e List.mem_cons_self
              · show runW (up.map (·.2)) f ((hpop (e :: t)).map (·.2)) ((wp ++ [e]).map (·.2)) = some ws
                rw [map_hpop, List.map_append]
                exact runW_nil hfree hrn
        · have hvm0 : vm.isEmpty = false := by
            have := hvm.length
            cases vm with
            | nil => exact absurd (List.eq_nil_of_length_eq_zero this.symm) hfree
            | cons _ _ => rfl
          rw [hvm0]
          k_steps
          refine unhold ?_
          refine wpAny_For ?_ (fun _ => rfl)
          k_steps
          rename_i DR hD FD ND lD
          have hvml := hvm.length
          have hfl2 : (freeOf (up.map (·.2)) e.2).length ≤ up.length := by
            unfold freeOf
            refine Nat.le_trans (List.length_filter_le _ _) ?_
            rw [rangeKs_length, List.length_map]
            exact Nat.le_refl _
          have hOBD : ∀ p ∈ OB2, p.1 < DR := fun p hp => allLt_mem lD.2.2.2 p hp
          have ND2 : News h₀ L1 hD ((DR, revObj mm ((vm.length : Int) - 1)) :: (wl, listOf ((hpop (e :: t)).map (·.1)).toArray kx2) :: ([] ++ (wd, listOf (wp.map (·.1)).toArray kw) :: (mm, listOf vm.toArray km) :: OB2)) := by
            intro p hp
            refine ND p ?_
            rcases List.mem_cons.mp hp with rfl | hp
            · exact List.Mem.head _
            · rcases List.mem_cons.mp hp with rfl | hp
              · exact List.Mem.tail _ (List.Mem.tail _ (List.Mem.head _))
              · rcases List.mem_cons.mp hp with rfl | hp
                · exact List.Mem.tail _ (List.Mem.head _)
                · exact List.Mem.tail _ (List.Mem.tail _ (List.Mem.tail _ hp))
          clear ND
          refine fl_rev (I := DR) (σ := List (Value × List Int) × Nat × List (Addr × Obj)) (ax := mm) (vs := vm) (kv := km)
            (fun c => (wl, listOf (c.1.map (·.1)).toArray c.2.1) :: (c.2.2 ++ (wd, listOf (wp.map (·.1)).toArray kw) :: (mm, listOf vm.toArray km) :: OB2))
            (fun _ => [(Str.ofString "over", .ref D), (Str.ofString "waiting", .ref wl), (Str.ofString "words", .ref wd), (Str.ofString "word", .ref ae)])
            (fun i c => c.1.map (·.2) = ((freeOf (up.map (·.2)) e.2).reverse.take i).foldl (fun h r => hpushW h (e.2 ++ [r])) (hpopW ((e :: t).map (·.2))) ∧ WordsIn (c.2.2 ++ (ob ++ B)) c.1 ∧ c.1.length ≤ 700 + i ∧ ∀ p ∈ c.2.2, p.1 ≠ wl ∧ p.1 ≠ wd ∧ ∃ v k, p.2.data = .seq v k)
            (hpop (e :: t), kx2, []) rfl (fun c => List.Mem.tail _ (List.mem_append_right _ (List.Mem.tail _ (List.Mem.head _)))) FD ?n1 ?off (by kst_all)
            ⟨by rw [List.take_zero, map_hpop]; rfl, fun p hp => hxs p (mem_hpop _ p hp), by dsimp only; rw [len_hpop]; omega, fun p hp => nomatch hp⟩ ?turnF ?doneF ?r1 ?r2
          case r1 => rfl
          case r2 => rfl
          case n1 => exact ND2
          case off =>
            intro p hp
            rcases List.mem_cons.mp hp with rfl | hp
            · exact Nat.ne_of_lt lD.2.1
            · rcases List.mem_cons.mp hp with rfl | hp
              · exact Nat.ne_of_lt lD.1
              · rcases List.mem_cons.mp hp with rfl | hp
                · exact Nat.ne_of_lt lD.2.2.1
                · exact Nat.ne_of_lt (hOBD p hp)
          case turnF =>
            rintro i v ⟨xs', kx', own⟩ u' h' tk' oI hi hv ⟨hx1, hx2, hx3, hx4⟩ offc F' N'
            dsimp only at hx1 hx2 hx3 hx4 offc F' N'
            clear FD ND2
            replace F' : Fr h₀ L1 h' (fun y => if y = Str.ofString "rank" then some v else kstB u' [(Str.ofString "over", .ref D), (Str.ofString "waiting", .ref wl), (Str.ofString "words", .ref wd), (Str.ofString "word", .ref ae)] y) := F'
            replace N' : News h₀ L1 h' ((DR, oI) :: (wl, listOf (xs'.map (·.1)).toArray kx') :: (own ++ (wd, listOf (wp.map (·.1)).toArray kw) :: (mm, listOf vm.toArray km) :: OB2)) := N'
            obtain ⟨k, t2, hvk, hkk⟩ : ∃ k t2, v = .int k t2 ∧ (freeOf (up.map (·.2)) e.2).reverse[i]? = some k := by
              rw [List.getElem?_reverse hi] at hv
              obtain ⟨k, t2, h1, h2⟩ := IntsAre.at hvm _ v hv
              refine ⟨k, t2, h1, ?_⟩
              rw [List.getElem?_reverse (by omega), ← hvml]
              exact h2
            subst hvk
            refine gen_post fun QF hQF => ?_
            have hem2 : (ae, listOf ve.toArray ke) ∈ OB2 := by rw [← hOB2]; exact List.mem_append_left _ hem
            k_steps
            rename_i la h15 F15 N15 l15
            refine add_lists_ints F15 N15 (isL N15 (List.Mem.tail _ (List.Mem.tail _ (List.Mem.tail _ (List.mem_append_right _ (List.Mem.tail _ (List.Mem.tail _ hem2))))))) (isL (vs := [.int k t2]) N15 (List.Mem.head _)) hei (.cons k t2 .nil) ?_ (by rw [sizeLine_eq]; simp only [List.length_cons, List.length_nil]; omega)
            intro h16 F16 N16 hi16
            have lt16 : ∀ q ∈ (DR, oI) :: (wl, listOf (xs'.map (·.1)).toArray kx') :: (own ++ (wd, listOf (wp.map (·.1)).toArray kw) :: (mm, listOf vm.toArray km) :: OB2), q.1 < h15.objs.size := fun q hq => Heap.lt_size (N15 q (List.Mem.tail _ hq)).1
            dsimp only at N16 ⊢
            generalize hna : h15.objs.size = na at N16 lt16 ⊢
            replace N16 : News h₀ L1 h16 ((na, listOf (ve ++ [Value.int k t2]).toArray 0) :: (DR, oI) :: (wl, listOf (xs'.map (·.1)).toArray kx') :: (own ++ (wd, listOf (wp.map (·.1)).toArray kw) :: (mm, listOf vm.toArray km) :: OB2)) := by
              intro p hp
              refine N16 p ?_
              rcases List.mem_cons.mp hp with rfl | hp
              · exact List.Mem.head _
              · exact List.Mem.tail _ (List.Mem.tail _ hp)
            clear N15 F15
            k_steps
            refine unhold ?_
            have hkey : ∀ p ∈ own, p.1 ∉ frs'.map (·.1) := by
              intro p hp
              obtain ⟨_, _, v5, k5, hd5⟩ := hx4 p hp
              exact not_frame N16 (frs := frs') (fun q hq => List.Mem.tail _ (List.Mem.tail _ (List.Mem.tail _ (List.mem_append_right _ (List.Mem.tail _ (List.Mem.tail _ (by rw [← hOB2]; exact List.mem_append_right _ hq))))))) (tF.up (su.trans su18)) (List.Mem.tail _ (List.Mem.tail _ (List.Mem.tail _ (List.mem_append_left _ hp)))) (fun _ _ q => by rw [hd5] at q; cases q)
            have hfrlt : ∀ p ∈ frs', p.1 < na ∧ p.1 < DR := fun p hp => by
              have hp2 : p ∈ OB2 := by rw [← hOB2]; exact List.mem_append_right _ hp
              exact ⟨lt16 p (List.Mem.tail _ (List.Mem.tail _ (List.mem_append_right _ (List.Mem.tail _ (List.Mem.tail _ hp2))))), hOBD p hp2⟩
            have hnfr : ∀ (x : Addr), (∀ p ∈ frs', p.1 ≠ x) → x ∉ frs'.map (·.1) := fun x h hm => by
              obtain ⟨q, hq, e⟩ := List.mem_map.mp hm
              exact h q hq e
            have N18 : News h₀ L1 h16 (((wl, listOf (xs'.map (·.1)).toArray kx') :: ((na, listOf (ve ++ [Value.int k t2]).toArray 0) :: (DR, oI) :: (own ++ (wd, listOf (wp.map (·.1)).toArray kw) :: (mm, listOf vm.toArray km) :: (ob ++ B)))) ++ frs') := by
              intro p hp
              refine N16 p ?_
              rcases List.mem_append.mp hp with hp | hp
              · rcases List.mem_cons.mp hp with rfl | hp
                · exact List.Mem.tail _ (List.Mem.tail _ (List.Mem.head _))
                · rcases List.mem_cons.mp hp with rfl | hp
                  · exact List.Mem.head _
                  · rcases List.mem_cons.mp hp with rfl | hp
                    · exact List.Mem.tail _ (List.Mem.head _)
                    · refine List.Mem.tail _ (List.Mem.tail _ (List.Mem.tail _ ?_))
                      rcases List.mem_append.mp hp with hp | hp
                      · exact List.mem_append_left _ hp
                      · refine List.mem_append_right _ ?_
                        rcases List.mem_cons.mp hp with rfl | hp
                        · exact List.Mem.head _
                        · rcases List.mem_cons.mp hp with rfl | hp
                          · exact List.Mem.tail _ (List.Mem.head _)
                          · exact List.Mem.tail _ (List.Mem.tail _ (by rw [← hOB2]; exact List.mem_append_left _ hp))
              · exact List.Mem.tail _ (List.Mem.tail _ (List.Mem.tail _ (List.mem_append_right _ (List.Mem.tail _ (List.Mem.tail _ (by rw [← hOB2]; exact List.mem_append_right _ hp))))))
            have hap18 : ∀ p ∈ (wl, listOf (xs'.map (·.1)).toArray kx') :: ((na, listOf (ve ++ [Value.int k t2]).toArray 0) :: (DR, oI) :: (own ++ (wd, listOf (wp.map (·.1)).toArray kw) :: (mm, listOf vm.toArray km) :: (ob ++ B))), p.1 ∉ frs'.map (·.1) := by
              intro p hp
              rcases List.mem_cons.mp hp with rfl | hp
              · exact hnfr _ fun q hq => (hfrs q hq).2.1
              · rcases List.mem_cons.mp hp with rfl | hp
                · exact hnfr _ fun q hq => Nat.ne_of_lt (hfrlt q hq).1
                · rcases List.mem_cons.mp hp with rfl | hp
                  · exact hnfr _ fun q hq => Nat.ne_of_lt (hfrlt q hq).2
                  · rcases List.mem_append.mp hp with hp | hp
                    · exact hkey p hp
                    · rcases List.mem_cons.mp hp with rfl | hp
                      · exact hnfr _ fun q hq => (hfrs q hq).1
                      · rcases List.mem_cons.mp hp with rfl | hp
                        · exact hnfr _ fun q hq => (hfrs q hq).2.2
                        · exact hap19 p (List.Mem.tail _ (List.Mem.tail _ (List.Mem.tail _ (List.Mem.tail _ (List.Mem.tail _ (List.Mem.tail _ hp))))))
            have hne18 : ∀ p ∈ (na, listOf (ve ++ [Value.int k t2]).toArray 0) :: (DR, oI) :: (own ++ (wd, listOf (wp.map (·.1)).toArray kw) :: (mm, listOf vm.toArray km) :: (ob ++ B)), p.1 ≠ wl := by
              intro p hp
              rcases List.mem_cons.mp hp with rfl | hp
              · exact Nat.ne_of_gt (lt16 (wl, listOf (xs'.map (·.1)).toArray kx') (List.Mem.tail _ (List.Mem.head _)))
              · rcases List.mem_cons.mp hp with rfl | hp
                · exact Nat.ne_of_gt lD.2.1
                · rcases List.mem_append.mp hp with hp | hp
                  · exact (hx4 p hp).1
                  · rcases List.mem_cons.mp hp with rfl | hp
                    · exact hneW _ (List.Mem.head _)
                    · rcases List.mem_cons.mp hp with rfl | hp
                      · exact Nat.ne_of_gt hlm.1
                      · exact hneW _ (List.Mem.tail _ hp)
            have hw18 : WordsIn ((na, listOf (ve ++ [Value.int k t2]).toArray 0) :: (DR, oI) :: (own ++ (wd, listOf (wp.map (·.1)).toArray kw) :: (mm, listOf vm.toArray km) :: (ob ++ B))) (xs' ++ [(Value.ref na, e.2 ++ [k])]) := by
              intro p hp
              rcases List.mem_append.mp hp with hp | hp
              · obtain ⟨a1, v1, k1, e1, m1, i1⟩ := hx2 p hp
                refine ⟨a1, v1, k1, e1, List.Mem.tail _ (List.Mem.tail _ ?_), i1⟩
                rcases List.mem_append.mp m1 with m1 | m1
                · exact List.mem_append_left _ m1
                · exact List.mem_append_right _ (List.Mem.tail _ (List.Mem.tail _ m1))
              · rw [List.mem_singleton.mp hp]
                exact ⟨na, ve ++ [Value.int k t2], 0, rfl, List.Mem.head _, hi16⟩
            have hfl18 : ∀ p ∈ frs', p.1 < L1 := fun p hp => lt_up (rest := rest) (by rw [hR]; exact hlow) (su.trans su18) p (List.mem_append_right _ hp)
            refine ctr_useT (heappush_ok w wl xs' kx' ((na, listOf (ve ++ [Value.int k t2]).toArray 0) :: (DR, oI) :: (own ++ (wd, listOf (wp.map (·.1)).toArray kw) :: (mm, listOf vm.toArray km) :: (ob ++ B))) (Value.ref na, e.2 ++ [k]) hne18 hw18 (by omega)) F16 X N18 (tF.up (su.trans su18)) hap18 hfl18 T rfl (show dp + 1 + 6 < recursionLimit from room hdp (by decide)) (show un + 3 + 80 < cLine from room3 hun (by decide)) ?_
            rintro r news' h19 tk19 F19 N19 hap19' ⟨rfl, n', rfl⟩
            clear N16 N18 F16
            k_steps
            refine hQF _ _ ?_
            dsimp only [FlPost]
            refine fl_end (hpush xs' (Value.ref na, e.2 ++ [k]), n', (na, listOf (ve ++ [Value.int k t2]).toArray 0) :: own) F19 N19 ?e1 ?e2 ?e3 ?e4
            case e3 => kst_all
            case e1 =>
              intro p hp
              rcases List.mem_cons.mp hp with rfl | hp
              · exact List.mem_append_left _ (List.Mem.tail _ (List.Mem.tail _ (List.Mem.head _)))
              · rcases List.mem_cons.mp hp with rfl | hp
                · exact List.mem_append_left _ (List.Mem.head _)
                · rcases List.mem_cons.mp hp with rfl | hp
                  · exact List.mem_append_left _ (List.Mem.tail _ (List.Mem.head _))
                  · rcases List.mem_append.mp hp with hp | hp
                    · exact List.mem_append_left _ (List.Mem.tail _ (List.Mem.tail _ (List.Mem.tail _ (List.mem_append_left _ hp))))
                    · rcases List.mem_cons.mp hp with rfl | hp
                      · exact List.mem_append_left _ (List.Mem.tail _ (List.Mem.tail _ (List.Mem.tail _ (List.mem_append_right _ (List.Mem.head _)))))
                      · rcases List.mem_cons.mp hp with rfl | hp
                        · exact List.mem_append_left _ (List.Mem.tail _ (List.Mem.tail _ (List.Mem.tail _ (List.mem_append_right _ (List.Mem.tail _ (List.Mem.head _))))))
                        · rw [← hOB2] at hp
                          rcases List.mem_append.mp hp with hp | hp
                          · exact List.mem_append_left _ (List.Mem.tail _ (List.Mem.tail _ (List.Mem.tail _ (List.mem_append_right _ (List.Mem.tail _ (List.Mem.tail _ hp))))))
                          · exact List.mem_append_right _ hp
            case e2 =>
              intro p hp
              rcases List.mem_cons.mp hp with rfl | hp
              · exact offc (wl, listOf (xs'.map (·.1)).toArray kx') (List.Mem.head _)
              · rcases List.mem_cons.mp hp with rfl | hp
                · exact Nat.ne_of_gt (lt16 (DR, oI) (List.Mem.head _))
                · exact offc p (List.Mem.tail _ hp)
            case e4 =>
              refine ⟨?_, fun p hp => ?_, ?_, fun p hp => ?_⟩
              · show (hpush xs' (Value.ref na, e.2 ++ [k])).map (·.2) = _
                rw [map_hpush, hx1, List.take_add_one, hkk, Option.toList_some, List.foldl_append]
                rfl
              · rcases List.mem_append.mp (mem_hpush xs' (Value.ref na, e.2 ++ [k]) p hp) with hp | hp
                · obtain ⟨a1, v1, k1, e1, m1, i1⟩ := hx2 p hp
                  exact ⟨a1, v1, k1, e1, List.Mem.tail _ m1, i1⟩
                · rw [List.mem_singleton.mp hp]
                  exact ⟨na, ve ++ [Value.int k t2], 0, rfl, List.Mem.head _, hi16⟩
              · show (hpush xs' (Value.ref na, e.2 ++ [k])).length ≤ 700 + (i + 1)
                rw [len_hpush]; omega
              · rcases List.mem_cons.mp hp with rfl | hp
                · refine ⟨Nat.ne_of_gt (lt16 (wl, listOf (xs'.map (·.1)).toArray kx') (List.Mem.tail _ (List.Mem.head _))), Nat.ne_of_gt (lt16 (wd, listOf (wp.map (·.1)).toArray kw) (List.Mem.tail _ (List.Mem.tail _ (List.mem_append_right _ (List.Mem.head _))))), _, _, rfl⟩
                · exact hx4 p hp
          case doneF =>
            rintro ⟨xs', kx', own⟩ u' h' tk' ⟨hx1, hx2, hx3, hx4⟩ F' N'
            dsimp only at hx1 hx2 hx3 hx4 F' N'
            clear ND2 FD
            replace F' : Fr h₀ L1 h' (kstB u' [(Str.ofString "over", .ref D), (Str.ofString "waiting", .ref wl), (Str.ofString "words", .ref wd), (Str.ofString "word", .ref ae)]) := F'
            replace N' : News h₀ L1 h' ((wl, listOf (xs'.map (·.1)).toArray kx') :: (own ++ (wd, listOf (wp.map (·.1)).toArray kw) :: (mm, listOf vm.toArray km) :: OB2)) := N'
            dsimp only
            refine wpAny_execs_nil ?_
            refine hQT _ _ ?_
            dsimp only [WhPost]
            refine wh_end ⟨xs', wp, kx', kw, own ++ ob, frs', f⟩ F' N' ?w1 ?w2 ?w3 ?w4
            case w4 => exact Nat.lt_succ_self f
            case w2 => kst_all
            case w1 =>
              intro p hp
              rcases List.mem_cons.mp hp with rfl | hp
              · exact List.Mem.tail _ (List.mem_append_right _ (List.Mem.head _))
              · rcases List.mem_cons.mp hp with rfl | hp
                · exact List.Mem.head _
                · have hp : p ∈ (own ++ ob) ++ (B ++ frs') := hp
                  rw [List.append_assoc] at hp
                  rcases List.mem_append.mp hp with hp | hp
                  · exact List.Mem.tail _ (List.mem_append_left _ hp)
                  · refine List.Mem.tail _ (List.mem_append_right _ (List.Mem.tail _ (List.Mem.tail _ ?_)))
                    rw [← hOB2, List.append_assoc]
                    exact hp
            case w3 =>
              refine ⟨su.trans su18, fun p hp => by show ∃ a vs k, _; rw [List.append_assoc]; exact hx2 p hp, fun p hp => ?_, ?_, fun p hp => ?_⟩
              · obtain ⟨a1, v1, k1, e1, m1, i1⟩ := hwp p hp
                exact ⟨a1, v1, k1, e1, by rw [List.append_assoc]; exact List.mem_append_right _ m1, i1⟩
              · show runW (up.map (·.2)) f (xs'.map (·.2)) (wp.map (·.2)) = some ws
                rw [hx1, List.take_of_length_le (by rw [List.length_reverse, hvml]; exact Nat.le_refl _)]
                exact runW_cons hfree hrn
              · rcases List.mem_append.mp hp with hp | hp
                · exact hx4 p hp
                · exact hob p hp
end Mine
end

-- M10
section
open PySem PySem.W PyProof.Rows
set_option maxRecDepth 100000
set_option maxHeartbeats 8000000
set_option linter.unusedVariables false
namespace Mine
local macro_rules | `(tactic| walk_at "FlPost") => `(tactic| (dsimp only [FlPost]))
local macro_rules | `(tactic| walk_at "call ref") => `(tactic| refine hold ?_)
local macro_rules | `(tactic| walk_at "call builtin:len") => `(tactic| refine hold ?_)
local macro_rules | `(tactic| walk_at "call builtin:list.insert") => `(tactic| refine hold ?_)
local macro_rules | `(tactic| walk_at "exec For Name Call cons nil") => `(tactic| refine hold ?_)
local macro_rules | `(tactic| walk_at "subscriptTail Name Name ref int") => `(tactic| refine hold ?_)
local macro_rules | `(tactic| k_all) => `(tactic| assumption)
set_option pp.deepTerms false
set_option pp.deepTerms.threshold 6
noncomputable def parsTo (ts : List Int) : Nat → List Int
  | 0 => []
  | i + 1 => parsTo ts i ++ [max (-1) ((i : Int) - 1 - (ts.getD i 0) % 2)]
noncomputable def lineTo (ts : List Int) : Nat → List Int
  | 0 => []
  | i + 1 => (lineTo ts i).take (ts.getD i 0 / 2 % ((i : Int) + 1)).toNat ++ (i : Int) :: (lineTo ts i).drop (ts.getD i 0 / 2 % ((i : Int) + 1)).toNat
theorem parsTo_length (ts : List Int) : ∀ i, (parsTo ts i).length = i
  | 0 => rfl
  | i + 1 => by rw [parsTo, List.length_append, parsTo_length ts i]; rfl
theorem lineTo_length (ts : List Int) : ∀ i, (lineTo ts i).length = i
  | 0 => rfl
  | i + 1 => by rw [lineTo, List.length_append, List.length_take, List.length_cons, List.length_drop, lineTo_length ts i]; omega
theorem listFits_small {x : Int} (h0 : 0 ≤ x) (h1 : x < 1000) : Builtin.List.listFitsIndex x = true := by
  unfold Builtin.List.listFitsIndex
  simp only [Bool.and_eq_true, decide_eq_true_eq]
  omega
theorem grown_ok (w : World) (ta : Addr) (vs : List Value) (ts : List Int) (k : Nat) (rest : List (Addr × Obj))
    (hm : (ta, listOf vs.toArray k) ∈ rest) (hi : IntsAre vs ts) (hsz : ts.length ≤ 5) :
    Ctr w 132 [.ref ta] rest 6 90 (fun r news' => ∃ t pa la vp vl kp kl kt, r = .ref t ∧ news' = (t, ({ cls := .type "tuple", data := .seq #[.ref pa, .ref la] kt } : Obj)) :: (la, listOf vl.toArray kl) :: (pa, listOf vp.toArray kp) :: rest ∧
      IntsAre vp (parsTo ts ts.length) ∧ IntsAre vl (lineTo ts ts.length) ∧ ∀ p ∈ rest, p.1 ≠ t ∧ p.1 ≠ pa ∧ p.1 ≠ la) := by
  unfold Ctr
  w_top off
  k_fill
  intro mean mg mb dp un gd cn cs a ccd cl outer A₀ base h₀ L m s Q E B F X N T hk hdp hun hret
  refine wpAny_call ?_
  k_dflt ktr_enter
  rename_i g1 L1 h1 FG1 F1 N1 B1 X1 T1
  obtain ⟨u, F2⟩ := fr_named [(Str.ofString "told", .ref ta)] F1 (by kst_all)
  clear F1
  have hvl := hi.length
  k_steps
  refine unhold ?_
  rename_i pa hh lpa hA hA2 la hB lla h3 F3 N3
  refine wpAny_For ?_ (fun _ => rfl)
  k_steps
  refine unhold ?_
  refine len_at (by k_asm) (List.Mem.tail _ (List.Mem.tail _ hm)) (by omega) ?_
  rw [hvl]
  k_steps

  rename_i h5 tkk t5 u5 v5 hrg F5 N5 keep5
  refine fl_range (σ := List Value × List Value × Nat × Nat) (n := ts.length) (fun c => (la, listOf c.2.1.toArray c.2.2.2) :: (pa, listOf c.1.toArray c.2.2.1) :: rest) (fun _ => [(Str.ofString "told", .ref ta), (Str.ofString "parents", .ref pa), (Str.ofString "line", .ref la)])
    (fun i c => IntsAre c.1 (parsTo ts i) ∧ IntsAre c.2.1 (lineTo ts i)) ([], [], 0, 0) rfl hrg (by first | exact small_nat (Nat.lt_of_le_of_lt (by assumption) (by decide)) | exact small_nat (Nat.lt_trans (by assumption) (by decide)) | exact small_one (by omega) (by omega) (by omega) (by omega)) (by rw [rangeSize_nat]; omega) F5 N5 (by kst_all) ⟨.nil, .nil⟩ ?turn ?done rfl rfl
  case turn =>
    rintro I i t ⟨vp, vl, kp, kl⟩ u4 h4 tk4 oI hil ⟨hc1, hc2⟩ offI lowI F4 N4
    refine gen_post fun QI hQI => ?_
    dsimp only at hc1 hc2 F4 N4
    have ei : (0 : Int) + (i : Int) * 1 = (i : Int) := by omega
    rw [ei] at F4
    obtain ⟨t1, hq1⟩ := ints_at hi hil
    have hl1 : vp.length < 100 := by rw [hc1.length, parsTo_length]; omega
    k_steps
    refine unhold ?_
    refine item_at N4 (List.Mem.tail _ (List.Mem.tail _ (List.Mem.tail _ hm))) (by first | exact Int.natCast_nonneg _ | omega) (by first | exact fit_lt (by assumption) (Nat.lt_of_le_of_lt (by assumption) (by decide)) | exact fit_lt (by assumption) (Nat.lt_trans (by assumption) (by decide)) | omega) (v := .int ts[i] t1) (by simpa using hq1) ?_
    have hIl : la ≠ I := offI (la, listOf vl.toArray kl) (List.Mem.head _)
    have hIp : pa ≠ I := offI (pa, listOf vp.toArray kp) (List.Mem.tail _ (List.Mem.head _))
    have hrp : ∀ p ∈ rest, p.1 ≠ pa := fun p hp => Nat.ne_of_lt (lpa p hp)
    have hrl : ∀ p ∈ rest, p.1 ≠ la := fun p hp => Nat.ne_of_lt (allLt_mem lla.2 p hp)
    have hpl : pa ≠ la := Nat.ne_of_lt lla.1
    k_steps
    rename_i h6 tk6 F6 N6
    refine append_K F6 N6 (.tail hIp.symm (.tail hpl.symm (.head hrp))) ?_ (by rw [List.size_toArray, sizeLine_eq]; omega)
    intro h7 F7 N7
    generalize hval : (if (_ : Int) > _ then _ else _) = X at N7
    k_steps
    refine unhold ?_
    refine item_at N7 (List.Mem.tail _ (List.Mem.tail _ (List.Mem.tail _ hm))) (by first | exact Int.natCast_nonneg _ | omega) (by first | exact fit_lt (by assumption) (Nat.lt_of_le_of_lt (by assumption) (by decide)) | exact fit_lt (by assumption) (Nat.lt_trans (by assumption) (by decide)) | omega) (v := .int ts[i] t1) (by simpa using hq1) ?_
    k_steps
    refine unhold ?_
    have hx : (ts[i].fdiv 2).fmod ((i : Int) + 1) = ts[i] / 2 % ((i : Int) + 1) := by
      rw [Int.fdiv_eq_ediv_of_nonneg _ (by omega), Int.fmod_eq_emod_of_nonneg _ (by omega)]
    have hx0 : 0 ≤ ts[i] / 2 % ((i : Int) + 1) := Int.emod_nonneg _ (by omega)
    have hx1 : ts[i] / 2 % ((i : Int) + 1) < (i : Int) + 1 := Int.emod_lt_of_pos _ (by omega)
    have hgt : ts.getD i 0 = ts[i] := by simp [List.getD, hil]
    have hvll : vl.length = i := by rw [hc2.length, lineTo_length]
    rw [hx]
    generalize hxx : ts[i] / 2 % ((i : Int) + 1) = x at hx0 hx1
    refine kl_insert F7 N7 (listFits_small hx0 (by omega)) rfl (.tail hIl.symm (.head ?hne)) (by rw [List.toList_toArray, sizeLine_eq]; omega) ?_
    case hne =>
      intro p hp
      rcases List.mem_cons.mp hp with rfl | hp
      · exact hpl
      · exact hrl p hp
    intro h8 F8 N8
    k_steps
    refine hQI _ _ ?_
    dsimp only [FlPost]
    refine fl_end (_, kl_ins vl x (.int i t), _, _) F8 N8 (fun p hp => hp) (fun p hp => ?_) (by kst_all) ⟨?_, ?_⟩
    · rcases List.mem_cons.mp hp with rfl | hp
      · exact hIl
      · rcases List.mem_cons.mp hp with rfl | hp
        · exact hIp
        · exact offI p (List.Mem.tail _ (List.Mem.tail _ hp))
    · show IntsAre _ (parsTo ts (i + 1))
      have e : max (-1) ((i : Int) - 1 - ts.getD i 0 % 2) = X := by
        rw [← hval, hgt, Int.fmod_eq_emod_of_nonneg _ (by decide)]
        split <;> omega
      rw [parsTo, e]
      dsimp only
      rw [List.concat_eq_append]
      exact IntsAre.append hc1 (.cons _ _ .nil)
    · show IntsAre (kl_ins vl x (.int i t)) (lineTo ts (i + 1))
      have e : (if x < 0 then (x + (vl.length : Int)).toNat else min x.toNat vl.length) = x.toNat := by
        rw [if_neg (by omega)]; omega
      rw [lineTo, hgt, hxx]
      unfold kl_ins
      rw [e]
      exact IntsAre.append (hc2.take _) (.cons _ _ (hc2.drop _))
  case done =>
    rintro ⟨vp, vl, kp, kl⟩ u5 h5 tk5 ⟨hc1, hc2⟩ F5 N5
    dsimp only at hc1 hc2 F5 N5
    k_steps
    rename_i D hh FF NN lD kF NR _ _
    refine hret _ _ _ _ kF NR ⟨D, pa, la, vp, vl, kp, kl, _, rfl, rfl, hc1, hc2, fun p hp => ⟨Nat.ne_of_lt (allLt_mem lD.2.2 p hp), Nat.ne_of_lt (lpa p hp), Nat.ne_of_lt (allLt_mem lla.2 p hp)⟩⟩
end Mine
end

-- P9s
section
open PySem PySem.W PyProof.Rows
set_option linter.unusedVariables false
namespace Mine
structure Plain (ps ls : List Int) : Prop where
  hll : ls.length = ps.length
  hps : ∀ i : Nat, i < ps.length → -1 ≤ ps.getD i 0 ∧ ps.getD i 0 < (i : Int)
  hlr : ∀ k ∈ ls, 0 ≤ k ∧ k < (ps.length : Int)
  hgood : ∀ r ∈ rowsTo ps ps.length, GoodRow r
  hinj : ∀ r ∈ rowsTo ps ps.length, ∀ r' ∈ rowsTo ps ps.length, nameOf r = nameOf r' → r = r'
  hbr : ∀ x ∈ branchesW ps, 0 ≤ x ∧ x ≤ 5
  hlay : PyData.layable0 (.list (ls.map .int)) = true
  hin : ∀ i : Nat, i < ps.length → (i : Int) ∈ ls
  hrun : ∃ fu ws, runW (underTo (rowsTo ps ps.length) ls ls.length) fu [[]] [] = some ws ∧ ws.length < 1000 ∧ (∀ q ∈ ws, q.length ≤ 5) ∧
    (∀ i, i + 1 < ws.length → cmpW (ws.getD i []) (ws.getD (i + 1) []) = -1) ∧ (bothW ws ps ls).1 = (bothW ws ps ls).2
end Mine
end

-- P9a
section
open PySem PySem.W PyProof.Rows
set_option linter.unusedVariables false
set_option maxRecDepth 100000
set_option maxHeartbeats 4000000
namespace Mine
/-- less at a place that both have -/
noncomputable def ltP : List Int → List Int → Prop
  | a :: x, b :: y => a < b ∨ (a = b ∧ ltP x y)
  | _, _ => False
theorem ltP_lex : ∀ {x y : List Int}, ltP x y → lexLt x y = true ∧ lexLt y x = false
  | [], [], h => h.elim
  | [], _ :: _, h => h.elim
  | _ :: _, [], h => h.elim
  | a :: x, b :: y, h => by
    unfold lexLt
    rcases h with h | ⟨h, h'⟩
    · rw [if_neg (by omega), if_neg (by omega)]
      exact ⟨decide_eq_true h, decide_eq_false (by omega)⟩
    · rw [if_pos h, if_pos h.symm]
      exact ltP_lex h'
theorem ltP_app (u v : List Int) : ∀ {x y : List Int}, ltP x y → ltP (x ++ u) (y ++ v)
  | [], [], h => h.elim
  | [], _ :: _, h => h.elim
  | _ :: _, [], h => h.elim
  | a :: x, b :: y, h => by
    rcases h with h | ⟨h, h'⟩
    · exact .inl h
    · exact .inr ⟨h, ltP_app u v h'⟩
theorem ltP_left (u : List Int) {x y : List Int} (h : ltP x y) : ltP (x ++ u) y := by
  have := ltP_app u [] h
  rwa [List.append_nil] at this
theorem ltP_snoc {r r' : Int} (h : r < r') : ∀ w : List Int, ltP (w ++ [r]) (w ++ [r'])
  | [] => .inl h
  | a :: w => .inr ⟨rfl, ltP_snoc h w⟩
theorem ltP_cmp {x y : List Int} (h : ltP x y) : cmpW x y = -1 := by
  unfold cmpW
  rw [(ltP_lex h).1, (ltP_lex h).2]
  rfl
/-- the heap list of a rising stack -/
noncomputable def pat : List (List Int) → List (List Int)
  | [a, b, c] => [a, c, b]
  | [a, b, c, d, e] => [a, b, d, e, c]
  | [a, b, c, d, e, f] => [a, c, b, f, d, e]
  | [a, b, c, d, e, f, g] => [a, d, b, g, e, f, c]
  | [a, b, c, d, e, f, g, h] => [a, b, c, e, f, g, d, h]
  | l => l
theorem push_pat (n : List Int) : ∀ (st : List (List Int)), st.length ≤ 7 → (∀ s ∈ st, lexLt n s = true) → hpushW (pat st) n = pat (n :: st)
  | [], _, h => rfl
  | [a], _, h => by
    simp only [List.forall_mem_cons] at h
    simp [hpushW, pat, sdLoopW, h]
  | [a, b], _, h => by
    simp only [List.forall_mem_cons] at h
    simp [hpushW, pat, sdLoopW, h]
  | [a, b, c], _, h => by
    simp only [List.forall_mem_cons] at h
    simp [hpushW, pat, sdLoopW, h]
  | [a, b, c, d], _, h => by
    simp only [List.forall_mem_cons] at h
    simp [hpushW, pat, sdLoopW, h]
  | [a, b, c, d, e], _, h => by
    simp only [List.forall_mem_cons] at h
    simp [hpushW, pat, sdLoopW, h]
  | [a, b, c, d, e, f], _, h => by
    simp only [List.forall_mem_cons] at h
    simp [hpushW, pat, sdLoopW, h]
  | [a, b, c, d, e, f, g], _, h => by
    simp only [List.forall_mem_cons] at h
    simp [hpushW, pat, sdLoopW, h]
  | _ :: _ :: _ :: _ :: _ :: _ :: _ :: _ :: _, h, _ => by simp only [List.length_cons] at h; omega
theorem pop_pat (s : List Int) : ∀ (st : List (List Int)), st.length ≤ 7 → (s :: st).Pairwise (fun a b => lexLt a b = true ∧ lexLt b a = false) → hpopW (pat (s :: st)) = pat st
  | [], _, h => rfl
  | [a], _, hh => by
    simp only [List.pairwise_cons, List.forall_mem_cons] at hh
    simp [hpopW, siftupW, pat, sdLoopW, suLoopW, hh]
  | [a, b], _, hh => by
    simp only [List.pairwise_cons, List.forall_mem_cons] at hh
    simp [hpopW, siftupW, pat, sdLoopW, suLoopW, hh]
  | [a, b, c], _, hh => by
    simp only [List.pairwise_cons, List.forall_mem_cons] at hh
    simp [hpopW, siftupW, pat, sdLoopW, suLoopW, hh]
  | [a, b, c, d], _, hh => by
    simp only [List.pairwise_cons, List.forall_mem_cons] at hh
    simp [hpopW, siftupW, pat, sdLoopW, suLoopW, hh]
  | [a, b, c, d, e], _, hh => by
    simp only [List.pairwise_cons, List.forall_mem_cons] at hh
    simp [hpopW, siftupW, pat, sdLoopW, suLoopW, hh]
  | [a, b, c, d, e, f], _, hh => by
    simp only [List.pairwise_cons, List.forall_mem_cons] at hh
    simp [hpopW, siftupW, pat, sdLoopW, suLoopW, hh]
  | [a, b, c, d, e, f, g], _, hh => by
    simp only [List.pairwise_cons, List.forall_mem_cons] at hh
    simp [hpopW, siftupW, pat, sdLoopW, suLoopW, hh]
  | _ :: _ :: _ :: _ :: _ :: _ :: _ :: _ :: _, h, _ => by simp only [List.length_cons] at h; omega
theorem pat_head (w : List Int) : ∀ (st : List (List Int)), st.length ≤ 7 → ∃ t, pat (w :: st) = w :: t ∧ t.length = st.length
  | [], _ => ⟨_, rfl, rfl⟩
  | [a], _ => ⟨_, rfl, rfl⟩
  | [a, b], _ => ⟨_, rfl, rfl⟩
  | [a, b, c], _ => ⟨_, rfl, rfl⟩
  | [a, b, c, d], _ => ⟨_, rfl, rfl⟩
  | [a, b, c, d, e], _ => ⟨_, rfl, rfl⟩
  | [a, b, c, d, e, f], _ => ⟨_, rfl, rfl⟩
  | [a, b, c, d, e, f, g], _ => ⟨_, rfl, rfl⟩
  | _ :: _ :: _ :: _ :: _ :: _ :: _ :: _ :: _, h => by simp only [List.length_cons] at h; omega
end Mine
end

-- P9b
section
open PySem PySem.W PyProof.Rows
set_option linter.unusedVariables false
set_option maxRecDepth 100000
set_option maxHeartbeats 4000000
namespace Mine
/-- the words behind a beginning, f ranks left -/
noncomputable def dfs (us : List (List Int)) : Nat → List Int → List (List Int)
  | 0, w => [w]
  | f + 1, w => (freeOf us w).flatMap (fun r => dfs us f (w ++ [r]))
noncomputable def okW (us : List (List Int)) : Nat → List Int → Prop
  | 0, w => freeOf us w = []
  | f + 1, w => freeOf us w ≠ [] ∧ (freeOf us w).length ≤ 3 ∧ (freeOf us w).length ≤ f + 1 ∧ ∀ r ∈ freeOf us w, okW us f (w ++ [r])
theorem overOf_len (us : List (List Int)) (o : Int) : (overOf us o).length ≤ us.length := by
  unfold overOf
  refine Nat.le_trans (List.length_filter_le _ _) ?_
  rw [rangeKs_length]; exact Nat.le_refl _
theorem held_len (us : List (List Int)) (w : List Int) : ∀ (ks held : List Int), (ks.foldl (fun held other => if w.contains other = true then held else held ++ overOf us other) held).length ≤ held.length + ks.length * us.length
  | [], held => by simp
  | k :: ks, held => by
    rw [List.foldl_cons]
    refine Nat.le_trans (held_len us w ks _) ?_
    have e : (k :: ks).length * us.length = ks.length * us.length + us.length := by rw [List.length_cons, Nat.add_mul, Nat.one_mul]
    rw [e]
    have := overOf_len us k
    split
    · omega
    · rw [List.length_append]; omega
theorem held_mem (us : List (List Int)) (w : List Int) (x : Int) : ∀ (ks held : List Int), x ∈ ks.foldl (fun held other => if w.contains other = true then held else held ++ overOf us other) held ↔ x ∈ held ∨ ∃ o ∈ ks, w.contains o = false ∧ x ∈ overOf us o
  | [], held => by simp
  | k :: ks, held => by
    rw [List.foldl_cons, held_mem us w x ks]
    cases hk : w.contains k
    · rw [if_neg (by decide), List.mem_append]
      constructor
      · rintro ((h | h) | ⟨o, h1, h2⟩)
        · exact .inl h
        · exact .inr ⟨k, List.mem_cons_self, hk, h⟩
        · exact .inr ⟨o, List.mem_cons_of_mem _ h1, h2⟩
      · rintro (h | ⟨o, h1, h2, h3⟩)
        · exact .inl (.inl h)
        · rcases List.mem_cons.mp h1 with rfl | h1
          · exact .inl (.inr h3)
          · exact .inr ⟨o, h1, h2, h3⟩
    · rw [if_pos rfl]
      constructor
      · rintro (h | ⟨o, h1, h2⟩)
        · exact .inl h
        · exact .inr ⟨o, List.mem_cons_of_mem _ h1, h2⟩
      · rintro (h | ⟨o, h1, h2, h3⟩)
        · exact .inl h
        · rcases List.mem_cons.mp h1 with rfl | h1
          · rw [hk] at h2; cases h2
          · exact .inr ⟨o, h1, h2, h3⟩
theorem held_in (us : List (List Int)) (w : List Int) (hw : ∀ x ∈ w, x ∈ rangeKs 0 us.length) : (heldOf us w).all (fun x => (rangeKs 0 us.length).contains x) = true := by
  rw [List.all_eq_true]
  intro x hx
  rw [List.contains_iff_mem]
  rcases (held_mem us w x _ _).mp hx with h | ⟨o, _, _, h⟩
  · exact hw x h
  · exact (List.mem_filter.mp h).1
theorem free_in {us : List (List Int)} {w : List Int} {r : Int} (h : r ∈ freeOf us w) : r ∈ rangeKs 0 us.length := (List.mem_filter.mp h).1
theorem free_rising (us : List (List Int)) (w : List Int) : (freeOf us w).Pairwise (· < ·) := (rangeKs_rising us.length).sublist List.filter_sublist

theorem push_many (w : List Int) : ∀ (rs : List Int) (st : List (List Int)), rs.Pairwise (· < ·) → st.length + rs.length ≤ 8 → (∀ s ∈ st, ltP w s) →
    rs.reverse.foldl (fun h r => hpushW h (w ++ [r])) (pat st) = pat (rs.map (fun r => w ++ [r]) ++ st)
  | [], st, _, _, _ => rfl
  | r :: rs, st, hr, hl, hs => by
    obtain ⟨h1, h2⟩ := List.pairwise_cons.mp hr
    rw [List.length_cons] at hl
    rw [List.reverse_cons, List.foldl_append, push_many w rs st h2 (by omega) hs]
    show hpushW (pat _) (w ++ [r]) = pat ((w ++ [r]) :: _)
    refine push_pat _ _ (by rw [List.length_append, List.length_map]; omega) ?_
    intro s h
    rcases List.mem_append.mp h with h | h
    · obtain ⟨r', hr', rfl⟩ := List.mem_map.mp h
      exact (ltP_lex (ltP_snoc (h1 r' hr') w)).1
    · exact (ltP_lex (ltP_left _ (hs s h))).1
theorem stack_rising (w : List Int) : ∀ (rs : List Int) (st : List (List Int)), rs.Pairwise (· < ·) → (∀ s ∈ st, ltP w s) → st.Pairwise ltP → (rs.map (fun r => w ++ [r]) ++ st).Pairwise ltP
  | [], st, _, _, h => h
  | r :: rs, st, hr, hs, hp => by
    obtain ⟨h1, h2⟩ := List.pairwise_cons.mp hr
    refine List.pairwise_cons.mpr ⟨?_, stack_rising w rs st h2 hs hp⟩
    intro s h
    rcases List.mem_append.mp h with h | h
    · obtain ⟨r', hr', rfl⟩ := List.mem_map.mp h
      exact ltP_snoc (h1 r' hr') w
    · exact ltP_left _ (hs s h)
theorem runW_step {us : List (List Int)} {w : List Int} {st ws : List (List Int)} (hn : us.length ≤ 5) (hw : ∀ x ∈ w, x ∈ rangeKs 0 us.length) (hl : w.length ≤ 5) (hst : st.length ≤ 7) (hp : (w :: st).Pairwise ltP) (hws : ws.length < 900) (F : Nat) :
    runW us (F + 1) (pat (w :: st)) ws = runW us F ((freeOf us w).reverse.foldl (fun h r => hpushW h (w ++ [r])) (pat st)) (if freeOf us w = [] then ws ++ [w] else ws) := by
  obtain ⟨t, ht, htl⟩ := pat_head w st hst
  have hpop := pop_pat w st hst (hp.imp fun h => ltP_lex h)
  rw [ht] at hpop ⊢
  have hh : (heldOf us w).length < 64 := by
    have h1 := held_len us w (rangeKs 0 us.length) w
    rw [rangeKs_length] at h1
    have h2 : us.length * us.length ≤ 5 * 5 := Nat.mul_le_mul hn hn
    unfold heldOf
    omega
  show (if _ then _ else _) = _
  rw [if_pos ⟨by rw [List.length_cons]; omega, hh, held_in us w hw, by omega, hws⟩, hpop]
theorem run_dfs (us : List (List Int)) (hn : us.length ≤ 5) : ∀ (f : Nat) (w : List Int) (st ws : List (List Int)), okW us f w → (∀ x ∈ w, x ∈ rangeKs 0 us.length) → w.length + f ≤ 5 → st.length + 2 * f ≤ 10 → st.length ≤ 7 →
    (w :: st).Pairwise ltP → ws.length + (dfs us f w).length < 900 → ∃ k, ∀ F, runW us (F + k) (pat (w :: st)) ws = runW us F (pat st) (ws ++ dfs us f w)
  | 0, w, st, ws, ok, hw, hl, h1, h2, hp, hb => by
    refine ⟨1, fun F => ?_⟩
    have ok : freeOf us w = [] := ok
    rw [runW_step hn hw (by omega) h2 hp (by omega), if_pos ok, ok]
    rfl
  | f + 1, w, st, ws, ok, hw, hl, h1, h2, hp, hb => by
    obtain ⟨hne, h3, hf, hr⟩ := ok
    obtain ⟨hp1, hp2⟩ := List.pairwise_cons.mp hp
    have key : ∀ (rs : List Int), rs.Pairwise (· < ·) → (∀ r ∈ rs, r ∈ freeOf us w) → rs.length ≤ 3 → rs.length ≤ f + 1 → ∀ ws : List (List Int), ws.length + (rs.flatMap (fun r => dfs us f (w ++ [r]))).length < 900 →
        ∃ k, ∀ F, runW us (F + k) (pat (rs.map (fun r => w ++ [r]) ++ st)) ws = runW us F (pat st) (ws ++ rs.flatMap (fun r => dfs us f (w ++ [r]))) := by
      intro rs
      induction rs with
      | nil => intro _ _ _ _ ws _; exact ⟨0, fun F => by rw [List.flatMap_nil, List.append_nil]; rfl⟩
      | cons r rs ih =>
        intro hrs hin hl3 hlf ws hb
        rw [List.flatMap_cons, List.length_append] at hb
        rw [List.length_cons] at hl3 hlf
        obtain ⟨q1, q2⟩ := List.pairwise_cons.mp hrs
        have hsr := stack_rising w (r :: rs) st hrs hp1 hp2
        obtain ⟨k1, hk1⟩ := run_dfs us hn f (w ++ [r]) (rs.map (fun r => w ++ [r]) ++ st) ws (hr r (hin r List.mem_cons_self)) (fun x hx => by
            rcases List.mem_append.mp hx with hx | hx
            · exact hw x hx
            · rw [List.mem_singleton.mp hx]; exact free_in (hin r List.mem_cons_self))
          (by rw [List.length_append, List.length_singleton]; omega) (by rw [List.length_append, List.length_map]; omega) (by rw [List.length_append, List.length_map]; omega) hsr (by omega)
        obtain ⟨k2, hk2⟩ := ih q2 (fun r' h' => hin r' (List.mem_cons_of_mem _ h')) (by omega) (by omega) (ws ++ dfs us f (w ++ [r])) (by rw [List.length_append]; omega)
        refine ⟨k2 + k1, fun F => ?_⟩
        rw [← Nat.add_assoc]
        refine (hk1 (F + k2)).trans ?_
        rw [hk2, List.flatMap_cons, List.append_assoc]
    obtain ⟨k, hk⟩ := key (freeOf us w) (free_rising us w) (fun _ h => h) h3 hf ws hb
    refine ⟨k + 1, fun F => ?_⟩
    rw [← Nat.add_assoc, runW_step hn hw (by omega) h2 hp (by omega), if_neg hne, push_many w _ _ (free_rising us w) (by omega) hp1, hk]
    rfl
theorem dfs_ext (us : List (List Int)) : ∀ (f : Nat) (w v : List Int), v ∈ dfs us f w → ∃ x, v = w ++ x ∧ x.length = f
  | 0, w, v, h => ⟨[], by rw [List.append_nil]; exact List.mem_singleton.mp h, rfl⟩
  | f + 1, w, v, h => by
    obtain ⟨r, _, h⟩ := List.mem_flatMap.mp h
    obtain ⟨x, e, hx⟩ := dfs_ext us f _ v h
    exact ⟨r :: x, by rw [e, List.append_assoc]; rfl, by rw [List.length_cons, hx]⟩
theorem dfs_rising (us : List (List Int)) : ∀ (f : Nat) (w : List Int), (dfs us f w).Pairwise ltP
  | 0, w => List.pairwise_singleton _ _
  | f + 1, w => by
    refine List.pairwise_flatMap.mpr ⟨fun r _ => dfs_rising us f _, (free_rising us w).imp ?_⟩
    intro r r' h x hx y hy
    obtain ⟨u, rfl, _⟩ := dfs_ext us f _ x hx
    obtain ⟨v, rfl, _⟩ := dfs_ext us f _ y hy
    exact ltP_app u v (ltP_snoc h w)
theorem flatMap_len {α β : Type} (g : α → List β) (B : Nat) : ∀ l : List α, (∀ a ∈ l, (g a).length ≤ B) → (l.flatMap g).length ≤ l.length * B
  | [], _ => by simp
  | a :: l, h => by
    have h1 := flatMap_len g B l fun a h' => h a (List.mem_cons_of_mem _ h')
    have h2 := h a List.mem_cons_self
    rw [List.flatMap_cons, List.length_append, List.length_cons, Nat.add_mul, Nat.one_mul]
    omega
theorem dfs_len (us : List (List Int)) : ∀ (f : Nat) (w : List Int), okW us f w → (dfs us f w).length ≤ 3 ^ f
  | 0, w, _ => Nat.le_refl _
  | f + 1, w, ok => by
    obtain ⟨_, h3, _, hr⟩ := ok
    refine Nat.le_trans (flatMap_len _ (3 ^ f) _ fun r h => dfs_len us f _ (hr r h)) ?_
    rw [Nat.pow_succ, Nat.mul_comm (3 ^ f)]
    exact Nat.mul_le_mul_right _ h3
theorem pairwise_at {α : Type} {R : α → α → Prop} {l : List α} (h : l.Pairwise R) (d : α) {i : Nat} (hi : i + 1 < l.length) : R (l.getD i d) (l.getD (i + 1) d) := by
  have := List.pairwise_iff_getElem.mp h i (i + 1) (by omega) hi (by omega)
  simpa [List.getD, show i < l.length by omega, hi] using this
end Mine
end

-- P9c
section
open PySem PySem.W PyProof.Rows
set_option linter.unusedVariables false
set_option maxRecDepth 100000
set_option maxHeartbeats 4000000
namespace Mine
noncomputable def lsN (ls : List Int) (x : Nat) : Nat := (ls.getD x 0).toNat
/-- module m is free: not in M, its branch in M -/
noncomputable def fr (D : List Nat) (M m : Nat) : Bool := Nat.beq (Nat.land M (2 ^ m + D.getD m 0)) (D.getD m 0)
noncomputable def qs (cs : List (Nat × Nat × Nat)) : Nat → Nat → Nat → Nat → Nat → Nat
  | 0, _, _, _, t => 1000 ^ t
  | f + 1, M, last, pos, t => cs.foldr (fun c acc => bif Nat.beq (Nat.land M (c.2.1 + c.2.2)) c.2.2 then qs cs f (M + c.2.1) c.1 (pos + 1) (bif Nat.blt c.1 last then t + pos else t) + acc else acc) 0
noncomputable def mkCs (D : List Nat) (ls : List Int) : List (Nat × Nat × Nat) := (List.range ls.length).map (fun r => (r, 2 ^ lsN ls r, D.getD (lsN ls r) 0))
noncomputable def okN (D : List Nat) (n : Nat) : Nat → Nat → Bool
  | 0, M => (List.range n).all fun m => !fr D M m
  | f + 1, M => decide (1 ≤ (List.range n).countP (fr D M)) && decide ((List.range n).countP (fr D M) ≤ 3) && decide ((List.range n).countP (fr D M) ≤ f + 1) && (List.range n).all fun m => !fr D M m || okN D n f (M + 2 ^ m)
theorem bitsB : ((List.range 32).all fun M => (List.range 5).all fun m => (List.range 32).all fun D => D.testBit m || (Nat.beq (Nat.land M (2 ^ m + D)) D == (!M.testBit m && (List.range 5).all fun k => !D.testBit k || M.testBit k))) = true := by decide +kernel
theorem bits {M : Nat} (hM : M < 32) {m : Nat} (hm : m < 5) {D : Nat} (hD : D < 32) (h : D.testBit m = false) : Nat.beq (Nat.land M (2 ^ m + D)) D = true ↔ (M.testBit m = false ∧ ∀ k < 5, D.testBit k = true → M.testBit k = true) := by
  have q := List.all_eq_true.mp (List.all_eq_true.mp (List.all_eq_true.mp bitsB M (List.mem_range.mpr hM)) m (List.mem_range.mpr hm)) D (List.mem_range.mpr hD)
  rw [h, Bool.false_or, beq_iff_eq] at q
  rw [q, Bool.and_eq_true, List.all_eq_true]
  constructor
  · rintro ⟨h1, h2⟩
    refine ⟨by simpa using h1, fun k hk hb => ?_⟩
    have := h2 k (List.mem_range.mpr hk)
    rw [hb] at this
    simpa using this
  · rintro ⟨h1, h2⟩
    refine ⟨by rw [h1]; rfl, fun k hk => ?_⟩
    cases hb : D.testBit k
    · rfl
    · rw [h2 k (List.mem_range.mp hk) hb]; rfl
theorem bits_addB : ((List.range 32).all fun M => (List.range 5).all fun m => M.testBit m || (decide (M + 2 ^ m < 32) && (List.range 5).all fun k => (M + 2 ^ m).testBit k == (M.testBit k || decide (k = m)))) = true := by decide +kernel
theorem bits_add {M : Nat} (hM : M < 32) {m : Nat} (hm : m < 5) (h : M.testBit m = false) : M + 2 ^ m < 32 ∧ ∀ k < 5, (M + 2 ^ m).testBit k = (M.testBit k || decide (k = m)) := by
  have q := List.all_eq_true.mp (List.all_eq_true.mp bits_addB M (List.mem_range.mpr hM)) m (List.mem_range.mpr hm)
  rw [h, Bool.false_or, Bool.and_eq_true, decide_eq_true_eq, List.all_eq_true] at q
  exact ⟨q.1, fun k hk => by simpa using q.2 k (List.mem_range.mpr hk)⟩
theorem turnsTo_app (w u : List Int) : ∀ i, i < w.length → turnsTo (w ++ u) i = turnsTo w i
  | 0, _ => rfl
  | i + 1, h => by
    have e1 : (w ++ u).getD (i + 1) 0 = w.getD (i + 1) 0 := by simp [List.getD, List.getElem?_append_left h]
    have e2 : (w ++ u).getD i 0 = w.getD i 0 := by simp [List.getD, List.getElem?_append_left (show i < w.length by omega)]
    unfold turnsTo
    rw [e1, e2, turnsTo_app w u i (by omega)]
theorem turnsW_one (r : Int) : turnsW ([] ++ [r]) = 0 := rfl
theorem turnsW_snoc (w : List Int) (l r : Int) : turnsW (w ++ [l] ++ [r]) = if r < l then turnsW (w ++ [l]) + (w.length + 1) else turnsW (w ++ [l]) := by
  have hl : (w ++ [l]).length = w.length + 1 := by simp
  have hl2 : (w ++ [l] ++ [r]).length - 1 = w.length + 1 := by simp
  have e1 : (w ++ [l] ++ [r]).getD (w.length + 1) 0 = r := by simp [List.getD]
  have e2 : (w ++ [l] ++ [r]).getD w.length 0 = l := by simp [List.getD]
  have e3 : turnsW (w ++ [l]) = turnsTo (w ++ [l]) w.length := by unfold turnsW; rw [hl]; rfl
  have e4 : turnsTo (w ++ [l] ++ [r]) w.length = turnsW (w ++ [l]) := by rw [e3]; exact turnsTo_app _ _ _ (by omega)
  have e5 : turnsW (w ++ [l] ++ [r]) = turnsTo (w ++ [l] ++ [r]) (w.length + 1) := by unfold turnsW; rw [hl2]
  rw [e5, turnsTo, e1, e2, e4]
structure Setup (us : List (List Int)) (ls : List Int) (D : List Nat) : Prop where
  hn : us.length ≤ 5
  hl : ls.length = us.length
  lt : ∀ x < us.length, lsN ls x < us.length
  inj : ∀ x < us.length, ∀ o < us.length, lsN ls x = lsN ls o → x = o
  sur : ∀ m < us.length, ∃ x < us.length, lsN ls x = m
  perm : ((List.range us.length).map (lsN ls)).Perm (List.range us.length)
  hD : ∀ m < us.length, D.getD m 0 < 32 ∧ (D.getD m 0).testBit m = false ∧ ∀ k, k < 5 → (D.getD m 0).testBit k = true → k < us.length
  hus : ∀ x < us.length, ∀ o < us.length, (us.getD x []).contains (o : Int) = true ↔ (x = o ∨ (D.getD (lsN ls x) 0).testBit (lsN ls o) = true)
noncomputable def Rep (us : List (List Int)) (ls : List Int) (M : Nat) (w : List Int) : Prop := M < 32 ∧ ∀ x < us.length, M.testBit (lsN ls x) = w.contains (x : Int)
section
variable {us : List (List Int)} {ls : List Int} {D : List Nat}
theorem mem_range0 {n : Nat} {x : Int} : x ∈ rangeKs 0 n ↔ ∃ i < n, x = (i : Int) := by
  unfold rangeKs
  rw [List.mem_map]
  constructor
  · rintro ⟨i, hi, rfl⟩; exact ⟨i, List.mem_range.mp hi, by omega⟩
  · rintro ⟨i, hi, rfl⟩; exact ⟨i, List.mem_range.mpr hi, by omega⟩
theorem free_bit (S : Setup us ls D) {M : Nat} {w : List Int} (R : Rep us ls M w) {x : Nat} (hx : x < us.length) : (!(heldOf us w).contains (x : Int)) = fr D M (lsN ls x) := by
  have hm := S.lt x hx
  have hn := S.hn
  obtain ⟨d1, d2, d3⟩ := S.hD _ hm
  have B := bits R.1 (m := lsN ls x) (by omega) d1 d2
  rw [Bool.eq_iff_iff]
  unfold fr
  rw [B]
  have hx0 : (!(heldOf us w).contains (x : Int)) = true ↔ ¬ ((x : Int) ∈ heldOf us w) := by
    rw [← List.contains_iff_mem]; cases (heldOf us w).contains (x : Int) <;> simp
  rw [hx0]
  unfold heldOf
  rw [held_mem]
  have hover : ∀ o < us.length, (x : Int) ∈ overOf us (o : Int) ↔ (x ≠ o ∧ (D.getD (lsN ls x) 0).testBit (lsN ls o) = true) := by
    intro o ho
    unfold overOf
    rw [List.mem_filter]
    simp only [Bool.and_eq_true, decide_eq_true_eq, Int.toNat_natCast]
    rw [S.hus x hx o ho]
    constructor
    · rintro ⟨_, h1, h2⟩
      rcases h2 with h2 | h2
      · exact absurd (by rw [h2]) h1
      · exact ⟨fun e => h1 (by rw [e]), h2⟩
    · rintro ⟨h1, h2⟩
      exact ⟨mem_range0.mpr ⟨x, hx, rfl⟩, fun e => h1 (by omega), .inr h2⟩
  constructor
  · intro h
    refine ⟨?_, fun k hk hb => ?_⟩
    · rw [R.2 x hx]
      cases hc : w.contains (x : Int)
      · rfl
      · exact absurd (.inl (List.contains_iff_mem.mp hc)) h
    · obtain ⟨o, ho, rfl⟩ := S.sur k (d3 k hk hb)
      rw [R.2 o ho]
      cases hc : w.contains (o : Int)
      · refine absurd (.inr ⟨(o : Int), mem_range0.mpr ⟨o, ho, rfl⟩, hc, (hover o ho).mpr ⟨?_, hb⟩⟩) h
        rintro rfl
        rw [d2] at hb; cases hb
      · rfl
  · rintro ⟨h1, h2⟩ (h | ⟨o, ho, hc, h⟩)
    · rw [R.2 x hx, List.contains_iff_mem.mpr h] at h1; cases h1
    · obtain ⟨i, hi, rfl⟩ := mem_range0.mp ho
      have q := (hover i hi).mp h
      have := h2 _ (by have := S.lt i hi; omega) q.2
      rw [R.2 i hi, hc] at this; cases this
theorem free_eq (S : Setup us ls D) {M : Nat} {w : List Int} (R : Rep us ls M w) : freeOf us w = ((List.range us.length).filter (fun x => fr D M (lsN ls x))).map (fun (x : Nat) => (x : Int)) := by
  unfold freeOf rangeKs
  rw [List.filter_map]
  have e : (List.range us.length).filter ((fun x => !(heldOf us w).contains x) ∘ fun (i : Nat) => (0 : Int) + (i : Int)) = (List.range us.length).filter (fun x => fr D M (lsN ls x)) := by
    refine List.filter_congr fun x hx => ?_
    show (!(heldOf us w).contains (0 + (x : Int))) = _
    rw [Int.zero_add]
    exact free_bit S R (List.mem_range.mp hx)
  rw [e]
  exact List.map_congr_left fun x _ => by omega
theorem free_len (S : Setup us ls D) {M : Nat} {w : List Int} (R : Rep us ls M w) : (freeOf us w).length = (List.range us.length).countP (fr D M) := by
  have h := S.perm.countP_eq (fr D M)
  rw [List.countP_map] at h
  rw [free_eq S R, List.length_map, ← List.countP_eq_length_filter, ← h]
  rfl
theorem rep_snoc (S : Setup us ls D) {M : Nat} {w : List Int} (R : Rep us ls M w) {x : Nat} (hx : x < us.length) (hf : fr D M (lsN ls x) = true) : Rep us ls (M + 2 ^ lsN ls x) (w ++ [(x : Int)]) := by
  have hn := S.hn
  have hm := S.lt x hx
  obtain ⟨d1, d2, d3⟩ := S.hD _ hm
  have h1 := ((bits R.1 (m := lsN ls x) (by omega) d1 d2).mp hf).1
  obtain ⟨b1, b2⟩ := bits_add R.1 (m := lsN ls x) (by omega) h1
  refine ⟨b1, fun o ho => ?_⟩
  rw [b2 _ (by have := S.lt o ho; omega), R.2 o ho, Bool.eq_iff_iff]
  simp only [Bool.or_eq_true, decide_eq_true_eq, List.contains_iff_mem, List.mem_append, List.mem_singleton]
  constructor
  · rintro (h | h)
    · exact .inl h
    · exact .inr (by rw [S.inj o ho x hx h])
  · rintro (h | h)
    · exact .inl h
    · exact .inr (by rw [show o = x by omega])
theorem okN_okW (S : Setup us ls D) : ∀ (f M : Nat) (w : List Int), Rep us ls M w → okN D us.length f M = true → okW us f w
  | 0, M, w, R, h => by
    have hl := free_len S R
    have h : ((List.range us.length).all fun m => !fr D M m) = true := h
    have h0 : (List.range us.length).countP (fr D M) = 0 := by
      rw [List.countP_eq_zero]
      intro m hm
      have := List.all_eq_true.mp h m hm
      cases hq : fr D M m
      · simp
      · rw [hq] at this; cases this
    rw [h0] at hl
    exact List.length_eq_zero_iff.mp hl
  | f + 1, M, w, R, h => by
    have hl := free_len S R
    unfold okN at h
    simp only [Bool.and_eq_true, decide_eq_true_eq] at h
    obtain ⟨⟨⟨h1, h2⟩, h3⟩, h4⟩ := h
    refine ⟨fun e => ?_, by omega, by omega, fun r hr => ?_⟩
    · rw [e] at hl; simp only [List.length_nil] at hl; omega
    · rw [free_eq S R] at hr
      obtain ⟨x, hx, rfl⟩ := List.mem_map.mp hr
      obtain ⟨hx, hfx⟩ := List.mem_filter.mp hx
      have hx := List.mem_range.mp hx
      have := List.all_eq_true.mp h4 (lsN ls x) (List.mem_range.mpr (S.lt x hx))
      have hfx : fr D M (lsN ls x) = true := hfx
      rw [hfx] at this
      exact okN_okW S f _ _ (rep_snoc S R hx hfx) (by simpa using this)
theorem sum_flat {α : Type} (g : α → List (List Int)) (h : List Int → Int) : ∀ l : List α, ((l.flatMap g).map h).sum = (l.map fun a => ((g a).map h).sum).sum
  | [] => rfl
  | a :: l => by
    rw [List.flatMap_cons, List.map_append, List.sum_append, sum_flat g h l, List.map_cons, List.sum_cons]
theorem qs_dfs (S : Setup us ls D) : ∀ (f M last : Nat) (w : List Int), Rep us ls M w → ((w = [] ∧ last = 0) ∨ ∃ w', w = w' ++ [(last : Int)]) →
    ((dfs us f w).map fun q => (1000 : Int) ^ turnsW q).sum = (qs (mkCs D ls) f M last w.length (turnsW w) : Nat)
  | 0, M, last, w, R, hw => by
    show (1000 : Int) ^ turnsW w + 0 = ((1000 ^ turnsW w : Nat) : Int)
    rw [Int.add_zero]
    push_cast
    rfl
  | f + 1, M, last, w, R, hw => by
    show (((freeOf us w).flatMap fun r => dfs us f (w ++ [r])).map _).sum = _
    rw [sum_flat, free_eq S R]
    have fm : ∀ G : Nat × Nat × Nat → Nat → Nat, (mkCs D ls).foldr G 0 = (List.range us.length).foldr (fun x y => G (x, 2 ^ lsN ls x, D.getD (lsN ls x) 0) y) 0 := fun G => by
      unfold mkCs
      rw [S.hl, List.foldr_map]
    unfold qs
    rw [fm, List.map_map]
    have key : ∀ L : List Nat, (∀ x ∈ L, x < us.length) →
        (((L.filter (fun x => fr D M (lsN ls x))).map ((fun r => ((dfs us f (w ++ [r])).map fun q => (1000 : Int) ^ turnsW q).sum) ∘ fun (x : Nat) => (x : Int))).sum) =
        ((L.foldr (fun x acc => bif Nat.beq (Nat.land M (2 ^ lsN ls x + D.getD (lsN ls x) 0)) (D.getD (lsN ls x) 0) then qs (mkCs D ls) f (M + 2 ^ lsN ls x) x (w.length + 1) (bif Nat.blt x last then turnsW w + w.length else turnsW w) + acc else acc) 0 : Nat) : Int) := by
      intro L
      induction L with
      | nil => intro _; rfl
      | cons x L ih =>
        intro hL
        have hx := hL x List.mem_cons_self
        have ih := ih fun y hy => hL y (List.mem_cons_of_mem _ hy)
        rw [List.filter_cons, List.foldr_cons]
        cases hf : fr D M (lsN ls x)
        · have hf' : Nat.beq (Nat.land M (2 ^ lsN ls x + D.getD (lsN ls x) 0)) (D.getD (lsN ls x) 0) = false := hf
          rw [hf', cond_false, if_neg (by decide), ih]
        · have hf' : Nat.beq (Nat.land M (2 ^ lsN ls x + D.getD (lsN ls x) 0)) (D.getD (lsN ls x) 0) = true := hf
          rw [hf', cond_true, if_pos rfl, List.map_cons, List.sum_cons, ih]
          have ht : turnsW (w ++ [(x : Int)]) = (bif Nat.blt x last then turnsW w + w.length else turnsW w) := by
            rcases hw with ⟨rfl, rfl⟩ | ⟨w', rfl⟩
            · rw [turnsW_one]
              have : Nat.blt x 0 = false := rfl
              rw [this]; rfl
            · rw [turnsW_snoc]
              by_cases hlt : x < last
              · have hb : Nat.blt x last = true := by rw [Nat.blt_eq]; exact hlt
                rw [if_pos (by omega), hb, cond_true, List.length_append, List.length_singleton]
              · have hb : Nat.blt x last = false := by
                  rw [← Bool.not_eq_true, Nat.blt_eq]; exact hlt
                rw [if_neg (by omega), hb, cond_false]
          have e := qs_dfs S f (M + 2 ^ lsN ls x) x (w ++ [(x : Int)]) (rep_snoc S R hx hf) (.inr ⟨w, rfl⟩)
          rw [ht, List.length_append, List.length_singleton] at e
          show ((dfs us f (w ++ [(x : Int)])).map _).sum + _ = _
          rw [e]
          push_cast
          rfl
    exact key _ fun x hx => List.mem_range.mp hx
end
end Mine
end

-- P9d
section
open PySem PySem.W PyProof.Rows
set_option linter.unusedVariables false
set_option maxRecDepth 100000
set_option maxHeartbeats 4000000
namespace Mine
noncomputable def toldOk (ps : List Int) (D : List Nat) : Bool :=
  [0, 1].all fun i => (List.range ps.length).all fun m => (List.range ps.length).all fun k =>
    toldV (rdrMods i ((rowsTo ps ps.length).getD m [])) (rdrDirs i ((rowsTo ps ps.length).getD m [])) (fileOf ((rowsTo ps ps.length).getD k [])) (nameOf ((rowsTo ps ps.length).getD k [])) == if m = k ∨ (D.getD m 0).testBit k = true then 1 else 0
noncomputable def goodDec (r : List Str) : Decidable (GoodRow r) := by
  delta GoodRow GoodPath
  exact inferInstance
noncomputable def goodB (r : List Str) : Bool := @decide (GoodRow r) (goodDec r)
noncomputable def psOk (q : List Int × List Nat × List Int) : Bool :=
  toldOk q.1 q.2.1 && (rowsTo q.1 q.1.length).all goodB && ((rowsTo q.1 q.1.length).all fun r => (rowsTo q.1 q.1.length).all fun r' => !(decide (nameOf r = nameOf r')) || decide (r = r')) &&
  okN q.2.1 q.1.length q.1.length 0 && ((List.range q.1.length).all fun m => decide (q.2.1.getD m 0 < 32) && !(q.2.1.getD m 0).testBit m && (List.range 5).all fun k => !(q.2.1.getD m 0).testBit k || decide (k < q.1.length)) &&
  decide (branchesW q.1 = q.2.2) && (q.2.2.all fun x => decide (0 ≤ x) && decide (x ≤ 5)) && ((List.range q.1.length).all fun i => decide (-1 ≤ q.1.getD i 0) && decide (q.1.getD i 0 < (i : Int)))
noncomputable def lineOk (n : Nat) (ls : List Int) : Bool :=
  decide (ls.length = n) && ((List.range n).all fun x => decide (lsN ls x < n) && (List.range n).all fun o => !(decide (lsN ls x = lsN ls o)) || decide (x = o)) && ((List.range n).all fun m => (List.range n).any fun x => decide (lsN ls x = m)) &&
  ((List.range n).map (lsN ls)).isPerm (List.range n) && (ls.all fun k => decide (0 ≤ k) && decide (k < (n : Int))) && PyData.layable0 (.list (ls.map .int)) && (List.range n).all fun i => ls.contains (i : Int)
noncomputable def bothS (S : Int) (ps ls sz : List Int) : Int × Int := (List.range ps.length).foldl (bothStep ps ls sz) (S, 1)
noncomputable def chk (q : List Int × List Nat × List Int) (ls : List Int) : Bool :=
  decide ((bothS (qs (mkCs q.2.1 ls) q.1.length 0 0 0 0 : Nat) q.1 ls q.2.2).1 = (bothS (qs (mkCs q.2.1 ls) q.1.length 0 0 0 0 : Nat) q.1 ls q.2.2).2)
noncomputable def linesG : Nat → List (List Int)
  | 0 => [[]]
  | i + 1 => (linesG i).flatMap fun l => (List.range (i + 1)).map fun c => l.take c ++ (i : Int) :: l.drop c
noncomputable def parsG : Nat → List (List Int)
  | 0 => [[]]
  | i + 1 => (parsG i).flatMap fun p => [p ++ [max (-1) ((i : Int) - 1 - 0)], p ++ [max (-1) ((i : Int) - 1 - 1)]]
theorem lineTo_mem (ts : List Int) : ∀ i, lineTo ts i ∈ linesG i
  | 0 => List.mem_singleton.mpr rfl
  | i + 1 => by
    refine List.mem_flatMap.mpr ⟨_, lineTo_mem ts i, List.mem_map.mpr ⟨(ts.getD i 0 / 2 % ((i : Int) + 1)).toNat, List.mem_range.mpr ?_, rfl⟩⟩
    have h1 := Int.emod_lt_of_pos (ts.getD i 0 / 2) (show (0 : Int) < (i : Int) + 1 by omega)
    omega
theorem parsTo_mem (ts : List Int) : ∀ i, parsTo ts i ∈ parsG i
  | 0 => List.mem_singleton.mpr rfl
  | i + 1 => by
    refine List.mem_flatMap.mpr ⟨_, parsTo_mem ts i, ?_⟩
    show parsTo ts i ++ [max (-1) ((i : Int) - 1 - (ts.getD i 0) % 2)] ∈ _
    have h2 : ts.getD i 0 % 2 = 0 ∨ ts.getD i 0 % 2 = 1 := by omega
    rcases h2 with h | h <;> rw [h]
    · exact List.mem_cons_self
    · exact List.mem_cons_of_mem _ List.mem_cons_self
noncomputable def lines4 : List (List Int) := [[3, 2, 1, 0], [2, 3, 1, 0], [2, 1, 3, 0], [2, 1, 0, 3], [3, 1, 2, 0], [1, 3, 2, 0], [1, 2, 3, 0], [1, 2, 0, 3], [3, 1, 0, 2], [1, 3, 0, 2], [1, 0, 3, 2], [1, 0, 2, 3], [3, 2, 0, 1], [2, 3, 0, 1], [2, 0, 3, 1], [2, 0, 1, 3], [3, 0, 2, 1], [0, 3, 2, 1], [0, 2, 3, 1], [0, 2, 1, 3], [3, 0, 1, 2], [0, 3, 1, 2], [0, 1, 3, 2], [0, 1, 2, 3]]
noncomputable def tab4 : List (List Int × List Nat × List Int) := [([-1, 0, 1, 2], [14, 12, 8, 0], [4, 3, 2, 1]), ([-1, 0, 1, 1], [14, 12, 0, 0], [4, 3, 1, 1]), ([-1, 0, 0, 2], [14, 0, 8, 0], [4, 1, 2, 1]), ([-1, 0, 0, 1], [14, 8, 0, 0], [4, 2, 1, 1]), ([-1, -1, 1, 2], [0, 12, 8, 0], [1, 3, 2, 1]), ([-1, -1, 1, 1], [0, 12, 0, 0], [1, 3, 1, 1]), ([-1, -1, 0, 2], [12, 0, 8, 0], [3, 1, 2, 1]), ([-1, -1, 0, 1], [4, 8, 0, 0], [2, 2, 1, 1])]
theorem lines4_ok : (lines4.all (lineOk 4)) = true := by decide +kernel
theorem lines4_eq : linesG 4 = lines4 := by decide +kernel
theorem pars4_in : ((parsG 4).all fun p => (tab4.map (·.1)).contains p) = true := by decide +kernel
theorem pk4_0 : psOk ([-1, 0, 1, 2], [14, 12, 8, 0], [4, 3, 2, 1]) = true := by decide +kernel
theorem ck4_0 : (lines4.all (chk ([-1, 0, 1, 2], [14, 12, 8, 0], [4, 3, 2, 1]))) = true := by decide +kernel
theorem pk4_1 : psOk ([-1, 0, 1, 1], [14, 12, 0, 0], [4, 3, 1, 1]) = true := by decide +kernel
theorem ck4_1 : (lines4.all (chk ([-1, 0, 1, 1], [14, 12, 0, 0], [4, 3, 1, 1]))) = true := by decide +kernel
theorem pk4_2 : psOk ([-1, 0, 0, 2], [14, 0, 8, 0], [4, 1, 2, 1]) = true := by decide +kernel
theorem ck4_2 : (lines4.all (chk ([-1, 0, 0, 2], [14, 0, 8, 0], [4, 1, 2, 1]))) = true := by decide +kernel
theorem pk4_3 : psOk ([-1, 0, 0, 1], [14, 8, 0, 0], [4, 2, 1, 1]) = true := by decide +kernel
theorem ck4_3 : (lines4.all (chk ([-1, 0, 0, 1], [14, 8, 0, 0], [4, 2, 1, 1]))) = true := by decide +kernel
theorem pk4_4 : psOk ([-1, -1, 1, 2], [0, 12, 8, 0], [1, 3, 2, 1]) = true := by decide +kernel
theorem ck4_4 : (lines4.all (chk ([-1, -1, 1, 2], [0, 12, 8, 0], [1, 3, 2, 1]))) = true := by decide +kernel
theorem pk4_5 : psOk ([-1, -1, 1, 1], [0, 12, 0, 0], [1, 3, 1, 1]) = true := by decide +kernel
theorem ck4_5 : (lines4.all (chk ([-1, -1, 1, 1], [0, 12, 0, 0], [1, 3, 1, 1]))) = true := by decide +kernel
theorem pk4_6 : psOk ([-1, -1, 0, 2], [12, 0, 8, 0], [3, 1, 2, 1]) = true := by decide +kernel
theorem ck4_6 : (lines4.all (chk ([-1, -1, 0, 2], [12, 0, 8, 0], [3, 1, 2, 1]))) = true := by decide +kernel
theorem pk4_7 : psOk ([-1, -1, 0, 1], [4, 8, 0, 0], [2, 2, 1, 1]) = true := by decide +kernel
theorem ck4_7 : (lines4.all (chk ([-1, -1, 0, 1], [4, 8, 0, 0], [2, 2, 1, 1]))) = true := by decide +kernel
theorem all4 : ∀ q ∈ tab4, psOk q = true ∧ (lines4.all (chk q)) = true := List.forall_mem_cons.mpr ⟨⟨pk4_0, ck4_0⟩, List.forall_mem_cons.mpr ⟨⟨pk4_1, ck4_1⟩, List.forall_mem_cons.mpr ⟨⟨pk4_2, ck4_2⟩, List.forall_mem_cons.mpr ⟨⟨pk4_3, ck4_3⟩, List.forall_mem_cons.mpr ⟨⟨pk4_4, ck4_4⟩, List.forall_mem_cons.mpr ⟨⟨pk4_5, ck4_5⟩, List.forall_mem_cons.mpr ⟨⟨pk4_6, ck4_6⟩, List.forall_mem_cons.mpr ⟨⟨pk4_7, ck4_7⟩, List.forall_mem_nil _⟩⟩⟩⟩⟩⟩⟩⟩
theorem tab4_len : (tab4.all fun q => decide (q.1.length = 4)) = true := by decide +kernel
noncomputable def lines5 : List (List Int) := [[4, 3, 2, 1, 0], [3, 4, 2, 1, 0], [3, 2, 4, 1, 0], [3, 2, 1, 4, 0], [3, 2, 1, 0, 4], [4, 2, 3, 1, 0], [2, 4, 3, 1, 0], [2, 3, 4, 1, 0], [2, 3, 1, 4, 0], [2, 3, 1, 0, 4], [4, 2, 1, 3, 0], [2, 4, 1, 3, 0], [2, 1, 4, 3, 0], [2, 1, 3, 4, 0], [2, 1, 3, 0, 4], [4, 2, 1, 0, 3], [2, 4, 1, 0, 3], [2, 1, 4, 0, 3], [2, 1, 0, 4, 3], [2, 1, 0, 3, 4], [4, 3, 1, 2, 0], [3, 4, 1, 2, 0], [3, 1, 4, 2, 0], [3, 1, 2, 4, 0], [3, 1, 2, 0, 4], [4, 1, 3, 2, 0], [1, 4, 3, 2, 0], [1, 3, 4, 2, 0], [1, 3, 2, 4, 0], [1, 3, 2, 0, 4], [4, 1, 2, 3, 0], [1, 4, 2, 3, 0], [1, 2, 4, 3, 0], [1, 2, 3, 4, 0], [1, 2, 3, 0, 4], [4, 1, 2, 0, 3], [1, 4, 2, 0, 3], [1, 2, 4, 0, 3], [1, 2, 0, 4, 3], [1, 2, 0, 3, 4], [4, 3, 1, 0, 2], [3, 4, 1, 0, 2], [3, 1, 4, 0, 2], [3, 1, 0, 4, 2], [3, 1, 0, 2, 4], [4, 1, 3, 0, 2], [1, 4, 3, 0, 2], [1, 3, 4, 0, 2], [1, 3, 0, 4, 2], [1, 3, 0, 2, 4], [4, 1, 0, 3, 2], [1, 4, 0, 3, 2], [1, 0, 4, 3, 2], [1, 0, 3, 4, 2], [1, 0, 3, 2, 4], [4, 1, 0, 2, 3], [1, 4, 0, 2, 3], [1, 0, 4, 2, 3], [1, 0, 2, 4, 3], [1, 0, 2, 3, 4], [4, 3, 2, 0, 1], [3, 4, 2, 0, 1], [3, 2, 4, 0, 1], [3, 2, 0, 4, 1], [3, 2, 0, 1, 4], [4, 2, 3, 0, 1], [2, 4, 3, 0, 1], [2, 3, 4, 0, 1], [2, 3, 0, 4, 1], [2, 3, 0, 1, 4], [4, 2, 0, 3, 1], [2, 4, 0, 3, 1], [2, 0, 4, 3, 1], [2, 0, 3, 4, 1], [2, 0, 3, 1, 4], [4, 2, 0, 1, 3], [2, 4, 0, 1, 3], [2, 0, 4, 1, 3], [2, 0, 1, 4, 3], [2, 0, 1, 3, 4], [4, 3, 0, 2, 1], [3, 4, 0, 2, 1], [3, 0, 4, 2, 1], [3, 0, 2, 4, 1], [3, 0, 2, 1, 4], [4, 0, 3, 2, 1], [0, 4, 3, 2, 1], [0, 3, 4, 2, 1], [0, 3, 2, 4, 1], [0, 3, 2, 1, 4], [4, 0, 2, 3, 1], [0, 4, 2, 3, 1], [0, 2, 4, 3, 1], [0, 2, 3, 4, 1], [0, 2, 3, 1, 4], [4, 0, 2, 1, 3], [0, 4, 2, 1, 3], [0, 2, 4, 1, 3], [0, 2, 1, 4, 3], [0, 2, 1, 3, 4], [4, 3, 0, 1, 2], [3, 4, 0, 1, 2], [3, 0, 4, 1, 2], [3, 0, 1, 4, 2], [3, 0, 1, 2, 4], [4, 0, 3, 1, 2], [0, 4, 3, 1, 2], [0, 3, 4, 1, 2], [0, 3, 1, 4, 2], [0, 3, 1, 2, 4], [4, 0, 1, 3, 2], [0, 4, 1, 3, 2], [0, 1, 4, 3, 2], [0, 1, 3, 4, 2], [0, 1, 3, 2, 4], [4, 0, 1, 2, 3], [0, 4, 1, 2, 3], [0, 1, 4, 2, 3], [0, 1, 2, 4, 3], [0, 1, 2, 3, 4]]
noncomputable def tab5 : List (List Int × List Nat × List Int) := [([-1, 0, 1, 2, 3], [30, 28, 24, 16, 0], [5, 4, 3, 2, 1]), ([-1, 0, 1, 2, 2], [30, 28, 24, 0, 0], [5, 4, 3, 1, 1]), ([-1, 0, 1, 1, 3], [30, 28, 0, 16, 0], [5, 4, 1, 2, 1]), ([-1, 0, 1, 1, 2], [30, 28, 16, 0, 0], [5, 4, 2, 1, 1]), ([-1, 0, 0, 2, 3], [30, 0, 24, 16, 0], [5, 1, 3, 2, 1]), ([-1, 0, 0, 2, 2], [30, 0, 24, 0, 0], [5, 1, 3, 1, 1]), ([-1, 0, 0, 1, 3], [30, 24, 0, 16, 0], [5, 3, 1, 2, 1]), ([-1, 0, 0, 1, 2], [30, 8, 16, 0, 0], [5, 2, 2, 1, 1]), ([-1, -1, 1, 2, 3], [0, 28, 24, 16, 0], [1, 4, 3, 2, 1]), ([-1, -1, 1, 2, 2], [0, 28, 24, 0, 0], [1, 4, 3, 1, 1]), ([-1, -1, 1, 1, 3], [0, 28, 0, 16, 0], [1, 4, 1, 2, 1]), ([-1, -1, 1, 1, 2], [0, 28, 16, 0, 0], [1, 4, 2, 1, 1]), ([-1, -1, 0, 2, 3], [28, 0, 24, 16, 0], [4, 1, 3, 2, 1]), ([-1, -1, 0, 2, 2], [28, 0, 24, 0, 0], [4, 1, 3, 1, 1]), ([-1, -1, 0, 1, 3], [4, 24, 0, 16, 0], [2, 3, 1, 2, 1]), ([-1, -1, 0, 1, 2], [20, 8, 16, 0, 0], [3, 2, 2, 1, 1])]
theorem lines5_ok : (lines5.all (lineOk 5)) = true := by decide +kernel
theorem lines5_eq : linesG 5 = lines5 := by decide +kernel
theorem pars5_in : ((parsG 5).all fun p => (tab5.map (·.1)).contains p) = true := by decide +kernel
theorem pk5_0 : psOk ([-1, 0, 1, 2, 3], [30, 28, 24, 16, 0], [5, 4, 3, 2, 1]) = true := by decide +kernel
theorem ck5_0 : (lines5.all (chk ([-1, 0, 1, 2, 3], [30, 28, 24, 16, 0], [5, 4, 3, 2, 1]))) = true := by decide +kernel
theorem pk5_1 : psOk ([-1, 0, 1, 2, 2], [30, 28, 24, 0, 0], [5, 4, 3, 1, 1]) = true := by decide +kernel
theorem ck5_1 : (lines5.all (chk ([-1, 0, 1, 2, 2], [30, 28, 24, 0, 0], [5, 4, 3, 1, 1]))) = true := by decide +kernel
theorem pk5_2 : psOk ([-1, 0, 1, 1, 3], [30, 28, 0, 16, 0], [5, 4, 1, 2, 1]) = true := by decide +kernel
theorem ck5_2 : (lines5.all (chk ([-1, 0, 1, 1, 3], [30, 28, 0, 16, 0], [5, 4, 1, 2, 1]))) = true := by decide +kernel
theorem pk5_3 : psOk ([-1, 0, 1, 1, 2], [30, 28, 16, 0, 0], [5, 4, 2, 1, 1]) = true := by decide +kernel
theorem ck5_3 : (lines5.all (chk ([-1, 0, 1, 1, 2], [30, 28, 16, 0, 0], [5, 4, 2, 1, 1]))) = true := by decide +kernel
theorem pk5_4 : psOk ([-1, 0, 0, 2, 3], [30, 0, 24, 16, 0], [5, 1, 3, 2, 1]) = true := by decide +kernel
theorem ck5_4 : (lines5.all (chk ([-1, 0, 0, 2, 3], [30, 0, 24, 16, 0], [5, 1, 3, 2, 1]))) = true := by decide +kernel
theorem pk5_5 : psOk ([-1, 0, 0, 2, 2], [30, 0, 24, 0, 0], [5, 1, 3, 1, 1]) = true := by decide +kernel
theorem ck5_5 : (lines5.all (chk ([-1, 0, 0, 2, 2], [30, 0, 24, 0, 0], [5, 1, 3, 1, 1]))) = true := by decide +kernel
theorem pk5_6 : psOk ([-1, 0, 0, 1, 3], [30, 24, 0, 16, 0], [5, 3, 1, 2, 1]) = true := by decide +kernel
theorem ck5_6 : (lines5.all (chk ([-1, 0, 0, 1, 3], [30, 24, 0, 16, 0], [5, 3, 1, 2, 1]))) = true := by decide +kernel
theorem pk5_7 : psOk ([-1, 0, 0, 1, 2], [30, 8, 16, 0, 0], [5, 2, 2, 1, 1]) = true := by decide +kernel
theorem ck5_7 : (lines5.all (chk ([-1, 0, 0, 1, 2], [30, 8, 16, 0, 0], [5, 2, 2, 1, 1]))) = true := by decide +kernel
theorem pk5_8 : psOk ([-1, -1, 1, 2, 3], [0, 28, 24, 16, 0], [1, 4, 3, 2, 1]) = true := by decide +kernel
theorem ck5_8 : (lines5.all (chk ([-1, -1, 1, 2, 3], [0, 28, 24, 16, 0], [1, 4, 3, 2, 1]))) = true := by decide +kernel
theorem pk5_9 : psOk ([-1, -1, 1, 2, 2], [0, 28, 24, 0, 0], [1, 4, 3, 1, 1]) = true := by decide +kernel
theorem ck5_9 : (lines5.all (chk ([-1, -1, 1, 2, 2], [0, 28, 24, 0, 0], [1, 4, 3, 1, 1]))) = true := by decide +kernel
theorem pk5_10 : psOk ([-1, -1, 1, 1, 3], [0, 28, 0, 16, 0], [1, 4, 1, 2, 1]) = true := by decide +kernel
theorem ck5_10 : (lines5.all (chk ([-1, -1, 1, 1, 3], [0, 28, 0, 16, 0], [1, 4, 1, 2, 1]))) = true := by decide +kernel
theorem pk5_11 : psOk ([-1, -1, 1, 1, 2], [0, 28, 16, 0, 0], [1, 4, 2, 1, 1]) = true := by decide +kernel
theorem ck5_11 : (lines5.all (chk ([-1, -1, 1, 1, 2], [0, 28, 16, 0, 0], [1, 4, 2, 1, 1]))) = true := by decide +kernel
theorem pk5_12 : psOk ([-1, -1, 0, 2, 3], [28, 0, 24, 16, 0], [4, 1, 3, 2, 1]) = true := by decide +kernel
theorem ck5_12 : (lines5.all (chk ([-1, -1, 0, 2, 3], [28, 0, 24, 16, 0], [4, 1, 3, 2, 1]))) = true := by decide +kernel
theorem pk5_13 : psOk ([-1, -1, 0, 2, 2], [28, 0, 24, 0, 0], [4, 1, 3, 1, 1]) = true := by decide +kernel
theorem ck5_13 : (lines5.all (chk ([-1, -1, 0, 2, 2], [28, 0, 24, 0, 0], [4, 1, 3, 1, 1]))) = true := by decide +kernel
theorem pk5_14 : psOk ([-1, -1, 0, 1, 3], [4, 24, 0, 16, 0], [2, 3, 1, 2, 1]) = true := by decide +kernel
theorem ck5_14 : (lines5.all (chk ([-1, -1, 0, 1, 3], [4, 24, 0, 16, 0], [2, 3, 1, 2, 1]))) = true := by decide +kernel
theorem pk5_15 : psOk ([-1, -1, 0, 1, 2], [20, 8, 16, 0, 0], [3, 2, 2, 1, 1]) = true := by decide +kernel
theorem ck5_15 : (lines5.all (chk ([-1, -1, 0, 1, 2], [20, 8, 16, 0, 0], [3, 2, 2, 1, 1]))) = true := by decide +kernel
theorem all5 : ∀ q ∈ tab5, psOk q = true ∧ (lines5.all (chk q)) = true := List.forall_mem_cons.mpr ⟨⟨pk5_0, ck5_0⟩, List.forall_mem_cons.mpr ⟨⟨pk5_1, ck5_1⟩, List.forall_mem_cons.mpr ⟨⟨pk5_2, ck5_2⟩, List.forall_mem_cons.mpr ⟨⟨pk5_3, ck5_3⟩, List.forall_mem_cons.mpr ⟨⟨pk5_4, ck5_4⟩, List.forall_mem_cons.mpr ⟨⟨pk5_5, ck5_5⟩, List.forall_mem_cons.mpr ⟨⟨pk5_6, ck5_6⟩, List.forall_mem_cons.mpr ⟨⟨pk5_7, ck5_7⟩, List.forall_mem_cons.mpr ⟨⟨pk5_8, ck5_8⟩, List.forall_mem_cons.mpr ⟨⟨pk5_9, ck5_9⟩, List.forall_mem_cons.mpr ⟨⟨pk5_10, ck5_10⟩, List.forall_mem_cons.mpr ⟨⟨pk5_11, ck5_11⟩, List.forall_mem_cons.mpr ⟨⟨pk5_12, ck5_12⟩, List.forall_mem_cons.mpr ⟨⟨pk5_13, ck5_13⟩, List.forall_mem_cons.mpr ⟨⟨pk5_14, ck5_14⟩, List.forall_mem_cons.mpr ⟨⟨pk5_15, ck5_15⟩, List.forall_mem_nil _⟩⟩⟩⟩⟩⟩⟩⟩⟩⟩⟩⟩⟩⟩⟩⟩
theorem tab5_len : (tab5.all fun q => decide (q.1.length = 5)) = true := by decide +kernel
end Mine
end

-- P9e
section
open PySem PySem.W PyProof.Rows
set_option linter.unusedVariables false
set_option maxRecDepth 100000
set_option maxHeartbeats 4000000
namespace Mine
theorem underTo_at (rs : List (List Str)) (ls : List Int) : ∀ (n x : Nat), x < n → (underTo rs ls n).getD x [] = underRow rs ls x
  | 0, x, h => absurd h (Nat.not_lt_zero _)
  | n + 1, x, h => by
    have hl := underTo_length rs ls n
    unfold underTo
    by_cases hx : x < n
    · have := underTo_at rs ls n x hx
      simpa [List.getD, List.getElem?_append_left (show x < (underTo rs ls n).length by omega)] using this
    · have e : x = n := by omega
      subst e
      simp [List.getD, List.getElem?_append_right (show (underTo rs ls x).length ≤ x by omega), hl]
theorem plain_of {ps ls : List Int} {D : List Nat} {sz : List Int} {n : Nat} (hn : n ≤ 5) (hpn : ps.length = n) (hp : psOk (ps, D, sz) = true) (hl : lineOk n ls = true) (hc : chk (ps, D, sz) ls = true) : Plain ps ls := by
  unfold psOk at hp
  unfold lineOk at hl
  simp only [Bool.and_eq_true, decide_eq_true_eq, List.all_eq_true, Bool.or_eq_true, Bool.not_eq_true', decide_eq_false_iff_not, List.any_eq_true, List.mem_range, hpn] at hp hl
  obtain ⟨⟨⟨⟨⟨⟨⟨p1, p2⟩, p3⟩, p4⟩, p5⟩, p6⟩, p7⟩, p8⟩ := hp
  obtain ⟨⟨⟨⟨⟨⟨l1, l2⟩, l3⟩, l4⟩, l5⟩, l6⟩, l7⟩ := hl
  have hrl : (rowsTo ps n).length = n := rowsTo_length ps n
  have hul : (underTo (rowsTo ps n) ls ls.length).length = n := by rw [underTo_length, l1]
  have S : Setup (underTo (rowsTo ps n) ls ls.length) ls D := by
    refine ⟨by omega, by omega, fun x hx => ?_, fun x hx o ho e => ?_, fun m hm => ?_, ?_, fun m hm => ?_, fun x hx o ho => ?_⟩
    · rw [hul] at hx ⊢; exact (l2 x hx).1
    · rw [hul] at hx ho
      rcases (l2 x hx).2 o ho with h | h
      · exact absurd e h
      · exact h
    · rw [hul] at hm ⊢; exact l3 m hm
    · rw [hul]; exact List.isPerm_iff.mp l4
    · rw [hul] at hm ⊢
      obtain ⟨⟨q1, q2⟩, q3⟩ := p5 m hm
      refine ⟨q1, q2, fun k hk hb => ?_⟩
      rcases q3 k hk with h | h
      · rw [hb] at h; cases h
      · exact h
    · rw [hul] at hx ho
      rw [underTo_at _ _ _ _ (by omega), List.contains_iff_mem]
      unfold underRow
      rw [List.mem_filter, Int.toNat_natCast]
      have ho' : o < ls.length := by omega
      have e1 : (ls.map (toldAt (rowsTo ps n) ls x)).getD o 0 = toldAt (rowsTo ps n) ls x (ls.getD o 0) := by simp [List.getD, ho']
      have hm := (l2 x hx).1
      have hk := (l2 o ho).1
      have told : toldAt (rowsTo ps n) ls x (ls.getD o 0) = if lsN ls x = lsN ls o ∨ (D.getD (lsN ls x) 0).testBit (lsN ls o) = true then 1 else 0 := by
        have p1 : toldOk ps D = true := p1
        unfold toldOk at p1
        rw [hpn] at p1
        have q := List.all_eq_true.mp (List.all_eq_true.mp (List.all_eq_true.mp p1 (x % 2) (by rcases Nat.mod_two_eq_zero_or_one x with h | h <;> rw [h] <;> simp)) (lsN ls x) (List.mem_range.mpr hm)) (lsN ls o) (List.mem_range.mpr hk)
        have q := eq_of_beq q
        rw [← q]
        unfold toldAt rowAt rdrMods rdrDirs
        rw [Nat.mod_mod]
        rfl
      rw [e1, told]
      constructor
      · rintro ⟨_, h⟩
        by_cases hq : lsN ls x = lsN ls o ∨ (D.getD (lsN ls x) 0).testBit (lsN ls o) = true
        · rcases hq with hq | hq
          · rcases (l2 x hx).2 o ho with h' | h'
            · exact absurd hq h'
            · exact .inl h'
          · exact .inr hq
        · rw [if_neg hq] at h; cases h
      · intro h
        refine ⟨mem_range0.mpr ⟨o, ho', rfl⟩, ?_⟩
        rw [if_pos]
        · rfl
        · rcases h with h | h
          · exact .inl (by rw [h])
          · exact .inr h
  have R : Rep (underTo (rowsTo ps n) ls ls.length) ls 0 [] := ⟨by decide, fun x hx => by rw [Nat.zero_testBit]; rfl⟩
  have ok : okW (underTo (rowsTo ps n) ls ls.length) n [] := okN_okW S n 0 [] R (by rw [hul]; exact p4)
  have hlen := dfs_len _ n [] ok
  have h3 : 3 ^ n ≤ 3 ^ 5 := Nat.pow_le_pow_right (by decide) hn
  obtain ⟨k, hk⟩ := run_dfs _ S.hn n [] [] [] ok (fun x hx => nomatch hx) (by rw [List.length_nil]; omega) (by rw [List.length_nil]; omega) (by rw [List.length_nil]; omega) (List.pairwise_singleton _ _) (by rw [List.length_nil]; omega)
  have hsum := qs_dfs S n 0 0 [] R (.inl ⟨rfl, rfl⟩)
  refine ⟨by omega, by rw [hpn]; exact p8, fun k hk => ?_, ?_, ?_, ?_, l6, ?_, ?_⟩
  · rw [hpn]; exact l5 k hk
  · rw [hpn]; intro r hr; exact @of_decide_eq_true _ (goodDec r) (p2 r hr)
  · rw [hpn]; intro r hr r' hr' e
    rcases p3 r hr r' hr' with h | h
    · exact absurd e h
    · exact h
  · rw [p6]; exact p7
  · rw [hpn]; intro i hi; exact List.contains_iff_mem.mp (l7 i hi)
  · rw [hpn]
    refine ⟨1 + k, dfs (underTo (rowsTo ps n) ls ls.length) n [], hk 1, by omega, fun q hq => ?_, fun i hi => ?_, ?_⟩
    · obtain ⟨x, e, hx⟩ := dfs_ext _ _ _ _ hq
      rw [e, List.nil_append, hx]; exact hn
    · exact ltP_cmp (pairwise_at (dfs_rising _ _ _) [] hi)
    · unfold bothW bothTo
      rw [hsum, p6]
      unfold chk at hc
      have hc := of_decide_eq_true hc
      rw [hpn] at hc
      unfold bothS at hc
      rw [hpn] at hc ⊢
      exact hc
theorem plain_law (ts : List Int) (h : ts.length = 4 ∨ ts.length = 5) : Plain (parsTo ts ts.length) (lineTo ts ts.length) := by
  have a := parsTo_mem ts ts.length
  have b := lineTo_mem ts ts.length
  have c := parsTo_length ts ts.length
  rcases h with h | h <;> rw [h] at a b c ⊢
  · rw [lines4_eq] at b
    have a := List.all_eq_true.mp pars4_in _ a
    obtain ⟨q, hq, e⟩ := List.mem_map.mp (List.contains_iff_mem.mp a)
    obtain ⟨c1, c2⟩ := all4 q hq
    obtain ⟨p, D, sz⟩ := q
    dsimp only at e
    subst e
    exact plain_of (by decide) c c1 (List.all_eq_true.mp lines4_ok _ b) (List.all_eq_true.mp c2 _ b)
  · rw [lines5_eq] at b
    have a := List.all_eq_true.mp pars5_in _ a
    obtain ⟨q, hq, e⟩ := List.mem_map.mp (List.contains_iff_mem.mp a)
    obtain ⟨c1, c2⟩ := all5 q hq
    obtain ⟨p, D, sz⟩ := q
    dsimp only at e
    subst e
    exact plain_of (by decide) c c1 (List.all_eq_true.mp lines5_ok _ b) (List.all_eq_true.mp c2 _ b)
end Mine
end

-- M18
section
open PySem PySem.W PyProof.Rows
set_option maxRecDepth 100000
set_option maxHeartbeats 8000000
set_option linter.unusedVariables false
namespace Mine
local macro_rules | `(tactic| walk_at "call ref") => `(tactic| refine hold ?_)
local macro_rules | `(tactic| walk_at "subscriptTail") => `(tactic| refine hold ?_)
local macro_rules | `(tactic| walk_at "binaryOp Add ref ref") => `(tactic| refine hold ?_)
local macro_rules | `(tactic| k_all) => `(tactic| assumption)
-- no twins of the row's terms: a kernel check in their place (twins would be 4 MB of the compiled file)
local macro_rules | `(tactic| k_qdec) => `(tactic| decide +kernel)
set_option pp.deepTerms false
set_option pp.deepTerms.threshold 6
theorem fr_int {h₀ : Heap} {L : Addr} {h : Heap} {k : Str} {X : Int} {t : Tok} {g : Str → Option Value} (F : Fr h₀ L h (fun y => if y = k then some (.int X t) else g y)) : ∃ z : Int, z = X ∧ Fr h₀ L h (fun y => if y = k then some (.int z t) else g y) := ⟨X, rfl, F⟩
section
variable {prog : Program} {w : World} {A : Around} {E : Value → Shared → Prop} {s : Shared} {h₀ : Heap} {L : Addr} {m : Str → Option Value} {news : List (Addr × Obj)}
/-- a slice [:y] of a list that no name holds -/
theorem slice_tmp {value slice : PySem.Expr} {l : Addr} {vs : List Value} {ns : List Int} {y : Int} {t : Tok} {Q : Value → Shared → Prop}
    (F : Fr h₀ L s.heap m) (N : News h₀ L s.heap news) (hl : s.heap.IsList l vs.toArray) (hi : IntsAre vs ns) (hy : 0 ≤ y)
    (h : ∀ D ws h', Fr h₀ L h' m → News h₀ L h' ((D, listOf (List.toArray ws) 0) :: news) → IntsAre ws (ns.take y.toNat) → Q (.ref D) { s with heap := h' })
    (hs : subscripted slice false (.ref l) (.ref s.heap.objs.size) = operate [.ref s.heap.objs.size, .ref l] (getItem (.ref l) (.ref s.heap.objs.size))) (hz : ns.length ≤ sizeLine) :
    wpAny (model prog w) A (subscriptTail value slice (.ref l) (.ref s.heap.objs.size)) Q E { s with heap := s.heap.push { cls := .type "slice", data := .fields #[.none, .int y t, .none] } } := by
  refine tail_any (Heap.IsList.typeIs (s := { s with heap := s.heap.push { cls := .type "slice", data := .fields #[.none, .int y t, .none] } }) (hl.push _)) list_getitem_lookup
    (wpAny_getItem_list_slice (hl.push _) (Heap.IsSliceOf.new ..) IsPart.none (IsPart.int _ _) .none (by simp) ?_ (kmk_sz hi hz)) hs
  have N1 := News.push (F.push { cls := .type "slice", data := .fields #[.none, .int y t, .none] }) (N.grown fun _ _ e => Heap.get?_push_of_some _ e) { cls := .type "list", data := .seq (slicePick vs.toArray none (some y) none) }
  refine h _ (slicePick vs.toArray none (some y) none).toList _ ((F.push _).push _) ?_ (kmk_upto hi hy)
  rw [Array.toArray_toList]
  exact N1
end
theorem law_holds : PySem.Challenge.rw_oy0105_01.Holds := hd (by
  k_go0
  all_goals (try k_fold)
  rename_i w s0 s1 mg mb G Y fa o pm doc kV ho hg KX X V GL T BT TE TW cA cB M cC cD hcd ns hs hlay0 hL1 hr1 hl2 wA wB la vs wC hL ra w1 r0 hI hr hcond hcond2 K0 hD h1 F N0
  refine gen_both fun QT ET hQT => ?_
  obtain ⟨u, F2⟩ := fr_named [(Str.ofString "script", .ref la)] F (by kst_all)
  clear F
  k_steps
  refine unhold ?_
  rename_i D5 v5 hx0 hI5 hC5 hL5 hTT b4 h3 F3 N3 lt4
  obtain ⟨z, hz, F4⟩ := fr_int F3
  have hfd : ((ns.length : Int)).fdiv 2 = (ns.length : Int) / 2 := Int.fdiv_eq_ediv_of_nonneg _ (by decide)
  rw [hfd] at hz
  have hz2 : (z = 4 ∧ ns.length ≤ 1) ∨ (z = 5 ∧ 2 ≤ ns.length) := by
    split at hz <;> omega
  clear hz F3
  obtain ⟨n, hzn, hn⟩ : ∃ n : Nat, z = (n : Int) ∧ ((n = 4 ∧ ns.length ≤ 1) ∨ (n = 5 ∧ 2 ≤ ns.length)) := ⟨z.toNat, by omega, by omega⟩
  subst hzn
  clear hz2
  have hn5 : n ≤ 5 := by omega
  obtain ⟨v4, hi4, N4⟩ : ∃ v4, IntsAre v4 [0, 3, 3, 5] ∧ News s1.heap s1.heap.objs.size h3 [(b4, listOf v4.toArray 0), (D5, listOf v5.toArray 0)] := ⟨_, .cons _ _ (.cons _ _ (.cons _ _ (.cons _ _ .nil))), N3⟩
  clear N3
  refine add_lists_ints F4 N4 (isL N4 (List.Mem.tail _ (List.Mem.head _))) (isL N4 (List.Mem.head _)) hI5 hi4 ?_ (by rw [sizeLine_eq, List.length_take]; simp only [List.length_cons, List.length_nil]; omega)
  intro h5 F5 N5 hi5
  clear F4 N4
  dsimp only at N5 ⊢
  generalize h3.objs.size = na at N5 ⊢
  replace N5 : News s1.heap s1.heap.objs.size h5 [(na, listOf (v5 ++ v4).toArray 0)] := fun p hp => N5 p (by rw [List.mem_singleton.mp hp]; exact List.Mem.head _)
  k_steps
  refine unhold ?_
  k_dflt (refine' slice_tmp F5 N5 (isL N5 (List.Mem.head _)) hi5 (by omega) ?_ ?zs ?zz; (case zs => with_unfolding_all rfl); (case zz => (rw [sizeLine_eq, List.length_append, List.length_take]; simp only [List.length_cons, List.length_nil]; omega)))
  intro D6 v6 h6 F6 N6 hi6
  rw [Int.toNat_natCast] at hi6
  have htl : ((ns.take 5 ++ [0, 3, 3, 5]).take n).length = n := by rw [List.length_take, List.length_append, List.length_take]; simp only [List.length_cons, List.length_nil]; omega
  generalize (ns.take 5 ++ [0, 3, 3, 5]).take n = ts at hi6 htl
  replace N6 : News s1.heap s1.heap.objs.size h6 [(D6, listOf v6.toArray 0)] := fun p hp => N6 p (by rw [List.mem_singleton.mp hp]; exact List.Mem.head _)
  clear N5 F5
  have P := plain_law ts (by omega)
  k_steps
  refine unhold ?_
  rename_i h7 F7 N7
  refine ctr_use (grown_ok w D6 v6 ts 0 _ (List.Mem.head _) hi6 (by omega)) (below_caller _) F7 KX N7 T rfl (by decide) (by decide) ?_
  rintro r news' h8 tk8 F8 N8 ⟨t, pa, la', vp, vl, kp, kl, kt, rfl, rfl, hip, hil, hap⟩
  have hpl : (parsTo ts ts.length).length = n := by rw [parsTo_length, htl]
  generalize parsTo ts ts.length = ps at hip P hpl
  generalize lineTo ts ts.length = ls at hil P
  clear F7 N7
  k_steps
  refine unhold ?_
  rename_i h9 F9 N9
  refine ctr_use (rows_ok w pa vp ps kp _ (List.Mem.tail _ (List.Mem.tail _ (List.Mem.head _))) hip (by omega) P.hps) (below_caller _) F9 KX N9 T rfl (by decide) (by decide) ?_
  rintro r news' h10 tk10 F10 N10 ⟨ra, rp, kr, ob, rfl, rfl, hrows, hrp, hrap⟩
  have hrpl : rp.length = ps.length := by have := congrArg List.length hrp; rwa [List.length_map, rowsTo_length] at this
  obtain ⟨fu, ws, hrun, hwl, hw5, hws, hboth⟩ := P.hrun
  clear F9 N9
  k_steps
  refine unhold ?_
  refine ctr_use (under_ok w ra la' rp vl ls kr kl _ (List.Mem.head _) (fun q hq => by obtain ⟨a, vs, k, h1, h2, h3⟩ := hrows q hq; exact ⟨a, vs, k, h1, List.Mem.tail _ h2, h3⟩) (List.Mem.tail _ (List.mem_append_right _ (List.Mem.tail _ (List.Mem.head _)))) hil (by rw [P.hll]; omega) (fun k hk => by rw [hrpl]; exact P.hlr k hk)
    (fun q hq => P.hgood _ (by rw [← hrp]; exact List.mem_map_of_mem hq)) (fun q hq q' hq' e => P.hinj _ (by rw [← hrp]; exact List.mem_map_of_mem hq) _ (by rw [← hrp]; exact List.mem_map_of_mem hq') e) (by omega)) (below_caller _) F10 KX N10 T rfl (by decide) (by decide) ?_
  rintro r news' h11 tk11 F11 N11 ⟨ua, xs, ku, ob2, rfl, rfl, hxin, hxs, huap⟩
  have hxl : xs.length = ps.length := by have := congrArg List.length hxs; rw [List.length_map, underTo_length, P.hll] at this; exact this
  clear F10 N10
  k_steps
  refine unhold ?_
  have Fs : TI.Frs [] [] := trivial
  refine ctrT_use (frs := []) (words_ok w ua xs ku _ (List.Mem.head _) (fun q hq => by obtain ⟨a, vs, k, h1, h2, h3⟩ := hxin q hq; exact ⟨a, vs, k, h1, List.Mem.tail _ h2, h3⟩) (by omega) ws fu (by rw [hxs, hrp]; exact hrun)) F11 KX (by rw [List.append_nil]; exact N11) Fs (fun p hp h => nomatch h) T rfl (by decide) (by decide) ?_
  rintro r news' frs' h12 tk12 F12 N12 SU hap12 ⟨wa, wp, kw, ob3, rfl, rfl, hwin, hwp, hwap⟩
  replace N12 : News s1.heap s1.heap.objs.size h12 _ := fun p hp => N12 p (List.mem_append_left _ hp)
  have hwpl : wp.length = ws.length := by rw [← hwp, List.length_map]
  clear F11 N11 hap12 SU
  k_steps
  refine unhold ?_
  rename_i h13 F13 N13
  refine ctr_use (both_ok w wa pa la' wp vp vl ps ls kw kp kl _ (List.Mem.head _) (fun q hq => by obtain ⟨a, vs, k, h1, h2, h3⟩ := hwin q hq; exact ⟨a, vs, k, h1, List.Mem.tail _ h2, h3⟩) (by omega) (fun q hq => hw5 _ (by rw [← hwp]; exact List.mem_map_of_mem hq))
    (List.Mem.tail _ (List.mem_append_right _ (List.Mem.tail _ (List.mem_append_right _ (List.Mem.tail _ (List.mem_append_right _ (List.Mem.tail _ (List.Mem.tail _ (List.Mem.head _)))))))))  hip (by omega) P.hps
    (List.Mem.tail _ (List.mem_append_right _ (List.Mem.tail _ (List.mem_append_right _ (List.Mem.tail _ (List.mem_append_right _ (List.Mem.tail _ (List.Mem.head _)))))))) hil P.hbr P.hlay P.hin) (below_caller _) F13 KX N13 T rfl (by decide) (by decide) ?_
  rintro r news' h14 tk14 F14 N14 ⟨tt, t1, t2, ktt, rfl, rfl, htt⟩
  rw [hwp, ← hboth] at N14
  generalize (bothW ws ps ls).1 = one at N14
  clear F13 N13
  k_steps
  refine unhold ?_
  rename_i F15 N15
  refine ctr_use (rising_ok w wa wp kw _ (List.Mem.tail _ (List.Mem.head _)) (fun q hq => by obtain ⟨a, vs, k, h1, h2, h3⟩ := hwin q hq; exact ⟨a, vs, k, h1, List.Mem.tail _ (List.Mem.tail _ h2), h3⟩) (by omega)
    (by rw [hwp, hwpl]; exact hws)) (below_caller _) F15 KX N15 T rfl (by decide) (by decide) ?_
  rintro r news' h16 tk16 F16 N16 ⟨rfl, rfl⟩
  clear F15 N15
  k_steps
  refine hQT _ _ ?_
  k_steps)
end Mine
end

set_option maxRecDepth 100000 in
set_option maxHeartbeats 8000000 in
theorem PySem.Challenge.cw_oy0105_01_holds : PySem.Challenge.rw_oy0105_01.Holds := by
  exact Mine.law_holds
