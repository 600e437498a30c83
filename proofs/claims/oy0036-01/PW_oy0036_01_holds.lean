import PyProof.Rows.All
import Wide.All
import OpenK.AllK
import Wide.FinOn
import Lean
import PySem.Challenge.RW_oy0036_01
open PySem PySem.Spec PySem.Calls PySem.W PyProof.Rows
set_option Elab.async false
set_option maxRecDepth 100000
set_option maxHeartbeats 8000000
namespace Mine
open_top hd for PySem.Challenge.rw_oy0036_01
end Mine
namespace Mine
abbrev PR : Program := PySem.Challenge.rw_oy0036_01.row.prog

/-- what every contract asks of the heap: a part of it bears the text's own objects and the top's facts -/
structure Gr (w : World) (h : Heap) : Prop where
  X : (hd.heap_39 w.params).In h
  T : ∃ p loose mean mg mb, Top p loose mean mg mb h
theorem Gr.keeps {w : World} {h h' : Heap} (G : Gr w h) (k : h.StaysIn h') : Gr w h' :=
  ⟨G.X.keeps k, let ⟨p, l, me, mg, mb, t⟩ := G.T; ⟨p, l, me, mg, mb, t.keeps k⟩⟩

section
variable {w : World} {A : Around} {s : Shared} {E : Value → Shared → Prop} {Q : Value → Shared → Prop} {name qual : Str} {params : Arguments} {body : List Stmt} {scope : Scope} {dV kV doc pm cdv ct oc : Value} {an od : Option Addr} {osl : Array (Option Value)} {f : Addr} {args : List Value} {binds : List (Str × Value)}
/-- enter a def without cells that does not raise; `news`: what it may write -/
theorem enter {h₀ : Heap} (news : List (Addr × Obj)) (G : Gr w h₀) (k : h₀.StaysIn s.heap) (hN : ∀ q ∈ news, s.heap.get? q.1 = some q.2 ∧ h₀.get? q.1 = none)
    (ho : (hd.heap_39 w.params).lookup f = some ⟨oc, od, .func (fnOf name qual params body scope dV kV doc pm an cdv ct), osl⟩) (hcd : codeIn (hd.heap_39 w.params) cdv qual = true) (hroom : A.depth < recursionLimit)
    (hbind : BindsTo s (fnOf name qual params body scope dV kV doc pm an cdv ct) ⟨args, []⟩ binds) (hloc : ∀ y ∈ binds, scope.names.lookup y.1 = some .local)
    (h : ∀ p lo me mg mb g L' h₁ tk, (hd.heap_39 w.params).In g → Top p lo me mg mb g → h₀.StaysIn g → (∀ b o, s.heap.get? b = some o → b ∉ news.map (·.1) → g.get? b = some o) →
      Fr g L' h₁ (fun y => binds.reverse.lookup y) → News g L' h₁ news → 
      wpAny (model PR w) (A.deeper (envOf qual scope L' f cdv)) (execs body (envOf qual scope L' f cdv))
        (fun fl s' => Q (match fl with | .ret v => v | _ => .none) s') (fun _ _ => False) { s with heap := h₁, toks := tk })
    (hco : scope.isCoroutine = false) (hgen : scope.isGenerator = false) (hk : scope.kind = .function)
    (hcell : ∀ x ∈ scope.names, x.2 ≠ .cell) : wpAny (model PR w) A (call (.ref f) args) Q E s := by
  have nm : ∀ b o, h₀.get? b = some o → b ∉ news.map (·.1) := fun b o e q => by
    obtain ⟨p, hp, rfl⟩ := List.mem_map.mp q
    rw [(hN p hp).2] at e; cases e
  have st : h₀.StaysIn (hideAll s.heap (news.map (·.1))) := fun b o e => hideAll_get _ (k b o e) (nm b o e)
  obtain ⟨X, p, lo, me, mg, mb, T⟩ := G
  refine wpAny_call (codeAny_call_def (fd := fnOf name qual params body scope dV kV doc pm an cdv ct) (body := body) (binds := binds) hroom (k _ _ (X _ _ ho)) rfl (T.keeps k).nolimit (codeRec_of (X.keeps k) hcd) rfl hbind hcell hloc (fun h₁ hns hk₁ => ?_) hco hgen hk)
  refine wpAny_mono (h p lo me mg mb _ s.heap.objs.size h₁ _ (X.keeps st) (T.keeps st) st (fun b o e n => hideAll_get _ e n) ⟨hns, fun b o e => hk₁ b o (of_hideAll _ e), Nat.le_of_eq (hideAll_size _ _)⟩
    (fun q hq => ⟨hk₁ _ _ (hN q hq).1, Nat.ne_of_lt (Heap.lt_size (hN q hq).1), hideAll_none _ (List.mem_map_of_mem hq)⟩)) (fun _ _ x => x) fun _ _ x => x.elim
end
theorem fill : (PySem.Challenge.rw_oy0036_01 = PySem.Challenge.rw_oy0036_01) ∧ (hd.heap_39 = hd.heap_39) := by (w_top off; k_fill; exact ⟨rfl, rfl⟩)
end Mine
namespace Mine
section
variable {prog : Program} {w : World} {A : Around} {E : Value → Shared → Prop} {s : Shared}
theorem tup_lt_tree {x y : Int} {t u : Tok} {a b : Addr} {oa ob : Obj} {xs ys : Array Value} {na nb : Nat} {ra rb : List Value} {P : PySem.Fin → Shared → Prop}
    (hoa : s.heap.get? a = some oa) (hda : oa.data = .seq xs na) (hxs : xs.toList = .int x t :: ra)
    (hob : s.heap.get? b = some ob) (hcb : ob.cls = .type "tuple") (hdb : ob.data = .seq ys nb) (hys : ys.toList = .int y u :: rb)
    (hne : x ≠ y) (h : P (.done (.ret (.bool (decide (x < y))))) s) :
    wpAny (model prog w) A (Builtin.«tuple.__lt__» ⟨[.ref a, .ref b], []⟩) P E s := by
  have hTb : s.TypeIs (.ref b) "tuple" := ⟨ob, hob, hcb⟩
  show wpAny _ _ (isInstance (.ref b) (.type "tuple") >>= _) _ _ s
  refine wpAny_bind (wpAny_isInstance hTb isSubtype_tuple_tuple ?_)
  simp only [Bool.not_true, Bool.false_eq_true, if_false]
  refine wpAny_bind (wpAny_tupleItemsOf hoa hda ?_)
  refine wpAny_bind (wpAny_tupleItemsOf hob hdb ?_)
  refine wpAny_bind ?_
  rw [hxs, hys, List.zip_cons_cons, List.forIn_cons]
  refine wpAny_bind (wpAny_bind (wpAny_eqBool_int ?_))
  have e : (x == y) = false := by simpa using hne
  rw [e]
  simp only [Bool.not_false, if_true]
  refine wpAny_bind (wpAny_rule ?_)
  refine wpAny_bind (PyProof.Rows.lt_int (Q := fun v s' => _) ?_)
  exact wpAny_bind (wpAny_pure (wpAny_pure (wpAny_pure (wpAny_pure h))))

theorem tup_lt {x y : Int} {t u : Tok} {a b : Addr} {oa ob : Obj} {xs ys : Array Value} {na nb : Nat} {ra rb : List Value} {Q : Value → Shared → Prop}
    (hoa : s.heap.get? a = some oa) (hca : oa.cls = .type "tuple") (hda : oa.data = .seq xs na) (hxs : xs.toList = .int x t :: ra)
    (hob : s.heap.get? b = some ob) (hcb : ob.cls = .type "tuple") (hdb : ob.data = .seq ys nb) (hys : ys.toList = .int y u :: rb)
    (hne : x ≠ y) (hu : A.units < cLine) (h : Q (.bool (decide (x < y))) s) :
    wpAny (model prog w) A (compareOp .Lt (.ref a) (.ref b)) Q E s := by
  refine cmp_ofLt ?_
  have hTa : s.TypeIs (.ref a) "tuple" := ⟨oa, hoa, hca⟩
  have hTb : s.TypeIs (.ref b) "tuple" := ⟨ob, hob, hcb⟩
  exact wpAny_richCompare_same_room (op := .Lt) hTa hTb F.slot_tuple_lt
    (wpAny_call_entry F.slot_tuple_lt hTa F.entry_tuple_lt (tup_lt_tree hoa hda hxs hob hcb hdb hys hne ⟨_, rfl, (fun e => nomatch e), h⟩) (F.args_tuple_lt_2 _ _)) hu

/-- an item of a list by an int in bounds -/
theorem item_at {value slice : PySem.Expr} {l : Addr} {its : Array Value} {k : Int} {u : Tok} {v : Value} {Q : Value → Shared → Prop}
    (hl : s.heap.IsList l its) (h0 : 0 ≤ k) (hhi : k < 2 ^ 63) (hx : its[k.toNat]? = some v) (h : Q v s)
    (hs : subscripted slice false (.ref l) (.int k u) = operate [.ref l, .int k u] (getItem (.ref l) (.int k u))) :
    wpAny (model prog w) A (subscriptTail value slice (.ref l) (.int k u)) Q E s :=
  tail_any hl.typeIs slot_list_getitem.lookup (wpAny_getItem_list hl h0 hhi hx h) hs

end
end Mine
namespace Mine
/-- a number and the places of its factors -/
abbrev D := Int × List Int
def item (d : D) : PyData := .tuple [.int d.1, .list (d.2.map .int)]
def Rd (h : Heap) (v : Value) (d : PyData) : Prop := ∃ as, Reads h v d as
theorem Rd.keeps {h h' : Heap} {v : Value} {d : PyData} (k : h.StaysIn h') (r : Rd h v d) : Rd h' v d := let ⟨as, q⟩ := r; ⟨as, Reads.keeps k q⟩
def Its (h : Heap) (vs : List Value) (xs : List D) : Prop := vs.length = xs.length ∧ ∀ (i : Nat) v x, vs[i]? = some v → xs[i]? = some x → Rd h v (item x)
theorem Its.keeps {h h' : Heap} {vs : List Value} {xs : List D} (k : h.StaysIn h') (r : Its h vs xs) : Its h' vs xs := ⟨r.1, fun i v x a b => (r.2 i v x a b).keeps k⟩
theorem Its.nil {h : Heap} : Its h [] [] := ⟨rfl, fun i v x a _ => by simp at a⟩
theorem Its.get {h : Heap} {vs : List Value} {xs : List D} (r : Its h vs xs) {i : Nat} {x : D} (e : xs[i]? = some x) : ∃ v, vs[i]? = some v ∧ Rd h v (item x) := by
  have hi : i < vs.length := by rw [r.1]; exact (List.getElem?_eq_some_iff.mp e).1
  exact ⟨vs[i], List.getElem?_eq_getElem hi, r.2 i _ x (List.getElem?_eq_getElem hi) e⟩
theorem Its.set {h : Heap} {vs : List Value} {xs : List D} (r : Its h vs xs) {i : Nat} {v : Value} {x : D} (q : Rd h v (item x)) : Its h (vs.set i v) (xs.set i x) := by
  refine ⟨by simp [r.1], fun j v' x' a b => ?_⟩
  rw [List.getElem?_set] at a b
  by_cases hij : i = j
  · subst hij
    rw [if_pos rfl] at a b
    by_cases hl : i < vs.length
    · rw [if_pos hl] at a; rw [if_pos (r.1 ▸ hl)] at b; cases a; cases b; exact q
    · rw [if_neg hl] at a; cases a
  · rw [if_neg hij] at a b; exact r.2 j v' x' a b
theorem Its.push {h : Heap} {vs : List Value} {xs : List D} (r : Its h vs xs) {v : Value} {x : D} (q : Rd h v (item x)) : Its h (vs ++ [v]) (xs ++ [x]) := by
  refine ⟨by simp [r.1], fun j v' x' a b => ?_⟩
  rcases Nat.lt_trichotomy j vs.length with hj | hj | hj
  · rw [List.getElem?_append_left hj] at a; rw [List.getElem?_append_left (r.1 ▸ hj)] at b; exact r.2 j v' x' a b
  · have hj2 : j = xs.length := hj.trans r.1
    rw [hj] at a
    rw [hj2] at b
    simp at a b
    subst a; subst b; exact q
  · rw [List.getElem?_eq_none (by simp; omega)] at a; cases a
theorem Its.pop {h : Heap} {vs : List Value} {xs : List D} {v : Value} {x : D} (r : Its h (vs ++ [v]) (xs ++ [x])) : Its h vs xs ∧ Rd h v (item x) := by
  have hl : vs.length = xs.length := by have := r.1; simpa using this
  refine ⟨⟨hl, fun j v' x' a b => ?_⟩, r.2 vs.length v x (by simp) (by rw [hl]; simp)⟩
  have hj := (List.getElem?_eq_some_iff.mp a).1
  exact r.2 j v' x' (by rw [List.getElem?_append_left hj]; exact a) (by rw [List.getElem?_append_left (hl ▸ hj)]; exact b)
theorem Rd.item {h : Heap} {v : Value} {x : D} (r : Rd h v (item x)) : ∃ b o its n t v2, v = .ref b ∧ h.get? b = some o ∧ o.cls = .type "tuple" ∧ o.data = .seq its n ∧ its.toList = [.int x.1 t, v2] ∧ Rd h v2 (.list (x.2.map .int)) := by
  obtain ⟨as, q⟩ := r
  unfold Mine.item at q
  cases q with
  | tuple ho hc hd ra =>
    rename_i its n
    generalize hq : its.toList = l at ra
    cases ra with
    | cons r1 ra =>
      cases ra with
      | cons r2 ra =>
        cases ra
        cases r1
        exact ⟨_, _, _, _, _, _, rfl, ho, hc, hd, hq, _, r2⟩

section
variable {prog : Program} {w : World} {A : Around} {E : Value → Shared → Prop} {s : Shared} {h₀ : Heap} {L : Addr} {m : Str → Option Value} {news news' : List (Addr × Obj)}
theorem items_lt {va vb : Value} {x y : D} {Q : Value → Shared → Prop} (F : Fr h₀ L s.heap m) (ra : Rd h₀ va (item x)) (rb : Rd h₀ vb (item y)) (hne : x.1 ≠ y.1) (hu : A.units < cLine)
    (h : Q (.bool (decide (x.1 < y.1))) s) : wpAny (model prog w) A (compareOp .Lt va vb) Q E s := by
  obtain ⟨a, oa, xs, na, ta, v2, rfl, hoa, hca, hda, hxs, _⟩ := ra.item
  obtain ⟨b, ob, ys, nb, tb, v3, rfl, hob, hcb, hdb, hys, _⟩ := rb.item
  exact tup_lt (F.keep _ _ hoa) hca hda hxs (F.keep _ _ hob) hcb hdb hys hne hu h
/-- a store into a list of the ledger's -/
theorem set_U {l : Addr} {vs : List Value} {n : Nat} {k : Int} {t : Tok} {v : Value} {Q : Unit → Shared → Prop}
    (F : Fr h₀ L s.heap m) (N : News h₀ L s.heap news) (U : Upd l (listOf vs.toArray n) (listOf (vs.set k.toNat v).toArray n) news news') (h0 : 0 ≤ k) (hfit : k < 2 ^ 63) (hn : k < vs.length)
    (h : ∀ h', Fr h₀ L h' m → News h₀ L h' news' → Q () { s with heap := h' }) :
    wpAny (model prog w) A (setItem (.ref l) (.int k t) v) Q E s := by
  obtain ⟨pre, post, rfl, rfl, a, b⟩ := U.split
  have z := N (l, listOf vs.toArray n) (List.mem_append.mpr (.inr (.head _)))
  refine ki_setAt z.1 h0 hfit (by simpa using hn) (h _ (F.change (Heap.SameBut.update ..) z.2.1 z.2.2) (ki_turn _ N a b ?_ ?_))
  · apply Array.toList_inj.mp; simp
  · simp
theorem get_U {value slice : PySem.Expr} {l : Addr} {vs : List Value} {n : Nat} {k : Int} {u : Tok} {v : Value} {Q : Value → Shared → Prop}
    (N : News h₀ L s.heap news) (hm : (l, listOf vs.toArray n) ∈ news) (h0 : 0 ≤ k) (hhi : k < 2 ^ 63) (hx : vs[k.toNat]? = some v) (h : Q v s)
    (hs : subscripted slice false (.ref l) (.int k u) = operate [.ref l, .int k u] (getItem (.ref l) (.int k u))) :
    wpAny (model prog w) A (subscriptTail value slice (.ref l) (.int k u)) Q E s :=
  item_at ⟨_, (N _ hm).1, rfl, n, rfl⟩ h0 hhi (by simpa using hx) h hs
end
def AllM (m : Str → Option Value) : List (Str × Value) → Prop
  | [] => True
  | p :: r => m p.1 = some p.2 ∧ AllM m r
theorem AllM.mem {m : Str → Option Value} : ∀ {ps : List (Str × Value)}, AllM m ps → ∀ p ∈ ps, m p.1 = some p.2
  | [], _, _, h => nomatch h
  | _ :: _, a, _, .head _ => a.1
  | _ :: _, a, _, .tail _ h => AllM.mem a.2 _ h
theorem fr_names {h₀ h : Heap} {L : Addr} {m : Str → Option Value} (F : Fr h₀ L h m) (ps : List (Str × Value)) (hm : AllM m ps) : Fr h₀ L h (kstB m ps) := by
  have : kstB m ps = m := funext fun z => kstB_eq hm.mem fun _ => rfl
  rw [this]; exact F
end Mine
namespace Mine
theorem whl_rec {prog : Program} {w : World} {A : Around} {E : Value → Shared → Prop} {env : Env} {test : PySem.Expr} {body orelse : List Stmt} {Q : Flow → Shared → Prop} (I : Nat → Shared → Prop) (zero : ∀ s, ¬ I 0 s)
    (step : ∀ n s, (∀ s', I n s' → WhlRest prog w A E env test body orelse Q n s') → I (n + 1) s → WhlRest prog w A E env test body orelse Q (n + 1) s) (n : Nat) (s : Shared) (h : I n s) : WhlRest prog w A E env test body orelse Q n s := by
  induction n generalizing s with
  | zero => exact absurd h (zero s)
  | succ n ih => exact step n s ih h
/-- what the walk leaves to the hand -/
structure Hold (P : Prop) : Prop where
  out : P
abbrev put (x : Str) (v : Value) (r : Str → Option Value) : Str → Option Value := fun y => if y = x then some v else r y
theorem fput {g h : Heap} {L : Addr} {m : Str → Option Value} {x : Str} {v : Value} (F : Fr g L h m) (e : m x = some v) : Fr g L h (put x v m) := by
  have : put x v m = m := funext fun y => by
    show (if y = x then some v else m y) = m y
    by_cases q : y = x
    · rw [if_pos q, q, e]
    · rw [if_neg q]
  rw [this]; exact F
theorem fr_but {g h h' : Heap} {L a : Addr} {m : Str → Option Value} (F : Fr g L h m) (hk : ∀ b o, b ≠ a → h.get? b = some o → h'.get? b = some o) (haL : a ≠ L) (ha : g.get? a = none) : Fr g L h' m :=
  ⟨F.ns.at' fun o e => hk _ o (Ne.symm haL) e, fun b o e => hk b o (fun q => by rw [q, ha] at e; cases e) (F.keep b o e), F.above⟩
theorem news_but {g h h' : Heap} {L a : Addr} {o o' : Obj} {rest : List (Addr × Obj)} (N : News g L h ((a, o) :: rest)) (hr : ∀ p ∈ rest, p.1 ≠ a) (hk : ∀ b o, b ≠ a → h.get? b = some o → h'.get? b = some o)
    (ha' : h'.get? a = some o') : News g L h' ((a, o') :: rest) := by
  intro p hp
  rcases List.mem_cons.mp hp with rfl | hp
  · exact ⟨ha', (N _ (.head _)).2⟩
  · exact ⟨hk _ _ (hr p hp) (N p (.tail _ hp)).1, (N p (.tail _ hp)).2⟩
theorem fr_keeps {g h h' : Heap} {L : Addr} {m : Str → Option Value} (F : Fr g L h m) (hk : h.StaysIn h') : Fr g L h' m := ⟨F.ns.at' fun o e => hk _ o e, fun b o e => hk b o (F.keep b o e), F.above⟩
theorem news_keeps {g h h' : Heap} {L : Addr} {news : List (Addr × Obj)} (N : News g L h news) (hk : h.StaysIn h') : News g L h' news := fun p hp => ⟨hk _ _ (N p hp).1, (N p hp).2⟩
section
variable {prog : Program} {w : World} {A : Around} {E : Value → Shared → Prop} {s : Shared} {h₀ : Heap} {L : Addr} {m : Str → Option Value} {news news' : List (Addr × Obj)}
theorem len_L {l : Addr} {its : Array Value} {Q : Value → Shared → Prop} (hl : s.heap.IsList l its) (hfit : its.size < 2 ^ 40) (h : ∀ t tk, Q (.int its.size t) { s with toks := tk }) : wpAny (model prog w) A (call (.builtin "len") [.ref l]) Q E s :=
  call_len_list hl (by omega) (h _ _)
theorem len_U {l : Addr} {vs : List Value} {n : Nat} {Q : Value → Shared → Prop} (N : News h₀ L s.heap news) (hm : (l, listOf vs.toArray n) ∈ news) (hfit : vs.length < 2 ^ 40)
    (h : ∀ t tk, Q (.int vs.length t) { s with toks := tk }) : wpAny (model prog w) A (call (.builtin "len") [.ref l]) Q E s := by
  refine call_len_list (items := vs.toArray) ⟨_, (N _ hm).1, rfl, n, rfl⟩ ?_ ?_
  · simp; omega
  · simpa using h (s.toks + 1) (s.toks + 1 + 1)
end
end Mine
namespace Mine
local macro_rules | `(tactic| walk_at "exec While Compare cons nil") => `(tactic| refine Hold.out ?_)
local macro_rules | `(tactic| walk_at "subscriptTail Name Name ref int") => `(tactic| refine Hold.out ?_)
local macro_rules | `(tactic| walk_at "compareOp Lt") => `(tactic| refine Hold.out ?_)
local macro_rules | `(tactic| walk_at "setItem ref int") => `(tactic| refine Hold.out ?_)
local macro_rules | `(tactic| walk_at "WhlRest") => `(tactic| refine Hold.out ?_)
local macro_rules | `(tactic| walk_at "binaryOp RShift int int") => `(tactic| (refine wpAny_rshift1_int ?kr ?_; (case kr => omega); (try dsimp only)))
def sd : Nat → List D → D → Nat → Option (List D)
  | 0, _, _, _ => none
  | f + 1, xs, x, pos => if pos = 0 then some (xs.set pos x) else
      match xs[(pos - 1) / 2]? with
      | none => none
      | some p => if x.1 = p.1 then none else if x.1 < p.1 then sd f (xs.set pos p) x ((pos - 1) / 2) else some (xs.set pos x)
def siftdown (xs : List D) (pos : Nat) : Option (List D) := match xs[pos]? with
  | none => none
  | some x => sd 64 xs x pos
theorem siftdown_ok {w : World} {A : Around} {s : Shared} {E : Value → Shared → Prop} {Q : Value → Shared → Prop} {h₀ : Heap} {a : Addr} {vs : List Value} {n : Nat} {xs ys : List D} {pos : Int} {t₁ t₂ : Tok}
   (G : Gr w h₀) (k : h₀.StaysIn s.heap) (ha : s.heap.get? a = some (listOf vs.toArray n)) (ha₀ : h₀.get? a = none) (hr : Its h₀ vs xs) (hsd : siftdown xs pos.toNat = some ys) (h0 : 0 ≤ pos) (hlen : xs.length < 2 ^ 40)
   (hd : A.depth < recursionLimit) (hu : A.units + 8 < cLine)
   (hret : ∀ h' tk vs', Its h₀ vs' ys → h'.get? a = some (listOf vs'.toArray n) → (∀ b o, b ≠ a → s.heap.get? b = some o → h'.get? b = some o) → Q .none { s with heap := h', toks := tk }) :
   wpAny (model PR w) A (call (.ref 42) [.ref a, .int 0 t₁, .int pos t₂]) Q E s := by
  k_dflt (refine' enter [(a, listOf vs.toArray n)] G k ?kN ?ko ?kc ?kr ?kb ?kl ?_ ?c1 ?c2 ?c3 ?c4; (case ko => k_is); (case kc => k_is); (case kr => assumption); (case kb => exact BindsTo.of_eq rfl); (case kl => exact locs rfl); (case c1 => exact rfl); (case c2 => exact rfl); (case c3 => exact rfl); (case c4 => decide))
  · intro q hq; rcases List.mem_singleton.mp hq with rfl; exact ⟨ha, ha₀⟩
  · intro p lo me mg mb g L' h₁ tk X' T' st' gs' F' N'
    unfold siftdown at hsd
    cases hx : xs[pos.toNat]? with
    | none => rw [hx] at hsd; cases hsd
    | some x =>
    rw [hx] at hsd
    dsimp only at hsd
    have hl := hr.1
    have hpx : pos.toNat < xs.length := (List.getElem?_eq_some_iff.mp hx).1
    obtain ⟨v, hv, rv⟩ := hr.get hx
    have hr' := hr.keeps st'
    have rv' := rv.keeps st'
    (try dsimp only)
    (try k_fold)
    k_steps
    (try constructor); refine get_U N' (.head _) h0 (by omega) hv ?_ (by with_unfolding_all rfl)
    k_steps
    constructor
    rename News _ _ _ _ => N1
    rename Fr _ _ _ _ => F1
    refine whl_start 64 ?_
    refine whl_rec (fun c s' => ∃ vs xs pos u tp h tk, s' = { s with heap := h, toks := tk } ∧ Fr g L' h (put "heap" (.ref a) (put "startpos" (.int 0 t₁) (put "pos" (.int pos tp) (put "newitem" v u)))) ∧ News g L' h [(a, listOf vs.toArray n)] ∧ Its h₀ vs xs ∧ sd c xs x pos.toNat = some ys ∧ 0 ≤ pos ∧ pos < xs.length ∧ xs.length < 2 ^ 40) ?_ ?_ 64 _ ⟨vs, xs, pos, _, t₂, _, _, rfl, (fput (fput (fput (fput F1 (by first | rfl | (simp; rfl))) (by first | rfl | (simp; rfl))) (by first | rfl | (simp; rfl))) (by first | rfl | (simp; rfl))), N1, hr, hsd, h0, by omega, hlen⟩
    · rintro s' ⟨vs, xs, pos, u, tp, h, tk, rfl, F, N, hi, he, _⟩
      simp [sd] at he
    clear F1 N1 hr' hr hsd hx hpx hv hl hlen h0
    rintro c s' ih ⟨vs, xs, pos, u, tp, h, tk, rfl, F, N, hi, he, h0, hp, hlen⟩
    have hl := hi.1
    refine whl_turn PassesOwn.never ?_
    k_steps
    unfold sd at he
    by_cases hz : pos = 0
    · subst hz
      have he' : some (xs.set 0 x) = some ys := he
      cases he'
      refine WhlIf.no (by simp) ?_
      k_steps
      (try dsimp only)
      (try constructor); refine set_U F N (Upd.head (by simp)) (Int.le_refl _) (by decide) (by omega) ?_
      intro h' F' N'
      k_steps
      refine hret _ _ _ (hi.set rv) (N' _ (.head _)).1 fun b o hb e => F'.keep b o (gs' b o e (by simpa using hb))
    · refine WhlIf.yes (decide_eq_true (by omega)) ?_
      rw [if_neg (by omega)] at he
      cases hq : xs[(pos.toNat - 1) / 2]? with
      | none => rw [hq] at he; cases he
      | some q =>
      rw [hq] at he
      dsimp only at he
      obtain ⟨vq, hvq, rq⟩ := hi.get hq
      have hi2 : ((pos - 1) / 2).toNat = (pos.toNat - 1) / 2 := by omega
      k_steps
      (try dsimp only)
      (try constructor); refine get_U (by assumption) (.head _) (by omega) (by omega) (by rw [hi2]; exact hvq) ?_ (by with_unfolding_all rfl)
      k_steps
      by_cases hxq : x.1 = q.1
      · rw [if_pos hxq] at he; cases he
      rw [if_neg hxq] at he
      (try dsimp only)
      rename Fr _ _ _ _ => F2
      (try constructor); refine items_lt F2 rv' (rq.keeps st') hxq ?_ ?_
      · simp only [units_deeper]; omega
      k_steps
      · rename x.1 < q.1 => hlt
        rw [if_pos hlt] at he
        (try dsimp only)
        rename Fr _ _ _ _ => F3
        rename News _ _ _ _ => N3
        (try constructor); refine set_U F3 N3 (Upd.head (by simp)) h0 (by omega) (by omega) ?_
        intro h' F' N'
        k_steps
        rename Fr _ _ _ _ => F4
        rename News _ _ _ _ => N4
        exact ⟨ih _ ⟨_, _, (pos - 1) / 2, _, _, _, _, rfl, (fput (fput (fput (fput F4 (by first | rfl | (simp; rfl))) (by first | rfl | (simp; rfl))) (by first | rfl | (simp; rfl))) (by first | rfl | (simp; rfl))), N4, hi.set rq, by rw [hi2]; exact he, by omega, by simp; omega, by simpa using hlen⟩⟩
      · rename ¬ (x.1 < q.1) => hlt
        rw [if_neg hlt] at he
        cases he
        (try dsimp only)
        rename Fr _ _ _ _ => F3
        rename News _ _ _ _ => N3
        (try constructor); refine set_U F3 N3 (Upd.head (by simp)) h0 (by omega) (by omega) ?_
        intro h' F' N'
        k_steps
        refine hret _ _ _ (hi.set rv) (N' _ (.head _)).1 fun b o hb e => F'.keep b o (gs' b o e (by simpa using hb))
end Mine
namespace Mine
local macro_rules | `(tactic| walk_at "exec While Compare cons nil") => `(tactic| refine Hold.out ?_)
local macro_rules | `(tactic| walk_at "subscriptTail Name Name ref int") => `(tactic| refine Hold.out ?_)
local macro_rules | `(tactic| walk_at "compareOp Lt") => `(tactic| refine Hold.out ?_)
local macro_rules | `(tactic| walk_at "setItem ref int") => `(tactic| refine Hold.out ?_)
local macro_rules | `(tactic| walk_at "WhlRest") => `(tactic| refine Hold.out ?_)
local macro_rules | `(tactic| walk_at "call builtin:len") => `(tactic| refine Hold.out ?_)
local macro_rules | `(tactic| walk_at "call ref") => `(tactic| refine Hold.out ?_)
def su : Nat → List D → D → Nat → Option (List D)
  | 0, _, _, _ => none
  | f + 1, xs, x, pos => if 2 * pos + 1 < xs.length then
      (if 2 * pos + 2 < xs.length then
        match xs[2 * pos + 1]?, xs[2 * pos + 2]? with
        | some l, some r => if l.1 = r.1 then none else if l.1 < r.1 then su f (xs.set pos l) x (2 * pos + 1) else su f (xs.set pos r) x (2 * pos + 2)
        | _, _ => none
      else match xs[2 * pos + 1]? with
        | some l => su f (xs.set pos l) x (2 * pos + 1)
        | none => none)
    else siftdown (xs.set pos x) pos
theorem siftup_ok {w : World} {A : Around} {s : Shared} {E : Value → Shared → Prop} {Q : Value → Shared → Prop} {h₀ : Heap} {a : Addr} {vs : List Value} {n : Nat} {x : D} {xs ys : List D} {t₂ : Tok}
   (G : Gr w h₀) (k : h₀.StaysIn s.heap) (ha : s.heap.get? a = some (listOf vs.toArray n)) (ha₀ : h₀.get? a = none) (hr : Its h₀ vs xs) (hx : xs[0]? = some x) (hsd : su 64 xs x 0 = some ys) (hlen : xs.length < 2 ^ 40)
   (hd : A.depth + 1 < recursionLimit) (hu : A.units + 16 < cLine)
   (hret : ∀ h' tk vs', Its h₀ vs' ys → h'.get? a = some (listOf vs'.toArray n) → (∀ b o, b ≠ a → s.heap.get? b = some o → h'.get? b = some o) → Q .none { s with heap := h', toks := tk }) :
   wpAny (model PR w) A (call (.ref 49) [.ref a, .int 0 t₂]) Q E s := by
  k_dflt (refine' enter [(a, listOf vs.toArray n)] G k ?kN ?ko ?kc ?kr ?kb ?kl ?_ ?c1 ?c2 ?c3 ?c4; (case ko => k_is); (case kc => k_is); (case kr => omega); (case kb => exact BindsTo.of_eq rfl); (case kl => exact locs rfl); (case c1 => exact rfl); (case c2 => exact rfl); (case c3 => exact rfl); (case c4 => decide))
  · intro q hq; rcases List.mem_singleton.mp hq with rfl; exact ⟨ha, ha₀⟩
  · intro p lo me mg mb g L' h₁ tk X' T' st' gs' F' N'
    have hl := hr.1
    have hpx : 0 < xs.length := (List.getElem?_eq_some_iff.mp hx).1
    obtain ⟨v, hv, rv⟩ := hr.get hx
    have rv' := rv.keeps st'
    (try dsimp only)
    (try k_fold)
    k_steps
    (try constructor); refine len_U N' (.head _) (by omega) fun tL tkL => ?_
    k_steps
    (try constructor); refine get_U (by assumption) (.head _) (by omega) (by omega) hv ?_ (by with_unfolding_all rfl)
    k_steps
    constructor
    rename News _ _ _ _ => N1
    rename Fr _ _ _ _ => F1
    refine whl_start 64 ?_
    refine whl_rec (fun c s' => ∃ vs xs pos u t0 te tp tc h tk, s' = { s with heap := h, toks := tk } ∧ Fr g L' h (put "heap" (.ref a) (put "startpos" (.int 0 t0) (put "endpos" (.int (vs.length : Int) te) (put "newitem" v (put "pos" (.int pos tp) (put "childpos" (.int (2 * pos + 1) tc) u)))))) ∧ News g L' h [(a, listOf vs.toArray n)] ∧ Its h₀ vs xs ∧ su c xs x pos.toNat = some ys ∧ 0 ≤ pos ∧ pos < xs.length ∧ xs.length < 2 ^ 40) ?_ ?_ 64 _ ⟨vs, xs, 0, _, _, _, _, _, _, _, rfl, (fput (fput (fput (fput (fput (fput F1 (by first | rfl | (simp; rfl))) (by first | rfl | (simp; rfl))) (by first | rfl | (simp; rfl))) (by first | rfl | (simp; rfl))) (by first | rfl | (simp; rfl))) (by first | rfl | (simp; rfl))), N1, hr, hsd, by omega, by omega, hlen⟩
    · rintro s' ⟨vs, xs, pos, u, t0, te, tp, tc, h, tk, rfl, F, N, hi, he, _⟩
      simp [su] at he
    clear F1 N1 hr hsd hx hpx hv hl hlen
    rintro c s' ih ⟨vs, xs, pos, u, t0, te, tp, tc, h, tk, rfl, F, N, hi, he, h0, hp, hlen⟩
    have hl := hi.1
    refine whl_turn PassesOwn.never ?_
    k_steps
    unfold su at he
    by_cases hz : 2 * pos + 1 < xs.length
    · refine WhlIf.yes (decide_eq_true (by omega)) ?_
      rw [if_pos (by omega)] at he
      have en : (2 * pos + 1).toNat = 2 * pos.toNat + 1 := by omega
      have en2 : (2 * pos + 1 + 1).toNat = 2 * pos.toNat + 2 := by omega
      cases hq : xs[2 * pos.toNat + 1]? with
      | none => rw [List.getElem?_eq_none_iff] at hq; omega
      | some q =>
      obtain ⟨vq, hvq, rq⟩ := hi.get hq
      by_cases hz2 : 2 * pos + 1 + 1 < xs.length
      · rw [if_pos (by omega)] at he
        cases hq2 : xs[2 * pos.toNat + 2]? with
        | none => rw [List.getElem?_eq_none_iff] at hq2; omega
        | some q2 =>
        obtain ⟨vq2, hvq2, rq2⟩ := hi.get hq2
        rw [hq, hq2] at he
        dsimp only at he
        k_steps
        (try dsimp only)
        (try constructor); refine get_U (by assumption) (.head _) (by omega) (by omega) (by rw [en]; exact hvq) ?_ (by with_unfolding_all rfl)
        k_steps
        (try dsimp only)
        (try constructor); refine get_U (by assumption) (.head _) (by omega) (by omega) (by rw [en2]; exact hvq2) ?_ (by with_unfolding_all rfl)
        by_cases hxq : q.1 = q2.1
        · rw [if_pos hxq] at he; cases he
        rw [if_neg hxq] at he
        (try dsimp only)
        rename Fr _ _ _ _ => F2
        (try constructor); refine items_lt F2 (rq.keeps st') (rq2.keeps st') hxq ?_ ?_
        · simp only [units_deeper]; omega
        by_cases hlt2 : q.1 < q2.1
        · rw [if_pos hlt2] at he
          k_steps
          (try dsimp only)
          (try constructor); refine get_U (by assumption) (.head _) (by omega) (by omega) (by rw [en]; exact hvq) ?_ (by with_unfolding_all rfl)
          k_steps
          (try dsimp only)
          rename Fr _ _ _ _ => F3
          rename News _ _ _ _ => N3
          (try constructor); refine set_U F3 N3 (Upd.head (by simp)) h0 (by omega) (by omega) ?_
          intro h' F' N'
          k_steps
          rename Fr _ _ _ _ => F4
          rename News _ _ _ _ => N4
          exact ⟨ih _ ⟨_, _, 2 * pos + 1, _, _, _, _, _, _, _, rfl, (fput (fput (fput (fput (fput (fput F4 (by first | rfl | (simp; rfl))) (by first | rfl | (simp; rfl))) (by first | rfl | (simp; rfl))) (by first | rfl | (simp; rfl))) (by first | rfl | (simp; rfl))) (by first | rfl | (simp; rfl))), N4, hi.set rq, by rw [en]; exact he, by omega, by simp; omega, by simpa using hlen⟩⟩
        · rw [if_neg hlt2] at he
          k_steps
          (try dsimp only)
          (try constructor); refine get_U (by assumption) (.head _) (by omega) (by omega) (by rw [en2]; exact hvq2) ?_ (by with_unfolding_all rfl)
          k_steps
          (try dsimp only)
          rename Fr _ _ _ _ => F3
          rename News _ _ _ _ => N3
          (try constructor); refine set_U F3 N3 (Upd.head (by simp)) h0 (by omega) (by omega) ?_
          intro h' F' N'
          k_steps
          rename Fr _ _ _ _ => F4
          rename News _ _ _ _ => N4
          exact ⟨ih _ ⟨_, _, 2 * pos + 1 + 1, _, _, _, _, _, _, _, rfl, (fput (fput (fput (fput (fput (fput F4 (by first | rfl | (simp; rfl))) (by first | rfl | (simp; rfl))) (by first | rfl | (simp; rfl))) (by first | rfl | (simp; rfl))) (by first | rfl | (simp; rfl))) (by first | rfl | (simp; rfl))), N4, hi.set rq2, by rw [en2]; exact he, by omega, by simp; omega, by simpa using hlen⟩⟩
      · rw [if_neg (by omega), hq] at he
        dsimp only at he
        k_steps
        (try dsimp only)
        (try constructor); refine get_U (by assumption) (.head _) (by omega) (by omega) (by rw [en]; exact hvq) ?_ (by with_unfolding_all rfl)
        k_steps
        (try dsimp only)
        rename Fr _ _ _ _ => F3
        rename News _ _ _ _ => N3
        (try constructor); refine set_U F3 N3 (Upd.head (by simp)) h0 (by omega) (by omega) ?_
        intro h' F' N'
        k_steps
        rename Fr _ _ _ _ => F4
        rename News _ _ _ _ => N4
        exact ⟨ih _ ⟨_, _, 2 * pos + 1, _, _, _, _, _, _, _, rfl, (fput (fput (fput (fput (fput (fput F4 (by first | rfl | (simp; rfl))) (by first | rfl | (simp; rfl))) (by first | rfl | (simp; rfl))) (by first | rfl | (simp; rfl))) (by first | rfl | (simp; rfl))) (by first | rfl | (simp; rfl))), N4, hi.set rq, by rw [en]; exact he, by omega, by simp; omega, by simpa using hlen⟩⟩
    · refine WhlIf.no (decide_eq_false (by omega)) ?_
      rw [if_neg (by omega)] at he
      k_steps
      (try dsimp only)
      (try constructor); refine set_U F N (Upd.head (by simp)) h0 (by omega) (by omega) ?_
      intro h' F' N'
      k_steps
      constructor
      refine siftdown_ok G (fun b o e => F'.keep b o (st' b o e)) (N' _ (.head _)).1 ha₀ (hi.set (i := pos.toNat) rv) he h0 (by simpa using hlen) (by simp only [depth_deeper]; omega) (by simp only [units_deeper]; omega) ?_
      intro h2 tk2 vs2 hi2 ha2 hk2
      k_steps
      exact hret _ _ _ hi2 ha2 fun b o hb e => hk2 b o hb (F'.keep b o (gs' b o e (by simpa using hb)))
end Mine
namespace Mine
local macro_rules | `(tactic| walk_at "none such") => `(tactic| fail)
local macro_rules | `(tactic| walk_at "subscriptTail Name Name ref int") => `(tactic| refine Hold.out ?_)
local macro_rules | `(tactic| walk_at "subscriptTail Name Constant ref int") => `(tactic| refine Hold.out ?_)
local macro_rules | `(tactic| walk_at "setItem ref int") => `(tactic| refine Hold.out ?_)
local macro_rules | `(tactic| walk_at "call builtin:len") => `(tactic| refine Hold.out ?_)
local macro_rules | `(tactic| walk_at "call builtin:list.pop") => `(tactic| refine Hold.out ?_)
local macro_rules | `(tactic| walk_at "truthy ref") => `(tactic| refine Hold.out ?_)
local macro_rules | `(tactic| walk_at "call ref") => `(tactic| refine Hold.out ?_)
def heappushF (xs : List D) (x : D) : Option (List D) := siftdown (xs ++ [x]) xs.length
theorem heappush_ok {w : World} {A : Around} {s : Shared} {E : Value → Shared → Prop} {Q : Value → Shared → Prop} {h₀ : Heap} {a : Addr} {vs : List Value} {v : Value} {n : Nat} {x : D} {xs ys : List D}
   (G : Gr w h₀) (k : h₀.StaysIn s.heap) (ha : s.heap.get? a = some (listOf vs.toArray n)) (ha₀ : h₀.get? a = none) (hr : Its h₀ vs xs) (hv : Rd h₀ v (item x)) (hsd : heappushF xs x = some ys) (hlen : xs.length < 2 ^ 20)
   (hd : A.depth + 1 < recursionLimit) (hu : A.units + 16 < cLine)
   (hret : ∀ h' tk vs' n', Its h₀ vs' ys → h'.get? a = some (listOf vs'.toArray n') → (∀ b o, b ≠ a → s.heap.get? b = some o → h'.get? b = some o) → Q .none { s with heap := h', toks := tk }) :
   wpAny (model PR w) A (call (.ref 28) [.ref a, v]) Q E s := by
  k_dflt (refine' enter [(a, listOf vs.toArray n)] G k ?kN ?ko ?kc ?kr ?kb ?kl ?_ ?c1 ?c2 ?c3 ?c4; (case ko => k_is); (case kc => k_is); (case kr => omega); (case kb => exact BindsTo.of_eq rfl); (case kl => exact locs rfl); (case c1 => exact rfl); (case c2 => exact rfl); (case c3 => exact rfl); (case c4 => decide))
  · intro q hq; rcases List.mem_singleton.mp hq with rfl; exact ⟨ha, ha₀⟩
  · intro p lo me mg mb g L' h₁ tk X' T' st' gs' F' N'
    have hl := hr.1
    (try dsimp only)
    (try k_fold)
    k_steps
    constructor
    rename News _ _ _ _ => N1
    rename Fr _ _ _ _ => F1
    have e1 : vs.toArray.push v = (vs ++ [v]).toArray := by simp
    rw [e1] at N1
    refine len_U N1 (.head _) (by simp; omega) fun tL tkL => ?_
    k_steps
    constructor
    have e2 : (((vs ++ [v]).length : Int) - 1).toNat = xs.length := by simp; omega
    refine siftdown_ok G (fun b o e => F1.keep b o (st' b o e)) (N1 _ (.head _)).1 ha₀ (hr.push hv) (by rw [e2]; exact hsd) (by simp) (by simp; omega) (by simp only [depth_deeper]; omega) (by simp only [units_deeper]; omega) ?_
    intro h2 tk2 vs2 hi2 ha2 hk2
    k_steps
    exact hret _ _ _ _ hi2 ha2 fun b o hb e => hk2 b o hb (F1.keep b o (gs' b o e (by simpa using hb)))
def heappopF (xs : List D) : Option (D × List D) := match xs.getLast? with
  | none => none
  | some l => match xs.dropLast[0]? with
    | none => some (l, [])
    | some x => match su 64 (xs.dropLast.set 0 l) l 0 with
      | none => none
      | some ys => some (x, ys)
theorem heappop_ok {w : World} {A : Around} {s : Shared} {E : Value → Shared → Prop} {Q : Value → Shared → Prop} {h₀ : Heap} {a : Addr} {vs : List Value} {n : Nat} {x : D} {xs ys : List D}
   (G : Gr w h₀) (k : h₀.StaysIn s.heap) (ha : s.heap.get? a = some (listOf vs.toArray n)) (ha₀ : h₀.get? a = none) (hr : Its h₀ vs xs) (hsd : heappopF xs = some (x, ys)) (hlen : xs.length < 2 ^ 20)
   (hd : A.depth + 2 < recursionLimit) (hu : A.units + 32 < cLine)
   (hret : ∀ h' tk v vs' n', Rd h₀ v (item x) → Its h₀ vs' ys → h'.get? a = some (listOf vs'.toArray n') → (∀ b o, b ≠ a → s.heap.get? b = some o → h'.get? b = some o) → Q v { s with heap := h', toks := tk }) :
   wpAny (model PR w) A (call (.ref 35) [.ref a]) Q E s := by
  k_dflt (refine' enter [(a, listOf vs.toArray n)] G k ?kN ?ko ?kc ?kr ?kb ?kl ?_ ?c1 ?c2 ?c3 ?c4; (case ko => k_is); (case kc => k_is); (case kr => omega); (case kb => exact BindsTo.of_eq rfl); (case kl => exact locs rfl); (case c1 => exact rfl); (case c2 => exact rfl); (case c3 => exact rfl); (case c4 => decide))
  · intro q hq; rcases List.mem_singleton.mp hq with rfl; exact ⟨ha, ha₀⟩
  · intro p lo me mg mb g L' h₁ tk X' T' st' gs' F' N'
    rcases List.eq_nil_or_concat xs with rfl | ⟨xs0, l, rfl⟩
    · simp [heappopF] at hsd
    rcases List.eq_nil_or_concat vs with rfl | ⟨vs0, vl, rfl⟩
    · have := hr.1; simp at this
    simp only [List.concat_eq_append] at *
    obtain ⟨hr0, rl⟩ := hr.pop
    have hl := hr0.1
    have hlen' : xs0.length < 2 ^ 20 := by simp at hlen; omega
    have hsd' : (match xs0[0]? with | none => some (l, []) | some x => match su 64 (xs0.set 0 l) l 0 with | none => none | some ys => some (x, ys)) = some (x, ys) := by simpa [heappopF] using hsd
    (try dsimp only)
    (try k_fold)
    k_steps
    constructor
    refine kl_pop (its := (vs0 ++ [vl]).toArray) (p := vs0) (y := vl) (by assumption) (by assumption) (kpa_last _ _) (Upd.head (by simp)) (by simp; rw [sizeLine_eq]; omega) ?_
    intro h1 F1 N1
    k_steps
    constructor
    rename News _ _ _ _ => N2
    rename Fr _ _ _ _ => F2
    refine wpAny_truthy_list (items := vs0.toArray) ⟨_, (N2 _ (.head _)).1, rfl, _, rfl⟩ (by simp; omega) ?_
    cases hx0 : xs0[0]? with
    | none =>
      rw [hx0] at hsd'
      cases hsd'
      have hv0 : vs0 = [] := by
        have : xs0.length ≤ 0 := List.getElem?_eq_none_iff.mp hx0
        exact List.eq_nil_of_length_eq_zero (by omega)
      subst hv0
      k_steps
      dsimp only
      refine hret _ _ _ [] _ rl Its.nil (N2 _ (.head _)).1 fun b o hb e => F2.keep b o (gs' b o e (by simpa using hb))
    | some x0 =>
      rw [hx0] at hsd'
      dsimp only at hsd'
      cases hsu : su 64 (xs0.set 0 l) l 0 with
      | none => rw [hsu] at hsd'; cases hsd'
      | some ys' =>
      rw [hsu] at hsd'
      cases hsd'
      have hpos : 0 < xs0.length := (List.getElem?_eq_some_iff.mp hx0).1
      obtain ⟨v0, hv0, r0⟩ := hr0.get hx0
      have hne : (!vs0.toArray.isEmpty) = true := by
        cases vs0 with
        | nil => simp at hl; omega
        | cons _ _ => rfl
      rw [hne]
      k_steps
      (try constructor)
      refine get_U (by assumption) (.head _) (by omega) (by omega) hv0 ?_ (by with_unfolding_all rfl)
      k_steps
      constructor
      rename News _ _ _ _ => N3
      rename Fr _ _ _ _ => F3
      refine set_U F3 N3 (Upd.head (by simp)) (by omega) (by omega) (by omega) ?_
      intro h4 F4 N4
      k_steps
      constructor
      refine siftup_ok G (fun b o e => F4.keep b o (st' b o e)) (N4 _ (.head _)).1 ha₀ (hr0.set rl) (by simp [hpos]) hsu (by simp; omega) (by simp only [depth_deeper]; omega) (by simp only [units_deeper]; omega) ?_
      intro h5 tk5 vs5 hi5 ha5 hk5
      have F5 := fr_but F4 hk5 (N4 _ (.head _)).2.1 (N4 _ (.head _)).2.2
      have N5 := news_but N4 (by simp) hk5 ha5
      k_steps
      dsimp only
      exact hret _ _ _ _ _ r0 hi5 ha5 fun b o hb e => hk5 b o hb (F4.keep b o (gs' b o e (by simpa using hb)))
end Mine
namespace Mine
abbrev No : Value → Shared → Prop := fun _ _ => False
section
variable {prog : Program} {w : World} {A : Around} {E : Value → Shared → Prop} {R : Result → Shared → Prop} {s : Shared}
abbrev tests (ifs : List PySem.Expr) (env : Env) : Sem Bool := forIn ifs true fun c r => if r = true then do let ok ← isTrue c env (eval c env); pure (ForInStep.yield ok) else pure (ForInStep.yield r)
theorem compLoop_any {elt target iter : PySem.Expr} {ifs : List PySem.Expr} {scope : Scope} {pos : Pos} {it acc : Value} {env : Env} (I : Nat → Shared → Prop)
    (turn : ∀ n s, I n s → wpAny (model prog w) A (pyNext it) (fun r s₁ => match r with
      | none => R (.ok .next) s₁
      | some v => wpAny (model prog w) A (letOwnedTupleGo target it v) (fun _ s₁' => wpAny (model prog w) A (assign target env v) (fun _ s₂ =>
          wpAny (model prog w) A (tests ifs env) (fun ok s₃ =>
            if ok = true then wpAny (model prog w) A (eval elt env) (fun x s₄ =>
              wpAny (model prog w) A (call (.builtin "list.append") [acc, x]) (fun _ s₅ => ∃ m, m < n ∧ I m s₅) No s₄) No s₃
            else ∃ m, m < n ∧ I m s₃) No s₂) No s₁') No s₁) No s)
    (n : Nat) (h : I n s) :
    codeAny (model prog w) A (.compLoop (.ListComp elt [⟨target, iter, ifs, 0⟩] scope pos) 0 it acc env) R s := by
  refine codeAny_loop rfl I (fun n s hI => ?_) n h
  show wpAny _ A ((compTurn (.ListComp elt [⟨target, iter, ifs, 0⟩] scope pos) 0 it acc env).onRaise (fun x => do noteFrame x env; theTreesLotGoes x)) _ _ s
  refine wpAny_noted ?_
  rw [compTurn_list]
  refine wpAny_bind (wpAny_standAt (wpAny_bind (wpAny_mono (turn n s hI) (fun r s₁ h₁ => ?_) fun _ _ h' => h'.elim)))
  cases r with
  | none => exact wpAny_pure h₁
  | some v =>
    refine wpAny_bind (wpAny_mono h₁ (fun _ s₁' h₁' => ?_) fun _ _ h' => h'.elim)
    refine wpAny_bind (wpAny_mono h₁' (fun _ s₂ h₂ => wpAny_bind (wpAny_mono h₂ (fun ok s₃ h₃ => ?_) fun _ _ h' => h'.elim)) fun _ _ h' => h'.elim)
    cases ok with
    | false => exact wpAny_pure ⟨rfl, h₃⟩
    | true =>
      exact wpAny_bind (wpAny_bind (wpAny_mono h₃ (fun x s₄ h₄ => wpAny_bind (wpAny_mono h₄ (fun _ s₅ h₅ => wpAny_pure (wpAny_pure ⟨rfl, h₅⟩)) fun _ _ h' => h'.elim)) fun _ _ h' => h'.elim))
theorem forLoop_any {target : PySem.Expr} {it : Value} {body orelse : List Stmt} {env : Env} (I : Nat → Shared → Prop)
    (turn : ∀ n s, I n s → wpAny (model prog w) A (pyNext it) (fun r s₁ => match r with
      | none => wpAny (model prog w) A (execs orelse env) (fun f s₃ => R (.ok f) s₃) No s₁
      | some v => wpAny (model prog w) A (letOwnedTupleGo target it v) (fun _ s₁' =>
          wpAny (model prog w) A (assign target env v) (fun _ s₂ => wpAny (model prog w) A (execs body env) (fun f s₃ => match f with
            | .next | .cont => ∃ m, m < n ∧ I m s₃
            | .brk => R (.ok .next) s₃
            | .ret v => R (.ok (.ret v)) s₃) No s₂) No s₁') No s₁) No s)
    (n : Nat) (h : I n s) : codeAny (model prog w) A (.forLoop target it body orelse env) R s := by
  refine codeAny_forLoop_any I (fun n s hI => wpAny_mono (turn n s hI) (fun r s₁ h₁ => ?_) fun _ _ h' => h'.elim) n h
  cases r with
  | none => exact wpAny_mono h₁ (fun _ _ x => x) fun _ _ h' => h'.elim
  | some v => exact wpAny_mono h₁ (fun _ _ x => wpAny_mono x (fun _ _ y => wpAny_mono y (fun _ _ z => z) fun _ _ h' => h'.elim) fun _ _ h' => h'.elim) fun _ _ h' => h'.elim
end
section
variable {prog : Program} {w : World} {A : Around} {E : Value → Shared → Prop} {env : Env}
theorem no_succ {a b : Nat} (h : a = b + 1) (q : a < b) : False := by omega
theorem le_succ {a b : Nat} (h : a = b + 1) : b ≤ a := by omega
/-- what a comprehension's source and turn must bring -/
structure CompOk (prog : Program) (w : World) (A : Around) (env : Env) (elt target : PySem.Expr) (ifs : List PySem.Expr) (scope : Scope) (cl : List (Str × Addr)) (bound : Value → (Str → Option Value) → Prop) (dirty : List Addr)
    (I : Addr) (fp wr : List Addr) (n : Nat) (P : Nat → Value → Prop) (St : Nat → Heap → Prop) (J : List Value → List Value → Heap → Prop) (s₂ : Shared) (E : Value → Shared → Prop) (use : Option (Value → Sem Unit)) (Q : Value → Shared → Prop) : Prop where
  W : Walks prog w A I fp wr n P St
  small : n ≤ sizeLine
  st : St 0 s₂.heap
  below : ∀ b ∈ fp, b < s₂.heap.objs.size
  clean : ∀ b ∈ dirty, b ∉ fp ∧ b < s₂.heap.objs.size
  mono : ∀ us ys h h', J us ys h → h.StaysIn h' → J us ys h'
  start : J [] [] (hideAll s₂.heap wr)
  own : ∀ i v s₃ (Q' : Unit → Shared → Prop), P i v → St (i + 1) s₃.heap → Q' () s₃ → wpAny (model prog w) A (letOwnedTupleGo target (.ref I) v) Q' No s₃
  ask : ∀ C i v h₃ tk₃ m (Q' : Unit → Shared → Prop), s₂.heap.objs.size ≤ C → P i v → h₃.Ns C m → (∀ b o, b ∉ wr → b ∉ dirty → s₂.heap.get? b = some o → h₃.get? b = some o) →
    (∀ h' tk m', h'.Ns C m' → bound v m' → Heap.ExtBut C h₃ h' → Q' () { s₂ with heap := h', toks := tk }) → wpAny (model prog w) A (assign target (compEnvC scope cl C env) v) Q' No { s₂ with heap := h₃, toks := tk₃ }
  step : ∀ C D us ys v h₀ h₃ tk₃ m₃, s₂.heap.objs.size ≤ C → s₂.heap.objs.size ≤ D → D ≠ C → us.length < n → P us.length v → bound v m₃ → h₃.Ns C m₃ → J us ys h₀ → h₀.StaysIn h₃ → (∀ b ∈ D :: C :: wr, h₀.get? b = none) → (∀ b ∈ D :: C :: wr, ∃ o, h₃.get? b = some o) →
    (∀ b o, b ∉ wr → b ∉ dirty → s₂.heap.get? b = some o → h₃.get? b = some o) →
    wpAny (model prog w) A (tests ifs (compEnvC scope cl C env)) (fun ok s₄ => ∃ h₄ tk₄ m₄, s₄ = { s₂ with heap := h₄, toks := tk₄ } ∧ h₄.Ns C m₄ ∧ (∀ b o, b ≠ C → h₃.get? b = some o → h₄.get? b = some o) ∧ if ok = true then wpAny (model prog w) A (eval elt (compEnvC scope cl C env)) (fun y s₅ => ∃ h₅ tk₅ m₅, s₅ = { s₂ with heap := h₅, toks := tk₅ } ∧ h₅.Ns C m₅ ∧
      (∀ b o, b ≠ C → b ∉ dirty → h₃.get? b = some o → h₅.get? b = some o) ∧ J (us ++ [v]) (ys ++ [y]) (hideAll h₅ (D :: C :: wr))) No s₄ else J (us ++ [v]) ys (hideAll h₄ (D :: C :: wr))) No { s₂ with heap := h₃, toks := tk₃ }
  fin : ∀ D C h' tk m' us ys h₀ r, s₂.heap.get? D = none → s₂.heap.get? C = none → D ≠ C → us.length = n → (∀ (j : Nat) v, us[j]? = some v → P j v) → h'.PlainList D ys.toArray → h'.Ns C m' → J us ys h₀ → h₀.StaysIn h' → h₀.get? D = none → h₀.get? C = none →
    (∀ b o, b ∉ wr → b ∉ dirty → s₂.heap.get? b = some o → h'.get? b = some o) → compPost (model prog w) A E use Q (.ref D) C (.ok r) { s₂ with heap := h', toks := tk }
  live : ∀ i h, St i h → ∀ b ∈ wr, ∃ o, h.get? b = some o

theorem comp_go {s : Shared} {use : Option (Value → Sem Unit)} {po : Pos} {elt target iter : PySem.Expr} {ifs : List PySem.Expr} {scope : Scope} {cl : List (Str × Addr)} {pos : Pos} {Q : Value → Shared → Prop} (bound : Value → (Str → Option Value) → Prop) (dirty : List Addr)
    (hclos : closureFor scope env = pure cl) (hcell : ∀ y ∈ scope.names, y.2 ≠ .cell) (hkind : scope.kind = .function)
    (hnames : ∀ y ∈ scope.names, y.2 = .local → scope.names.lookup y.1 = some .local)
    (hs : ∀ x, foldedSetIterable iter env x = pure x)
    (h : wpAny (model prog w) A (eval iter env) (fun xv s₁ => wpAny (model prog w) A (pyIter xv) (fun it s₂ => ∃ I fp wr n P St J, it = .ref I ∧ CompOk prog w A env elt target ifs scope cl bound dirty I fp wr n P St J s₂ E use Q) E s₁) E s) :
    wpAny (model prog w) A (comprehension (.ListComp elt [⟨target, iter, ifs, 0⟩] scope pos) scope env po (newList []) false (eval iter env) use) Q E s := by
  refine wpAny_comprehension_free (use := use) rfl hs hclos hkind hnames (wpAny_mono h (fun xv s₁ h₁ => wpAny_mono h₁ (fun it s₂ h₂ => ?_) fun _ _ e => e) fun _ _ e => e)
  obtain ⟨I, fp, wr, n, P, St, J, rfl, K⟩ := h₂
  obtain ⟨W, hsz, hst, hfp, hcl, hmono, hj0, hown, hask, hstep, hfin, hlive⟩ := K
  refine wpAny_newObj_type (wpAny_newFunctionEnv hcell (by intro y hy; simp at hy) (fun h₁ hns₁ hsb₁ => ?_) hkind)
  dsimp only at hns₁ hsb₁ ⊢
  generalize hH2 : s₂.heap.push { cls := .type "list", dict := none, data := .seq ([] : List Value).toArray } = H2 at hns₁ hsb₁ ⊢
  have hC : H2.objs.size = s₂.heap.objs.size + 1 := by rw [← hH2, Heap.size_push]
  generalize hDe : s₂.heap.objs.size = D at *
  generalize hCe : H2.objs.size = C at *
  have hDC : D ≠ C := by rw [hC]; exact Nat.ne_of_lt (Nat.lt_succ_self _)
  have hltD : ∀ b o, s₂.heap.get? b = some o → b < D := fun b o e => hDe ▸ Heap.lt_size e
  have hneC : ∀ b o, s₂.heap.get? b = some o → b ≠ C := fun b o e q => no_succ hC (q ▸ hltD b o e)
  have old : ∀ b o, s₂.heap.get? b = some o → h₁.get? b = some o := fun b o e => hsb₁.extBut b o (hneC b o e) (Heap.get?_push_of_some _ (hH2 ▸ Heap.get?_push_of_some _ e))
  have hacc : h₁.PlainList D #[] := ⟨_, hsb₁.extBut _ _ hDC (Heap.get?_push_of_some _ (hH2 ▸ hDe ▸ Heap.get?_push_size _ rfl))⟩
  have hDw : D ∉ wr := fun q => Nat.lt_irrefl _ (hfp _ (W.sub _ q))
  have hCw : C ∉ wr := fun q => no_succ hC (hfp _ (W.sub _ q))
  have hDd : D ∉ dirty := fun q => Nat.lt_irrefl _ (hcl _ q).2
  have hCd : C ∉ dirty := fun q => no_succ hC (hcl _ q).2
  have hDf : D ∉ fp := fun q => Nat.lt_irrefl _ (hfp _ q)
  have hCf : C ∉ fp := fun q => no_succ hC (hfp _ q)
  have hst₁ : St 0 h₁ := W.frame _ _ _ hst fun b _ o e => old b o e
  have hDnone : s₂.heap.get? D = none := by
    cases e : s₂.heap.get? D with
    | none => rfl
    | some o => exact absurd (hltD D o e) (Nat.lt_irrefl _)
  have hCnone : s₂.heap.get? C = none := by
    cases e : s₂.heap.get? C with
    | none => rfl
    | some o => exact absurd rfl (hneC C o e)
  have loop : ∀ s₃ : Shared, s₃ = { s₂ with heap := h₁, toks := s₂.toks + ([] : List (Str × Value)).length } →
      codeAny (model prog w) A (.compLoop (.ListComp elt [⟨target, iter, ifs, 0⟩] scope pos) 0 (.ref I) (.ref D) (compEnvC scope cl C env)) (compPost (model prog w) A E use Q (.ref D) C) s₃ := by
    rintro s₃ rfl
    refine compLoop_any
      (fun k s' => ∃ h' tk m' ys us h₀, s' = { s₂ with heap := h', toks := tk } ∧ St us.length h' ∧ h'.PlainList D ys.toArray ∧ h'.Ns C m' ∧ us.length ≤ n ∧ k = n + 1 - us.length ∧ (∀ (j : Nat) v, us[j]? = some v → P j v) ∧ ys.length ≤ us.length ∧
        h₀.StaysIn h' ∧ (∀ b ∈ D :: C :: wr, h₀.get? b = none) ∧ J us ys h₀ ∧ (∀ b o, b ∉ wr → b ∉ dirty → s₂.heap.get? b = some o → h'.get? b = some o)) ?_ (n + 1)
      ⟨h₁, _, _, [], [], hideAll s₂.heap wr, rfl, hst₁, hacc, hns₁, Nat.zero_le _, rfl, by simp, Nat.le_refl _, fun b o e => old b o (of_hideAll _ e), ?_, hj0, fun b o _ _ e => old b o e⟩
    · rintro k s' ⟨h', tk, m', ys, us, h₀, rfl, hst', hl', hn', hle, rfl, hP, hyl, hs0, hno, hJ, hk⟩
      by_cases hlt : us.length < n
      · refine W.item us.length _ _ _ hlt hst' fun v hA tkA hPv hstA hkA => ?_
        refine hown us.length v _ _ hPv hstA ?_
        have nA := hn'.at' fun o e => hkA C o hCw e
        refine hask C us.length v hA tkA m' _ (le_succ hC) hPv nA (fun b o hw hd e => hkA b o hw (hk b o hw hd e)) fun hB tkB mB nB hb sB => ?_
        have kB : ∀ b o, b ≠ C → hA.get? b = some o → hB.get? b = some o := fun b o hb e => sB b o hb e
        have keepB : ∀ b o, b ≠ C → b ∉ wr → h'.get? b = some o → hB.get? b = some o := fun b o hb hw e => kB b o hb (hkA b o hw e)
        have s0B : h₀.StaysIn hB := fun b o e => keepB b o (fun q => by rw [q, hno C (.tail _ (.head _))] at e; cases e) (fun q => by rw [hno b (.tail _ (.tail _ q))] at e; cases e) (hs0 b o e)
        have stB : St (us.length + 1) hB := W.frame _ _ _ hstA fun b hb o e => kB b o (fun q => hCf (q ▸ hb)) e
        obtain ⟨nD, eD⟩ := hl'
        have liveB : ∀ b ∈ D :: C :: wr, ∃ o, hB.get? b = some o := by
          intro b hb'
          rcases List.mem_cons.mp hb' with rfl | hb'
          · exact ⟨_, keepB _ _ hDC hDw eD⟩
          rcases List.mem_cons.mp hb' with rfl | hb'
          · obtain ⟨o, es, ep, ho, _⟩ := nB; exact ⟨o, ho⟩
          · exact hlive _ _ stB b hb'
        have oldB : ∀ b o, b ∉ wr → b ∉ dirty → s₂.heap.get? b = some o → hB.get? b = some o := fun b o hw hd e => keepB b o (hneC b o e) hw (hk b o hw hd e)
        refine wpAny_mono (hstep C D us ys v h₀ hB tkB mB (le_succ hC) (Nat.le_refl _) hDC hlt hPv hb nB hJ s0B hno liveB oldB) (fun ok s₄ h₄ => ?_) fun _ _ e => e
        obtain ⟨hE, tkE, mE, rfl, nE, kE, hrest⟩ := h₄
        have hP' : ∀ (j : Nat) u, (us ++ [v])[j]? = some u → P j u := fun j u hj => by
          rcases Nat.lt_trichotomy j us.length with h | h | h
          · exact hP j u (by rwa [List.getElem?_append_left h] at hj)
          · subst h; simp at hj; subst hj; exact hPv
          · rw [List.getElem?_eq_none (by rw [List.length_append, List.length_singleton]; omega)] at hj; cases hj
        have hlen : (us ++ [v]).length = us.length + 1 := by simp
        cases ok with
        | false =>
          simp only [Bool.false_eq_true, if_false] at hrest ⊢
          refine ⟨n + 1 - (us ++ [v]).length, by rw [hlen]; omega, hE, tkE, mE, ys, us ++ [v], _, rfl, ?_, ⟨nD, kE _ _ hDC (keepB _ _ hDC hDw eD)⟩, nE, by omega, rfl, hP', by omega, fun b o e => of_hideAll _ e, fun b hb => hideAll_none _ hb, hrest, fun b o hw hd e => kE b o (hneC b o e) (oldB b o hw hd e)⟩
          rw [hlen]; exact W.frame _ _ _ stB fun b hb o e => kE b o (fun q => hCf (q ▸ hb)) e
        | true =>
          simp only [if_true] at hrest ⊢
          refine wpAny_mono hrest (fun y s₅ h₅ => ?_) fun _ _ e => e
          obtain ⟨hG, tkG, mG, rfl, nG, kG, hJ'⟩ := h₅
          have lD : hG.PlainList D ys.toArray := ⟨nD, kG _ _ hDC hDd (keepB _ _ hDC hDw eD)⟩
          refine wpAny_list_append_plain (hsz := by simp; omega) lD fun hH lH sH => ?_
          have kH : ∀ b o, b ≠ D → hG.get? b = some o → hH.get? b = some o := fun b o hb e => sH.extBut b o hb e
          have e1 : ys.toArray.push y = (ys ++ [y]).toArray := by simp
          rw [e1] at lH
          refine ⟨n + 1 - (us ++ [v]).length, by rw [hlen]; omega, hH, tkG, mG, ys ++ [y], us ++ [v], _, rfl, ?_, lH, ?_, by omega, rfl, hP', by simp; omega, fun b o e => kH b o (fun q => by rw [q, hideAll_none _ (.head _)] at e; cases e) (of_hideAll _ e), fun b hb => hideAll_none _ hb, hJ', fun b o hw hd e => kH b o (fun q => by rw [q, hDnone] at e; cases e) (kG b o (hneC b o e) hd (oldB b o hw hd e))⟩
          · rw [hlen]; exact W.frame _ _ _ stB fun b hb o e => kH b o (fun q => hDf (q ▸ hb)) (kG b o (fun q => hCf (q ▸ hb)) (fun q => (hcl b q).1 hb) e)
          · exact nG.at' fun o e => kH C o (Ne.symm hDC) e
      · have hin : us.length = n := by omega
        refine W.done _ _ _ (hin ▸ hst') fun hA tkA hkA => ?_
        have nA := hn'.at' fun o e => hkA C o hCw e
        have kA : ∀ b o, b ∉ wr → h'.get? b = some o → hA.get? b = some o := fun b o hw e => hkA b o hw e
        exact hfin D C hA tkA m' us ys h₀ _ hDnone hCnone hDC hin hP (hl'.at fun o e => kA D o hDw e) nA hJ (fun b o e => kA b o (fun q => by rw [hno b (.tail _ (.tail _ q))] at e; cases e) (hs0 b o e)) (hno D (.head _)) (hno C (.tail _ (.head _))) fun b o hw hd e => kA b o hw (hk b o hw hd e)
    · intro b hb
      rcases List.mem_cons.mp hb with rfl | hb
      · cases e : (hideAll s₂.heap wr).get? b with
        | none => rfl
        | some o => rw [of_hideAll _ e] at hDnone; cases hDnone
      rcases List.mem_cons.mp hb with rfl | hb
      · cases e : (hideAll s₂.heap wr).get? b with
        | none => rfl
        | some o => rw [of_hideAll _ e] at hCnone; cases hCnone
      · exact hideAll_none _ hb
  exact codeAny_compStart_list (loop _ rfl) (W.self 0 _ _ _ hst₁ (loop _ rfl))
end
end Mine
namespace Mine
section
variable {prog : Program} {w : World} {A : Around} {E : Value → Shared → Prop} {env : Env}
theorem lt_of_size {a b c : Nat} (h : a = b + 1) (q : a ≤ c) : b < c := by omega
theorem le_of_size {a b c : Nat} (h : a = b + 1) (q : a ≤ c) : b ≤ c := by omega
/-- iter(xv) makes one new object, an iterator of class c that hands out n values -/
def Gives (prog : Program) (w : World) (A : Around) (c : String) (xv : Value) (src : List Addr) (n : Nat) (P : Nat → Value → Prop) (s₁ : Shared) : Prop :=
  ∀ (Q : Value → Shared → Prop) (E : Value → Shared → Prop), (∀ St h₂, s₁.heap.StaysIn h₂ → h₂.objs.size = s₁.heap.objs.size + 1 → Walks prog w A s₁.heap.objs.size (s₁.heap.objs.size :: src) [s₁.heap.objs.size] n P St → St 0 h₂ →
    (∀ i h, St i h → ∃ o, h.get? s₁.heap.objs.size = some o ∧ o.cls = .type c) → Q (.ref s₁.heap.objs.size) { s₁ with heap := h₂ }) → wpAny (model prog w) A (pyIter xv) Q E s₁
theorem gives_list {s₁ : Shared} {ax : Addr} {items : Array Value} (hh : A.handled = none) (hl : s₁.heap.IsList ax items) : Gives prog w A "list_iterator" (.ref ax) [ax] items.size (fun i v => items[i]? = some v) s₁ := by
  intro Q E h
  have hne : ax ≠ s₁.heap.objs.size := by obtain ⟨o, ho, _⟩ := hl; exact Nat.ne_of_lt (Heap.lt_size ho)
  refine wpAny_pyIter_list hl (h _ _ (fun b o e => Heap.get?_push_of_some _ e) (Heap.size_push ..) (Walks.list hh _ ax hne items) ⟨⟨_, Heap.get?_push_size _ rfl, rfl, rfl⟩, hl.at fun o e => Heap.get?_push_of_some _ e⟩ ?_)
  rintro i h ⟨⟨o, ho, hc, _⟩, _⟩
  exact ⟨o, ho, hc⟩
theorem gives_range {s₁ : Shared} {r : Addr} {a₀ b₀ : Int} {t₀ u₀ v₀ : Tok} {n : Nat} (hh : A.handled = none) (hr : IsRange s₁.heap r a₀ b₀ 1 t₀ u₀ v₀) (hsmall : Builtin.Range.small a₀ b₀ 1 = true) (hsz : Builtin.Range.rangeSize a₀ b₀ 1 = (n : Int)) :
    Gives prog w A "range_iterator" (.ref r) [] n (fun i v => ∃ t, v = .int (a₀ + i) t) s₁ := by
  intro Q E h
  refine wpAny_pyIter_range hr hsmall (h (fun i h => IsRangeIter h s₁.heap.objs.size (a₀ + (i : Nat) * 1) ((n : Int) - (i : Nat)) 1) _ (fun b o e => Heap.get?_push_of_some _ e) (Heap.size_push ..) ?_ ?_ ?_)
  · have W := Walks.range (prog := prog) (w := w) hh s₁.heap.objs.size a₀ 1 n
    simpa using W
  · show IsRangeIter _ _ _ _ _; rw [hsz]; simpa using Heap.get?_push_size _ rfl
  · intro i h hi
    exact ⟨_, hi, rfl⟩

structure CompU (prog : Program) (w : World) (A : Around) (env : Env) (elt target : PySem.Expr) (ifs : List PySem.Expr) (scope : Scope) (cl : List (Str × Addr)) (bound : Value → (Str → Option Value) → Prop) (dirty : List Addr)
    (c : String) (xv : Value) (src : List Addr) (n : Nat) (P : Nat → Value → Prop) (J : Nat → List Value → Heap → Prop) (s₁ : Shared) (Q : Value → Shared → Prop) : Prop where
  gives : Gives prog w A c xv src n P s₁
  small : n ≤ sizeLine
  below : ∀ b ∈ src, b < s₁.heap.objs.size ∧ b ∉ dirty
  clean : ∀ b ∈ dirty, b < s₁.heap.objs.size
  mono : ∀ i ys h h', J i ys h → h.StaysIn h' → J i ys h'
  start : J 0 [] s₁.heap
  own : ∀ i v s₃ o (Q' : Unit → Shared → Prop), P i v → s₃.heap.get? s₁.heap.objs.size = some o → o.cls = .type c → Q' () s₃ → wpAny (model prog w) A (letOwnedTupleGo target (.ref s₁.heap.objs.size) v) Q' No s₃
  ask : ∀ C i v h₃ tk₃ m (Q' : Unit → Shared → Prop), s₁.heap.objs.size ≤ C → P i v → h₃.Ns C m → (∀ b o, b ∉ dirty → s₁.heap.get? b = some o → h₃.get? b = some o) →
    (∀ h' tk m', h'.Ns C m' → bound v m' → Heap.ExtBut C h₃ h' → Q' () { s₁ with heap := h', toks := tk }) → wpAny (model prog w) A (assign target (compEnvC scope cl C env) v) Q' No { s₁ with heap := h₃, toks := tk₃ }
  step : ∀ C D i ys v h₀ h₃ tk₃ m₃, s₁.heap.objs.size < C → s₁.heap.objs.size < D → D ≠ C → i < n → P i v → bound v m₃ → h₃.Ns C m₃ → J i ys h₀ → h₀.StaysIn h₃ → (∀ b ∈ [D, C, s₁.heap.objs.size], h₀.get? b = none) → (∀ b ∈ [D, C, s₁.heap.objs.size], ∃ o, h₃.get? b = some o) →
    (∀ b o, b ∉ dirty → s₁.heap.get? b = some o → h₃.get? b = some o) →
    wpAny (model prog w) A (tests ifs (compEnvC scope cl C env)) (fun ok s₄ => ∃ h₄ tk₄ m₄, s₄ = { s₁ with heap := h₄, toks := tk₄ } ∧ h₄.Ns C m₄ ∧ (∀ b o, b ≠ C → h₃.get? b = some o → h₄.get? b = some o) ∧ if ok = true then wpAny (model prog w) A (eval elt (compEnvC scope cl C env)) (fun y s₅ => ∃ h₅ tk₅ m₅, s₅ = { s₁ with heap := h₅, toks := tk₅ } ∧ h₅.Ns C m₅ ∧
      (∀ b o, b ≠ C → b ∉ dirty → h₃.get? b = some o → h₅.get? b = some o) ∧ J (i + 1) (ys ++ [y]) (hideAll h₅ [D, C, s₁.heap.objs.size])) No s₄ else J (i + 1) ys (hideAll h₄ [D, C, s₁.heap.objs.size])) No { s₁ with heap := h₃, toks := tk₃ }
  fin : ∀ D h' tk ys h₀, s₁.heap.get? D = none → h'.PlainList D ys.toArray → J n ys h₀ → h₀.StaysIn h' → h₀.get? D = none →
    (∀ b o, b ∉ dirty → s₁.heap.get? b = some o → h'.get? b = some o) → Q (.ref D) { s₁ with heap := h', toks := tk }

theorem comp_src {s : Shared} {elt target iter : PySem.Expr} {ifs : List PySem.Expr} {scope : Scope} {cl : List (Str × Addr)} {pos : Pos} {Q : Value → Shared → Prop} (bound : Value → (Str → Option Value) → Prop) (dirty : List Addr)
    (hclos : closureFor scope env = pure cl) (hcell : ∀ y ∈ scope.names, y.2 ≠ .cell) (hkind : scope.kind = .function)
    (hnames : ∀ y ∈ scope.names, y.2 = .local → scope.names.lookup y.1 = some .local)
    (hs : ∀ x, foldedSetIterable iter env x = pure x)
    (h : wpAny (model prog w) A (eval iter env) (fun xv s₁ => Hold (∃ c src n P J, CompU prog w A env elt target ifs scope cl bound dirty c xv src n P J s₁ Q)) E s) :
    wpAny (model prog w) A (eval (.ListComp elt [⟨target, iter, ifs, 0⟩] scope pos) env) Q E s := by
  rw [eval_ListComp]
  refine comp_go (use := none) bound dirty hclos hcell hkind hnames hs (wpAny_mono h (fun xv s₁ h₁ => ?_) fun _ _ e => e)
  obtain ⟨c, src, n, P, J, K⟩ := h₁.out
  obtain ⟨hg, hsz, hb, hcl, hmono, hj0, hown, hask, hstep, hfin⟩ := K
  refine hg _ _ fun St h₂ k₂ z₂ W st live => ?_
  have hI : s₁.heap.get? s₁.heap.objs.size = none := by
    cases e : s₁.heap.get? s₁.heap.objs.size with
    | none => rfl
    | some o => exact absurd (Heap.lt_size e) (Nat.lt_irrefl _)
  have hId : s₁.heap.objs.size ∉ dirty := fun q => Nat.lt_irrefl _ (hcl _ q)
  have hk : ∀ {h₃ : Heap}, (∀ b o, b ∉ [s₁.heap.objs.size] → b ∉ dirty → h₂.get? b = some o → h₃.get? b = some o) → ∀ b o, b ∉ dirty → s₁.heap.get? b = some o → h₃.get? b = some o :=
    fun k b o hd e => k b o (fun q => by rw [List.mem_singleton.mp q, hI] at e; cases e) hd (k₂ b o e)
  refine ⟨_, _, _, n, P, St, fun us ys h => J us.length ys h, rfl, ⟨W, hsz, st, ?_, ?_, fun us ys h h' => hmono _ ys h h', ?_, ?_, ?_, ?_, ?_, ?_⟩⟩
  · intro b hb'
    show b < h₂.objs.size
    rw [z₂]
    rcases List.mem_cons.mp hb' with rfl | hb'
    · exact Nat.lt_succ_self _
    · exact Nat.lt_succ_of_lt (hb b hb').1
  · intro b hb'
    refine ⟨fun q => ?_, by show b < h₂.objs.size; rw [z₂]; exact Nat.lt_succ_of_lt (hcl b hb')⟩
    rcases List.mem_cons.mp q with rfl | q
    · exact Nat.lt_irrefl _ (hcl _ hb')
    · exact (hb b q).2 hb'
  · exact hmono 0 [] _ _ hj0 fun b o e => hideAll_get _ (k₂ b o e) fun q => by rw [List.mem_singleton.mp q, hI] at e; cases e
  · intro i v s₃ Q' hP hs' hq
    obtain ⟨o, ho, hc⟩ := live _ _ hs'
    exact hown i v s₃ o Q' hP ho hc hq
  · intro C i v h₃ tk₃ m Q' hC hP hn hk' hq
    refine hask C i v h₃ tk₃ m Q' (le_of_size z₂ hC) hP hn (hk hk') hq
  · intro C D us ys v h₀ h₃ tk₃ m₃ hC hD hDC hlt hP hb' hn hJ hst hno hli hk'
    have hC' : s₁.heap.objs.size < C := lt_of_size z₂ hC
    have hD' : s₁.heap.objs.size < D := lt_of_size z₂ hD
    have := hstep C D us.length ys v h₀ h₃ tk₃ m₃ hC' hD' hDC hlt hP hb' hn hJ hst hno hli (hk hk')
    simpa using this
  · intro D C h' tk m' us ys h₀ r hD hC hDC hl hP hp hn hJ hst hno hnoC hk'
    refine ⟨m', hn, fun hB sB => ?_⟩
    have kB : ∀ b o, b ≠ C → h'.get? b = some o → hB.get? b = some o := fun b o hb e => sB.extBut b o hb e
    refine hfin D hB tk ys h₀ ?_ (hp.at fun o e => kB D o hDC e) (hl ▸ hJ) (fun b o e => kB b o (fun q => by rw [q, hnoC] at e; cases e) (hst b o e)) hno (hk fun b o hw hd e => kB b o (fun q => by rw [q, hC] at e; cases e) (hk' b o hw hd e))
    cases e : s₁.heap.get? D with
    | none => rfl
    | some o => have := k₂ _ _ e; rw [hD] at this; cases this
  · intro i h hs' b hb'
    rw [List.mem_singleton.mp hb']
    obtain ⟨o, ho, _⟩ := live _ _ hs'
    exact ⟨o, ho⟩
end
end Mine
namespace Mine
section
variable {prog : Program} {w : World} {A : Around} {E : Value → Shared → Prop} {env : Env}
theorem own_name {x : Str} {px : Pos} {it v : Value} {s₃ : Shared} {Q' : Unit → Shared → Prop} (h : Q' () s₃) : wpAny (model prog w) A (letOwnedTupleGo (.Name x px) it v) Q' No s₃ := wpAny_pure h
theorem ask_name {x : Str} {px : Pos} {scope : Scope} {cl : List (Str × Addr)} {C : Addr} {v : Value} {h₃ : Heap} {m : Str → Option Value} {s₁ : Shared} {tk₃ : Nat} {Q' : Unit → Shared → Prop} (hx : scope.names.lookup x = some .local) (hkind : scope.kind = .function) (hn : h₃.Ns C m)
    (h : ∀ h' tk m', h'.Ns C m' → m' x = some v → Heap.ExtBut C h₃ h' → Q' () { s₁ with heap := h', toks := tk }) : wpAny (model prog w) A (assign (.Name x px) (compEnvC scope cl C env) v) Q' No { s₁ with heap := h₃, toks := tk₃ } :=
  wpAny_assign_Name (wpAny_storeName_local (lookup_relabel_local hx) hn (fun h' hn' hs' => h h' _ _ hn' (by simp) hs'.extBut) (by simp [compEnvC, relabel, hkind]))
theorem name_C {M : Model} {base : Heap} {C : Addr} {m : Str → Option Value} {s : Shared} {scope : Scope} {cl : List (Str × Addr)} {x : Str} {pos : Pos} {v : Value} {Q : Value → Shared → Prop} (F : Fr base C s.heap m) (hv : m x = some v) (h : Q v s)
    (hk : scope.kind = .function) (hl : (compEnvC scope cl C env).kindOf x = some .local) (hd : (x == ("__debug__" : Str)) = false) : wpAny M A (eval (.Name x pos) (compEnvC scope cl C env)) Q E s := wpAny_Name (wpAny_loadName_local hk hl F.ns hv h) hd
theorem ints_of : ∀ {ps : List Int} {h : Heap} {l : List Value} {as : List Addr}, ReadsAll h l (ps.map .int) as → IntsAre l ps
  | [], _, _, _, .nil => .nil
  | _ :: ps, _, _, _, .cons (.int _ _) r => .cons _ _ (ints_of (ps := ps) r)
theorem Rd.ints {h : Heap} {v : Value} {ps : List Int} (r : Rd h v (.list (ps.map .int))) : ∃ l its, v = .ref l ∧ h.IsList l its ∧ IntsAre its.toList ps := by
  obtain ⟨as, q⟩ := r
  cases q with
  | list ho hc hd' ra => exact ⟨_, _, rfl, ⟨_, ho, hc, _, hd'⟩, ints_of ra⟩
/-- everything else that stands, as a ledger -/
theorem all_news {base h : Heap} {C : Addr} {m : Str → Option Value} (F : Fr base C h m) : ∃ imm, News base C h imm ∧ ∀ h' m', Fr base C h' m' → News base C h' imm → ∀ b o, b ≠ C → h.get? b = some o → h'.get? b = some o := by
  refine ⟨(List.range h.objs.size).filterMap fun b => if b = C then none else match base.get? b with | some _ => none | none => (h.get? b).map fun o => (b, o), ?_, ?_⟩
  · intro p hp
    obtain ⟨b, _, hb⟩ := List.mem_filterMap.mp hp
    by_cases hC : b = C
    · rw [if_pos hC] at hb; cases hb
    · rw [if_neg hC] at hb
      cases e : base.get? b with
      | some o => rw [e] at hb; cases hb
      | none =>
        rw [e] at hb
        cases e2 : h.get? b with
        | none => rw [e2] at hb; cases hb
        | some o => rw [e2] at hb; cases hb; exact ⟨e2, hC, e⟩
  · intro h' m' F' N' b o hC e
    cases e2 : base.get? b with
    | some o' => have := F.keep b o' e2; rw [e] at this; cases this; exact F'.keep b _ e2
    | none =>
      refine (N' (b, o) (List.mem_filterMap.mpr ⟨b, List.mem_range.mpr (Heap.lt_size e), ?_⟩)).1
      rw [if_neg hC, e2, e]; rfl

/-- the end of a comprehension's turn that keeps all -/
def Fin (base : Heap) (C : Addr) (imm : List (Addr × Obj)) (s₁ : Shared) (P : Prop) (s' : Shared) : Prop :=
  ∃ h' tk' m', s' = { s₁ with heap := h', toks := tk' } ∧ Fr base C h' m' ∧ News base C h' imm ∧ P
theorem Fin.mk {base h' : Heap} {C : Addr} {imm imm' : List (Addr × Obj)} {s₁ : Shared} {P : Prop} {tk' : Nat} {m' : Str → Option Value} (F : Fr base C h' m') (N : News base C h' imm') (hs : ∀ p ∈ imm, p ∈ imm') (p : P) : Fin base C imm s₁ P { s₁ with heap := h', toks := tk' } :=
  ⟨h', tk', m', rfl, F, fun q hq => N q (hs q hq), p⟩
structure CompP (prog : Program) (w : World) (A : Around) (env : Env) (elt : PySem.Expr) (x : Str) (ifs : List PySem.Expr) (scope : Scope) (cl : List (Str × Addr))
    (c : String) (xv : Value) (src : List Addr) (n : Nat) (P : Nat → Value → Prop) (K : Nat → List Value → Prop) (s₁ : Shared) (Q : Value → Shared → Prop) : Prop where
  gives : Gives prog w A c xv src n P s₁
  small : n ≤ sizeLine
  below : ∀ b ∈ src, b < s₁.heap.objs.size
  start : K 0 []
  step : ∀ C i ys v h₃ tk₃ m₃ imm, i < n → P i v → m₃ x = some v → K i ys → Fr s₁.heap C h₃ m₃ → News s₁.heap C h₃ imm →
    wpAny (model prog w) A (tests ifs (compEnvC scope cl C env)) (fun ok s₄ => if ok = true then Hold (Fin s₁.heap C imm s₁ True s₄) ∧ wpAny (model prog w) A (eval elt (compEnvC scope cl C env)) (fun y s₅ => Hold (Fin s₁.heap C imm s₁ (K (i + 1) (ys ++ [y])) s₅)) No s₄ else Hold (Fin s₁.heap C imm s₁ (K (i + 1) ys) s₄)) No { s₁ with heap := h₃, toks := tk₃ }
  fin : ∀ D h' tk ys, s₁.heap.get? D = none → h'.PlainList D ys.toArray → K n ys → s₁.heap.StaysIn h' → Q (.ref D) { s₁ with heap := h', toks := tk }
theorem comp_pure {s : Shared} {elt iter : PySem.Expr} {x : Str} {px : Pos} {ifs : List PySem.Expr} {scope : Scope} {cl : List (Str × Addr)} {pos : Pos} {Q : Value → Shared → Prop}
    (hclos : closureFor scope env = pure cl) (hcell : ∀ y ∈ scope.names, y.2 ≠ .cell) (hkind : scope.kind = .function)
    (hnames : ∀ y ∈ scope.names, y.2 = .local → scope.names.lookup y.1 = some .local) (hx : scope.names.lookup x = some .local)
    (hs : ∀ x, foldedSetIterable iter env x = pure x)
    (h : wpAny (model prog w) A (eval iter env) (fun xv s₁ => Hold (∃ c src n P K, CompP prog w A env elt x ifs scope cl c xv src n P K s₁ Q)) E s) :
    wpAny (model prog w) A (eval (.ListComp elt [⟨.Name x px, iter, ifs, 0⟩] scope pos) env) Q E s := by
  refine comp_src (fun v m => m x = some v) [] hclos hcell hkind hnames hs (wpAny_mono h (fun xv s₁ h₁ => ?_) fun _ _ e => e)
  obtain ⟨c, src, n, P, K, hg, hsz, hb, hj0, hstep, hfin⟩ := h₁.out
  refine ⟨c, src, n, P, fun i ys _ => K i ys, ⟨hg, hsz, fun b q => ⟨hb b q, fun z => nomatch z⟩, (fun _ z => nomatch z), fun _ _ _ _ k _ => k, hj0, fun _ _ _ _ _ _ _ _ hq => own_name hq, fun C i v h₃ tk₃ m Q' _ _ hn _ hq => ask_name hx hkind hn hq, ?_, ?_⟩⟩
  · intro C D i ys v h₀ h₃ tk₃ m₃ hC hD hDC hlt hP hm hn hK hst hno hli hk
    have F : Fr s₁.heap C h₃ m₃ := ⟨hn, fun b o e => hk b o (fun z => nomatch z) e, Nat.le_of_lt hC⟩
    obtain ⟨imm, N, keep⟩ := all_news F
    refine wpAny_mono (hstep C i ys v h₃ tk₃ m₃ imm hlt hP hm hK F N) (fun ok s₄ h₄ => ?_) fun _ _ e => e
    cases ok with
    | false =>
      simp only [Bool.false_eq_true, if_false] at h₄ ⊢
      obtain ⟨h', tk', m', rfl, F', N', p⟩ := h₄.out
      exact ⟨h', tk', m', rfl, F'.ns, keep h' m' F' N', p⟩
    | true =>
      simp only [if_true] at h₄ ⊢
      obtain ⟨⟨h', tk', m', rfl, F', N', _⟩, hrest⟩ := h₄
      refine ⟨h', tk', m', rfl, F'.ns, keep h' m' F' N', wpAny_mono hrest (fun y s₅ h₅ => ?_) fun _ _ e => e⟩
      obtain ⟨h'', tk'', m'', rfl, F'', N'', p⟩ := h₅.out
      refine ⟨h'', tk'', m'', rfl, F''.ns, fun b o hb _ e => keep h'' m'' F'' N'' b o hb e, p⟩
  · intro D h' tk ys h₀ hD hl hK _ _ hk
    exact hfin D h' tk ys hD hl hK fun b o e => hk b o (fun z => nomatch z) e
end
end Mine
namespace Mine
section
variable {prog : Program} {w : World} {A : Around} {E : Value → Shared → Prop} {env : Env}
/-- a turn's end -/
def Turn (base : Heap) (L : Addr) (src : List Addr) (s₁ : Shared) (oI : Obj) (h : Heap) (J : (Str → Option Value) → List (Addr × Obj) → Prop) (s' : Shared) : Prop :=
  ∃ h' tk' m' nx, s' = { s₁ with heap := h', toks := tk' } ∧ Fr base L h' m' ∧ News base L h' ((s₁.heap.objs.size, oI) :: nx) ∧ (∀ p ∈ nx, p.1 ≠ s₁.heap.objs.size) ∧ (∀ b ∈ src, ∀ o, h.get? b = some o → h'.get? b = some o) ∧ J m' nx
structure ForU (prog : Program) (w : World) (A : Around) (env : Env) (target : PySem.Expr) (body : List Stmt) (base : Heap) (L : Addr)
    (c : String) (xv : Value) (src : List Addr) (n : Nat) (P : Nat → Value → Prop) (J : Nat → (Str → Option Value) → List (Addr × Obj) → Prop) (s₁ : Shared) (Q : Flow → Shared → Prop) : Prop where
  gives : Gives prog w A c xv src n P s₁
  start : ∃ m nx, Fr base L s₁.heap m ∧ News base L s₁.heap nx ∧ J 0 m nx
  own : ∀ i v s₃ o (Q' : Unit → Shared → Prop), P i v → s₃.heap.get? s₁.heap.objs.size = some o → o.cls = .type c → Q' () s₃ → wpAny (model prog w) A (letOwnedTupleGo target (.ref s₁.heap.objs.size) v) Q' No s₃
  turn : ∀ i v m nx h tk oI, i < n → P i v → J i m nx → Fr base L h m → News base L h ((s₁.heap.objs.size, oI) :: nx) → (∀ p ∈ nx, p.1 ≠ s₁.heap.objs.size) →
    wpAny (model prog w) A (assign target env v) (fun _ s₂ => wpAny (model prog w) A (execs body env) (fun f s₃ => match f with
      | .next | .cont => Hold (Turn base L src s₁ oI h (J (i + 1)) s₃)
      | .brk => Q .next s₃
      | .ret v => Q (.ret v) s₃) No s₂) No { s₁ with heap := h, toks := tk }
  done : ∀ m nx h tk, J n m nx → Fr base L h m → News base L h nx → Q .next { s₁ with heap := h, toks := tk }

theorem for_src {s : Shared} {target iter : PySem.Expr} {body : List Stmt} {pos : Pos} {Q : Flow → Shared → Prop} (base : Heap) (L : Addr)
    (hs : ∀ x, foldedSetIterable iter env x = pure x)
    (h : wpAny (model prog w) A (eval iter env) (fun xv s₁ => Hold (∃ c src n P J, ForU prog w A env target body base L c xv src n P J s₁ Q)) No s) :
    wpAny (model prog w) A (exec (.For target iter body [] pos) env) Q No s := by
  refine wpAny_For (wpAny_mono h (fun xv s₁ h₁ => ?_) fun _ _ e => e) hs
  obtain ⟨c, src, n, P, J, hg, ⟨m₀, nx₀, F₀, N₀, hJ₀⟩, hown, hturn, hdone⟩ := h₁.out
  refine hg _ _ fun St h₂ k₂ z₂ W st live => ?_
  have hI : s₁.heap.get? s₁.heap.objs.size = none := by
    cases e : s₁.heap.get? s₁.heap.objs.size with
    | none => rfl
    | some o => exact absurd (Heap.lt_size e) (Nat.lt_irrefl _)
  have hbI : base.get? s₁.heap.objs.size = none := by
    cases e : base.get? s₁.heap.objs.size with
    | none => rfl
    | some o => have := F₀.keep _ _ e; rw [hI] at this; cases this
  have hLI : L ≠ s₁.heap.objs.size := Nat.ne_of_lt F₀.ns.lt
  have hn₀ : ∀ p ∈ nx₀, p.1 ≠ s₁.heap.objs.size := fun p hp q => by have := (N₀ p hp).1; rw [q, hI] at this; cases this
  refine forLoop_any (fun k s' => ∃ i h tk m nx, s' = { s₁ with heap := h, toks := tk } ∧ i ≤ n ∧ k = n + 1 - i ∧ St i h ∧ Fr base L h m ∧ News base L h nx ∧ J i m nx ∧ ∀ p ∈ nx, p.1 ≠ s₁.heap.objs.size) ?_ (n + 1)
    ⟨0, h₂, _, m₀, nx₀, rfl, Nat.zero_le _, rfl, st, fr_keeps F₀ k₂, news_keeps N₀ k₂, hJ₀, hn₀⟩
  rintro k s' ⟨i, h, tk, m, nx, rfl, hle, rfl, hst, F, N, hJ, hne⟩
  by_cases hlt : i < n
  · refine W.item i _ _ _ hlt hst fun v hA tkA hPv hstA hkA => ?_
    obtain ⟨oI, hoI, hc⟩ := live _ _ hstA
    have kA : ∀ b o, b ≠ s₁.heap.objs.size → h.get? b = some o → hA.get? b = some o := fun b o hb e => hkA b o (fun q => hb (List.mem_singleton.mp q)) e
    refine hown i v _ oI _ hPv hoI hc ?_
    have FA : Fr base L hA m := fr_but F kA (Ne.symm hLI) hbI
    have NA : News base L hA ((s₁.heap.objs.size, oI) :: nx) := by
      intro p hp
      rcases List.mem_cons.mp hp with rfl | hp
      · exact ⟨hoI, Ne.symm hLI, hbI⟩
      · exact ⟨kA _ _ (hne p hp) (N p hp).1, (N p hp).2⟩
    refine wpAny_mono (hturn i v m nx hA tkA oI hlt hPv hJ FA NA hne) (fun _ s₂ h₂ => wpAny_mono h₂ (fun f s₃ h₃ => ?_) fun _ _ e => e) fun _ _ e => e
    have fin : Hold (Turn base L src s₁ oI hA (J (i + 1)) s₃) → ∃ m', m' < n + 1 - i ∧ ∃ i h tk m nx, s₃ = { s₁ with heap := h, toks := tk } ∧ i ≤ n ∧ m' = n + 1 - i ∧ St i h ∧ Fr base L h m ∧ News base L h nx ∧ J i m nx ∧ ∀ p ∈ nx, p.1 ≠ s₁.heap.objs.size := by
      rintro ⟨h', tk', m', nx', rfl, F', N', hne', hsrc, hJ'⟩
      refine ⟨n + 1 - (i + 1), by omega, i + 1, h', tk', m', nx', rfl, hlt, rfl, W.frame _ _ _ hstA fun b hb o e => ?_, F', fun p hp => N' p (.tail _ hp), hJ', hne'⟩
      rcases List.mem_cons.mp hb with rfl | hb
      · rw [hoI] at e; cases e; exact (N' _ (.head _)).1
      · exact hsrc b hb o e
    cases f with
    | next => exact fin h₃
    | cont => exact fin h₃
    | brk => exact h₃
    | ret v => exact h₃
  · have hin : i = n := by omega
    subst hin
    refine W.done _ _ _ hst fun hA tkA hkA => ?_
    have kA : ∀ b o, b ≠ s₁.heap.objs.size → h.get? b = some o → hA.get? b = some o := fun b o hb e => hkA b o (fun q => hb (List.mem_singleton.mp q)) e
    exact wpAny_execs_nil (hdone m nx hA tkA hJ (fr_but F kA (Ne.symm hLI) hbI) fun p hp => ⟨kA _ _ (hne p hp) (N p hp).1, (N p hp).2⟩)
end
end Mine
namespace Mine
section
variable {w : World} {A : Around} {s : Shared} {E : Value → Shared → Prop} {Q : Value → Shared → Prop} {name qual : Str} {params : Arguments} {body : List Stmt} {scope : Scope} {dV kV doc pm cdv ct oc : Value} {an od : Option Addr} {osl : Array (Option Value)} {f : Addr} {args : List Value} {binds : List (Str × Value)}
/-- enter a def with cells that does not raise and writes to nothing that stood -/
theorem enterC {h₀ : Heap} (G : Gr w h₀) (k : h₀.StaysIn s.heap)
    (ho : (hd.heap_39 w.params).lookup f = some ⟨oc, od, .func (fnOf name qual params body scope dV kV doc pm an cdv ct), osl⟩) (hcd : codeIn (hd.heap_39 w.params) cdv qual = true) (hroom : A.depth < recursionLimit)
    (hbind : BindsTo s (fnOf name qual params body scope dV kV doc pm an cdv ct) ⟨args, []⟩ binds) (hkind : (binds.all fun y => scope.names.lookup y.1 == some .local || scope.names.lookup y.1 == some .cell) = true)
    (hnd : ((cellsFrom 0 scope.names []).map (·.1)).Nodup)
    (h : ∀ p lo me mg mb L' h₁ tk cells, (hd.heap_39 w.params).In s.heap → Top p lo me mg mb s.heap → 
      Fr s.heap L' h₁ (bindL (envOfC qual scope L' f cdv).kindOf binds fun _ => none) → News s.heap L' h₁ cells →
      CellsAre (bindC (envOfC qual scope L' f cdv).kindOf binds fun _ => none) (cellsFrom (L' + 1) scope.names []) cells →
      wpAny (model PR w) (A.deeper (envOfC qual scope L' f cdv)) (execs body (envOfC qual scope L' f cdv))
        (fun fl s' => Q (match fl with | .ret v => v | _ => .none) s') (fun _ _ => False) { s with heap := h₁, toks := tk })
    (hco : scope.isCoroutine = false) (hgen : scope.isGenerator = false) (hk : scope.kind = .function) : wpAny (model PR w) A (call (.ref f) args) Q E s := by
  obtain ⟨X, p, lo, me, mg, mb, T⟩ := G
  refine wpAny_call (codeAny_call_function hroom (k _ _ (X _ _ ho)) rfl hco hgen rfl (codeRec_of (X.keeps k) hcd) (hbind _ _ _ _ ?_))
  refine wpAny_newFunctionEnv_cells hk (kindsX hkind _) fun env' he s' x => ?_
  subst he
  refine ⟨(T.keeps k).nolimit.keeps x.toInCall.keep, codeAny_func ?_⟩
  obtain ⟨h₁, tk, rfl, _⟩ := x.done
  have hk₁ := x.toInCall.keep
  obtain ⟨cells, NC, Y⟩ := Cl.news (h₀ := s.heap) (Nat.le_refl _) fun n c hm => ⟨x.cell n c (lookup_of_mem_nodup (cellsFrom_names scope.names 0 (s.heap.objs.size + 1) [] [] rfl ▸ hnd) hm), x.above n c hm⟩
  exact wpAny_mono (h p lo me mg mb s.heap.objs.size h₁ tk cells (X.keeps k) (T.keeps k) ⟨x.toInCall.ns, hk₁, Nat.le_refl _⟩ NC Y) (fun fl s' hl => hl) fun _ _ y => y.elim
end
section
variable {M : Model} {A : Around} {E : Value → Shared → Prop} {s : Shared} {env : Env} {base : Heap} {C c : Addr} {m : Str → Option Value} {x : Str} {pos : Pos} {v : Value} {Q : Value → Shared → Prop}
theorem name_cell (F : Fr base C s.heap m) (hv : base.IsCell c (some v)) (h : Q v s) (hk : env.scope.kind = .function) (hl : env.kindOf x = some .cell) (hc : env.cells.lookup x = some c) (hd : (x == ("__debug__" : Str)) = false) : wpAny M A (eval (.Name x pos) env) Q E s := by
  refine wpAny_Name (wpAny_loadName_cell hk hl hc ?_ h) hd
  obtain ⟨o, ho, r⟩ := hv
  exact ⟨o, F.keep _ _ ho, r⟩
end
end Mine
namespace Mine
local macro_rules | `(tactic| walk_at "eval ListComp") => `(tactic| refine Hold.out ?_)
local macro_rules | `(tactic| walk_at "eval Name") => `(tactic| (refine' name_C ?n1 ?n2 ?_ ?n3 ?n4 ?n5; (case n1 => assumption); (case n2 => assumption); (case n3 => exact rfl); (case n4 => exact rfl); (case n5 => decide)))
local macro_rules | `(tactic| walk_at "subscriptTail Tuple Name ref int") => `(tactic| refine Hold.out ?_)
local macro_rules | `(tactic| walk_at "call builtin:str.join") => `(tactic| refine Hold.out ?_)
def tab : List Str := [Str.ofString ".a", Str.ofString ".aa", Str.ofString ".b", Str.ofString ".ba", Str.ofString ".c", Str.ofString ".ca"]
def tabAt (p : Int) : Str := tab.getD p.toNat (Str.ofString "")
def nmOf (ps : List Int) : Str := Str.ofString "o" ++ Txt.join (Str.ofString "") (ps.map tabAt)
theorem strs_snoc {x : Str} : ∀ {vs : List Value} {ys : List Str}, StrsAre vs ys → ∀ t, StrsAre (vs ++ [.str x t]) (ys ++ [x])
  | _, _, .nil, t => .cons x t .nil
  | _, _, .cons y u r, t => .cons y u (strs_snoc r t)
theorem name_ok {w : World} {A : Around} {s : Shared} {E : Value → Shared → Prop} {Q : Value → Shared → Prop} {h₀ : Heap} {v : Value} {ps : List Int}
   (G : Gr w h₀) (k : h₀.StaysIn s.heap) (hr : Rd s.heap v (.list (ps.map .int))) (hps : ∀ p ∈ ps, 0 ≤ p ∧ p < 6) (hlen : ps.length ≤ 1000)
   (hh : A.handled = none) (hd : A.depth + 1 < recursionLimit) (hu : A.units + 16 < cLine)
   (hret : ∀ h' tk t, s.heap.StaysIn h' → Q (.str (nmOf ps) t) { s with heap := h', toks := tk }) :
   wpAny (model PR w) A (call (.ref 116) [v]) Q E s := by
  k_dflt (refine' enter [] G k ?kN ?ko ?kc ?kr ?kb ?kl ?_ ?c1 ?c2 ?c3 ?c4; (case ko => k_is); (case kc => k_is); (case kr => omega); (case kb => exact BindsTo.of_eq rfl); (case kl => exact locs rfl); (case c1 => exact rfl); (case c2 => exact rfl); (case c3 => exact rfl); (case c4 => decide))
  · intro q hq; cases hq
  · intro p lo me mg mb g L' h₁ tk X' T' st' gs' F' N'
    have gs : s.heap.StaysIn g := fun b o e => gs' b o e (by simp)
    obtain ⟨l, its, rfl, hl, hi⟩ := hr.ints
    have hlg : g.IsList l its := hl.at fun o e => gs l o e
    (try dsimp only)
    (try k_fold)
    k_steps
    constructor
    refine comp_pure (cl := []) rfl (by decide) rfl (by decide) rfl (fun _ => rfl) ?_
    k_steps
    constructor
    dsimp only
    refine ⟨"list_iterator", [l], its.size, _, fun i ys => StrsAre ys ((ps.take i).map tabAt), ⟨gives_list hh (hlg.at fun o e => F'.keep l o e), ?_, ?_, .nil, ?_, ?_⟩⟩
    · have := hi.length; rw [sizeLine_eq]; simp at this; omega
    · intro b hb; rw [List.mem_singleton.mp hb]; obtain ⟨o, ho, _⟩ := hlg; exact Heap.lt_size (F'.keep _ _ ho)
    · intro C i ys v h₃ tk₃ m₃ imm hlt hv hm hK F3 N3
      refine wpAny_tests_nil ?_
      rw [if_pos rfl]
      refine ⟨⟨Fin.mk F3 N3 (fun _ h => h) trivial⟩, ?_⟩
      have hi2 : i < ps.length := by have := hi.length; simp at this; omega
      obtain ⟨pv, hpi⟩ : ∃ pv, ps[i]? = some pv := ⟨_, List.getElem?_eq_getElem hi2⟩
      obtain ⟨tv, hx⟩ := hi.get i _ hpi
      have ev : v = .int pv tv := by
        rw [Array.getElem?_toList, hv] at hx
        exact Option.some.inj hx
      subst ev
      have hpv := hps pv (List.mem_of_getElem? hpi)
      have hK' : ∀ t, StrsAre (ys ++ [.str (tabAt pv) t]) ((ps.take (i + 1)).map tabAt) := fun t => by
        rw [List.take_add_one, hpi, List.map_append]
        exact strs_snoc hK t
      k_steps
      (try constructor)
      rename News _ _ _ _ => N4
      rename Fr _ _ _ _ => F4
      have fin : ∀ t tk', Fin h₁ C imm { s with heap := h₁, toks := tk + 1 + 1 } (StrsAre (ys ++ [.str (tabAt pv) t]) ((ps.take (i + 1)).map tabAt)) { s with heap := _, toks := tk' } := fun t tk' => Fin.mk F4 N4 (fun _ h => .tail _ h) (hK' t)
      have hpc : pv = 0 ∨ pv = 1 ∨ pv = 2 ∨ pv = 3 ∨ pv = 4 ∨ pv = 5 := by omega
      rcases hpc with rfl | rfl | rfl | rfl | rfl | rfl
      all_goals exact item_tupleT (l := [_, _, _, _, _, _]) ⟨_, (N4 _ (.head _)).1, rfl, _, rfl⟩ (by decide) (by decide) rfl rfl ⟨fin _ _⟩
    · intro D h' tk' ys hD hl' hK hst
      k_steps
      constructor
      have hK2 : StrsAre ys.toArray.toList (ps.map tabAt) := by
        have e : ps.take its.size = ps := List.take_of_length_le (by have := hi.length; simp at this; omega)
        rw [e] at hK; simpa using hK
      have hB : ((ps.map tabAt).map (·.length)).sum ≤ (ps.map tabAt).length * 3 := StrLaws.sumLen_le _ fun y hy => by
        obtain ⟨p, hp, rfl⟩ := List.mem_map.mp hy
        have hpv := hps p hp
        have hpc : p = 0 ∨ p = 1 ∨ p = 2 ∨ p = 3 ∨ p = 4 ∨ p = 5 := by omega
        rcases hpc with rfl | rfl | rfl | rfl | rfl | rfl <;> decide +kernel
      have h00 : (Str.ofString "").length = 0 := by decide +kernel
      have h01 : (Str.ofString "o").length = 1 := by decide +kernel
      rw [List.length_map] at hB
      refine join_list hl'.isList hK2 (by rw [h00, List.length_map]; omega) ?_
      intro t' k'
      have hJ := StrLaws.join_length_le (Str.ofString "") (ps.map tabAt)
      rw [h00, List.length_map] at hJ
      refine PyProof.Rows.add_str (fun t2 tk2 => ?_) (by rw [h01, sizeLine_eq]; have e9 : (Txt.join (Str.ofString "") (ps.map tabAt)).length = (Str.join (Str.ofString "") (ps.map tabAt)).length := congrArg Str.length (StrLaws.glued_eq_join _ _); omega)
      exact hret _ _ _ fun b o e => hst b o (F'.keep b o (gs b o e))
end Mine
namespace Mine
local macro_rules | `(tactic| walk_at "exec While Compare cons nil") => `(tactic| refine Hold.out ?_)
local macro_rules | `(tactic| walk_at "exec For Name Call cons nil") => `(tactic| refine Hold.out ?_)
local macro_rules | `(tactic| walk_at "WhlRest") => `(tactic| refine Hold.out ?_)
local macro_rules | `(tactic| walk_at "newList") => `(tactic| refine Hold.out ?_)
local macro_rules | `(tactic| walk_at "call builtin:len") => `(tactic| refine Hold.out ?_)
local macro_rules | `(tactic| walk_at "call builtin:list.append") => `(tactic| refine Hold.out ?_)
local macro_rules | `(tactic| walk_at "subscriptTail Name Name ref int") => `(tactic| refine Hold.out ?_)
def divs : Nat → Int → Int → Int → List Int → Option (Int × List Int)
  | 0, _, _, _, _ => none
  | f + 1, n, p, k, acc => if n.fmod p = 0 then divs f (n.fdiv p) p k (acc ++ [k]) else some (n, acc)
def plGo : List Int → Int → Int → List Int → Option (Int × List Int)
  | [], _, n, acc => some (n, acc)
  | p :: ps, k, n, acc => if p ≤ 0 ∨ 1000 < p then none else match divs 64 n p k acc with
    | none => none
    | some (n', acc') => plGo ps (k + 1) n' acc'
def placesF (n : Int) (ps : List Int) : Option (List Int) := match plGo ps 0 n [] with
  | none => none
  | some (n', acc) => some (if n' = 1 then acc else [])
theorem ints_snoc : ∀ {vs : List Value} {ns : List Int}, IntsAre vs ns → ∀ (x : Int) (t : Tok), IntsAre (vs ++ [.int x t]) (ns ++ [x])
  | _, _, .nil, x, t => .cons x t .nil
  | _, _, .cons y u r, x, t => .cons y u (ints_snoc r x t)
theorem places_ok {w : World} {A : Around} {s : Shared} {E : Value → Shared → Prop} {Q : Value → Shared → Prop} {h₀ : Heap} {lp : Addr} {its : Array Value} {n : Int} {tn : Tok} {ps res : List Int}
   (G : Gr w h₀) (k : h₀.StaysIn s.heap) (hl : s.heap.IsList lp its) (hi : IntsAre its.toList ps) (hf : placesF n ps = some res) (hlen : ps.length ≤ 100)
   (hh : A.handled = none) (hd : A.depth + 1 < recursionLimit) (hu : A.units + 16 < cLine)
   (hret : ∀ h' tk b lvs nn, s.heap.StaysIn h' → s.heap.get? b = none → h'.get? b = some (listOf lvs nn) → IntsAre lvs.toList res → Q (.ref b) { s with heap := h', toks := tk }) :
   wpAny (model PR w) A (call (.ref 130) [.int n tn, .ref lp]) Q E s := by
  k_dflt (refine' enter [] G k ?kN ?ko ?kc ?kr ?kb ?kl ?_ ?c1 ?c2 ?c3 ?c4; (case ko => k_is); (case kc => k_is); (case kr => omega); (case kb => exact BindsTo.of_eq rfl); (case kl => exact locs rfl); (case c1 => exact rfl); (case c2 => exact rfl); (case c3 => exact rfl); (case c4 => decide))
  · intro q hq; cases hq
  · intro p lo me mg mb g L' h₁ tk X' T' st' gs' F' N'
    have gs : s.heap.StaysIn g := fun b o e => gs' b o e (by simp)
    have hlg : g.IsList lp its := hl.at fun o e => gs lp o e
    (try dsimp only)
    (try k_fold)
    k_steps
    constructor
    refine newList_K F' N' ?_
    intro ap h2 F2 N2 l1
    k_steps
    constructor
    refine for_src g L' (fun _ => rfl) ?_
    k_steps
    constructor
    rename Fr _ _ _ _ => F1
    rename News _ _ _ _ => N1
    have hil : its.size = ps.length := by have := hi.length; simpa using this
    refine len_L (hlg.at fun o e => F1.keep lp o e) (by omega) fun tL tkL => ?_
    rw [hil]
    k_steps
    constructor
    rename IsRange _ _ _ _ _ _ _ _ => hR
    rename Fr _ _ _ _ => F2
    rename News _ _ _ _ => N2
    dsimp only at hR F2 N2 ⊢
    unfold placesF at hf
    cases hg : plGo ps 0 n [] with
    | none => rw [hg] at hf; cases hf
    | some r =>
    obtain ⟨n', acc'⟩ := r
    rw [hg] at hf
    cases hf
    refine ⟨"range_iterator", [], ps.length, _, fun i m nx => ∃ vs nn n acc tn u, nx = [(ap, listOf vs.toArray nn)] ∧ IntsAre vs acc ∧ m = put "number" (.int n tn) (put "primes" (.ref lp) (put "places" (.ref ap) u)) ∧ plGo (ps.drop i) i n acc = some (n', acc') ∧ acc.length ≤ 64 * i, ⟨gives_range hh hR (small_one (by omega) (by omega) (by omega) (by omega)) (by rw [rangeSize_nat]; simp), ?_, ?_, ?_, ?_⟩⟩
    · exact ⟨_, _, fput (fput (fput F2 (by rfl)) (by rfl)) (by rfl), N2, [], _, n, [], tn, _, rfl, .nil, rfl, hg, by simp⟩
    · intro i v s₃ o Q' _ _ _ hq; exact own_name hq
    · rintro i v m nx h tk oI hlt ⟨t, rfl⟩ ⟨vs, nn, n, acc, tn, u, rfl, hia, rfl, hgo, hal⟩ F3 N3 hne
      have hpi : ps.drop i = ps[i] :: ps.drop (i + 1) := List.drop_eq_getElem_cons hlt
      generalize ps[i] = p at hpi
      rw [hpi, plGo] at hgo
      by_cases hp0 : p ≤ 0 ∨ 1000 < p
      · rw [if_pos hp0] at hgo; cases hgo
      rw [if_neg hp0] at hgo
      cases hdv : divs 64 n p i acc with
      | none => rw [hdv] at hgo; cases hgo
      | some r =>
      obtain ⟨n2, acc2⟩ := r
      rw [hdv] at hgo
      dsimp only at hgo
      have hpi' : ps[i]? = some p := by
        have : (ps.drop i)[0]? = some p := by rw [hpi]; rfl
        simpa using this
      obtain ⟨tp, hpv⟩ := hi.get i _ hpi'
      have hpv' : its[(0 + (i : Int)).toNat]? = some (.int p tp) := by
        rw [← Array.getElem?_toList]; simpa using hpv
      have hne' : ap ≠ _ := hne (ap, _) (.head _)
      k_steps
      constructor
      rename Fr _ _ _ _ => F4
      rename News _ _ _ _ => N4
      refine whl_start 64 ?_
      refine whl_rec (fun c s' => ∃ vs nn n acc tn u h tk, s' = { s with heap := h, toks := tk } ∧ Fr g L' h (put "number" (.int n tn) (put "primes" (.ref lp) (put "places" (.ref ap) (put "k" (.int (0 + (i : Int)) t) u)))) ∧ News g L' h [(_, oI), (ap, listOf vs.toArray nn)] ∧ IntsAre vs acc ∧ divs c n p i acc = some (n2, acc2) ∧ acc.length + c ≤ 64 * (i + 1)) ?_ ?_ 64 _ ⟨vs, nn, n, acc, tn, _, _, _, rfl, fput (fput (fput (fput F4 (by rfl)) (by rfl)) (by rfl)) (by rfl), N4, hia, hdv, by omega⟩
      · rintro s' ⟨vs, nn, n, acc, tn, u, h, tk, rfl, _, _, _, he, _⟩
        simp [divs] at he
      clear F4 N4 hia hdv hal
      rintro c s' ih ⟨vs, nn, n, acc, tn, u, h, tk, rfl, F, N, hia, he, hal⟩
      refine whl_turn PassesOwn.never ?_
      unfold divs at he
      k_steps
      constructor
      refine item_at (hlg.at fun o e => F.keep lp o e) (by omega) (by omega) hpv' ?_ (by with_unfolding_all rfl)
      k_steps
      by_cases hz : n.fmod p = 0
      · rw [if_pos hz] at he
        refine WhlIf.yes (by simpa using hz) ?_
        k_steps
        constructor
        rename Fr _ _ _ _ => F5
        rename News _ _ _ _ => N5
        refine item_at (hlg.at fun o e => F5.keep lp o e) (by omega) (by omega) hpv' ?_ (by with_unfolding_all rfl)
        k_steps
        constructor
        rename Fr _ _ _ _ => F6
        rename News _ _ _ _ => N6
        have hvl := hia.length
        refine append_K F6 N6 (Upd.tail (Ne.symm hne') (Upd.head (by simp))) ?_ (by simp; rw [sizeLine_eq]; omega)
        intro h7 F7 N7
        have e1 : vs.toArray.push (Value.int (0 + (i : Int)) t) = (vs ++ [Value.int (0 + (i : Int)) t]).toArray := by simp
        rw [e1] at N7
        k_steps
        constructor
        have hia' : IntsAre (vs ++ [Value.int (0 + (i : Int)) t]) (acc ++ [(i : Int)]) := by
          have := ints_snoc hia (0 + (i : Int)) t
          simpa using this
        exact ih _ ⟨_, _, _, _, _, _, _, _, rfl, fput (fput (fput (fput F7 (by rfl)) (by rfl)) (by rfl)) (by rfl), N7, hia', he, by simp; omega⟩
      · rw [if_neg hz] at he
        cases he
        refine WhlIf.no (by simpa using hz) ?_
        k_steps
        constructor
        rename Fr _ _ _ _ => F5
        rename News _ _ _ _ => N5
        exact ⟨_, _, _, _, rfl, fput (fput (fput F5 (by rfl)) (by rfl)) (by rfl), N5, (fun p hp => by rcases List.mem_singleton.mp hp with rfl; exact hne'), (fun _ z => nomatch z), _, _, _, _, _, _, rfl, hia, rfl, hgo, by omega⟩
    · rintro m nx h tk ⟨vs, nn, n, acc, tn, u, rfl, hia, rfl, hgo, hal⟩ F3 N3
      rw [List.drop_length] at hgo
      cases hgo
      have hb : ∀ b, g.get? b = none → s.heap.get? b = none := fun b e => by
        cases q : s.heap.get? b with
        | none => rfl
        | some o => rw [gs b o q] at e; cases e
      k_steps
      · rename n' = 1 => h1
        rw [if_pos h1] at hret
        exact hret _ _ _ _ _ (fun b o e => F3.keep b o (gs b o e)) (hb _ (N3 _ (.head _)).2.2) (N3 _ (.head _)).1 (by simpa using hia)
      · rename ¬ (n' = 1) => h1
        rw [if_neg h1] at hret
        constructor
        refine newList_K F3 N3 ?_
        intro aq h5 F5 N5 l5
        exact hret _ _ _ _ _ (fun b o e => F5.keep b o (gs b o e)) (hb _ (N5 _ (.head _)).2.2) (N5 _ (.head _)).1 .nil
end Mine
namespace Mine
theorem shaped_dat {n : Nat} {d : Dat} (h : kqdOk n d = true) (hn : n ≤ 8) : PySem.SeqAt.shaped (kqdP d) = true := by
  have l := kqd_lay n d h
  unfold PySem.SeqAt.shaped
  rw [l.1, Bool.true_and]
  exact decide_eq_true (by have := l.2; omega)
theorem eqv_dat {n : Nat} {d e : Dat} (h1 : kqdOk n d = true) (h2 : kqdOk n e = true) (q : d = e) : PyData.eqv (kqdP d) (kqdP e) = true := (kqd_eqv n d e n h1 h2).mpr q
theorem neqv_dat {n : Nat} {d e : Dat} (h1 : kqdOk n d = true) (h2 : kqdOk n e = true) (q : d ≠ e) : PyData.eqv (kqdP d) (kqdP e) = false := by
  cases hq : PyData.eqv (kqdP d) (kqdP e) with
  | false => rfl
  | true => exact absurd ((kqd_eqv n d e n h1 h2).mp hq) q
def dInts (ns : List Int) : Dat := .list (ns.map .int)
theorem kqdPs_map {α : Type} (f : α → Dat) : ∀ l : List α, kqdPs (l.map f) = l.map fun x => kqdP (f x)
  | [] => by simp [kqdPs]
  | x :: l => by simp [kqdPs, kqdPs_map f l]
theorem dInts_P (ns : List Int) : kqdP (dInts ns) = .list (ns.map .int) := by
  unfold dInts
  rw [kqdP, kqdPs_map]
  simp [kqdP]
theorem dInts_ok (ns : List Int) (n : Nat) : kqdOk (n + 1) (dInts ns) = true := by
  unfold dInts
  simp only [kqdOk, List.all_eq_true, List.mem_map]
  rintro d ⟨i, _, rfl⟩
  cases n <;> rfl
theorem dInts_inj {a b : List Int} (h : dInts a = dInts b) : a = b := by
  unfold dInts at h
  injection h with h
  induction a generalizing b with
  | nil => cases b with | nil => rfl | cons => cases h
  | cons x a ih => cases b with | nil => cases h | cons y b => simp only [List.map_cons, List.cons.injEq, Dat.int.injEq] at h; rw [h.1, ih h.2]
def dItem (d : D) : Dat := .tuple [.int d.1, dInts d.2]
theorem dItem_P (d : D) : kqdP (dItem d) = item d := by
  unfold dItem item
  rw [kqdP, kqdPs, kqdPs, kqdPs, dInts_P, kqdP]
theorem dItem_ok (d : D) (n : Nat) : kqdOk (n + 2) (dItem d) = true := by
  unfold dItem
  simp only [kqdOk, List.all_cons, List.all_nil, Bool.and_true, Bool.and_eq_true]
  exact ⟨trivial, dInts_ok _ _⟩
theorem dItem_inj {a b : D} (h : dItem a = dItem b) : a = b := by
  unfold dItem at h
  simp only [Dat.tuple.injEq, List.cons.injEq, Dat.int.injEq, and_true] at h
  exact Prod.ext h.1 (dInts_inj h.2)
def dItems (xs : List D) : Dat := .list (xs.map dItem)
theorem dItems_P (xs : List D) : kqdP (dItems xs) = .list (xs.map item) := by
  unfold dItems
  rw [kqdP, kqdPs_map]
  simp [dItem_P]
theorem dItems_ok (xs : List D) : kqdOk 3 (dItems xs) = true := by
  unfold dItems
  simp only [kqdOk, List.all_eq_true, List.mem_map]
  rintro d ⟨i, _, rfl⟩
  exact dItem_ok i 0
theorem dItems_inj {a b : List D} (h : dItems a = dItems b) : a = b := by
  unfold dItems at h
  injection h with h
  induction a generalizing b with
  | nil => cases b with | nil => rfl | cons => cases h
  | cons x a ih => cases b with | nil => cases h | cons y b => simp only [List.map_cons, List.cons.injEq] at h; rw [dItem_inj h.1, ih h.2]
theorem readsAll_ints {h : Heap} : ∀ {vs : List Value} {ns : List Int}, IntsAre vs ns → ReadsAll h vs (ns.map .int) []
  | _, _, .nil => .nil
  | _, _, .cons i t r => ReadsAll.cons (as := []) (bs := []) (.int i t) (readsAll_ints r)
theorem rd_ints {h : Heap} {l : Addr} {its : Array Value} {ns : List Int} (hl : h.IsList l its) (hi : IntsAre its.toList ns) : Rd h (.ref l) (.list (ns.map .int)) := by
  obtain ⟨o, ho, hc, n, hd⟩ := hl
  exact ⟨_, .list ho hc hd (readsAll_ints hi)⟩
section
variable {prog : Program} {w : World} {A : Around} {E : Value → Shared → Prop} {s : Shared} {a b : Value} {Q : Value → Shared → Prop}
theorem eq_ints {ns ms : List Int} (ra : Rd s.heap a (.list (ns.map .int))) (rb : Rd s.heap b (.list (ms.map .int))) (hu : A.units + 64 < cLine) (h : Q (.bool (decide (ns = ms))) s) : wpAny (model prog w) A (compareOp .Eq a b) Q E s := by
  obtain ⟨as, ra⟩ := ra
  obtain ⟨bs, rb⟩ := rb
  rw [← dInts_P] at ra rb
  refine eq_dataH ra rb (shaped_dat (dInts_ok ns 0) (by omega)) (shaped_dat (dInts_ok ms 0) (by omega)) hu ?_
  by_cases q : ns = ms
  · rw [eqv_dat (dInts_ok ns 0) (dInts_ok ms 0) (by rw [q])]; rw [decide_eq_true q] at h; exact h
  · rw [neqv_dat (dInts_ok ns 0) (dInts_ok ms 0) fun z => q (dInts_inj z)]; rw [decide_eq_false q] at h; exact h
theorem ne_ints {ns ms : List Int} (ra : Rd s.heap a (.list (ns.map .int))) (rb : Rd s.heap b (.list (ms.map .int))) (hu : A.units + 64 < cLine) (h : Q (.bool (!decide (ns = ms))) s) : wpAny (model prog w) A (compareOp .NotEq a b) Q E s := by
  obtain ⟨as, ra⟩ := ra
  obtain ⟨bs, rb⟩ := rb
  rw [← dInts_P] at ra rb
  refine ne_dataH ra rb (shaped_dat (dInts_ok ns 0) (by omega)) (shaped_dat (dInts_ok ms 0) (by omega)) hu ?_
  by_cases q : ns = ms
  · rw [eqv_dat (dInts_ok ns 0) (dInts_ok ms 0) (by rw [q])]; rw [decide_eq_true q] at h; exact h
  · rw [neqv_dat (dInts_ok ns 0) (dInts_ok ms 0) fun z => q (dInts_inj z)]; rw [decide_eq_false q] at h; exact h
theorem ne_items {xs ys : List D} (ra : Rd s.heap a (.list (xs.map item))) (rb : Rd s.heap b (.list (ys.map item))) (hu : A.units + 64 < cLine) (h : Q (.bool (!decide (xs = ys))) s) : wpAny (model prog w) A (compareOp .NotEq a b) Q E s := by
  obtain ⟨as, ra⟩ := ra
  obtain ⟨bs, rb⟩ := rb
  rw [← dItems_P] at ra rb
  refine ne_dataH ra rb (shaped_dat (dItems_ok xs) (by omega)) (shaped_dat (dItems_ok ys) (by omega)) hu ?_
  by_cases q : xs = ys
  · rw [eqv_dat (dItems_ok xs) (dItems_ok ys) (by rw [q])]; rw [decide_eq_true q] at h; exact h
  · rw [neqv_dat (dItems_ok xs) (dItems_ok ys) fun z => q (dItems_inj z)]; rw [decide_eq_false q] at h; exact h
end
theorem news_one {base h₁ h : Heap} {L D : Addr} {o : Obj} {m : Str → Option Value} {news : List (Addr × Obj)} (F : Fr base L h₁ m) (hD : h₁.get? D = none) (hk : h₁.StaysIn h) (ho : h.get? D = some o) (N : News base L h news) : News base L h ((D, o) :: news) := by
  intro p hp
  rcases List.mem_cons.mp hp with rfl | hp
  · refine ⟨ho, fun q => ?_, ?_⟩
    · obtain ⟨oL, _, _, hL, _⟩ := F.ns; have q' : D = L := q; rw [q', hL] at hD; cases hD
    · cases e : base.get? D with
      | none => rfl
      | some o' => rw [F.keep _ _ e] at hD; cases hD
  · exact N p hp
end Mine
namespace Mine
local macro_rules | `(tactic| walk_at "eval ListComp") => `(tactic| refine Hold.out ?_)
local macro_rules | `(tactic| walk_at "eval Name") => `(tactic| first
  | (refine' name_C ?n1 ?n2 ?_ ?n3 ?n4 ?n5; (case n1 => with_reducible assumption); (case n2 => with_reducible assumption); (case n3 => k_dflt exact rfl); (case n4 => k_dflt exact rfl); (case n5 => k_dflt decide))
  | (refine' name_cell ?n1 ?n2 ?_ ?n3 ?n4 ?n6 ?n5; (case n1 => with_reducible assumption); (case n3 => k_dflt exact rfl); (case n4 => k_dflt exact rfl); (case n6 => k_dflt exact rfl); (case n2 => with_reducible assumption); (case n5 => k_dflt decide)))
local macro_rules | `(tactic| walk_at "newList") => `(tactic| refine Hold.out ?_)
local macro_rules | `(tactic| walk_at "compareOp Eq ref ref") => `(tactic| refine Hold.out ?_)
local macro_rules | `(tactic| walk_at "call builtin:max") => `(tactic| refine Hold.out ?_)
theorem IsCell.mk {h : Heap} {c : Addr} {o : Obj} {v : Option Value} (ho : h.get? c = some o) (d : o.data = .cell v) : h.IsCell c v := ⟨o, ho, d⟩
theorem leads_ok {w : World} {A : Around} {s : Shared} {E : Value → Shared → Prop} {Q : Value → Shared → Prop} {h₀ : Heap} {lp : Addr} {its : Array Value} {n o : Int} {tn to' : Tok} {ps : List Int} {res : Bool}
   (G : Gr w h₀) (k : h₀.StaysIn s.heap) (hl : s.heap.IsList lp its) (hi : IntsAre its.toList ps) (hlen : ps.length ≤ 100) (hps : ∀ p ∈ ps, 0 < p ∧ p ≤ 1000) (hn : 0 < n ∧ n ≤ 1000000) {gr : Int} (hgr : (ps.filter fun q => n.fmod q = 0).max? = some gr) (hres : res = (o.fmod n == 0 && (ps.filter fun p => p < gr ∧ (o.fdiv n).fmod p = 0).isEmpty))
   (hh : A.handled = none) (hd : A.depth + 1 < recursionLimit) (hu : A.units + 100 < cLine)
   (hret : ∀ h' tk, s.heap.StaysIn h' → Q (.bool res) { s with heap := h', toks := tk }) :
   wpAny (model PR w) A (call (.ref 135) [.int n tn, .int o to', .ref lp]) Q E s := by
  k_dflt (refine' enterC G k ?ko ?kc ?kr ?kb ?kl ?kn ?_ ?c1 ?c2 ?c3; (case ko => k_is); (case kc => k_is); (case kr => omega); (case kb => exact BindsTo.of_eq rfl); (case kl => exact rfl); (case kn => decide +kernel); (case c1 => exact rfl); (case c2 => exact rfl); (case c3 => exact rfl))
  intro p lo me mg mb L' h₁ tk cells' X' T' F' N' Y'
  k_cells Y'
  (try dsimp only)
  (try k_fold)
  k_steps
  constructor
  refine comp_pure (by rfl) (by decide) rfl (by decide) rfl (fun _ => rfl) ?_
  k_steps
  constructor
  dsimp only
  have hl1 := hl.at fun o e => F'.keep lp o e
  refine ⟨"list_iterator", [lp], its.size, _, fun i ys => IntsAre ys ((ps.take i).filter fun q => n.fmod q = 0), ⟨gives_list hh hl1, ?_, ?_, .nil, ?_, ?_⟩⟩
  · have := hi.length; rw [sizeLine_eq]; simp at this; omega
  · intro b hb; rw [List.mem_singleton.mp hb]; obtain ⟨o, ho, _⟩ := hl1; exact Heap.lt_size ho
  · intro C i ys v h₃ tk₃ m₃ imm hlt hv hm hK F3 N3
    have hi2 : i < ps.length := by have := hi.length; simp at this; omega
    obtain ⟨pv, hpi⟩ : ∃ pv, ps[i]? = some pv := ⟨_, List.getElem?_eq_getElem hi2⟩
    obtain ⟨tv, hx⟩ := hi.get i _ hpi
    have ev : v = .int pv tv := by
      rw [Array.getElem?_toList, hv] at hx
      exact Option.some.inj hx
    subst ev
    have hpv := hps pv (List.mem_of_getElem? hpi)
    have hcn : h₁.IsCell (L' + 1) (some (.int n tn)) := ⟨_, (N' _ (.tail _ (.tail _ (.head _)))).1, by assumption⟩
    dsimp only at F3 N3 ⊢
    refine wpAny_tests_one ?_
    have htk : ps.take (i + 1) = ps.take i ++ [pv] := by rw [List.take_add_one, hpi]; rfl
    k_steps
    · exact ⟨Fin.mk F3 N3 (fun _ h => h) trivial⟩
    · rename n.fmod pv = 0 => hz
      refine ⟨Fin.mk F3 N3 (fun _ h => h) ?_⟩
      rw [htk, List.filter_append]
      simpa [hz] using ints_snoc hK pv tv
    · rename ¬ (n.fmod pv = 0) => hz
      refine ⟨Fin.mk F3 N3 (fun _ h => h) ?_⟩
      rw [htk, List.filter_append]
      simpa [hz] using hK
  · intro D h' tk' ys hD hl' hK hst
    have htk : ps.take its.size = ps := List.take_of_length_le (by have := hi.length; simp at this; omega)
    rw [htk] at hK
    have F2 := fr_keeps F' hst
    have N2 := news_keeps N' hst
    k_steps
    constructor
    have hne : 0 < (ps.filter fun q => n.fmod q = 0).length := List.length_pos_of_mem (List.max?_eq_some_iff.mp hgr).1
    refine max_list_N hh F2 N2 hl'.isList hK hne fun h4 M tM tk4 F4 N4 hM1 hM2 => ?_
    have hMg : M = gr := by
      have h1 := List.max?_eq_some_iff.mp hgr
      exact Int.le_antisymm (h1.2 M hM1) (hM2 gr h1.1)
    subst hMg
    k_steps
    · constructor
      rename o.fmod n = 0 => hoz
      rename Fr _ _ _ _ => F5
      rename News _ _ _ _ => N5
      rename _ = Data.cell (some (Value.int (o.fdiv n) _)) => dq
      rename _ = Data.cell (some (Value.int M _)) => dg
      have cq := IsCell.mk (N5 _ (.head _)).1 dq
      have cg := IsCell.mk (N5 _ (.tail _ (.head _))).1 dg
      refine comp_pure (by rfl) (by decide) rfl (by decide) rfl (fun _ => rfl) ?_
      k_steps
      constructor
      dsimp only
      have hl5 := hl.at fun o e => F5.keep lp o e
      refine ⟨"list_iterator", [lp], its.size, _, fun i ys => IntsAre ys ((ps.take i).filter fun q => q < M ∧ (o.fdiv n).fmod q = 0), ⟨gives_list hh hl5, ?_, ?_, .nil, ?_, ?_⟩⟩
      · have := hi.length; rw [sizeLine_eq]; simp at this; omega
      · intro b hb; rw [List.mem_singleton.mp hb]; obtain ⟨o, ho, _⟩ := hl5; exact Heap.lt_size ho
      · intro C i ys v h₃ tk₃ m₃ imm hlt hv hm hK F3 N3
        have hi2 : i < ps.length := by have := hi.length; simp at this; omega
        obtain ⟨pv, hpi⟩ : ∃ pv, ps[i]? = some pv := ⟨_, List.getElem?_eq_getElem hi2⟩
        obtain ⟨tv, hx⟩ := hi.get i _ hpi
        have ev : v = .int pv tv := by
          rw [Array.getElem?_toList, hv] at hx
          exact Option.some.inj hx
        subst ev
        have hpv := hps pv (List.mem_of_getElem? hpi)
        have htk : ps.take (i + 1) = ps.take i ++ [pv] := by rw [List.take_add_one, hpi]; rfl
        dsimp only at F3 N3 ⊢
        refine wpAny_tests_one ?_
        k_steps
        · exact ⟨Fin.mk F3 N3 (fun _ h => h) trivial⟩
        · refine ⟨Fin.mk F3 N3 (fun _ h => h) ?_⟩
          rename pv < M => h1
          rename (o.fdiv n).fmod pv = 0 => h2
          rw [htk, List.filter_append]
          simpa [h1, h2] using ints_snoc hK pv tv
        · refine ⟨Fin.mk F3 N3 (fun _ h => h) ?_⟩
          rename ¬ ((o.fdiv n).fmod pv = 0) => h2
          rw [htk, List.filter_append]
          simpa [h2] using hK
        · refine ⟨Fin.mk F3 N3 (fun _ h => h) ?_⟩
          rename ¬ (pv < M) => h1
          rw [htk, List.filter_append]
          simpa [h1] using hK
      · intro D2 h6 tk6 ys6 hD6 hl6 hK6 hst6
        rw [htk] at hK6
        have F6 := fr_keeps F5 hst6
        obtain ⟨nD, eD⟩ := hl6
        have N6 := news_one F5 hD6 hst6 eD (news_keeps N5 hst6)
        k_steps
        constructor
        refine newList_K F6 N6 ?_
        intro aq h7 F7 N7 l7
        k_steps
        constructor
        have r1 := rd_ints (ns := ps.filter fun q => q < M ∧ (o.fdiv n).fmod q = 0) ⟨_, (N7 _ (.tail _ (.head _))).1, rfl, _, rfl⟩ (by simpa using hK6)
        have r2 := rd_ints (ns := []) ⟨_, (N7 _ (.head _)).1, rfl, _, rfl⟩ .nil
        refine eq_ints r1 r2 (by simp only [units_deeper]; omega) ?_
        have e9 : decide ((ps.filter fun q => q < M ∧ (o.fdiv n).fmod q = 0) = []) = res := by
          rw [hres, hoz]
          cases (ps.filter fun q => q < M ∧ (o.fdiv n).fmod q = 0) <;> simp
        rw [e9]
        exact hret _ _ F7.keep
    · rename ¬ (o.fmod n = 0) => hoz
      rename Fr _ _ _ _ => F7
      dsimp only
      have e9 : (o.fmod n == 0) = res := by rw [hres]; simp [hoz]
      rw [e9]
      exact hret _ _ F7.keep
end Mine
namespace Mine
theorem orStandIn_led (t : SetTable) (n : Nat) : (t.orStandIn n).led = t.led := by
  unfold SetTable.orStandIn; split <;> rfl
theorem layNew_led (t : SetTable) (es : Array (Int × Value)) (h : Int) (x : Value) : (layNew t es h x).2.1.led = t.led := by
  unfold layNew
  split
  · rw [orStandIn_led]; rfl
  · rfl
theorem relaid_led {t t' : SetTable} {hs : Array Int} {wanted : Nat} {order : Array Nat} (h : t.relaid hs wanted = some (t', order)) : t'.led = t.led := by
  unfold SetTable.relaid SetTable.laid at h
  cases q : SetTable.layClean (SetTable.sizeAbove wanted - 1) hs with
  | none => rw [q] at h; cases h
  | some o => rw [q] at h; cases h; rfl
theorem relayAll_led (t : SetTable) (es : Array (Int × Value)) (wanted : Nat) : (relayAll t es wanted).2.1.led = t.led := by
  unfold relayAll
  split
  · rename_i t' order h
    dsimp only
    split
    · exact relaid_led h
    · rfl
  · rfl
theorem perm_one {α : Type} {l : List α} {x : α} (h : List.Perm l [x]) : l = [x] := List.perm_singleton.mp h
theorem arr_one {α : Type} {a : Array α} {x : α} (h : a.toList = [x]) : a = #[x] := by
  apply Array.toList_inj.mp; rw [h]
section
variable {prog : Program} {w : World} {A : Around} {E : Value → Shared → Prop} {s : Shared}
theorem set_add_one {a : Addr} {ep : Nat} {t : SetTable} {x : Str} {u : Tok} {Q : Bool → Shared → Prop} (ho : s.heap.get? a = some { cls := .type "set", dict := none, data := .set #[] ep t }) (hf : t.fits 0 = true)
    (h : ∀ h' ep' tb, Heap.SameBut a s.heap h' → h'.get? a = some { cls := .type "set", dict := none, data := .set #[((strKind prog w).hash x, .str x u)] ep' tb } → tb.fits 1 = true → tb.led = t.led → Q true { s with heap := h' }) :
    wpAny (model prog w) A (setAddHashed a (.str x u) ((strKind prog w).hash x)) Q E s := by
  have hkey : (strKind prog w).is x (.str x u) = true := strKind_is prog w x u
  have hel : ElemsOf (strKind prog w) (#[] : Array (Int × Value)).toList := fun e he => nomatch he
  unfold setAddHashed setAddHashedIn
  refine wpAny_holding (wpAny_bind (wpAny_setState_of ho rfl hf ?_))
  dsimp only
  rw [byScan_of (knd := strKind prog w) rfl (by decide) hel]
  simp only [↓reduceIte]
  unfold setAddByScan
  refine wpAny_bind ?_
  refine wpAny_bind (wpAny_rule ?_)
  refine wpAny_bind (wpAny_setScan_of hkey ho rfl hf hel ?_)
  dsimp only [List.findIdx?_nil]
  have hgw : ∀ (b : Bool) (s₁ : Shared) (Q' : Unit → Shared → Prop), Q' () s₁ → wpAny (model prog w) A (match b with | true => rule "set.scan.the-table-gave-way" | false => pure ()) Q' E s₁ :=
    fun b s₁ Q' hq => by cases b <;> first | exact wpAny_pure hq | exact wpAny_rule hq
  have hperm := layNew_perm t #[] ((strKind prog w).hash x) (.str x u)
  have hfits := layNew_fits t #[] ((strKind prog w).hash x) (.str x u)
  have hled := layNew_led t #[] ((strKind prog w).hash x) (.str x u)
  generalize hL : layNew t #[] ((strKind prog w).hash x) (.str x u) = L at hperm hfits hled ⊢
  obtain ⟨es1, t1, wasDummy, gave⟩ := L
  dsimp only at hperm hfits hled ⊢
  have hes : es1 = #[((strKind prog w).hash x, .str x u)] := arr_one (perm_one hperm)
  subst hes
  refine wpAny_bind (hgw _ _ _ ?_)
  have tail : ∀ t2 : SetTable, t2.fits 1 = true → t2.led = t.led → wpAny (model prog w) A (do
      storeSet a #[((strKind prog w).hash x, .str x u)] t2
      if (!wasDummy && t2.tooFull) = true then do
          (match (relayAll t2 #[((strKind prog w).hash x, .str x u)] (SetTable.grown (#[((strKind prog w).hash x, Value.str x u)] : Array (Int × Value)).size)).2.2 with | true => rule "set.scan.the-table-gave-way" | false => pure ())
          storeSet a (relayAll t2 #[((strKind prog w).hash x, .str x u)] (SetTable.grown (#[((strKind prog w).hash x, Value.str x u)] : Array (Int × Value)).size)).1 (relayAll t2 #[((strKind prog w).hash x, .str x u)] (SetTable.grown (#[((strKind prog w).hash x, Value.str x u)] : Array (Int × Value)).size)).2.1
          pure (some true)
        else pure (some true)) (fun r s' => wpAny (model prog w) A (match r with | some added => pure added | none => setAddHashedIn a (.str x u) ((strKind prog w).hash x) 99999) Q E s') E s := by
    intro t2 hf2 hl2
    refine wpAny_bind (wpAny_storeSet_of ho rfl ?_ (by rw [sizeLine_eq]; simp))
    have hg : (s.heap.update a (Obj.putSet #[((strKind prog w).hash x, .str x u)] t2)).get? a = some { cls := .type "set", dict := none, data := .set #[((strKind prog w).hash x, .str x u)] (ep + 1) t2 } := by
      have := Heap.get?_update_self (Obj.putSet #[((strKind prog w).hash x, .str x u)] t2) ho (by rfl)
      exact this
    have hsb := Heap.SameBut.update s.heap a (Obj.putSet #[((strKind prog w).hash x, .str x u)] t2)
    split
    · have hp := relayAll_perm t2 #[((strKind prog w).hash x, .str x u)] (SetTable.grown (#[((strKind prog w).hash x, Value.str x u)] : Array (Int × Value)).size)
      have hfr := relayAll_fits t2 #[((strKind prog w).hash x, .str x u)] (SetTable.grown (#[((strKind prog w).hash x, Value.str x u)] : Array (Int × Value)).size)
      have hlr := relayAll_led t2 #[((strKind prog w).hash x, .str x u)] (SetTable.grown (#[((strKind prog w).hash x, Value.str x u)] : Array (Int × Value)).size)
      generalize hRl : relayAll t2 #[((strKind prog w).hash x, .str x u)] (SetTable.grown (#[((strKind prog w).hash x, Value.str x u)] : Array (Int × Value)).size) = Rl at hp hfr hlr ⊢
      obtain ⟨es2, t3, gave2⟩ := Rl
      dsimp only at hp hfr hlr ⊢
      have hes2 : es2 = #[((strKind prog w).hash x, .str x u)] := arr_one (perm_one hp)
      subst hes2
      refine wpAny_bind (hgw _ _ _ ?_)
      refine wpAny_bind (wpAny_storeSet_of hg rfl ?_ (by rw [sizeLine_eq]; simp))
      have hg3 := Heap.get?_update_self (Obj.putSet #[((strKind prog w).hash x, .str x u)] t3) hg (by rfl)
      exact wpAny_pure (wpAny_pure (h _ _ t3 (hsb.trans (Heap.SameBut.update _ a _)) hg3 hfr (hlr.trans hl2)))
    · exact wpAny_pure (wpAny_pure (h _ _ t2 hsb hg hf2 hl2))
  split
  · refine wpAny_bind ?_
    rw [hashByValue_scannable 8 (x := .str x u) rfl]
    refine wpAny_pure ?_
    exact tail _ (SetTable.fits_plain_off hfits) hled
  · refine wpAny_bind (wpAny_pure ?_)
    exact tail _ hfits hled
end
end Mine
namespace Mine
section
variable {prog : Program} {w : World} {A : Around} {E : Value → Shared → Prop} {s : Shared}
abbrev byText (w : World) : Bool := w.params.followText "set-order"
theorem set_new_1 (a : Value) {Q₁ : Value → Shared → Prop}
    (h : Q₁ (.ref s.heap.objs.size) { s with heap := s.heap.push { cls := .type "set", dict := none, data := .set #[] 0 (.fresh 0 0 (!byText w)) } }) :
    codeAny (model prog w) A (.call (.builtin "set.__new__") ⟨[.type "set", a], []⟩) (wants Q₁ E) s := by
  refine codeAny_of_tree ?_
  show wpAny _ A.in1 (do checkBuiltinCall "set.__new__" ⟨[.type "set", a], []⟩; again (.builtin "set.__new__" ⟨[.type "set", a], []⟩)) _ _ s
  refine wpAny_bind (wpAny_of_eq (F.newCall_set_1 a) (wpAny_pure ⟨plainId_quiet F.plain_set_new _, codeAny_builtin F.entry_set_new ?_⟩))
  rw [Around.under_plainId F.plain_set_new _]
  unfold Builtin.«set.__new__» Builtin.Frozenset.newClass
  have hsub := sub_set_self
  obtain ⟨hp, g, d, tk, os⟩ := s
  dsimp only
  wp_walk
  refine wpAny_askSetting (wpAny_pure ?_)
  dsimp only
  simp only [newObj]
  refine wpAny_bind (wpAny_alloc (wpAny_pure ?_))
  exact wpAny_pure h

/-- a set of one text -/
def OneSet (prog : Program) (w : World) (h : Heap) (a : Addr) (md : Str) (u : Tok) : Prop :=
  ∃ ep tb, h.get? a = some { cls := .type "set", dict := none, data := .set #[((strKind prog w).hash md, .str md u)] ep tb } ∧ tb.fits 1 = true ∧ tb.led = !byText w
theorem loop_one {R : Result → Shared → Prop} {S I l : Addr} {md : Str} {u : Tok} (hh : A.in1.handled = none) (hI : s.heap.IsListIter I l 0) (hl : s.heap.IsList l #[.str md u]) (hSI : S ≠ I) (hSl : S ≠ l) (hIl : I ≠ l)
    (hS : s.heap.get? S = some { cls := .type "set", dict := none, data := .set #[] 0 (.fresh 0 0 (!byText w)) })
    (h : ∀ h' tk, OneSet prog w h' S md u → (∀ b o, b ≠ S → b ≠ I → s.heap.get? b = some o → h'.get? b = some o) → R (.ok (.ret .none)) { s with heap := h', toks := tk }) :
    codeAny (model prog w) A (.builtin "set.update.loop" ⟨[.ref S, .ref I], []⟩) R s := by
  refine codeAny_builtin F.entry_set_update_loop ?_
  rw [Around.under_plainId F.plain_set_update_loop _]
  show wpAny _ A.in1 (pyNext (.ref I) >>= _) _ _ s
  refine wpAny_bind (wpAny_pyNext_list_item hI hl (x := .str md u) rfl fun h1 hI1 s1 => ?_)
  show wpAny _ A.in1 (holding [Value.str md u] (setAdd S (.str md u)) >>= _) _ _ _
  refine wpAny_bind (wpAny_holding ?_)
  unfold setAdd
  refine wpAny_holding ?_
  refine wpAny_bind ((strKind prog w).pyHash (k := md) (strKind_is _ _ _ _) ?_)
  have hS1 : h1.get? S = _ := s1.extBut S _ hSI hS
  refine set_add_one hS1 rfl fun h2 ep tb s2 hS2 hf hled => ?_
  refine wpAny_pure ⟨plainId_quiet F.plain_set_update_loop _, codeAny_builtin F.entry_set_update_loop ?_⟩
  rw [Around.under_plainId F.plain_set_update_loop _]
  show wpAny _ A.in1 (pyNext (.ref I) >>= _) _ _ _
  have hI2 : h2.IsListIter I l 1 := hI1.at fun o e => s2.extBut I o (Ne.symm hSI) e
  have hl2 : h2.IsList l #[.str md u] := (hl.at fun o e => s1.extBut l o (Ne.symm hIl) e).at fun o e => s2.extBut l o (Ne.symm hSl) e
  refine wpAny_bind (wpAny_pyNext_list_end hh hI2 hl2 (by simp) fun h3 k3 => ?_)
  show wpAny _ A.in1 (ret Value.none) _ _ _
  exact wpAny_pure (h h3 _ ⟨ep, tb, k3 S _ hSI hS2, hf, hled⟩ fun b o hb1 hb2 e => k3 b o hb2 (s2.extBut b o hb1 (s1.extBut b o hb2 e)))
theorem set_of_one {l : Addr} {md : Str} {u : Tok} {Q : Value → Shared → Prop}
    (hh : A.handled = none) (hl : s.heap.IsList l #[.str md u])
    (h : ∀ (h' : Heap) (tk : Nat), OneSet prog w h' s.heap.objs.size md u → s.heap.StaysIn h' → Q (.ref s.heap.objs.size) { s with heap := h', toks := tk }) :
    wpAny (model prog w) A (call (.type "set") [.ref l]) Q E s := by
  obtain ⟨c, tl, hmro⟩ := F.called_set.mro
  have hmade := F.called_set.made
  have hsub := F.called_set.sub
  refine wpAny_call (codeAny_of_tree ?_)
  show wpAny _ _ (callAny (.type "set") _) _ _ _
  refine wpAny_pure ⟨Code.quiet_builtin _ (by decide +kernel), codeAny_builtin F.entry_type_call ?_⟩
  rw [Around.under_plain (weight_type_call_type "set" [.ref l] []) rfl]
  have h1 := F.called_set.notType
  have h2 := F.called_set.canCreate
  have hct := F.typeCall_set_1 (.ref l)
  repeat (any_goals (first | assumption | wp_step))
  refine codeAny_mono (set_new_1 (.ref l) (E := E) (Q₁ := fun obj s₁ => obj = .ref s.heap.objs.size ∧ s₁ = { s with heap := s.heap.push { cls := .type "set", dict := none, data := .set #[] 0 (.fresh 0 0 (!byText w)) } }) ⟨rfl, rfl⟩) fun r s₁ hr => ?_
  cases r with
  | error e => exact hr
  | ok fl =>
    cases fl with
    | ret obj =>
      obtain ⟨rfl, rfl⟩ := hr
      generalize hH1 : s.heap.push { cls := .type "set", dict := none, data := .set #[] 0 (.fresh 0 0 (!byText w)) } = H1
      have hS : H1.get? s.heap.objs.size = some { cls := .type "set", dict := none, data := .set #[] 0 (.fresh 0 0 (!byText w)) } := hH1 ▸ Heap.get?_push_size _ rfl
      have hsz1 : H1.objs.size = s.heap.objs.size + 1 := hH1 ▸ Heap.size_push ..
      have k1 : s.heap.StaysIn H1 := fun b o e => hH1 ▸ Heap.get?_push_of_some _ e
      have hT : Shared.TypeIs { s with heap := H1 } (.ref s.heap.objs.size) "set" := ⟨_, hS, rfl⟩
      have hli := F.called_set.init.lookup
      have hbi := F.called_set.init.bind (.ref s.heap.objs.size)
      repeat (any_goals (first | assumption | wp_step))
      refine codeAny_mono (codeAny_call_builtin (R := wants (fun r s₂ => r = .none ∧ ∃ h' tk, s₂ = { s with heap := h', toks := tk } ∧ OneSet prog w h' s.heap.objs.size md u ∧ s.heap.StaysIn h') E) F.called_set.init.plain F.entry_set_init (check_set_init_1 hT ?_)) fun r₂ s₂ hr₂ => ?_
      · have hl1 : H1.IsList l #[.str md u] := hl.at fun o e => k1 _ _ e
        obtain ⟨ol, hol, hcl, nl, hdl⟩ := id hl1
        obtain ⟨ocls, odict, odata, oslots⟩ := ol
        simp only at hcl hdl
        subst hcl; subst hdl
        have hsls := F.sub_list_set
        have hslf := F.sub_list_frozenset
        have hne : (Value.type "list" == Value.type "dict") = false := by decide
        unfold Builtin.«set.__init__» noKeywords Builtin.Frozenset.updateFrom
        generalize hPI : pyIter = PI
        wp_walk
        subst hPI
        refine wpAny_pyIter_list hl1 ?_
        refine wpAny_bind (wpAny_runValue ?_)
        have hlS : l < s.heap.objs.size := by obtain ⟨o, ho, _⟩ := hl; exact Heap.lt_size ho
        dsimp only
        refine loop_one (by simp [hh]) ⟨_, Heap.get?_push_size _ rfl, rfl, rfl⟩ (hl1.at fun o e => Heap.get?_push_of_some _ e) (by rw [hsz1]; exact Nat.ne_of_lt (Nat.lt_succ_self _)) (Nat.ne_of_gt hlS) (by rw [hsz1]; exact Nat.ne_of_gt (Nat.lt_succ_of_lt hlS)) (Heap.get?_push_of_some _ hS) fun h' tk hO hk => ?_
        refine wpAny_pure ?_
        show wpAny _ _ (ret Value.none) _ _ _
        refine wpAny_pure ⟨rfl, h', tk, rfl, hO, fun b o e => ?_⟩
        exact hk b o (Nat.ne_of_lt (Heap.lt_size e)) (by rw [hsz1]; exact Nat.ne_of_lt (Nat.lt_succ_of_lt (Heap.lt_size e))) (Heap.get?_push_of_some _ (k1 b o e))
      · cases r₂ with
        | error e => exact hr₂
        | ok fl₂ =>
          cases fl₂ with
          | ret r =>
            obtain ⟨rfl, h', tk, rfl, hS', hk'⟩ := hr₂
            repeat (any_goals (first | assumption | wp_step))
            exact h _ _ hS' hk'
          | _ => exact hr₂.elim
    | _ => exact hr.elim
end
end Mine
namespace Mine
theorem entry_set_iter : entryFor table "set.__iter__" = some Builtin.«frozenset.__iter__» :=
  entryFor_alias (id' := "frozenset.__iter__") (by rw [fastTable_eq_tree]; kernel_rfl) rfl (by decide +kernel) (by rw [fastTable_eq_tree]; kernel_rfl)
theorem slot_setiter_next : Slot "set_iterator" "__next__" "set_iterator.__next__" :=
  .of (owner := "set_iterator") (n := "__next__") (by rw [typeLookup_type, builtinLookup_eq_fast]; kernel_rfl) (by decide +kernel) (by decide +kernel) (by decide +kernel)
    (by first | exact .inl (by decide +kernel) | exact .inr (by decide +kernel)) (by rw [isSubtype_type]; kernel_rfl)
theorem slot_setiter_iter : Slot "set_iterator" "__iter__" "set_iterator.__iter__" :=
  .of (owner := "set_iterator") (n := "__iter__") (by rw [typeLookup_type, builtinLookup_eq_fast]; kernel_rfl) (by decide +kernel) (by decide +kernel) (by decide +kernel)
    (by first | exact .inl (by decide +kernel) | exact .inr (by decide +kernel)) (by rw [isSubtype_type]; kernel_rfl)
theorem entry_setiter_next : entryFor table "set_iterator.__next__" = some Builtin.«set_iterator.__next__» := entryFor_of_tree (by kernel_rfl)
theorem entry_setiter_iter : entryFor table "set_iterator.__iter__" = some Builtin.«dict_keyiterator.__iter__» :=
  entryFor_alias (id' := "dict_keyiterator.__iter__") (by rw [fastTable_eq_tree]; kernel_rfl) rfl (by decide +kernel) (by rw [fastTable_eq_tree]; kernel_rfl)
theorem args_setiter_next (a : Value) : argsOk "set_iterator.__next__" ⟨[a], []⟩ := by unfold argsOk; kernel_rfl
theorem args_setiter_iter (a : Value) : argsOk "set_iterator.__iter__" ⟨[a], []⟩ := by unfold argsOk; kernel_rfl
section
variable {prog : Program} {w : World} {A : Around} {E : Value → Shared → Prop} {s : Shared}
abbrev sit (slot : Int) (i : Int) (v : Value) (ep : Int) : Obj := { cls := .type "set_iterator", data := .fields #[.int slot 0, .int i 0, v, .int 1 0, .int ep 0] }
abbrev setObj (prog : Program) (w : World) (md : Str) (u : Tok) (ep : Nat) (tb : SetTable) : Obj := { cls := .type "set", dict := none, data := .set #[((strKind prog w).hash md, .str md u)] ep tb }
theorem pick_one (next : Nat → Nat) {α : Type} (x : α) : pickOrder next #[x] = #[x] := by
  unfold pickOrder
  show pickOrder.go next 1 0 [x] #[] = #[x]
  unfold pickOrder.go
  simp only [List.length_singleton, Nat.mod_one, List.getElem?_cons_zero]
  unfold pickOrder.go
  rfl
theorem below_low (j : Nat) : SetTable.below #[j] 0 = 0 := by
  simp [SetTable.below, SetTable.below.go]
theorem below_high (j : Nat) : SetTable.below #[j] (j + 1) = 1 := by
  simp [SetTable.below, SetTable.below.go]
theorem ite_yes {α : Type} {M : Model} {b : Bool} {t e : Sem α} {Q : α → Shared → Prop} (hb : b = true) (h : wpAny M A t Q E s) : wpAny M A (if b = true then t else e) Q E s := by subst hb; exact h
theorem ite_no {α : Type} {M : Model} {b : Bool} {t e : Sem α} {Q : α → Shared → Prop} (hb : b = false) (h : wpAny M A e Q E s) : wpAny M A (if b = true then t else e) Q E s := by subst hb; exact h
theorem iter_set {a : Addr} {md : Str} {u : Tok} {ep : Nat} {tb : SetTable} {Q : Value → Shared → Prop} (ho : s.heap.get? a = some (setObj prog w md u ep tb)) (hf : tb.fits 1 = true)
    (h : Q (.ref s.heap.objs.size) { s with heap := s.heap.push (sit 0 0 (.ref a) ep) }) : wpAny (model prog w) A (pyIter (.ref a)) Q E s := by
  have hT : s.TypeIs (.ref a) "set" := ⟨_, ho, rfl⟩
  refine wpAny_pyIter_slot hT F.slot_set_iter (wpAny_call_entry F.slot_set_iter hT entry_set_iter ?_ (F.args_set_iter_1 _))
  unfold Builtin.«frozenset.__iter__» Builtin.Frozenset.slot0
  show wpAny _ _ (Builtin.Frozenset.sizeOf a >>= _) _ _ s
  unfold Builtin.Frozenset.sizeOf setEntries
  refine wpAny_bind (wpAny_bind (wpAny_bind (wpAny_setState_of ho rfl hf (wpAny_pure (wpAny_pure ?_)))))
  unfold setDrawn
  refine wpAny_bind (wpAny_bind (wpAny_setState_of ho rfl hf ?_))
  unfold setsByText
  refine wpAny_bind (wpAny_bind (wpAny_askSetting (wpAny_pure (wpAny_pure ?_))))
  refine ite_no (by show (!_ && (!tb.plain && decide (1 > 1))) = false; simp) ?_
  refine wpAny_bind (wpAny_pure ?_)
  unfold setEpoch
  refine wpAny_bind (wpAny_bind (wpAny_setState_of ho rfl hf (wpAny_pure ?_)))
  unfold newFields
  refine wpAny_bind (wpAny_newObj_type (wpAny_pure ⟨_, rfl, "set_iterator", _, ⟨_, Heap.get?_push_size _ rfl, rfl⟩, slot_setiter_next.lookup, h⟩))
/-- the first turn -/
theorem next_set_item {I a : Addr} {md : Str} {u : Tok} {ep : Nat} {tb : SetTable} {Q : Option Value → Shared → Prop} (hI : s.heap.get? I = some (sit 0 0 (.ref a) ep)) (ho : s.heap.get? a = some (setObj prog w md u ep tb)) (hf : tb.fits 1 = true) (hled : tb.led = !byText w)
    (h : ∀ h' slot, h'.get? I = some (sit slot 1 (.ref a) ep) → (byText w = false → ∃ j, tb.place = #[j] ∧ slot = (j : Int) + 1) → Heap.SameBut I s.heap h' → Q (some (.str md u)) { s with heap := h' }) : wpAny (model prog w) A (pyNext (.ref I)) Q E s := by
  have hT : s.TypeIs (.ref I) "set_iterator" := ⟨_, hI, rfl⟩
  obtain ⟨j, hj⟩ : ∃ j, tb.place = #[j] := by
    have hz : tb.place.size = 1 := by
      unfold SetTable.fits at hf
      simp only [Bool.and_eq_true, beq_iff_eq] at hf
      exact hf.1
    exact ⟨tb.place[0]'(by omega), by apply Array.ext <;> simp [hz]; intro i hi; simp [hi]⟩
  unfold pyNext
  refine wpAny_bind (wpAny_attempt (wpAny_callSpecial?_slot (name := Str.ofString "__next__") hT slot_setiter_next
    (wpAny_call_entry slot_setiter_next hT entry_setiter_next ?_ (args_setiter_next _))))
  unfold Builtin.«set_iterator.__next__»
  show wpAny _ _ (fieldsOf (.ref I) >>= _) _ _ s
  refine wpAny_bind (wpAny_fieldsOf hI rfl ?_)
  show wpAny _ _ (setEntries a >>= _) _ _ s
  unfold setEntries
  refine wpAny_bind (wpAny_bind (wpAny_setState_of ho rfl hf (wpAny_pure ?_)))
  refine ite_no (by simp) ?_
  show wpAny _ _ (setNext a 0 0 ep >>= _) _ _ s
  have fin : ∀ (E' : Value → Shared → Prop) (slot : Nat), (byText w = false → slot = j + 1) → wpAny (model prog w) A.in1 (do setField (.ref I) 0 (rawInt slot); setField (.ref I) 1 (rawInt (0 + 1)); ret (.str md u)) (fun fin s' => ∃ v, fin = .done (.ret v) ∧ wpAny (model prog w) A (pure (some v)) Q E s') E' s := by
    intro E' slot hs
    refine wpAny_bind (wpAny_setField_rec hI (by simp) fun ha e1 s1 => ?_)
    refine wpAny_bind (wpAny_setField_rec e1 (by simp) fun hb e2 s2 => ?_)
    exact wpAny_pure ⟨_, rfl, wpAny_pure (h hb slot e2 (fun e => ⟨j, hj, by rw [hs e]; rfl⟩) (s1.trans s2))⟩
  unfold setNext
  refine wpAny_bind (wpAny_bind (wpAny_setState_of ho rfl hf ?_))
  dsimp only
  unfold setsByText
  refine wpAny_bind (wpAny_bind (wpAny_askSetting (wpAny_pure ?_)))
  cases hbt : w.params.followText "set-order" with
  | true =>
    refine ite_yes hbt ?_
    refine ite_no (by simp) ?_
    unfold setWalk
    refine wpAny_bind (wpAny_bind (wpAny_setState_of ho rfl hf ?_))
    dsimp only
    unfold setsByText
    refine wpAny_bind (wpAny_bind (wpAny_askSetting (wpAny_pure ?_)))
    refine ite_yes hbt ?_
    refine wpAny_bind (wpAny_askSetting (wpAny_pure ?_))
    rw [pick_one]
    refine wpAny_pure ?_
    exact fin _ 0 (fun e => by rw [show byText w = true from hbt] at e; cases e)
  | false =>
    refine ite_no hbt ?_
    have hl2 : tb.led = true := by rw [hled]; show (!w.params.followText "set-order") = true; rw [hbt]; rfl
    refine ite_no (by show (!tb.plain && decide (1 > 1)) = false; simp) ?_
    refine wpAny_bind (ite_no (by rw [hl2]; rfl) (wpAny_pure ?_))
    rw [hj, below_low]
    refine wpAny_pure ?_
    exact fin _ (j + 1) fun _ => rfl

/-- the end -/
theorem next_set_end {I a : Addr} {md : Str} {u : Tok} {ep : Nat} {tb : SetTable} {slot : Int} {Q : Option Value → Shared → Prop} (hh : A.handled = none) (hI : s.heap.get? I = some (sit slot 1 (.ref a) ep)) (ho : s.heap.get? a = some (setObj prog w md u ep tb)) (hf : tb.fits 1 = true) (hled : tb.led = !byText w)
    (hslot : byText w = false → ∃ j, tb.place = #[j] ∧ slot = (j : Int) + 1)
    (h : ∀ h', Heap.ExtBut I s.heap h' → Q none { s with heap := h' }) : wpAny (model prog w) A (pyNext (.ref I)) Q E s := by
  have hT : s.TypeIs (.ref I) "set_iterator" := ⟨_, hI, rfl⟩
  unfold pyNext
  refine wpAny_bind (wpAny_attempt (wpAny_callSpecial?_slot (name := Str.ofString "__next__") hT slot_setiter_next
    (wpAny_call_entry slot_setiter_next hT entry_setiter_next ?_ (args_setiter_next _))))
  unfold Builtin.«set_iterator.__next__»
  show wpAny _ _ (fieldsOf (.ref I) >>= _) _ _ s
  refine wpAny_bind (wpAny_fieldsOf hI rfl ?_)
  show wpAny _ _ (setEntries a >>= _) _ _ s
  unfold setEntries
  refine wpAny_bind (wpAny_bind (wpAny_setState_of ho rfl hf (wpAny_pure ?_)))
  refine ite_no (by simp) ?_
  show wpAny _ _ (setNext a slot.toNat 1 ep >>= _) _ _ s
  unfold setNext
  have fin : ∀ (E' : Value → Shared → Prop) (P : PySem.Fin → Shared → Prop), (∀ h' e, Heap.ExtBut I s.heap h' → Shared.TypeIs { s with heap := h' } e "StopIteration" → E' e { s with heap := h' }) →
      wpAny (model prog w) A.in1 (do setField (.ref I) 2 .none; raiseNew (← newExc (.type "StopIteration") [])) P E' s := by
    intro E' P hE
    refine wpAny_bind (wpAny_setField_rec hI (by simp) fun h1 e1 s1 => ?_)
    refine wpAny_bind ?_
    simp only [newExc, newTuple]
    refine wpAny_bind (wpAny_newObj_type ?_)
    refine wpAny_bind (m := firstArgMember _ _) (wpAny_of_eq (a := Value.none) (by first | rfl | (simp only [firstArgMember]; rfl)) ?_)
    refine wpAny_newObj_type ?_
    simp only [raiseNew]
    refine wpAny_bind (wpAny_handled ?_)
    rw [show A.in1.handled = none from hh]
    refine wpAny_bind (wpAny_pure (wpAny_throw ?_))
    exact hE _ _ ((s1.extBut.push _).push _) ⟨_, Heap.get?_push_size _ rfl, rfl⟩
  refine wpAny_bind (wpAny_bind (wpAny_setState_of ho rfl hf ?_))
  dsimp only
  unfold setsByText
  refine wpAny_bind (wpAny_bind (wpAny_askSetting (wpAny_pure ?_)))
  cases hbt : w.params.followText "set-order" with
  | true =>
    refine ite_yes hbt ?_
    refine ite_no (by simp) ?_
    unfold setWalk
    refine wpAny_bind (wpAny_bind (wpAny_setState_of ho rfl hf ?_))
    dsimp only
    unfold setsByText
    refine wpAny_bind (wpAny_bind (wpAny_askSetting (wpAny_pure ?_)))
    refine ite_yes hbt ?_
    refine wpAny_bind (wpAny_askSetting (wpAny_pure ?_))
    rw [pick_one]
    refine wpAny_pure ?_
    refine fin _ _ fun h' e k hT' => ?_
    exact wpAny_bind (wpAny_isInstance (T := "StopIteration") (b := true) hT' isSubtype_stop (wpAny_pure (h h' k)))
  | false =>
    refine ite_no hbt ?_
    obtain ⟨j, hj, hs⟩ := hslot hbt
    have hl2 : tb.led = true := by rw [hled]; show (!w.params.followText "set-order") = true; rw [hbt]; rfl
    refine ite_no (by show (!tb.plain && decide (1 > 1)) = false; simp) ?_
    refine wpAny_bind (ite_no (by rw [hl2]; rfl) (wpAny_pure ?_))
    have e1 : slot.toNat = j + 1 := by omega
    rw [hj, e1, below_high]
    refine wpAny_pure ?_
    refine fin _ _ fun h' e k hT' => ?_
    exact wpAny_bind (wpAny_isInstance (T := "StopIteration") (b := true) hT' isSubtype_stop (wpAny_pure (h h' k)))
theorem iter_setiter {I : Addr} {o : Obj} {Q : Value → Shared → Prop} (ho : s.heap.get? I = some o) (hc : o.cls = .type "set_iterator") (h : Q (.ref I) s) : wpAny (model prog w) A (pyIter (.ref I)) Q E s := by
  have hT : s.TypeIs (.ref I) "set_iterator" := ⟨_, ho, hc⟩
  refine wpAny_pyIter_slot hT slot_setiter_iter (wpAny_call_entry slot_setiter_iter hT entry_setiter_iter ?_ (args_setiter_iter _))
  show wpAny _ _ (ret (.ref I)) _ _ s
  exact wpAny_pure ⟨_, rfl, "set_iterator", _, hT, slot_setiter_next.lookup, h⟩
theorem gives_set {s₁ : Shared} {a : Addr} {md : Str} {u : Tok} (hh : A.handled = none) (hO : OneSet prog w s₁.heap a md u) : Gives prog w A "set_iterator" (.ref a) [a] 1 (fun _ v => v = .str md u) s₁ := by
  intro Q E h
  obtain ⟨ep, tb, ho, hf, hled⟩ := hO
  have hne : a ≠ s₁.heap.objs.size := Nat.ne_of_lt (Heap.lt_size ho)
  refine iter_set ho hf (h (fun i h => ∃ slot : Int, h.get? s₁.heap.objs.size = some (sit slot i (.ref a) ep) ∧ (i = 0 → slot = 0) ∧ (i = 1 → byText w = false → ∃ j, tb.place = #[j] ∧ slot = (j : Int) + 1) ∧ i ≤ 1 ∧ h.get? a = some (setObj prog w md u ep tb)) _ (fun b o e => Heap.get?_push_of_some _ e) (Heap.size_push ..) ?_ ⟨0, Heap.get?_push_size _ rfl, fun _ => rfl, (fun e => by omega), by omega, Heap.get?_push_of_some _ ho⟩ ?_)
  · refine ⟨fun b hb => by rw [List.mem_singleton.mp hb]; exact .head _, ?_, ?_, ?_, ?_⟩
    · rintro i h h' ⟨slot, hI, h0, h1, hi, ha⟩ hk
      exact ⟨slot, hk _ (.head _) _ hI, h0, h1, hi, hk _ (.tail _ (.head _)) _ ha⟩
    · rintro i s' Q' E' hi ⟨slot, hI, h0, h1, _, ha⟩ hq
      have hi0 : i = 0 := by omega
      subst hi0
      cases h0 rfl
      exact next_set_item hI ha hf hled fun h' slot' hI' hs' sb => hq _ h' _ rfl ⟨slot', hI', (fun e => by omega), (fun _ => hs'), by omega, sb.extBut _ _ hne ha⟩ fun b o hb e => sb.extBut b o (fun q => hb (List.mem_singleton.mpr q)) e
    · rintro s' Q' E' ⟨slot, hI, h0, h1, _, ha⟩ hq
      exact next_set_end hh hI ha hf hled (h1 rfl) fun h' k => hq h' _ fun b o hb e => k b o (fun q => hb (List.mem_singleton.mpr q)) e
    · rintro i s' Q' E' ⟨slot, hI, _⟩ hq
      exact iter_setiter hI rfl hq
  · rintro i h ⟨slot, hI, _⟩
    exact ⟨_, hI, rfl⟩
end
end Mine
namespace Mine
section
variable {w : World} {A : Around} {s : Shared} {R : Result → Shared → Prop} {name qual : Str} {params : Arguments} {body : List Stmt} {scope : Scope} {dV kV doc pm cdv ct oc : Value} {an od : Option Addr} {osl : Array (Option Value)} {f : Addr} {args : List Value} {binds : List (Str × Value)}
theorem enter_code {h₀ : Heap} (news : List (Addr × Obj)) (G : Gr w h₀) (k : h₀.StaysIn s.heap) (hN : ∀ q ∈ news, s.heap.get? q.1 = some q.2 ∧ h₀.get? q.1 = none)
    (ho : (hd.heap_39 w.params).lookup f = some ⟨oc, od, .func (fnOf name qual params body scope dV kV doc pm an cdv ct), osl⟩) (hcd : codeIn (hd.heap_39 w.params) cdv qual = true) (hroom : A.depth < recursionLimit)
    (hbind : BindsTo s (fnOf name qual params body scope dV kV doc pm an cdv ct) ⟨args, []⟩ binds) (hloc : ∀ y ∈ binds, scope.names.lookup y.1 = some .local)
    (h : ∀ p lo me mg mb g L' h₁ tk, (hd.heap_39 w.params).In g → Top p lo me mg mb g → h₀.StaysIn g → (∀ b o, s.heap.get? b = some o → b ∉ news.map (·.1) → g.get? b = some o) →
      Fr g L' h₁ (fun y => binds.reverse.lookup y) → News g L' h₁ news → 
      wpAny (model PR w) (A.deeper (envOf qual scope L' f cdv)) (execs body (envOf qual scope L' f cdv))
        (fun fl s' => R (.ok (.ret (match fl with | .ret v => v | _ => .none))) s') (fun _ _ => False) { s with heap := h₁, toks := tk })
    (hco : scope.isCoroutine = false) (hgen : scope.isGenerator = false) (hk : scope.kind = .function)
    (hcell : ∀ x ∈ scope.names, x.2 ≠ .cell) : codeAny (model PR w) A (.call (.ref f) ⟨args, []⟩) R s := by
  have nm : ∀ b o, h₀.get? b = some o → b ∉ news.map (·.1) := fun b o e q => by
    obtain ⟨p, hp, rfl⟩ := List.mem_map.mp q
    rw [(hN p hp).2] at e; cases e
  have st : h₀.StaysIn (hideAll s.heap (news.map (·.1))) := fun b o e => hideAll_get _ (k b o e) (nm b o e)
  obtain ⟨X, p, lo, me, mg, mb, T⟩ := G
  refine codeAny_call_def (fd := fnOf name qual params body scope dV kV doc pm an cdv ct) (body := body) (binds := binds) hroom (k _ _ (X _ _ ho)) rfl (T.keeps k).nolimit (codeRec_of (X.keeps k) hcd) rfl hbind hcell hloc (fun h₁ hns hk₁ => ?_) hco hgen hk
  refine wpAny_mono (h p lo me mg mb _ s.heap.objs.size h₁ _ (X.keeps st) (T.keeps st) st (fun b o e n => hideAll_get _ e n) ⟨hns, fun b o e => hk₁ b o (of_hideAll _ e), Nat.le_of_eq (hideAll_size _ _)⟩
    (fun q hq => ⟨hk₁ _ _ (hN q hq).1, Nat.ne_of_lt (Heap.lt_size (hN q hq).1), hideAll_none _ (List.mem_map_of_mem hq)⟩)) (fun _ _ x => x) fun _ _ x => x.elim
end
local macro_rules | `(tactic| walk_at "call type:set cons nil") => `(tactic| refine Hold.out ?_)
local macro_rules | `(tactic| walk_at "call type:set") => `(tactic| refine Hold.out ?_)
structure Rdr (w : World) (h : Heap) (x dx ai ad sa : Addr) (md : Str) (u : Tok) (c : List (Str × Int)) : Prop where
  inst : h.get? x = some (instObj 107 dx)
  dict : ∃ t1 t2 t3, h.get? dx = some (dictOf [⟨PyData.keyHash w.params "_mods", .str "_mods" t1, .ref sa⟩, ⟨PyData.keyHash w.params "_dirs", .str "_dirs" t2, .ref ad⟩, ⟨PyData.keyHash w.params "_ignore", .str "_ignore" t3, .ref ai⟩] 3)
  ign : ∃ o kvs, h.get? ai = some o ∧ o.IsDictOf (strKind PR w) kvs ∧ PyProof.V.FlatPairs PyData.str kvs (kdpD c)
  sysm : (ai == sysModules) = false
  dirs : h.get? ad = some (listOf #[] 0)
  mods : OneSet PR w h sa md u
  lt : @LT.lt Nat _ dx x ∧ @LT.lt Nat _ x sa ∧ @LT.lt Nat _ sa ad ∧ @LT.lt Nat _ ad ai
theorem make_ok {w : World} {A : Around} {s : Shared} {E : Value → Shared → Prop} {Q : Value → Shared → Prop} {h₀ : Heap} {lm : Addr} {md : Str} {u : Tok}
   (G : Gr w h₀) (k : h₀.StaysIn s.heap) (hl : s.heap.IsList lm #[.str md u])
   (hh : A.handled = none) (hdp : A.depth + 3 < recursionLimit) (hu : A.units + 100 < cLine)
   (hret : ∀ h' tk x dx ai ad sa, s.heap.StaysIn h' → Rdr w h' x dx ai ad sa md u [(Str.ofString "<string>", 1)] → (∀ b ∈ [x, dx, ai, ad, sa], s.heap.get? b = none) → Q (.ref x) { s with heap := h', toks := tk }) :
   wpAny (model PR w) A (call (.ref 107) [.ref lm]) Q E s := by
  obtain ⟨h, gs, dr, tk, os⟩ := s
  refine wpAny_call ?_
  have X := G.X.keeps k
  have hm : makesIn (hd.heap_39 w.params) 107 = true := by k_is
  have hi : findIn (hd.heap_39 w.params) (.ref 107) "__init__" = some (some (.ref 97)) := by k_is
  have hf : isFn (hd.heap_39 w.params) (.ref 97) = true := by k_is
  refine make_core (makes_of X hm) (looks_findIn X hi) (fun self => bind_fn X self (beq_iff_eq.mp hf)) (.inl rfl) ?_
  generalize hH : (h.push emptyDict).push (instObj 107 h.objs.size) = H
  have e2 : H.get? (h.objs.size + 1) = some (instObj 107 h.objs.size) := by
    rw [← hH, ← Heap.size_push h emptyDict]; exact Heap.get?_push_size _ rfl
  have e1 : H.get? h.objs.size = some emptyDict := by rw [← hH]; exact Heap.get?_push_of_some _ (Heap.get?_push_size _ rfl)
  have k1 : h.StaysIn H := fun b o e => by rw [← hH]; exact Heap.get?_push_of_some _ (Heap.get?_push_of_some _ e)
  have n1 : h.get? h.objs.size = none := by
    cases e : h.get? h.objs.size with
    | none => rfl
    | some o => exact absurd (Heap.lt_size e) (Nat.lt_irrefl _)
  have n2 : h.get? (h.objs.size + 1) = none := by
    cases e : h.get? (h.objs.size + 1) with
    | none => rfl
    | some o => exact absurd (Heap.lt_size e) (Nat.not_lt.mpr (Nat.le_succ _))
  generalize hdx : h.objs.size = dx at *
  generalize hx : dx + 1 = x at *
  have hne : dx ≠ x := by omega
  k_dflt (refine' enter_code (h₀ := h) [(x, instObj 107 dx), (dx, dictOf [] 0)] (G.keeps k) k1 ?kN ?ko ?kc ?kr ?kb ?kl ?_ ?c1 ?c2 ?c3 ?c4; (case ko => k_is); (case kc => k_is); (case kr => (simp only [depth_under_make]; omega)); (case kb => exact binds_K (by exact X.keeps k1) rfl (by k_is) rfl rfl rfl); (case kl => exact locs rfl); (case c1 => exact rfl); (case c2 => exact rfl); (case c3 => exact rfl); (case c4 => decide))
  · intro q hq
    rcases List.mem_cons.mp hq with rfl | hq
    · exact ⟨e2, n2⟩
    · rcases List.mem_singleton.mp hq with rfl; exact ⟨e1, n1⟩
  · intro p lo me mg mb g L' h₁ tk X' T' st' gs' F' N'
    have hlg : g.IsList lm #[.str md u] := hl.at fun o e => st' lm o e
    (try dsimp only)
    (try k_fold)
    k_steps
    constructor
    have hS0 : h₁.get? h₁.objs.size = none := by
      cases e : h₁.get? h₁.objs.size with
      | none => rfl
      | some o => exact absurd (Heap.lt_size e) (Nat.lt_irrefl _)
    refine set_of_one hh (hlg.at fun o e => F'.keep lm o e) fun h2 tk2 hO hk2 => ?_
    obtain ⟨ep, tb, eS, hfS, hlS⟩ := hO
    have F2 := fr_keeps F' hk2
    have N2 := news_one F' hS0 hk2 eS (news_keeps N' hk2)
    dsimp only at F2 N2 ⊢
    have l1 : @LT.lt Nat _ x h₁.objs.size := Heap.lt_size (N' _ (.head _)).1
    have l2 : @LT.lt Nat _ dx x := by omega
    generalize h₁.objs.size = sa at *
    k_steps
    refine ⟨rfl, ?_⟩
    rename Fr _ _ _ _ => F9
    rename News _ _ _ _ => N9
    rename Obj.IsDictOf _ _ _ => hdo
    rename PyProof.V.FlatPairs _ _ _ => hfo
    rename (_ == sysModules) = false => hsm
    have hgn : ∀ b, g.get? b = none → h.get? b = none := fun b e => by
      cases q : h.get? b with
      | none => rfl
      | some o => rw [st' b o q] at e; cases e
    refine hret _ _ x dx _ _ sa (fun b o e => F9.keep b o (st' b o e)) ⟨(N9 _ (.tail _ (.tail _ (.tail _ (.head _))))).1, ⟨_, _, _, (N9 _ (.tail _ (.tail _ (.tail _ (.tail _ (.head _)))))).1⟩, ⟨_, _, (N9 _ (.head _)).1, hdo, hfo⟩, hsm, (N9 _ (.tail _ (.head _))).1, ⟨ep, tb, (N9 _ (.tail _ (.tail _ (.head _)))).1, hfS, hlS⟩, ?_⟩ ?_
    · (try dsimp only at *); omega
    · intro b hb
      refine hgn b ?_
      rcases List.mem_cons.mp hb with rfl | hb
      · exact (N9 _ (.tail _ (.tail _ (.tail _ (.head _))))).2.2
      rcases List.mem_cons.mp hb with rfl | hb
      · exact (N9 _ (.tail _ (.tail _ (.tail _ (.tail _ (.head _)))))).2.2
      rcases List.mem_cons.mp hb with rfl | hb
      · exact (N9 _ (.head _)).2.2
      rcases List.mem_cons.mp hb with rfl | hb
      · exact (N9 _ (.tail _ (.head _))).2.2
      rcases List.mem_singleton.mp hb with rfl
      exact (N9 _ (.tail _ (.tail _ (.head _)))).2.2
end Mine
namespace Mine
theorem one_setOf {prog : Program} {w : World} {h : Heap} {a : Addr} {md : Str} {u : Tok} (hO : OneSet prog w h a md u) : h.SetOf (PySem.strKind prog w) a (fun k => decide (k = md)) 1 := by
  obtain ⟨ep, tb, ho, hf, hl⟩ := hO
  refine ⟨_, _, _, _, ho, ⟨rfl, rfl, rfl⟩, rfl, ?_, ?_, (show 1 < scanBound by decide), hf, rfl⟩
  · intro e he
    rcases List.mem_singleton.mp he with rfl
    exact ⟨⟨md, strKind_is _ _ _ _, rfl⟩, rfl⟩
  · intro k
    constructor
    · intro q
      have q := of_decide_eq_true q
      subst q
      exact ⟨_, .head _, strKind_is _ _ _ _⟩
    · rintro ⟨e, he, hk⟩
      rcases List.mem_singleton.mp he with rfl
      have : (md == k) = true := hk
      exact decide_eq_true (eq_of_beq this).symm
section
local macro_rules | `(tactic| walk_at "exec For Name Attribute cons nil") => `(tactic| refine Hold.out ?_)
local macro_rules | `(tactic| walk_at "compareOp In str ref") => `(tactic| refine Hold.out ?_)
local macro_rules | `(tactic| walk_at "binaryOp Add str str") => `(tactic| refine Hold.out ?_)
local macro_rules | `(tactic| walk_at "call builtin:str.startswith") => `(tactic| refine Hold.out ?_)
local macro_rules | `(tactic| walk_at "setItem ref str") => `(tactic| refine Hold.out ?_)
theorem names_ok {w : World} {A : Around} {s : Shared} {E : Value → Shared → Prop} {Q : Value → Shared → Prop} {h₀ : Heap} {x dx ai ad sa : Addr} {md nm : Str} {u tn tf : Tok} {c : List (Str × Int)}
   (G : Gr w h₀) (k : h₀.StaysIn s.heap) (R : Rdr w s.heap x dx ai ad sa md u c) (hout : h₀.get? x = none ∧ h₀.get? dx = none ∧ h₀.get? ai = none) (hc : kdpHas c nm = false) (hcl : c.length ≤ 1000) (hmd : md.length ≤ 100000)
   (hh : A.handled = none) (hdp : A.depth + 3 < recursionLimit) (hu : A.units + 100 < cLine)
   (hret : ∀ h' tk t, (∀ b o, b ≠ ai → s.heap.get? b = some o → h'.get? b = some o) → Rdr w h' x dx ai ad sa md u (kdpPut c nm (if nm = md ∨ Txt.startswith nm (md ++ Str.ofString ".") = true then 1 else 0)) → Q (.int (if nm = md ∨ Txt.startswith nm (md ++ Str.ofString ".") = true then 1 else 0) t) { s with heap := h', toks := tk }) :
   wpAny (model PR w) A (call (.ref 104) [.ref x, .str (Str.ofString "") tf, .str nm tn]) Q E s := by
  obtain ⟨h, gs, dr, tk, os⟩ := s
  dsimp only at *
  obtain ⟨ei, ⟨t1, t2, t3, ed⟩, ⟨oi, kvs, eg, hdo, hfp⟩, hsm, edd, hO, lt1, lt2, lt3, lt4⟩ := R
  k_dflt (refine' enter [(ai, oi), (x, instObj 107 dx), (dx, dictOf [⟨PyData.keyHash w.params "_mods", .str "_mods" t1, .ref sa⟩, ⟨PyData.keyHash w.params "_dirs", .str "_dirs" t2, .ref ad⟩, ⟨PyData.keyHash w.params "_ignore", .str "_ignore" t3, .ref ai⟩] 3)] G k ?kN ?ko ?kc ?kr ?kb ?kl ?_ ?c1 ?c2 ?c3 ?c4; (case ko => k_is); (case kc => k_is); (case kr => omega); (case kb => exact BindsTo.of_eq rfl); (case kl => exact locs rfl); (case c1 => exact rfl); (case c2 => exact rfl); (case c3 => exact rfl); (case c4 => decide))
  · intro q hq
    rcases List.mem_cons.mp hq with rfl | hq
    · exact ⟨eg, hout.2.2⟩
    rcases List.mem_cons.mp hq with rfl | hq
    · exact ⟨ei, hout.1⟩
    rcases List.mem_singleton.mp hq with rfl
    exact ⟨ed, hout.2.1⟩
  · intro p lo me mg mb g L' h₁ tk X' T' st' gs' F' N'
    have hsa : g.get? ad = some (listOf #[] 0) := gs' _ _ edd (by intro q; simp at q; rcases q with q | q | q <;> exact absurd (show @Eq Nat _ _ from q) (by omega))
    (try dsimp only)
    (try k_fold)
    k_steps
    constructor
    refine kdp_in (c := c) ⟨hsm, _, Heap.dictOf_iff.mpr ⟨_, (N' _ (.head _)).1, hdo⟩, hfp⟩ ?_
    rw [hc]
    k_steps
    constructor
    have hOg : OneSet PR w g sa md u := by
      obtain ⟨ep, tb, ho, hf, hl⟩ := hO
      exact ⟨ep, tb, gs' _ _ ho (by intro q; simp at q; rcases q with q | q | q <;> exact absurd (show @Eq Nat _ _ from q) (by omega)), hf, hl⟩
    have hO1 : ∀ {h' m}, Fr g L' h' m → OneSet PR w h' sa md u := fun F => by
      obtain ⟨ep, tb, ho, hf, hl⟩ := hOg
      exact ⟨ep, tb, F.keep _ _ ho, hf, hl⟩
    have fin : ∀ (r : Int) h' m' o' kvs' tk t nx, r = (if nm = md ∨ Txt.startswith nm (md ++ Str.ofString ".") = true then 1 else 0) → Fr g L' h' m' → News g L' h' nx → (ai, o') ∈ nx → (x, instObj 107 dx) ∈ nx → (dx, dictOf [⟨PyData.keyHash w.params "_mods", .str "_mods" t1, .ref sa⟩, ⟨PyData.keyHash w.params "_dirs", .str "_dirs" t2, .ref ad⟩, ⟨PyData.keyHash w.params "_ignore", .str "_ignore" t3, .ref ai⟩] 3) ∈ nx → o'.IsDictOf (PySem.strKind PR w) kvs' → PyProof.V.FlatPairs PyData.str kvs' (kdpD (kdpPut c nm r)) → Q (.int r t) { heap := h', gens := gs, drawn := dr, toks := tk, os := os } := by
      intro r h' m' o' kvs' tk t nx hr F N m1 m2 m3 hdo' hfp'
      subst hr
      refine hret h' tk t (fun b o hb e => ?_) ⟨(N _ m2).1, ⟨_, _, _, (N _ m3).1⟩, ⟨_, _, (N _ m1).1, hdo', hfp'⟩, hsm, F.keep _ _ hsa, hO1 F, lt1, lt2, lt3, lt4⟩
      by_cases hx : b = x
      · subst hx; rw [ei] at e; cases e; exact (N _ m2).1
      by_cases hdx : b = dx
      · subst hdx; rw [ed] at e; cases e; exact (N _ m3).1
      exact F.keep _ _ (gs' b o e (by simp [hb, hx, hdx]))
    have hne1 : x ≠ ai := fun q => absurd (show @Eq Nat _ _ from q) (by omega)
    have hne2 : dx ≠ ai := fun q => absurd (show @Eq Nat _ _ from q) (by omega)
    refine wpAny_inSet_of (strKind_is _ _ _ _) rfl (one_setOf (hO1 F')) ?_
    k_steps
    · constructor
      rename Fr _ _ _ _ => F2
      rename News _ _ _ _ => N2
      refine kdp_setItem (c := c) F2 N2 (.head (by simp [hne1, hne2])) hdo hfp (by omega) ?_
      intro h3 o3 kvs3 F3 N3 hdo3 hfp3
      k_steps
      exact fin 1 _ _ _ _ _ _ _ (by simp [*]) F3 N3 (.head _) (.tail _ (.head _)) (.tail _ (.tail _ (.head _))) hdo3 hfp3
    · constructor
      rename ¬ (nm = md) => hnm
      refine for_src g L' (fun _ => rfl) ?_
      k_steps
      constructor
      rename Fr _ _ _ _ => F2
      rename News _ _ _ _ => N2
      refine ⟨"set_iterator", [sa], 1, _, fun i m nx => ∃ u, nx = [(ai, oi), (x, instObj 107 dx), (dx, dictOf [⟨PyData.keyHash w.params "_mods", .str "_mods" t1, .ref sa⟩, ⟨PyData.keyHash w.params "_dirs", .str "_dirs" t2, .ref ad⟩, ⟨PyData.keyHash w.params "_ignore", .str "_ignore" t3, .ref ai⟩] 3)] ∧ m = put "self" (.ref x) (put "filename" (.str (Str.ofString "") tf) (put "modulename" (.str nm tn) u)) ∧ (i = 1 → Txt.startswith nm (md ++ Str.ofString ".") = false), ⟨gives_set hh (hO1 F2), ?_, ?_, ?_, ?_⟩⟩
      · exact ⟨_, _, fput (fput (fput F2 (by rfl)) (by rfl)) (by rfl), N2, _, rfl, rfl, fun e => by omega⟩
      · intro i v s₃ o Q' _ _ _ hq; exact own_name hq
      · rintro i v m nx h tk oI hlt rfl ⟨u', rfl, rfl, _⟩ F3 N3 hne
        have hi0 : i = 0 := by omega
        subst hi0
        have hI1 : ai ≠ _ := hne _ (.head _)
        have k3 := fun o => F3.keep sa o
        k_steps
        constructor
        refine PyProof.Rows.add_str (fun t5 tk5 => ?_) (by have h01 : (Str.ofString ".").length = 1 := rfl; rw [sizeLine_eq]; omega)
        k_steps
        constructor
        refine SC.startswith ?_
        k_steps
        · constructor
          rename Fr _ _ _ _ => F4
          rename News _ _ _ _ => N4
          rename Txt.startswith _ _ = true => hst
          refine kdp_setItem (c := c) F4 N4 (.tail (Ne.symm hI1) (.head (by simp [hne1, hne2]))) hdo hfp (by omega) ?_
          intro h5 o5 kvs5 F5 N5 hdo5 hfp5
          k_steps
          exact fin 1 _ _ _ _ _ _ _ (by rw [if_pos (Or.inr hst)]) F5 N5 (.tail _ (.head _)) (.tail _ (.tail _ (.head _))) (.tail _ (.tail _ (.tail _ (.head _)))) hdo5 hfp5
        · rename Fr _ _ _ _ => F4
          rename News _ _ _ _ => N4
          rename Txt.startswith _ _ = false => hst
          constructor
          exact ⟨_, _, _, _, rfl, fput (fput (fput F4 (by rfl)) (by rfl)) (by rfl), N4, hne, (fun b hb o e => by rw [List.mem_singleton.mp hb] at e ⊢; obtain ⟨ep, tb, ho, _⟩ := hOg; have q := k3 _ ho; rw [q] at e; cases e; exact F4.keep _ _ ho), _, rfl, rfl, fun _ => by simpa using hst⟩
      · rintro m nx h tk ⟨u', rfl, rfl, hst⟩ F3 N3
        have hst := hst rfl
        k_steps
        constructor
        refine for_src g L' (fun _ => rfl) ?_
        k_steps
        constructor
        refine ⟨"list_iterator", [ad], 0, _, fun i m nx => ∃ u, nx = [(ai, oi), (x, instObj 107 dx), (dx, dictOf [⟨PyData.keyHash w.params "_mods", .str "_mods" t1, .ref sa⟩, ⟨PyData.keyHash w.params "_dirs", .str "_dirs" t2, .ref ad⟩, ⟨PyData.keyHash w.params "_ignore", .str "_ignore" t3, .ref ai⟩] 3)] ∧ m = put "self" (.ref x) (put "filename" (.str (Str.ofString "") tf) (put "modulename" (.str nm tn) u)), ⟨gives_list (items := #[]) hh ⟨_, F3.keep _ _ hsa, rfl, _, rfl⟩, ?_, ?_, ?_, ?_⟩⟩
        · exact ⟨_, _, fput (fput (fput F3 (by rfl)) (by rfl)) (by rfl), N3, _, rfl, rfl⟩
        · intro i v s₃ o Q' _ _ _ hq; exact own_name hq
        · rintro i v m nx h tk oI hlt
          exact absurd hlt (Nat.not_lt_zero _)
        · rintro m nx h tk ⟨u', rfl, rfl⟩ F6 N6
          k_steps
          constructor
          refine kdp_setItem (c := c) F6 N6 (.head (by simp [hne1, hne2])) hdo hfp (by omega) ?_
          intro h7 o7 kvs7 F7 N7 hdo7 hfp7
          k_steps
          exact fin 0 _ _ _ _ _ _ _ (by rw [if_neg (by rintro (q | q); exact hnm q; rw [hst] at q; cases q)]) F7 N7 (.head _) (.tail _ (.head _)) (.tail _ (.tail _ (.head _))) hdo7 hfp7
end
end Mine
namespace Mine
/-- h₀: the base and the objects `imm`, and none of those that may be written -/
structure Gh (h₀ g : Heap) (L : Addr) (mu : List Addr) (imm : List (Addr × Obj)) : Prop where
  base : g.StaysIn h₀
  out : ∀ b ∈ L :: mu, h₀.get? b = none
  cover : ∀ b o, h₀.get? b = some o → g.get? b = some o ∨ (b, o) ∈ imm
  apart : ∀ p ∈ imm, p.1 ∉ mu
theorem Gh.stays {h₀ g h : Heap} {L : Addr} {mu : List Addr} {imm nx : List (Addr × Obj)} {m : Str → Option Value} (H : Gh h₀ g L mu imm) (F : Fr g L h m) (N : News g L h nx) (hs : ∀ p ∈ imm, p ∈ nx) : h₀.StaysIn h := fun b o e => by
  rcases H.cover b o e with q | q
  · exact F.keep b o q
  · exact (N _ (hs _ q)).1
theorem fr_none {g h : Heap} {L : Addr} {m : Str → Option Value} (F : Fr g L h m) : g.get? L = none := by
  cases e : g.get? L with
  | none => rfl
  | some o => exact absurd (Heap.lt_size e) (Nat.not_lt.mpr F.above)
theorem ghost {g h : Heap} {L : Addr} {m : Str → Option Value} (F : Fr g L h m) (mu : List Addr) (hm : ∀ b ∈ mu, g.get? b = none) :
    ∃ h₀ imm, Gh h₀ g L mu imm ∧ News g L h imm ∧ h₀.StaysIn h ∧ ∀ b o, h.get? b = some o → b ∉ L :: mu → h₀.get? b = some o := by
  refine ⟨hideAll h (L :: mu), (List.range h.objs.size).filterMap fun b => if b ∈ L :: mu then none else match g.get? b with | some _ => none | none => (h.get? b).map fun o => (b, o), ⟨?_, ?_, ?_, ?_⟩, ?_, ?_, ?_⟩
  · intro b o e
    refine hideAll_get _ (F.keep b o e) fun q => ?_
    rcases List.mem_cons.mp q with rfl | q
    · rw [fr_none F] at e; cases e
    · rw [hm b q] at e; cases e
  · intro b hb; exact hideAll_none _ hb
  · intro b o e
    have e' := of_hideAll _ e
    cases q : g.get? b with
    | some o' => have := F.keep b o' q; rw [e'] at this; cases this; exact .inl rfl
    | none =>
      refine .inr (List.mem_filterMap.mpr ⟨b, List.mem_range.mpr (Heap.lt_size e'), ?_⟩)
      have hb : b ∉ L :: mu := fun z => by rw [hideAll_none _ z] at e; cases e
      rw [if_neg hb, q, e']; rfl
  · intro p hp z
    obtain ⟨b, _, hb⟩ := List.mem_filterMap.mp hp
    by_cases hC : b ∈ L :: mu
    · rw [if_pos hC] at hb; cases hb
    · rw [if_neg hC] at hb
      cases e : g.get? b with
      | some o => rw [e] at hb; cases hb
      | none =>
        rw [e] at hb
        cases e2 : h.get? b with
        | none => rw [e2] at hb; cases hb
        | some o => rw [e2] at hb; cases hb; exact hC (.tail _ z)
  · intro p hp
    obtain ⟨b, _, hb⟩ := List.mem_filterMap.mp hp
    by_cases hC : b ∈ L :: mu
    · rw [if_pos hC] at hb; cases hb
    · rw [if_neg hC] at hb
      cases e : g.get? b with
      | some o => rw [e] at hb; cases hb
      | none =>
        rw [e] at hb
        cases e2 : h.get? b with
        | none => rw [e2] at hb; cases hb
        | some o => rw [e2] at hb; cases hb; exact ⟨e2, fun z => hC (z ▸ .head _), e⟩
  · intro b o e; exact of_hideAll _ e
  · intro b o e hb; exact hideAll_get _ e hb
theorem Gh.grow {hq g h : Heap} {L : Addr} {mu : List Addr} {imm nx : List (Addr × Obj)} {m : Str → Option Value} (H : Gh hq g L mu imm) (F : Fr g L h m) (N : News g L h nx) (hs : ∀ p ∈ imm, p ∈ nx) (hm : ∀ b ∈ mu, g.get? b = none) :
    ∃ hq2 imm2, Gh hq2 g L mu imm2 ∧ News g L h imm2 ∧ hq.StaysIn hq2 ∧ hq2.StaysIn h ∧ ∀ b o, h.get? b = some o → b ∉ L :: mu → hq2.get? b = some o := by
  obtain ⟨h2, imm2, H2, N2, s2, k2⟩ := ghost F mu hm
  exact ⟨h2, imm2, H2, N2, (fun b o e => k2 b o (H.stays F N hs b o e) fun q => by rw [H.out b q] at e; cases e), s2, k2⟩
theorem Gh.less {hq g : Heap} {L a : Addr} {mu : List Addr} {imm : List (Addr × Obj)} (H : Gh hq g L (a :: mu) imm) : Gh hq g L mu imm :=
  ⟨H.base, fun b hb => H.out b (by rcases List.mem_cons.mp hb with rfl | hb; exact .head _; exact .tail _ (.tail _ hb)), H.cover, fun p hp q => H.apart p hp (.tail _ q)⟩
theorem Gh.more {hq g : Heap} {L a : Addr} {mu : List Addr} {imm : List (Addr × Obj)} (H : Gh hq g L mu imm) (ha : g.get? a = none) (hne : ∀ p ∈ imm, p.1 ≠ a) : Gh hq g L (a :: mu) imm := by
  refine ⟨H.base, fun b hb => ?_, H.cover, fun p hp q => ?_⟩
  · rcases List.mem_cons.mp hb with rfl | hb
    · exact H.out _ (.head _)
    rcases List.mem_cons.mp hb with rfl | hb
    · cases e : hq.get? b with
      | none => rfl
      | some o =>
        rcases H.cover b o e with q | q
        · rw [ha] at q; cases q
        · exact absurd rfl (hne _ q)
    · exact H.out b (.tail _ hb)
  · rcases List.mem_cons.mp q with q | q
    · exact hne p hp q
    · exact H.apart p hp q
/-- the ledger after a write to one of its objects -/
theorem news_at {g h h' : Heap} {L a : Addr} {o o' : Obj} {l l' : List (Addr × Obj)} (N : News g L h l) (hk : ∀ b o, b ≠ a → h.get? b = some o → h'.get? b = some o) (ha' : h'.get? a = some o') (hm : (a, o) ∈ l)
    (hl : ∀ p ∈ l', p = (a, o') ∨ (p ∈ l ∧ p.1 ≠ a)) : News g L h' l' := by
  intro p hp
  rcases hl p hp with rfl | ⟨q, r⟩
  · exact ⟨ha', (N _ hm).2⟩
  · exact ⟨hk _ _ r (N p q).1, (N p q).2⟩
theorem news3 {hq g h h' : Heap} {L I aw at' : Addr} {oI o o' ot : Obj} {imm : List (Addr × Obj)} (N : News g L h ((I, oI) :: (aw, o) :: (at', ot) :: imm)) (hk : ∀ b o, b ≠ aw → h.get? b = some o → h'.get? b = some o) (ha : h'.get? aw = some o') (hIw : aw ≠ I) (hwt : aw ≠ at') (H : Gh hq g L [I, aw, at'] imm) :
    News g L h' ((I, oI) :: (aw, o') :: (at', ot) :: imm) := news_at N hk ha (.tail _ (.head _)) (by
  intro q hq'
  rcases List.mem_cons.mp hq' with rfl | hq'
  · exact .inr ⟨.head _, Ne.symm hIw⟩
  rcases List.mem_cons.mp hq' with rfl | hq'
  · exact .inl rfl
  rcases List.mem_cons.mp hq' with rfl | hq'
  · exact .inr ⟨.tail _ (.tail _ (.head _)), Ne.symm hwt⟩
  exact .inr ⟨.tail _ (.tail _ (.tail _ hq')), fun z => H.apart _ hq' (z ▸ .tail _ (.head _))⟩)
theorem news_sub {g h : Heap} {L : Addr} {l l' imm : List (Addr × Obj)} (N : News g L h l) (Ni : News g L h imm) (hs : ∀ p ∈ l', p ∈ l) : News g L h (l' ++ imm) := fun p hp => by
  rcases List.mem_append.mp hp with q | q
  · exact N p (hs p q)
  · exact Ni p q
theorem item_neg {prog : Program} {w : World} {A : Around} {E : Value → Shared → Prop} {s : Shared} {value slice : PySem.Expr} {l : Addr} {its : Array Value} {k : Int} {u : Tok} {v : Value} {Q : Value → Shared → Prop}
    (hl : s.heap.IsList l its) (h0 : k < 0) (h1 : -(its.size : Int) ≤ k) (hfit : -(2 ^ 63) ≤ k) (hx : its[(k + its.size).toNat]? = some v) (h : Q v s)
    (hs : subscripted slice false (.ref l) (.int k u) = operate [.ref l, .int k u] (getItem (.ref l) (.int k u))) :
    wpAny (model prog w) A (subscriptTail value slice (.ref l) (.int k u)) Q E s :=
  tail_any hl.typeIs slot_list_getitem.lookup (wpAny_getItem_list_neg hl h0 h1 hfit hx h) hs
theorem mk_item {h : Heap} {t : Addr} {o : Obj} {n : Int} {tn : Tok} {v : Value} {nn : Nat} {ps : List Int} (ho : h.get? t = some o) (hc : o.cls = .type "tuple") (hd : o.data = .seq #[.int n tn, v] nn) (r : Rd h v (.list (ps.map .int))) : Rd h (.ref t) (item (n, ps)) := by
  obtain ⟨as, q⟩ := r
  exact ⟨_, .tuple ho hc hd (.cons (.int _ _) (.cons q .nil))⟩
def rnd (ps : List Int) (xs ts : List D) : Option (List D × List D) :=
  if ¬ (xs.length ≤ 100 ∧ ts.length ≤ 100) then none else
  match heappopF xs with
  | none => none
  | some ((n, pl), ys) =>
    match pl.getLast? with
    | none => none
    | some last =>
      match ps[last.toNat]? with
      | none => none
      | some p =>
        if ¬ (0 ≤ last ∧ last ≤ 100 ∧ 0 < p ∧ p ≤ 1000 ∧ 0 ≤ n ∧ n ≤ 100000000 ∧ pl.length ≤ 1000 ∧ ys.length ≤ 100) then none else
        match heappushF ys (n * p, pl ++ [last]) with
        | none => none
        | some zs =>
          if ¬ (zs.length ≤ 100) then none else
          match ps[(last + 1).toNat]? with
          | none => some (zs, ts ++ [(n, pl)])
          | some q => if ¬ (0 ≤ q ∧ q ≤ 1000) then none else
            match heappushF zs (n.fdiv p * q, pl.dropLast ++ [last + 1]) with
            | none => none
            | some us => some (us, ts ++ [(n, pl)])
theorem rnd_inv {ps : List Int} {xs ts ys' us : List D} (h : rnd ps xs ts = some (ys', us)) : ∃ n pl ys last p zs, xs.length ≤ 100 ∧ ts.length ≤ 100 ∧ heappopF xs = some ((n, pl), ys) ∧ pl.getLast? = some last ∧ ps[last.toNat]? = some p ∧
    (0 ≤ last ∧ last ≤ 100 ∧ 0 < p ∧ p ≤ 1000 ∧ 0 ≤ n ∧ n ≤ 100000000 ∧ pl.length ≤ 1000 ∧ ys.length ≤ 100) ∧ heappushF ys (n * p, pl ++ [last]) = some zs ∧ zs.length ≤ 100 ∧ us = ts ++ [(n, pl)] ∧
    ((ps[(last + 1).toNat]? = none ∧ ys' = zs) ∨ ∃ q, ps[(last + 1).toNat]? = some q ∧ 0 ≤ q ∧ q ≤ 1000 ∧ heappushF zs (n.fdiv p * q, pl.dropLast ++ [last + 1]) = some ys') := by
  unfold rnd at h
  split at h
  · cases h
  rename_i h1
  split at h
  · cases h
  rename_i n pl ys h2
  split at h
  · cases h
  rename_i last h3
  split at h
  · cases h
  rename_i p h4
  split at h
  · cases h
  rename_i h5
  split at h
  · cases h
  rename_i zs h6
  split at h
  · cases h
  rename_i h7
  have h1 := Decidable.not_not.mp h1
  have h5 := Decidable.not_not.mp h5
  have h7 := Decidable.not_not.mp h7
  split at h
  · rename_i h8
    cases h
    exact ⟨n, pl, ys, last, p, _, h1.1, h1.2, h2, h3, h4, h5, h6, h7, rfl, .inl ⟨h8, rfl⟩⟩
  · rename_i q h8
    split at h
    · cases h
    rename_i h9
    split at h
    · cases h
    rename_i us' h10
    have h9 := Decidable.not_not.mp h9
    cases h
    exact ⟨n, pl, ys, last, p, zs, h1.1, h1.2, h2, h3, h4, h5, h6, h7, rfl, .inr ⟨q, h8, h9.1, h9.2, h10⟩⟩
def rounds (ps : List Int) : Nat → List D → List D → Option (List D)
  | 0, _, ts => some ts
  | f + 1, xs, ts => match rnd ps xs ts with
    | none => none
    | some (ys, us) => rounds ps f ys us
def toldF (ps : List Int) : Option (List D) := rounds ps 12 [(2, [0])] []
end Mine
namespace Mine
def tab7 : List Int := [5, 7, 11, 13, 17, 19, 23]
def pick (x : Int) : Int := tab7.getD (x.fmod 7).toNat 0
def drawnF (ns : List Int) : List Int := (ns.take 4).map pick
def primesF (dr : List Int) : List Int := [2, 3] ++ tab7.filter fun p => dr.any (· == p)
theorem take_ints {vs : List Value} {ns : List Int} (h : IntsAre vs ns) {i : Nat} {v : Value} (e : vs.toArray[i]? = some v) : ∃ x t, v = .int x t ∧ ns[i]? = some x := by
  have hl := h.length
  have hi : i < ns.length := by
    have := (Array.getElem?_eq_some_iff.mp e).1
    simp at this; omega
  obtain ⟨t, ht⟩ := h.get i _ (List.getElem?_eq_getElem hi)
  refine ⟨_, t, ?_, List.getElem?_eq_getElem hi⟩
  simp at e
  rw [ht] at e; exact (Option.some.inj e).symm
/-- all lists and tuples of h are in h' -/
def SeqIn (h h' : Heap) : Prop := ∀ b o vs n, h.get? b = some o → o.data = .seq vs n → h'.get? b = some o
theorem Rd.seqInts {h h' : Heap} {v : Value} {ps : List Int} (k : SeqIn h h') (r : Rd h v (.list (ps.map .int))) : Rd h' v (.list (ps.map .int)) := by
  obtain ⟨l, its, rfl, ⟨o, ho, hc, n, hd⟩, hi⟩ := r.ints
  exact rd_ints ⟨o, k _ _ _ _ ho hd, hc, n, hd⟩ hi
theorem Rd.seq {h h' : Heap} {v : Value} {x : D} (k : SeqIn h h') (r : Rd h v (Mine.item x)) : Rd h' v (Mine.item x) := by
  obtain ⟨b, o, its, n, t, v2, rfl, ho, hc, hd, hx, r2⟩ := r.item
  have e : its = #[.int x.1 t, v2] := by apply Array.toList_inj.mp; rw [hx]
  subst e
  exact mk_item (k _ _ _ _ ho hd) hc hd (Rd.seqInts k r2)
theorem Its.seq {h h' : Heap} {vs : List Value} {xs : List D} (k : SeqIn h h') (r : Its h vs xs) : Its h' vs xs := ⟨r.1, fun i v x a b => (r.2 i v x a b).seq k⟩
theorem SeqIn.list {h h' : Heap} {l : Addr} {its : Array Value} (k : SeqIn h h') (r : h.IsList l its) : h'.IsList l its := by
  obtain ⟨o, ho, hc, n, hd⟩ := r
  exact ⟨o, k _ _ _ _ ho hd, hc, n, hd⟩
theorem SeqIn.of {h h' : Heap} (k : h.StaysIn h') : SeqIn h h' := fun b o _ _ e _ => k b o e
theorem SeqIn.trans {h h' h'' : Heap} (k : SeqIn h h') (k' : SeqIn h' h'') : SeqIn h h'' := fun b o vs n e d => k' b o vs n (k b o vs n e d) d
/-- a new ghost: all but the frame and the objects `cs`, none of which is a list or a tuple -/
theorem regh {g h : Heap} {L : Addr} {m : Str → Option Value} {nx : List (Addr × Obj)} (F : Fr g L h m) (N : News g L h nx) (cs : List (Addr × Obj)) (hs : ∀ p ∈ cs, p ∈ nx) (hc : ∀ p ∈ cs, ∀ vs n, p.2.data ≠ .seq vs n) :
    ∃ hq imm, Gh hq g L (cs.map (·.1)) imm ∧ News g L h (cs ++ imm) ∧ hq.StaysIn h ∧ SeqIn h hq := by
  obtain ⟨hq, imm, H, Ni, st, hin⟩ := ghost F (cs.map (·.1)) (by intro b hb; obtain ⟨p, hp, rfl⟩ := List.mem_map.mp hb; exact (N p (hs p hp)).2.2)
  refine ⟨hq, imm, H, news_sub N Ni hs, st, fun b o vs n e d => hin b o e fun q => ?_⟩
  rcases List.mem_cons.mp q with rfl | q
  · obtain ⟨o', es, ep, ho', hd', _⟩ := F.ns
    rw [e] at ho'; cases ho'; rw [d] at hd'; cases hd'
  · obtain ⟨p, hp, rfl⟩ := List.mem_map.mp q
    have := (N p (hs p hp)).1
    rw [e] at this; cases this
    exact hc p hp _ _ d
theorem storeC {M : Model} {A : Around} {E : Value → Shared → Prop} {s : Shared} {env : Env} {g : Heap} {L c : Addr} {m : Str → Option Value} {nx : List (Addr × Obj)} {o : Obj} {v₀ : Option Value} {x : Str} {v : Value} {Q : Unit → Shared → Prop}
    (F : Fr g L s.heap m) (N : News g L s.heap nx) (hm : (c, o) ∈ nx) (hd : o.data = .cell v₀)
    (h : ∀ h' o', o'.data = .cell (some v) → Fr g L h' m → (∀ l', (∀ p ∈ l', p = (c, o') ∨ (p ∈ nx ∧ p.1 ≠ c)) → News g L h' l') → Heap.SameBut c s.heap h' → Q () { s with heap := h' })
    (hk : env.scope.kind = .function) (hl : env.kindOf x = some .cell) (hc : env.cells.lookup x = some c) : wpAny M A (storeName env x v) Q E s := by
  have z := N _ hm
  refine wpAny_storeName_cell hk hl hc ⟨o, z.1, hd⟩ fun h' hv hs => ?_
  obtain ⟨o', ho', hd'⟩ := hv
  have hk' : ∀ b o, b ≠ c → s.heap.get? b = some o → h'.get? b = some o := fun b o hb e => hs.extBut b o hb e
  refine h h' o' hd' (fr_but F hk' z.2.1 z.2.2) (fun l' hl' => news_at N hk' ho' hm hl') hs
theorem upd_cells {hq g : Heap} {L c : Addr} {o' : Obj} {cs cs' imm : List (Addr × Obj)} (H : Gh hq g L (cs.map (·.1)) imm) (hc : c ∈ cs.map (·.1)) (hcs : ∀ p ∈ cs', p = (c, o') ∨ (p ∈ cs ∧ p.1 ≠ c)) : ∀ p ∈ cs' ++ imm, p = (c, o') ∨ (p ∈ cs ++ imm ∧ p.1 ≠ c) := by
  intro p hp
  rcases List.mem_append.mp hp with q | q
  · rcases hcs p q with r | ⟨r, z⟩
    · exact .inl r
    · exact .inr ⟨List.mem_append.mpr (.inl r), z⟩
  · exact .inr ⟨List.mem_append.mpr (.inr q), fun z => H.apart p q (z ▸ hc)⟩
abbrev cells4 (L : Addr) (o4 o3 o2 o1 : Obj) : List (Addr × Obj) := [(L + 1 + 1 + 1 + 1, o4), (L + 1 + 1 + 1, o3), (L + 1 + 1, o2), (L + 1, o1)]
theorem up1 {L : Addr} {o4 o3 o2 o1 o' : Obj} : ∀ p ∈ cells4 L o4 o3 o2 o', p = (L + 1, o') ∨ (p ∈ cells4 L o4 o3 o2 o1 ∧ p.1 ≠ L + 1) := by
  intro p hp
  rcases List.mem_cons.mp hp with rfl | hp
  · exact .inr ⟨.head _, by k_ne⟩
  rcases List.mem_cons.mp hp with rfl | hp
  · exact .inr ⟨.tail _ (.head _), by k_ne⟩
  rcases List.mem_cons.mp hp with rfl | hp
  · exact .inr ⟨.tail _ (.tail _ (.head _)), by k_ne⟩
  rcases List.mem_singleton.mp hp with rfl
  exact .inl rfl
theorem up2 {L : Addr} {o4 o3 o2 o1 o' : Obj} : ∀ p ∈ cells4 L o4 o3 o' o1, p = (L + 1 + 1, o') ∨ (p ∈ cells4 L o4 o3 o2 o1 ∧ p.1 ≠ L + 1 + 1) := by
  intro p hp
  rcases List.mem_cons.mp hp with rfl | hp
  · exact .inr ⟨.head _, by k_ne⟩
  rcases List.mem_cons.mp hp with rfl | hp
  · exact .inr ⟨.tail _ (.head _), by k_ne⟩
  rcases List.mem_cons.mp hp with rfl | hp
  · exact .inl rfl
  rcases List.mem_singleton.mp hp with rfl
  exact .inr ⟨.tail _ (.tail _ (.tail _ (.head _))), by k_ne⟩
theorem up3 {L : Addr} {o4 o3 o2 o1 o' : Obj} : ∀ p ∈ cells4 L o4 o' o2 o1, p = (L + 1 + 1 + 1, o') ∨ (p ∈ cells4 L o4 o3 o2 o1 ∧ p.1 ≠ L + 1 + 1 + 1) := by
  intro p hp
  rcases List.mem_cons.mp hp with rfl | hp
  · exact .inr ⟨.head _, by k_ne⟩
  rcases List.mem_cons.mp hp with rfl | hp
  · exact .inl rfl
  rcases List.mem_cons.mp hp with rfl | hp
  · exact .inr ⟨.tail _ (.tail _ (.head _)), by k_ne⟩
  rcases List.mem_singleton.mp hp with rfl
  exact .inr ⟨.tail _ (.tail _ (.tail _ (.head _))), by k_ne⟩
theorem up4 {L : Addr} {o4 o3 o2 o1 o' : Obj} : ∀ p ∈ cells4 L o' o3 o2 o1, p = (L + 1 + 1 + 1 + 1, o') ∨ (p ∈ cells4 L o4 o3 o2 o1 ∧ p.1 ≠ L + 1 + 1 + 1 + 1) := by
  intro p hp
  rcases List.mem_cons.mp hp with rfl | hp
  · exact .inl rfl
  rcases List.mem_cons.mp hp with rfl | hp
  · exact .inr ⟨.tail _ (.head _), by k_ne⟩
  rcases List.mem_cons.mp hp with rfl | hp
  · exact .inr ⟨.tail _ (.tail _ (.head _)), by k_ne⟩
  rcases List.mem_singleton.mp hp with rfl
  exact .inr ⟨.tail _ (.tail _ (.tail _ (.head _))), by k_ne⟩
theorem nseq4 {L : Addr} {o4 o3 o2 o1 : Obj} {v4 v3 v2 v1 : Option Value} (d4 : o4.data = .cell v4) (d3 : o3.data = .cell v3) (d2 : o2.data = .cell v2) (d1 : o1.data = .cell v1) : ∀ p ∈ cells4 L o4 o3 o2 o1, ∀ vs n, p.2.data ≠ .seq vs n := by
  intro p hp vs n
  rcases List.mem_cons.mp hp with rfl | hp
  · show o4.data ≠ _; rw [d4]; exact nofun
  rcases List.mem_cons.mp hp with rfl | hp
  · show o3.data ≠ _; rw [d3]; exact nofun
  rcases List.mem_cons.mp hp with rfl | hp
  · show o2.data ≠ _; rw [d2]; exact nofun
  rcases List.mem_singleton.mp hp with rfl
  show o1.data ≠ _; rw [d1]; exact nofun
theorem gives_tuple {prog : Program} {w : World} {A : Around} {s₁ : Shared} {ax : Addr} {items : Array Value} (hh : A.handled = none) (hl : s₁.heap.IsTuple ax items) : Gives prog w A "tuple_iterator" (.ref ax) [ax] items.size (fun i v => items[i]? = some v) s₁ := by
  intro Q E h
  have hne : ax ≠ s₁.heap.objs.size := by obtain ⟨o, ho, _⟩ := hl; exact Nat.ne_of_lt (Heap.lt_size ho)
  refine wpAny_pyIter_tuple hl (h _ _ (fun b o e => Heap.get?_push_of_some _ e) (Heap.size_push ..) (Walks.tuple hh _ ax hne items) ⟨⟨_, Heap.get?_push_size _ rfl, rfl, rfl⟩, hl.at fun o e => Heap.get?_push_of_some _ e⟩ ?_)
  rintro i h ⟨⟨o, ho, hc, _⟩, _⟩
  exact ⟨o, ho, hc⟩
end Mine
namespace Mine
def plOf (ps : List Int) (n : Int) : List Int := (placesF n ps).getD []
def dueL (ps : List Int) (N : Nat) : List D := (List.range N).map fun (k : Nat) => (2 + (k : Int), plOf ps (2 + (k : Int)))
def grOf (ps : List Int) (n : Int) : Option Int := (ps.filter fun q => n.fmod q = 0).max?
def leadsF (ps : List Int) (n o : Int) : Bool := o.fmod n == 0 && (ps.filter fun p => p < (grOf ps n).getD 0 ∧ (o.fdiv n).fmod p = 0).isEmpty
def saysF (a b : Str) : Int := if b = a ∨ Txt.startswith b (a ++ Str.ofString ".") = true then 1 else 0
/-- what the walk of the law asks of the primes -/
structure Good (ps : List Int) (res : List D) : Prop where
  told : toldF ps = some res
  len : ps.length ≤ 100
  pos : ∀ p ∈ ps, 0 < p ∧ p ≤ 1000
  last : ∃ nl pll, ∃ N : Nat, res.getLast? = some (nl, pll) ∧ nl + 1 = 2 + (N : Int) ∧ N ≤ 100000 ∧ (∀ k : Nat, k < N → (placesF (2 + (k : Int)) ps).isSome = true) ∧ (dueL ps N).filter (fun d => d.2 ≠ []) = res
  reslen : res.length ≤ 100
  each : ∀ d ∈ res, 0 < d.1 ∧ d.1 ≤ 1000000 ∧ d.2.length ≤ 1000 ∧ (∀ p ∈ d.2, 0 ≤ p ∧ p < 6) ∧ (grOf ps d.1).isSome = true ∧ (nmOf d.2).length ≤ 100000
  nodup : (Str.ofString "<string>" :: res.map fun d => nmOf d.2).Nodup
  agree : ∀ d ∈ res, ∀ e ∈ res, saysF (nmOf d.2) (nmOf e.2) = if leadsF ps d.1 e.1 = true then 1 else 0
end Mine
namespace Mine
section
variable {prog : Program} {w : World} {A : Around} {E : Value → Shared → Prop} {env : Env}
structure CompA (prog : Program) (w : World) (A : Around) (env : Env) (elt target : PySem.Expr) (ifs : List PySem.Expr) (scope : Scope) (cl : List (Str × Addr)) (bound : Value → (Str → Option Value) → Prop) (dirty : List Addr)
    (c : String) (xv : Value) (src : List Addr) (n : Nat) (P : Nat → Value → Prop) (J : Nat → List Value → Heap → Prop) (J' : List Value → Heap → Prop) (m : Str → Option Value) (y : Str) (s₁ : Shared) (Q : Flow → Shared → Prop) : Prop where
  gives : Gives prog w A c xv src n P s₁
  small : n ≤ sizeLine
  below : ∀ b ∈ src, b < s₁.heap.objs.size ∧ b ∉ dirty
  clean : ∀ b ∈ dirty, b < s₁.heap.objs.size
  ns : s₁.heap.Ns env.locals m
  nd : env.locals ∉ dirty
  mono : ∀ i ys h h', J i ys h → h.StaysIn h' → J i ys h'
  out : ∀ ys h h', J n ys h → SeqIn h h' → J' ys h'
  start : J 0 [] s₁.heap
  own : ∀ i v s₃ o (Q' : Unit → Shared → Prop), P i v → s₃.heap.get? s₁.heap.objs.size = some o → o.cls = .type c → Q' () s₃ → wpAny (model prog w) A (letOwnedTupleGo target (.ref s₁.heap.objs.size) v) Q' No s₃
  ask : ∀ C i v h₃ tk₃ m (Q' : Unit → Shared → Prop), s₁.heap.objs.size ≤ C → P i v → h₃.Ns C m → (∀ b o, b ∉ dirty → s₁.heap.get? b = some o → h₃.get? b = some o) →
    (∀ h' tk m', h'.Ns C m' → bound v m' → Heap.ExtBut C h₃ h' → Q' () { s₁ with heap := h', toks := tk }) → wpAny (model prog w) A (assign target (compEnvC scope cl C env) v) Q' No { s₁ with heap := h₃, toks := tk₃ }
  step : ∀ C D i ys v h₀ h₃ tk₃ m₃, s₁.heap.objs.size < C → s₁.heap.objs.size < D → D ≠ C → i < n → P i v → bound v m₃ → h₃.Ns C m₃ → J i ys h₀ → h₀.StaysIn h₃ → (∀ b ∈ [D, C, s₁.heap.objs.size], h₀.get? b = none) → (∀ b ∈ [D, C, s₁.heap.objs.size], ∃ o, h₃.get? b = some o) →
    (∀ b o, b ∉ dirty → s₁.heap.get? b = some o → h₃.get? b = some o) →
    wpAny (model prog w) A (tests ifs (compEnvC scope cl C env)) (fun ok s₄ => ∃ h₄ tk₄ m₄, s₄ = { s₁ with heap := h₄, toks := tk₄ } ∧ h₄.Ns C m₄ ∧ (∀ b o, b ≠ C → h₃.get? b = some o → h₄.get? b = some o) ∧ if ok = true then wpAny (model prog w) A (eval elt (compEnvC scope cl C env)) (fun y s₅ => ∃ h₅ tk₅ m₅, s₅ = { s₁ with heap := h₅, toks := tk₅ } ∧ h₅.Ns C m₅ ∧
      (∀ b o, b ≠ C → b ∉ dirty → h₃.get? b = some o → h₅.get? b = some o) ∧ J (i + 1) (ys ++ [y]) (hideAll h₅ [D, C, s₁.heap.objs.size])) No s₄ else J (i + 1) ys (hideAll h₄ [D, C, s₁.heap.objs.size])) No { s₁ with heap := h₃, toks := tk₃ }
  fin : ∀ D h' tk ys, s₁.heap.get? D = none → h'.PlainList D ys.toArray → J' ys h' → h'.Ns env.locals (fun z => if z = y then some (.ref D) else m z) →
    (∀ b o, b ≠ env.locals → b ∉ dirty → s₁.heap.get? b = some o → h'.get? b = some o) → Q .next { s₁ with heap := h', toks := tk }
theorem seq_but {h h' : Heap} {C : Addr} {m : Str → Option Value} (hn : h.Ns C m) (k : ∀ b o, b ≠ C → h.get? b = some o → h'.get? b = some o) : SeqIn h h' := fun b o vs n e d => k b o (fun q => by
  obtain ⟨o', es, ep, ho', hd', _⟩ := hn
  rw [← q, e] at ho'; cases ho'; rw [d] at hd'; cases hd') e
theorem assign_src {s : Shared} {elt target iter : PySem.Expr} {ifs : List PySem.Expr} {scope : Scope} {cl : List (Str × Addr)} {pos py spos : Pos} {y : Str} {Q : Flow → Shared → Prop} (bound : Value → (Str → Option Value) → Prop) (dirty : List Addr)
    (hsw : swapsWith (.ListComp elt [⟨target, iter, ifs, 0⟩] scope pos) (some (.Name y py)) spos.line env = pure true)
    (hclos : closureFor scope env = pure cl) (hcell : ∀ y ∈ scope.names, y.2 ≠ .cell) (hkind : scope.kind = .function)
    (hnames : ∀ y ∈ scope.names, y.2 = .local → scope.names.lookup y.1 = some .local)
    (hs : ∀ x, foldedSetIterable iter env x = pure x)
    (hy : env.kindOf y = some .local) (hp : (env.scope.kind == .class || (env.scope.kind == .module && env.locals != env.globals)) = false)
    (h : wpAny (model prog w) A (eval iter env) (fun xv s₁ => Hold (∃ c src n P J J' m, CompA prog w A env elt target ifs scope cl bound dirty c xv src n P J J' m y s₁ Q)) E s) :
    wpAny (model prog w) A (exec (.Assign [.Name y py] (.ListComp elt [⟨target, iter, ifs, 0⟩] scope pos) spos) env) Q E s := by
  rw [exec_Assign_Name_used _ _ _ _ hsw]
  refine wpAny_bind (wpAny_standAt (wpAny_bind ?_))
  show wpAny _ A (do let _ ← comprehension (.ListComp elt [⟨target, iter, ifs, 0⟩] scope pos) scope env _ (newList []) false (eval iter env) (some (assign (.Name y py) env))) _ _ s
  refine wpAny_bind (wpAny_mono (comp_go (use := some (assign (.Name y py) env)) (Q := fun _ s' => Q .next s') bound dirty hclos hcell hkind hnames hs (wpAny_mono h (fun xv s₁ h₁ => ?_) fun _ _ e => e)) (fun _ s' hq => wpAny_pure (wpAny_pure hq)) fun _ _ e => e)
  obtain ⟨c, src, n, P, J, J', mL, K⟩ := h₁.out
  obtain ⟨hg, hsz, hb, hcl, hns, hnd, hmono, hout, hj0, hown, hask, hstep, hfin⟩ := K
  refine hg _ _ fun St h₂ k₂ z₂ W st live => ?_
  have hI : s₁.heap.get? s₁.heap.objs.size = none := by
    cases e : s₁.heap.get? s₁.heap.objs.size with
    | none => rfl
    | some o => exact absurd (Heap.lt_size e) (Nat.lt_irrefl _)
  have hId : s₁.heap.objs.size ∉ dirty := fun q => Nat.lt_irrefl _ (hcl _ q)
  have hk : ∀ {h₃ : Heap}, (∀ b o, b ∉ [s₁.heap.objs.size] → b ∉ dirty → h₂.get? b = some o → h₃.get? b = some o) → ∀ b o, b ∉ dirty → s₁.heap.get? b = some o → h₃.get? b = some o :=
    fun k b o hd e => k b o (fun q => by rw [List.mem_singleton.mp q, hI] at e; cases e) hd (k₂ b o e)
  refine ⟨_, _, _, n, P, St, fun us ys h => J us.length ys h, rfl, ⟨W, hsz, st, ?_, ?_, fun us ys h h' j k => hmono _ ys h h' j k, ?_, ?_, ?_, ?_, ?_, ?_⟩⟩
  · intro b hb'
    show b < h₂.objs.size
    rw [z₂]
    rcases List.mem_cons.mp hb' with rfl | hb'
    · exact Nat.lt_succ_self _
    · exact Nat.lt_succ_of_lt (hb b hb').1
  · intro b hb'
    refine ⟨fun q => ?_, by show b < h₂.objs.size; rw [z₂]; exact Nat.lt_succ_of_lt (hcl b hb')⟩
    rcases List.mem_cons.mp q with rfl | q
    · exact Nat.lt_irrefl _ (hcl _ hb')
    · exact (hb b q).2 hb'
  · exact hmono 0 [] _ _ hj0 fun b o e => hideAll_get _ (k₂ b o e) fun q => by rw [List.mem_singleton.mp q, hI] at e; cases e
  · intro i v s₃ Q' hP hs' hq
    obtain ⟨o, ho, hc⟩ := live _ _ hs'
    exact hown i v s₃ o Q' hP ho hc hq
  · intro C i v h₃ tk₃ m Q' hC hP hn hk' hq
    refine hask C i v h₃ tk₃ m Q' (le_of_size z₂ hC) hP hn (hk hk') hq
  · intro C D us ys v h₀ h₃ tk₃ m₃ hC hD hDC hlt hP hb' hn hJ hst hno hli hk'
    have hC' : s₁.heap.objs.size < C := lt_of_size z₂ hC
    have hD' : s₁.heap.objs.size < D := lt_of_size z₂ hD
    have := hstep C D us.length ys v h₀ h₃ tk₃ m₃ hC' hD' hDC hlt hP hb' hn hJ hst hno hli (hk hk')
    simpa using this
  · intro D C h' tk m' us ys h₀ r hD hC hDC hl hP hp' hn hJ hst hno hnoC hk'
    have hD1 : s₁.heap.get? D = none := by
      cases e : s₁.heap.get? D with
      | none => rfl
      | some o => have := k₂ _ _ e; rw [hD] at this; cases this
    have hC1 : s₁.heap.get? C = none := by
      cases e : s₁.heap.get? C with
      | none => rfl
      | some o => have := k₂ _ _ e; rw [hC] at this; cases this
    have keep := hk hk'
    obtain ⟨oL, esL, epL, hoL, restL⟩ := id hns
    have hLC : env.locals ≠ C := fun q => by rw [q, hC1] at hoL; cases hoL
    have hLD : env.locals ≠ D := fun q => by rw [q, hD1] at hoL; cases hoL
    have nL : h'.Ns env.locals mL := ⟨oL, esL, epL, keep _ _ hnd hoL, restL⟩
    show wpAny _ A (assign (.Name y py) env (.ref D)) _ E _
    refine wpAny_assign_Name (wpAny_storeName_local hy nL (fun hA nA sA => ?_) hp)
    have kA : ∀ b o, b ≠ env.locals → h'.get? b = some o → hA.get? b = some o := fun b o hb e => sA.extBut b o hb e
    have nCA : hA.Ns C m' := hn.at' fun o e => kA C o (Ne.symm hLC) e
    refine ⟨m', nCA, fun hB sB => ?_⟩
    have kB : ∀ b o, b ≠ C → hA.get? b = some o → hB.get? b = some o := fun b o hb e => sB.extBut b o hb e
    have jF : J' ys hB := by
      rw [hl] at hJ
      exact hout ys _ _ hJ ((SeqIn.of hst).trans ((seq_but nL kA).trans (seq_but nCA kB)))
    exact hfin D hB _ ys hD1 (hp'.at fun o e => kB D o hDC (kA D o (Ne.symm hLD) e)) jF (nA.at' fun o e => kB _ o hLC e) fun b o hbL hbd e => kB b o (fun q => by rw [q, hC1] at e; cases e) (kA b o hbL (keep b o hbd e))
  · intro i h hs' b hb'
    rw [List.mem_singleton.mp hb']
    obtain ⟨o, ho, _⟩ := live _ _ hs'
    exact ⟨o, ho⟩
end
end Mine
namespace Mine
section
variable {prog : Program} {w : World} {A : Around} {E : Value → Shared → Prop} {env : Env}
theorem own_pair {elts : List PySem.Expr} {x1 : Nat} {pos : Pos} {I T : Addr} {o : Obj} {s₃ : Shared} {Q' : Unit → Shared → Prop} (ho : s₃.heap.get? I = some o) (hc : o.cls = .type "list_iterator") (hQ : Q' () s₃) :
    wpAny (model prog w) A (letOwnedTupleGo (.Tuple elts x1 pos) (.ref I) (.ref T)) Q' No s₃ := by
  unfold letOwnedTupleGo
  refine wpAny_bind (wpAny_load ho ?_)
  rw [hc]
  cases hd : o.data with
  | fields vs =>
    show wpAny _ A (if (["enumerate", "zip", "dict_itemiterator", "dict_reverseitemiterator", "odict_iterator", "itertools.zip_longest", "itertools.pairwise"].contains "list_iterator" &&
        vs[0]? == some (rawInt T)) = true then _ else _) Q' No s₃
    rw [if_neg (by
      intro h
      rw [show (["enumerate", "zip", "dict_itemiterator", "dict_reverseitemiterator", "odict_iterator", "itertools.zip_longest", "itertools.pairwise"].contains "list_iterator") = false from by decide, Bool.false_and] at h
      cases h)]
    exact wpAny_pure hQ
  | _ => exact wpAny_pure hQ
theorem ask_pair {x y : Str} {px py pos : Pos} {x1 : Nat} {scope : Scope} {cl : List (Str × Addr)} {C t : Addr} {v1 v2 : Value} {h₃ : Heap} {m : Str → Option Value} {s₁ : Shared} {tk₃ : Nat} {Q' : Unit → Shared → Prop} (hh : A.handled = none) (ht : IsTup h₃ t #[v1, v2])
    (hx : scope.names.lookup x = some .local) (hy : scope.names.lookup y = some .local) (hxy : x ≠ y) (hkind : scope.kind = .function) (hn : h₃.Ns C m)
    (h : ∀ h' tk m', h'.Ns C m' → m' x = some v1 ∧ m' y = some v2 → Heap.ExtBut C h₃ h' → Q' () { s₁ with heap := h', toks := tk }) :
    wpAny (model prog w) A (assign (.Tuple [.Name x px, .Name y py] x1 pos) (compEnvC scope cl C env) (.ref t)) Q' No { s₁ with heap := h₃, toks := tk₃ } := by
  refine assign_Tuple_tuple hh ht rfl rfl fun hA kA => ?_
  show wpAny _ A (assignInOrder [assign (.Name x px) (compEnvC scope cl C env), assign (.Name y py) (compEnvC scope cl C env)] [v1, v2]) Q' No _
  have nA : hA.Ns C m := hn.at' fun o e => kA C o (Nat.ne_of_lt hn.lt) e
  refine assignInOrder_cons (wpAny_assign_Name (wpAny_storeName_local (lookup_relabel_local hx) nA (fun hB nB sB => ?_) (by simp [compEnvC, relabel, hkind])))
  refine assignInOrder_cons (wpAny_assign_Name (wpAny_storeName_local (lookup_relabel_local hy) nB (fun hC nC sC => ?_) (by simp [compEnvC, relabel, hkind])))
  refine assignInOrder_nil (h hC _ _ nC ⟨by simp [hxy], by simp⟩ fun b o hb e => sC.extBut b o hb (sB.extBut b o hb (kA b o (Nat.ne_of_lt (Heap.lt_size e)) e)))
end
end Mine
namespace Mine
theorem plOf_eq {ps : List Int} {n : Int} (h : (placesF n ps).isSome = true) : placesF n ps = some (plOf ps n) := by
  unfold plOf
  cases e : placesF n ps with
  | none => rw [e] at h; cases h
  | some r => rfl
theorem dueL_succ (ps : List Int) (i : Nat) : dueL ps (i + 1) = dueL ps i ++ [(2 + (i : Int), plOf ps (2 + (i : Int)))] := by
  unfold dueL
  rw [List.range_succ, List.map_append]; rfl
/-- the ledger inside a comprehension's turn: its list, its iterator, all else -/
theorem turn_news {base h₃ : Heap} {C D I : Addr} {m₃ : Str → Option Value} (F : Fr base C h₃ m₃) (hDC : D ≠ C) (hIC : I ≠ C) (hD : base.get? D = none) (hI : base.get? I = none) (hli : ∀ b ∈ [D, C, I], ∃ o, h₃.get? b = some o) :
    ∃ oD oI imm, News base C h₃ ((D, oD) :: (I, oI) :: imm) ∧ ∀ h' m', Fr base C h' m' → News base C h' imm → ∀ b o, b ≠ C → h₃.get? b = some o → h'.get? b = some o := by
  obtain ⟨imm, N, keep⟩ := all_news F
  obtain ⟨oD, eD⟩ := hli D (.head _)
  obtain ⟨oI, eI⟩ := hli I (.tail _ (.tail _ (.head _)))
  refine ⟨oD, oI, imm, fun p hp => ?_, keep⟩
  rcases List.mem_cons.mp hp with rfl | hp
  · exact ⟨eD, hDC, hD⟩
  rcases List.mem_cons.mp hp with rfl | hp
  · exact ⟨eI, hIC, hI⟩
  exact N p hp
theorem none_ge {h : Heap} {b : Addr} (hb : h.objs.size ≤ b) : h.get? b = none := by
  cases e : h.get? b with
  | none => rfl
  | some o => exact absurd (Heap.lt_size e) (Nat.not_lt.mpr hb)
end Mine
namespace Mine
section
variable {M : Model} {A : Around} {E : Value → Shared → Prop} {s : Shared} {env : Env} {w : World} {base : Heap} {C : Addr} {m : Str → Option Value} {x : Str} {pos : Pos} {v : Value} {Q : Value → Shared → Prop}
theorem name_glob (F : Fr base C s.heap m) (G : Gr w base) (e : nsIn (hd.heap_39 w.params) mainGlobals x = some (some v)) (h : Q v s)
    (hk : env.scope.kind = .function) (hx : env.kindOf x = some .globalImplicit) (hg : env.globals = mainGlobals) (hd : (x == ("__debug__" : Str)) = false) : wpAny M A (eval (.Name x pos) env) Q E s := by
  obtain ⟨X, p, lo, me, mg, mb, T⟩ := G
  exact Name_function_global hk hx (loadGlobal_global (env := env) (by rw [hg]; exact T.g.keeps F.keep) (mg_of X T.g e) h) hd
theorem name_boot (F : Fr base C s.heap m) (G : Gr w base) (e : nsIn (hd.heap_39 w.params) mainGlobals x = some none) (hv : bootBuiltins x = some v) (hn : x ≠ "__name__") (h : Q v s)
    (hk : env.scope.kind = .function) (hx : env.kindOf x = some .globalImplicit) (hg : env.globals = mainGlobals) (hb : env.builtins = builtinsNs) (hd : (x == ("__debug__" : Str)) = false) : wpAny M A (eval (.Name x pos) env) Q E s := by
  obtain ⟨X, p, lo, me, mg, mb, T⟩ := G
  exact Name_function_global hk hx (loadGlobal_builtin (env := env) (by rw [hg]; exact T.g.keeps F.keep) (mg_none_of X T.g e) (by rw [hb]; exact T.b.keeps F.keep) ((T.builtins x hn).trans hv) h) hd
end
end Mine
namespace Mine
/-- a comprehension's turn with its ends held from the walk -/
theorem hold_step {prog : Program} {w : World} {A : Around} {s s₁ : Shared} {cenv : Env} {ifs : List PySem.Expr} {elt : PySem.Expr} {C : Addr} {h₃ : Heap} {dirty hid : List Addr} {J1 : Value → Heap → Prop} {J0 : Heap → Prop}
    (h : wpAny (model prog w) A (tests ifs cenv) (fun ok s₄ => if ok = true then Hold (∃ h₄ tk₄ m₄, s₄ = { s₁ with heap := h₄, toks := tk₄ } ∧ h₄.Ns C m₄ ∧ (∀ b o, b ≠ C → h₃.get? b = some o → h₄.get? b = some o)) ∧
        wpAny (model prog w) A (eval elt cenv) (fun y s₅ => Hold (∃ h₅ tk₅ m₅, s₅ = { s₁ with heap := h₅, toks := tk₅ } ∧ h₅.Ns C m₅ ∧ (∀ b o, b ≠ C → b ∉ dirty → h₃.get? b = some o → h₅.get? b = some o) ∧ J1 y (hideAll h₅ hid))) No s₄
      else Hold (∃ h₄ tk₄ m₄, s₄ = { s₁ with heap := h₄, toks := tk₄ } ∧ h₄.Ns C m₄ ∧ (∀ b o, b ≠ C → h₃.get? b = some o → h₄.get? b = some o) ∧ J0 (hideAll h₄ hid))) No s) :
    wpAny (model prog w) A (tests ifs cenv) (fun ok s₄ => ∃ h₄ tk₄ m₄, s₄ = { s₁ with heap := h₄, toks := tk₄ } ∧ h₄.Ns C m₄ ∧ (∀ b o, b ≠ C → h₃.get? b = some o → h₄.get? b = some o) ∧ if ok = true then wpAny (model prog w) A (eval elt cenv) (fun y s₅ => ∃ h₅ tk₅ m₅, s₅ = { s₁ with heap := h₅, toks := tk₅ } ∧ h₅.Ns C m₅ ∧
      (∀ b o, b ≠ C → b ∉ dirty → h₃.get? b = some o → h₅.get? b = some o) ∧ J1 y (hideAll h₅ hid)) No s₄ else J0 (hideAll h₄ hid)) No s := by
  refine wpAny_mono h (fun ok s₄ h₄ => ?_) fun _ _ e => e
  cases ok with
  | false =>
    simp only [Bool.false_eq_true, if_false] at h₄ ⊢
    obtain ⟨h', tk', m', rfl, a, b, c⟩ := h₄.out
    exact ⟨h', tk', m', rfl, a, b, c⟩
  | true =>
    simp only [if_true] at h₄ ⊢
    obtain ⟨⟨h', tk', m', rfl, a, b⟩, c⟩ := h₄
    exact ⟨h', tk', m', rfl, a, b, wpAny_mono c (fun _ _ x => x.out) fun _ _ e => e⟩
end Mine
namespace Mine
theorem fr_assign {g h h' : Heap} {L : Addr} {m m' : Str → Option Value} (F : Fr g L h m) (hn : h'.Ns L m') (hk : ∀ b o, b ≠ L → h.get? b = some o → h'.get? b = some o) : Fr g L h' m' :=
  ⟨hn, fun b o e => hk b o (fun q => by rw [q, fr_none F] at e; cases e) (F.keep b o e), F.above⟩
theorem news_assign {g h h' : Heap} {L : Addr} {nx : List (Addr × Obj)} (N : News g L h nx) (hk : ∀ b o, b ≠ L → h.get? b = some o → h'.get? b = some o) : News g L h' nx :=
  fun p hp => ⟨hk _ _ (N p hp).2.1 (N p hp).1, (N p hp).2⟩
end Mine
namespace Mine
/-- the two names of a pair target are bound to the item's parts -/
def PairB (hq : Heap) (x y : Str) (v : Value) (m : Str → Option Value) : Prop := ∀ d : D, Rd hq v (item d) → ∃ tn l, m x = some (.int d.1 tn) ∧ m y = some (.ref l) ∧ Rd hq (.ref l) (.list (d.2.map .int))
theorem pairB_of {hq : Heap} {x y : Str} {t : Addr} {o : Obj} {v1 v2 : Value} {n : Nat} {m : Str → Option Value} (ho : hq.get? t = some o) (hd : o.data = .seq #[v1, v2] n) (h : m x = some v1 ∧ m y = some v2) : PairB hq x y (.ref t) m := by
  intro d r
  obtain ⟨b, o', its, n', t', v2', e, ho', hc', hd', hx', r2⟩ := r.item
  cases e
  rw [ho] at ho'; cases ho'
  rw [hd] at hd'; cases hd'
  cases hx'
  obtain ⟨l, its2, rfl, _⟩ := r2.ints
  exact ⟨t', l, h.1, h.2, r2⟩
theorem ask_item {prog : Program} {w : World} {A : Around} {env : Env} {x y : Str} {px py pos : Pos} {x1 : Nat} {scope : Scope} {cl : List (Str × Addr)} {C : Addr} {v : Value} {h₃ hq : Heap} {m : Str → Option Value} {s₁ : Shared} {tk₃ : Nat} {Q' : Unit → Shared → Prop} {d : D} (hh : A.handled = none) (hr : Rd hq v (item d)) (hs : hq.StaysIn h₃)
    (hx : scope.names.lookup x = some .local) (hy : scope.names.lookup y = some .local) (hxy : x ≠ y) (hkind : scope.kind = .function) (hn : h₃.Ns C m)
    (h : ∀ h' tk m', h'.Ns C m' → PairB hq x y v m' → Heap.ExtBut C h₃ h' → Q' () { s₁ with heap := h', toks := tk }) :
    wpAny (model prog w) A (assign (.Tuple [.Name x px, .Name y py] x1 pos) (compEnvC scope cl C env) v) Q' No { s₁ with heap := h₃, toks := tk₃ } := by
  obtain ⟨b, o', its, n', t', v2', rfl, ho', hc', hd', hx', r2⟩ := hr.item
  have e : its = #[.int d.1 t', v2'] := by apply Array.toList_inj.mp; rw [hx']
  subst e
  exact ask_pair hh ⟨_, hs _ _ ho', hc', _, hd'⟩ hx hy hxy hkind hn fun h' tk m' a b c => h h' tk m' a (pairB_of ho' hd' b) c
end Mine
namespace Mine
theorem readsAll_items {h : Heap} : ∀ {vs : List Value} {xs : List D}, Its h vs xs → ∃ as, ReadsAll h vs (xs.map item) as
  | [], [], _ => ⟨_, .nil⟩
  | [], _ :: _, r => by have := r.1; simp at this
  | _ :: _, [], r => by have := r.1; simp at this
  | v :: vs, x :: xs, r => by
    obtain ⟨as, h1⟩ := r.2 0 v x rfl rfl
    obtain ⟨bs, h2⟩ := readsAll_items (vs := vs) (xs := xs) ⟨by have := r.1; simpa using this, fun i v x a b => r.2 (i + 1) v x (by simpa using a) (by simpa using b)⟩
    exact ⟨_, .cons h1 h2⟩
theorem rd_items {h : Heap} {l : Addr} {vs : List Value} {xs : List D} (hl : h.IsList l vs.toArray) (r : Its h vs xs) : Rd h (.ref l) (.list (xs.map item)) := by
  obtain ⟨o, ho, hc, n, hd⟩ := hl
  obtain ⟨as, q⟩ := readsAll_items r
  exact ⟨_, .list ho hc hd q⟩
end Mine
namespace Mine
/-- a reader's objects stand where its five objects stand -/
theorem Rdr.at {w : World} {h h' : Heap} {x dx ai ad sa : Addr} {md : Str} {u : Tok} {c : List (Str × Int)} (R : Rdr w h x dx ai ad sa md u c) (k : ∀ b ∈ [x, dx, ai, ad, sa], ∀ o, h.get? b = some o → h'.get? b = some o) : Rdr w h' x dx ai ad sa md u c := by
  obtain ⟨ei, ⟨t1, t2, t3, ed⟩, ⟨oi, kvs, eg, hdo, hfp⟩, hsm, edd, ⟨ep, tb, ho, hf, hl⟩, lt⟩ := R
  exact ⟨k _ (by simp) _ ei, ⟨t1, t2, t3, k _ (by simp) _ ed⟩, ⟨oi, kvs, k _ (by simp) _ eg, hdo, hfp⟩, hsm, k _ (by simp) _ edd, ⟨ep, tb, k _ (by simp) _ ho, hf, hl⟩, lt⟩
theorem Rdr.some {w : World} {h : Heap} {x dx ai ad sa : Addr} {md : Str} {u : Tok} {c : List (Str × Int)} (R : Rdr w h x dx ai ad sa md u c) : ∀ b ∈ [x, dx, ai, ad, sa], ∃ o, h.get? b = some o := by
  obtain ⟨ei, ⟨t1, t2, t3, ed⟩, ⟨oi, kvs, eg, hdo, hfp⟩, hsm, edd, ⟨ep, tb, ho, hf, hl⟩, lt⟩ := R
  intro b hb
  simp only [List.mem_cons, List.not_mem_nil, or_false] at hb
  rcases hb with rfl | rfl | rfl | rfl | rfl
  · exact ⟨_, ei⟩
  · exact ⟨_, ed⟩
  · exact ⟨_, eg⟩
  · exact ⟨_, edd⟩
  · exact ⟨_, ho⟩
theorem Rdr.keeps {w : World} {h h' : Heap} {x dx ai ad sa : Addr} {md : Str} {u : Tok} {c : List (Str × Int)} (R : Rdr w h x dx ai ad sa md u c) (k : h.StaysIn h') : Rdr w h' x dx ai ad sa md u c := R.at fun b _ o e => k b o e
def dStrs (ns : List Str) : Dat := .list (ns.map .str)
theorem dStrs_P (ns : List Str) : kqdP (dStrs ns) = .list (ns.map .str) := by
  unfold dStrs
  rw [kqdP, kqdPs_map]
  simp [kqdP]
theorem dStrs_ok (ns : List Str) (h : ∀ x ∈ ns, PyData.strOk x = true) (n : Nat) : kqdOk (n + 1) (dStrs ns) = true := by
  unfold dStrs
  simp only [kqdOk, List.all_eq_true, List.mem_map]
  rintro d ⟨i, hi, rfl⟩
  cases n <;> exact h i hi
theorem rd_strs {h : Heap} {l : Addr} {its : Array Value} {ns : List Str} (hl : h.IsList l its) (hi : StrsAre its.toList ns) : Rd h (.ref l) (.list (ns.map .str)) := by
  obtain ⟨o, ho, hc, n, hd⟩ := hl
  exact ⟨_, .list ho hc hd (strs_readAll h hi)⟩
theorem ne_strs {prog : Program} {w : World} {A : Around} {E : Value → Shared → Prop} {s : Shared} {a b : Value} {Q : Value → Shared → Prop} {ns : List Str} (hn : ∀ x ∈ ns, PyData.strOk x = true)
    (ra : Rd s.heap a (.list (ns.map .str))) (rb : Rd s.heap b (.list (ns.map .str))) (hu : A.units + 64 < cLine) (h : Q (.bool false) s) : wpAny (model prog w) A (compareOp .NotEq a b) Q E s := by
  obtain ⟨as, ra⟩ := ra
  obtain ⟨bs, rb⟩ := rb
  rw [← dStrs_P] at ra rb
  refine ne_dataH ra rb (shaped_dat (dStrs_ok ns hn 0) (by omega)) (shaped_dat (dStrs_ok ns hn 0) (by omega)) hu ?_
  rw [eqv_dat (dStrs_ok ns hn 0) (dStrs_ok ns hn 0) rfl]; exact h
/-- the ledger of a turn after a store into one of its cells -/
theorem upI {hq g : Heap} {L I c : Addr} {oI o' : Obj} {cs cs' imm : List (Addr × Obj)} (H : Gh hq g L (I :: cs.map (·.1)) imm) (hI : I ≠ c) (hc : c ∈ cs.map (·.1)) (hcs : ∀ p ∈ cs', p = (c, o') ∨ (p ∈ cs ∧ p.1 ≠ c)) : ∀ p ∈ (I, oI) :: (cs' ++ imm), p = (c, o') ∨ (p ∈ (I, oI) :: (cs ++ imm) ∧ p.1 ≠ c) := by
  intro p hp
  rcases List.mem_cons.mp hp with rfl | q
  · exact .inr ⟨.head _, hI⟩
  rcases List.mem_append.mp q with q | q
  · rcases hcs p q with r | ⟨r, z⟩
    · exact .inl r
    · exact .inr ⟨.tail _ (List.mem_append.mpr (.inl r)), z⟩
  · exact .inr ⟨.tail _ (List.mem_append.mpr (.inr q)), fun z => H.apart p q (z ▸ .tail _ hc)⟩
def ansF (md : Str) (e : D) : Str := Str.ofString (toString (saysF md (nmOf e.2)))
theorem ansF_ok (md : Str) (e : D) : ansF md e = Str.ofString "1" ∨ ansF md e = Str.ofString "0" := by
  unfold ansF saysF
  split
  · exact .inl rfl
  · exact .inr rfl
theorem ans_agree {ps : List Int} {res : List D} (g : Good ps res) {d e : D} (hd : d ∈ res) (he : e ∈ res) : ansF (nmOf d.2) e = if leadsF ps d.1 e.1 = true then Str.ofString "1" else Str.ofString "0" := by
  unfold ansF
  rw [g.agree d hd e he]
  split <;> rfl
theorem ansS_ok (md : Str) (l : List D) : ∀ x ∈ l.map (ansF md), PyData.strOk x = true := by
  intro x hx
  obtain ⟨e, _, rfl⟩ := List.mem_map.mp hx
  rcases ansF_ok md e with h | h <;> rw [h] <;> decide +kernel
theorem saysF_small (md nm : Str) : (saysF md nm).natAbs.log2 < 1920 := by
  unfold saysF
  split <;> decide +kernel
/-- what the reader's own record holds before the i-th question -/
def Kept (res : List D) (i : Nat) (c : List (Str × Int)) : Prop := (∀ k, kdpHas c k = true → k = Str.ofString "<string>" ∨ k ∈ (res.take i).map fun d => nmOf d.2) ∧ c.length ≤ 1 + i
theorem kept_zero (res : List D) : Kept res 0 [(Str.ofString "<string>", 1)] := by
  refine ⟨fun k hk => .inl ?_, by simp⟩
  unfold kdpHas at hk
  simp only [List.any_cons, List.any_nil, Bool.or_false, decide_eq_true_eq] at hk
  exact hk.symm
theorem kept_succ {res : List D} {i : Nat} {c : List (Str × Int)} {d : D} {v : Int} (h : Kept res i c) (hd : res[i]? = some d) : Kept res (i + 1) (kdpPut c (nmOf d.2) v) := by
  refine ⟨fun k hk => ?_, ?_⟩
  · rw [kdpHas_put, Bool.or_eq_true] at hk
    rw [List.take_add_one, hd, List.map_append, List.mem_append]
    rcases hk with hk | hk
    · exact .inr (.inr (by rw [of_decide_eq_true hk]; exact .head _))
    · rcases h.1 k hk with q | q
      · exact .inl q
      · exact .inr (.inl q)
  · have := kdpPut_len c (nmOf d.2) v
    have := h.2
    omega
theorem kept_new {ps : List Int} {res : List D} {i : Nat} {c : List (Str × Int)} {d : D} (g : Good ps res) (h : Kept res i c) (hd : res[i]? = some d) : kdpHas c (nmOf d.2) = false := by
  cases hq : kdpHas c (nmOf d.2) with
  | false => rfl
  | true =>
    have nd := g.nodup
    rw [List.nodup_cons] at nd
    rcases h.1 _ hq with q | q
    · exact absurd (List.mem_map.mpr ⟨d, List.mem_of_getElem? hd, q⟩) nd.1
    · obtain ⟨e, he, hen⟩ := List.mem_map.mp q
      obtain ⟨j, hj⟩ := List.mem_iff_getElem?.mp he
      rw [List.getElem?_take] at hj
      split at hj
      · rename_i hji
        have hl : i < res.length := (List.getElem?_eq_some_iff.mp hd).1
        have e1 : (res.map fun d => nmOf d.2)[j]? = some (nmOf d.2) := by rw [List.getElem?_map, hj]; exact congrArg some hen
        have e2 : (res.map fun d => nmOf d.2)[i]? = some (nmOf d.2) := by rw [List.getElem?_map, hd]; rfl
        have := (List.getElem?_inj (by rw [List.length_map]; omega) nd.2).mp (e1.trans e2.symm)
        omega
      · cases hj
theorem for_srcF {prog : Program} {w : World} {A : Around} {env : Env} {s : Shared} {target iter : PySem.Expr} {body : List Stmt} {pos : Pos} {Q : Flow → Shared → Prop} {base h₁ : Heap} {L : Addr} {m : Str → Option Value} (_F : Fr base L h₁ m)
    (hs : ∀ x, foldedSetIterable iter env x = pure x)
    (h : wpAny (model prog w) A (eval iter env) (fun xv s₁ => Hold (∃ c src n P J, ForU prog w A env target body base L c xv src n P J s₁ Q)) No s) :
    wpAny (model prog w) A (exec (.For target iter body [] pos) env) Q No s := for_src base L hs h
/-- between two questions to a reader -/
def AnsJ (w : World) (x dx ai ad sa : Addr) (md : Str) (u : Tok) (res : List D) (i : Nat) (ys : List Value) (h : Heap) : Prop := ∃ c, Rdr w h x dx ai ad sa md u c ∧ Kept res i c ∧ StrsAre ys ((res.take i).map (ansF md))
theorem AnsJ.keeps {w : World} {x dx ai ad sa : Addr} {md : Str} {u : Tok} {res : List D} {i : Nat} {ys : List Value} {h h' : Heap} (j : AnsJ w x dx ai ad sa md u res i ys h) (k : h.StaysIn h') : AnsJ w x dx ai ad sa md u res i ys h' := let ⟨c, R, q, r⟩ := j; ⟨c, R.keeps k, q, r⟩
end Mine
namespace Mine
section
local macro_rules | `(tactic| walk_at "exec For Name Call cons nil") => `(tactic| refine Hold.out ?_)
local macro_rules | `(tactic| walk_at "newList") => `(tactic| refine Hold.out ?_)
local macro_rules | `(tactic| walk_at "call ref") => `(tactic| refine Hold.out ?_)
local macro_rules | `(tactic| walk_at "call builtin:len") => `(tactic| refine Hold.out ?_)
local macro_rules | `(tactic| walk_at "call builtin:list.append") => `(tactic| refine Hold.out ?_)
local macro_rules | `(tactic| walk_at "assign Tuple") => `(tactic| refine Hold.out ?_)
local macro_rules | `(tactic| walk_at "subscriptTail Name Name ref int") => `(tactic| refine Hold.out ?_)
local macro_rules | `(tactic| walk_at "subscriptTail Name BinOp ref int") => `(tactic| refine Hold.out ?_)
local macro_rules | `(tactic| walk_at "subscriptTail Name UnaryOp ref int") => `(tactic| refine Hold.out ?_)
local macro_rules | `(tactic| walk_at "subscriptTail Name Constant ref int") => `(tactic| refine Hold.out ?_)
local macro_rules | `(tactic| walk_at "subscriptTail Name Slice ref ref") => `(tactic| refine Hold.out ?_)
local macro_rules | `(tactic| walk_at "binaryOp Add ref ref") => `(tactic| refine Hold.out ?_)
theorem told_ok {w : World} {A : Around} {s : Shared} {E : Value → Shared → Prop} {Q : Value → Shared → Prop} {h₀ : Heap} {lp : Addr} {its : Array Value} {ps : List Int} {res : List D}
   (G : Gr w h₀) (k : h₀.StaysIn s.heap) (hl : s.heap.IsList lp its) (hi : IntsAre its.toList ps) (hf : toldF ps = some res) (hlen : ps.length ≤ 100)
   (hh : A.handled = none) (hdp : A.depth + 10 < recursionLimit) (hu : A.units + 100 < cLine)
   (hret : ∀ h' tk b lvs nn hq, s.heap.StaysIn hq → hq.StaysIn h' → hq.get? b = none → h'.get? b = some (listOf lvs.toArray nn) → Its hq lvs res → Q (.ref b) { s with heap := h', toks := tk }) :
   wpAny (model PR w) A (call (.ref 123) [.ref lp]) Q E s := by
  k_dflt (refine' enter [] G k ?kN ?ko ?kc ?kr ?kb ?kl ?_ ?c1 ?c2 ?c3 ?c4; (case ko => k_is); (case kc => k_is); (case kr => omega); (case kb => exact BindsTo.of_eq rfl); (case kl => exact locs rfl); (case c1 => exact rfl); (case c2 => exact rfl); (case c3 => exact rfl); (case c4 => decide))
  · intro q hq; cases hq
  · intro p lo me mg mb g L' h₁ tk X' T' st' gs' F' N'
    have gs : s.heap.StaysIn g := fun b o e => gs' b o e (by simp)
    have hlg : g.IsList lp its := hl.at fun o e => gs lp o e
    (try dsimp only)
    (try k_fold)
    k_steps
    constructor
    refine newList_K F' N' ?_
    intro ap h2 F2 N2 l1
    k_steps
    constructor
    rename Fr _ _ _ _ => F3
    rename News _ _ _ _ => N3
    rename Addr => D0
    refine newList_K F3 N3 ?_
    intro aw h4 F4 N4 l4
    k_steps
    constructor
    rename Fr _ _ _ _ => F5
    rename News _ _ _ _ => N5
    refine newList_K F5 N5 ?_
    intro at' h6 F6 N6 l6
    have l6' : @LT.lt Nat _ aw at' := l6 _ (.head _)
    k_steps
    constructor
    refine for_src g L' (fun _ => rfl) ?_
    k_steps
    constructor
    rename IsRange _ _ _ _ _ _ _ _ => hR
    rename Fr _ _ _ _ => F2
    rename News _ _ _ _ => N2
    rename Heap => hA
    dsimp only at hR F2 N2 ⊢
    have hwt : aw ≠ at' := Nat.ne_of_lt l6'
    refine ⟨"range_iterator", [], 12, _, fun i m nx => ∃ vsW nW vsT nT xs ts imm hq u, nx = (aw, listOf vsW.toArray nW) :: (at', listOf vsT.toArray nT) :: imm ∧ Gh hq g L' [aw, at'] imm ∧ Its hq vsW xs ∧ Its hq vsT ts ∧ m = put "primes" (.ref lp) (put "waiting" (.ref aw) (put "told" (.ref at') u)) ∧ rounds ps (12 - i) xs ts = some res, ⟨gives_range hh hR (small_one (by omega) (by omega) (by omega) (by omega)) (by rfl), ?_, ?_, ?_, ?_⟩⟩
    · obtain ⟨hq, imm, H, Ni, hst, hin⟩ := ghost F2 [aw, at'] (by intro b hb; rcases List.mem_cons.mp hb with rfl | hb; exact (N2 _ (.tail _ (.head _))).2.2; rcases List.mem_singleton.mp hb with rfl; exact (N2 _ (.head _)).2.2)
      have e1 := (N2 _ (.tail _ (.tail _ (.head _))))
      have e2 := (N2 _ (.tail _ (.tail _ (.tail _ (.head _)))))
      have lD : @LT.lt Nat _ _ aw := l4 _ (.head _)
      have lA : @LT.lt Nat _ _ aw := l4 _ (.tail _ (.head _))
      refine ⟨_, (aw, listOf [Value.ref D0].toArray 0) :: (at', listOf ([] : List Value).toArray 0) :: imm, fput (fput (fput F2 (by rfl)) (by rfl)) (by rfl), ?_, [.ref D0], 0, [], 0, [(2, [0])], [], imm, hq, _, rfl, H, ?_, .nil, rfl, hf⟩
      · intro p hp
        rcases List.mem_cons.mp hp with rfl | hp
        · exact N2 _ (.tail _ (.head _))
        rcases List.mem_cons.mp hp with rfl | hp
        · exact N2 _ (.head _)
        exact Ni p hp
      · refine Its.nil.push (mk_item (hin _ _ e1.1 ?_) rfl rfl (rd_ints ⟨_, hin _ _ e2.1 ?_, rfl, _, rfl⟩ (.cons 0 _ .nil)))
        · intro q; rcases List.mem_cons.mp q with q | q
          · exact e1.2.1 q
          rcases List.mem_cons.mp q with q | q
          · exact Nat.ne_of_lt lD q
          exact Nat.ne_of_lt (Nat.lt_trans lD l6') (List.mem_singleton.mp q)
        · intro q; rcases List.mem_cons.mp q with q | q
          · exact e2.2.1 q
          rcases List.mem_cons.mp q with q | q
          · exact Nat.ne_of_lt lA q
          exact Nat.ne_of_lt (Nat.lt_trans lA l6') (List.mem_singleton.mp q)
    · intro i v s₃ o Q' _ _ _ hq; exact own_name hq
    · rintro i v m nx h tk oI hlt ⟨t, rfl⟩ ⟨vsW, nW, vsT, nT, xs, ts, imm, hq, u, rfl, H, hiW, hiT, rfl, hgo⟩ F3 N3 hne
      have e12 : 12 - i = (12 - (i + 1)) + 1 := by omega
      rw [e12, rounds] at hgo
      cases hrn : rnd ps xs ts with
      | none => rw [hrn] at hgo; cases hgo
      | some r =>
      obtain ⟨ys, us⟩ := r
      rw [hrn] at hgo
      dsimp only at hgo
      obtain ⟨n, pl, ys1, last, p, zs, hxl, htl, hpop, hlast, hp, hb, hpush, hzl, rfl, hcase⟩ := rnd_inv hrn
      dsimp only at N3 hne ⊢
      generalize hI : hA.objs.size = I at N3 hne ⊢
      k_steps
      constructor
      rename Fr _ _ _ _ => F4
      rename News _ _ _ _ => N4
      have hIw : aw ≠ I := hne _ (.head _)
      have hIt : at' ≠ I := hne _ (.tail _ (.head _))
      have gI := (N4 _ (.head _)).2.2
      have gw := (N4 _ (.tail _ (.head _))).2
      have gt := (N4 _ (.tail _ (.tail _ (.head _)))).2
      have H1 : Gh hq g L' [I, aw, at'] imm := H.more gI fun p hp => hne p (.tail _ (.tail _ hp))
      have hmu : ∀ b ∈ [I, aw, at'], g.get? b = none := by
        intro b hb
        rcases List.mem_cons.mp hb with rfl | hb
        · exact gI
        rcases List.mem_cons.mp hb with rfl | hb
        · exact gw.2
        rcases List.mem_singleton.mp hb with rfl
        exact gt.2
      have Gg : Gr w g := ⟨X', _, _, _, _, _, T'⟩
      refine heappop_ok (Gg.keeps H1.base) (H1.stays F4 N4 fun p hp => .tail _ (.tail _ (.tail _ hp))) (N4 _ (.tail _ (.head _))).1 (H1.out _ (.tail _ (.tail _ (.head _)))) hiW hpop (by omega) (by simp only [depth_deeper]; omega) (by simp only [units_deeper]; omega) ?_
      intro h5 tk5 v5 vs5 n5 hv5 hi5 ha5 hk5
      have F5 := fr_but F4 hk5 gw.1 gw.2
      have N5 : News g L' h5 ((I, oI) :: (aw, listOf vs5.toArray n5) :: (at', listOf vsT.toArray nT) :: imm) := news3 N4 hk5 ha5 hIw hwt H1
      obtain ⟨t5, o5, its5, nn5, tn5, v2, rfl, hoa, hca, hda, hxs, r2⟩ := hv5.item
      obtain ⟨l5, li5, rfl, hl5, hi5'⟩ := r2.ints
      have hst5 := H1.stays F5 N5 fun p hp => .tail _ (.tail _ (.tail _ hp))
      have e5 : its5 = #[Value.int n tn5, .ref l5] := by
        apply Array.toList_inj.mp; rw [hxs]
      subst e5
      clear F4 N4 hk5
      dsimp only at F5 N5 ⊢
      k_steps
      constructor
      refine unpackN_ F5 N5 ⟨_, hst5 _ _ hoa, hca, _, hda⟩ hh rfl rfl ?_
      intro h6 F6 N6
      clear F5 N5
      k_steps
      constructor
      rename Fr _ _ _ _ => F6
      rename News _ _ _ _ => N6
      rename Addr => D1
      rename _ ∧ _ ∧ _ ∧ _ => ld1
      have hvT := hiT.1
      have hTw : ∀ p ∈ imm, p.1 ≠ at' := fun p hp z => H.apart _ hp (z ▸ .tail _ (.head _))
      refine append_K F6 N6 (Upd.tail (Nat.ne_of_gt ld1.2.2.1) (Upd.tail (Ne.symm hIt) (Upd.tail hwt (Upd.head hTw)))) ?_ (by simp; rw [sizeLine_eq]; omega)
      intro h7 F7 N7
      have e7 : vsT.toArray.push (Value.ref D1) = (vsT ++ [Value.ref D1]).toArray := by simp
      rw [e7] at N7
      clear F6 N6
      have hst7 := H1.stays F7 N7 fun p hp => .tail _ (.tail _ (.tail _ (.tail _ hp)))
      have hl7 := hl5.at fun o e => hst7 l5 o e
      have hsz5 : li5.size = pl.length := by have := hi5'.length; simpa using this
      have hpl0 : 0 < pl.length := by cases pl with | nil => simp at hlast | cons a b => simp
      have hlast' : pl[pl.length - 1]? = some last := by rw [← List.getLast?_eq_getElem?]; exact hlast
      obtain ⟨tl, hlv⟩ := hi5'.get _ _ hlast'
      have hlv' : li5[pl.length - 1]? = some (.int last tl) := by rw [← Array.getElem?_toList]; exact hlv
      obtain ⟨hb1, hb2, hb3, hb4, hb5, hb6, hb7, hb8⟩ := hb
      obtain ⟨tp, hpv⟩ := hi.get _ _ hp
      have hpv' : its[last.toNat]? = some (.int p tp) := by rw [← Array.getElem?_toList]; exact hpv
      k_steps
      constructor
      refine item_neg hl7 (by omega) (by omega) (by omega) (by rw [show ((-1 : Int) + li5.size).toNat = pl.length - 1 by omega]; exact hlv') ?_ (by with_unfolding_all rfl)
      k_steps
      constructor
      rename Fr _ _ _ _ => F8
      rename News _ _ _ _ => N8
      refine item_at (hlg.at fun o e => F8.keep lp o e) (by omega) (by omega) hpv' ?_ (by with_unfolding_all rfl)
      k_steps
      constructor
      rename Fr _ _ _ _ => F8
      rename News _ _ _ _ => N8
      refine newList_K F8 N8 ?_
      intro a9 h9 F9 N9 l9
      k_steps
      constructor
      have hst9 := H1.stays F9 N9 fun p hp => .tail _ (.tail _ (.tail _ (.tail _ (.tail _ hp))))
      refine kmk_add_ints (vs := li5.toList) (ws := [.int last tl]) F9 N9 (hl5.at fun o e => hst9 l5 o e) ⟨_, (N9 _ (.head _)).1, rfl, _, rfl⟩ hi5' (.cons last tl .nil) ?_ (by rw [sizeLine_eq]; simp; omega)
      intro a10 us10 h10 F10 N10 l10 hi10
      clear F9 N9 F8 N8
      have lI10 : @LT.lt Nat _ I a10 := l10 _ (.tail _ (.tail _ (.head _)))
      have lw10 : @LT.lt Nat _ aw a10 := l10 _ (.tail _ (.tail _ (.tail _ (.head _))))
      have lt10 : @LT.lt Nat _ at' a10 := l10 _ (.tail _ (.tail _ (.tail _ (.tail _ (.head _)))))
      k_steps
      constructor
      rename Fr _ _ _ _ => F11
      rename News _ _ _ _ => N11
      rename Addr => D2
      rename _ ∧ _ ∧ _ ∧ _ ∧ _ ∧ _ ∧ _ => ld2
      have nm : ∀ x, x ≠ L' → @LT.lt Nat _ I x → @LT.lt Nat _ aw x → @LT.lt Nat _ at' x → x ∉ L' :: [I, aw, at'] := by
        intro x h1 h2 h3 h4 q
        rcases List.mem_cons.mp q with rfl | q
        · exact h1 rfl
        rcases List.mem_cons.mp q with rfl | q
        · exact Nat.lt_irrefl _ h2
        rcases List.mem_cons.mp q with rfl | q
        · exact Nat.lt_irrefl _ h3
        rcases List.mem_singleton.mp q with rfl
        exact Nat.lt_irrefl _ h4
      obtain ⟨hq2, imm2, H2, Ni2, s2, k2, in2⟩ := H1.grow F11 N11 (fun p hp => .tail _ (.tail _ (.tail _ (.tail _ (.tail _ (.tail _ (.tail _ hp))))))) hmu
      have z2 := N11 _ (.head _)
      have za := N11 _ (.tail _ (.head _))
      have z1 := N11 _ (.tail _ (.tail _ (.tail _ (.head _))))
      have rD2 : Rd hq2 (.ref D2) (item (n * p, pl ++ [last])) := mk_item (in2 _ _ z2.1 (nm _ z2.2.1 ld2.2.2.2.1 ld2.2.2.2.2.1 ld2.2.2.2.2.2.1)) rfl rfl (rd_ints ⟨_, in2 _ _ za.1 (nm _ za.2.1 lI10 lw10 lt10), rfl, _, rfl⟩ hi10)
      have rD1 : Rd hq2 (.ref D1) (item (n, pl)) := mk_item (in2 _ _ z1.1 (nm _ z1.2.1 ld1.1 ld1.2.1 ld1.2.2.1)) rfl rfl (r2.keeps s2)
      have hiT2 := (hiT.keeps s2).push rD1
      have N12 := news_sub (l' := [(I, oI), (aw, listOf vs5.toArray n5), (at', listOf (vsT ++ [Value.ref D1]).toArray (nT + 1))]) N11 Ni2 (by simp)
      refine heappush_ok (Gg.keeps H2.base) k2 (N11 _ (.tail _ (.tail _ (.tail _ (.tail _ (.tail _ (.head _))))))).1 (H2.out _ (.tail _ (.tail _ (.head _)))) (hi5.keeps s2) rD2 hpush (by omega) (by simp only [depth_deeper]; omega) (by simp only [units_deeper]; omega) ?_
      intro h13 tk13 vs13 n13 hi13 ha13 hk13
      have F13 := fr_but F11 hk13 gw.1 gw.2
      have N13 := news3 N12 hk13 ha13 hIw hwt H2
      clear F11 N11 N12 Ni2 z2 za z1 hk13 l10 ld2 rD1 rD2
      dsimp only at F13 N13 ⊢
      k_steps
      constructor
      rename Fr _ _ _ _ => F14
      rename News _ _ _ _ => N14
      have hil : its.size = ps.length := by have := hi.length; simpa using this
      refine len_L (hlg.at fun o e => F14.keep lp o e) (by omega) fun tL tkL => ?_
      rw [hil]
      k_steps
      · rename last + 1 < _ => hlt1
        rcases hcase with ⟨hno, _⟩ | ⟨q, hq1, hq0, hq9, hpush2⟩
        · exact absurd hno (by simp; omega)
        obtain ⟨tq, hqv⟩ := hi.get _ _ hq1
        have hqv' : its[(last + 1).toNat]? = some (.int q tq) := by rw [← Array.getElem?_toList]; exact hqv
        constructor
        refine item_at (hlg.at fun o e => F14.keep lp o e) (by omega) (by omega) hpv' ?_ (by with_unfolding_all rfl)
        have hfd : 0 ≤ n.fdiv p ∧ n.fdiv p ≤ 100000000 := by
          rw [Int.fdiv_eq_ediv_of_nonneg _ (by omega)]
          exact ⟨Int.ediv_nonneg (by omega) (by omega), Int.le_trans (Int.ediv_le_self _ (by omega)) (by omega)⟩
        k_steps
        constructor
        refine item_at (hlg.at fun o e => F14.keep lp o e) (by omega) (by omega) hqv' ?_ (by with_unfolding_all rfl)
        k_steps
        constructor
        have hst14 := H2.stays F14 N14 fun p hp => .tail _ (.tail _ (.tail _ hp))
        have hl14 : Heap.IsList h13 l5 li5 := hl5.at fun o e => hst14 l5 o (s2 l5 o e)
        k_dflt refine kmk_slice_ints (vs := li5.toList) (c := (pl.take (pl.length - 1)).length) F14 N14 hl14 .none (.int _ _) hi5' (kmk_upto_neg hi5' (by omega)) rfl ?_ (by with_unfolding_all rfl) (by intro _; with_unfolding_all rfl) (by simp; rw [sizeLine_eq]; omega)
        intro a15 ws15 h15 F15 N15 l15 hi15 _ _
        clear F14 N14
        k_steps
        constructor
        refine newList_K F15 N15 ?_
        intro a16 h16 F16 N16 l16
        k_steps
        constructor
        have ed : pl.take (pl.length - (- (-1 : Int)).toNat) = pl.dropLast := by rw [List.dropLast_eq_take]; rfl
        have hi15 : IntsAre ws15 pl.dropLast := by rw [← ed]; exact hi15
        refine kmk_add_ints F16 N16 ⟨_, (N16 _ (.tail _ (.head _))).1, rfl, _, rfl⟩ ⟨_, (N16 _ (.head _)).1, rfl, _, rfl⟩ hi15 (.cons (last + 1) _ .nil) ?_ (by rw [sizeLine_eq]; simp; omega)
        intro a17 us17 h17 F17 N17 l17 hi17
        have lI17 : @LT.lt Nat _ I a17 := l17 _ (.tail _ (.tail _ (.head _)))
        have lw17 : @LT.lt Nat _ aw a17 := l17 _ (.tail _ (.tail _ (.tail _ (.head _))))
        have lt17 : @LT.lt Nat _ at' a17 := l17 _ (.tail _ (.tail _ (.tail _ (.tail _ (.head _)))))
        clear F15 N15 F16 N16
        k_steps
        constructor
        rename Fr _ _ _ _ => F18
        rename News _ _ _ _ => N18
        rename Addr => D3
        rename _ ∧ _ ∧ _ ∧ _ ∧ _ ∧ _ ∧ _ => ld3
        obtain ⟨hq3, imm3, H3, Ni3, s3, k3, in3⟩ := H2.grow F18 N18 (fun p hp => .tail _ (.tail _ (.tail _ (.tail _ (.tail _ (.tail _ (.tail _ hp))))))) hmu
        have z2 := N18 _ (.head _)
        have za := N18 _ (.tail _ (.head _))
        have rD3 : Rd hq3 (.ref D3) (item (n.fdiv p * q, pl.dropLast ++ [last + 1])) := mk_item (in3 _ _ z2.1 (nm _ z2.2.1 ld3.2.2.2.1 ld3.2.2.2.2.1 ld3.2.2.2.2.2.1)) rfl rfl (rd_ints ⟨_, in3 _ _ za.1 (nm _ za.2.1 lI17 lw17 lt17), rfl, _, rfl⟩ hi17)
        have N19 := news_sub (l' := [(I, oI), (aw, listOf vs13.toArray n13), (at', listOf (vsT ++ [Value.ref D1]).toArray (nT + 1))]) N18 Ni3 (by simp)
        refine heappush_ok (Gg.keeps H3.base) k3 (N18 _ (.tail _ (.tail _ (.tail _ (.tail _ (.tail _ (.head _))))))).1 (H3.out _ (.tail _ (.tail _ (.head _)))) (hi13.keeps s3) rD3 hpush2 (by omega) (by simp only [depth_deeper]; omega) (by simp only [units_deeper]; omega) ?_
        intro h20 tk20 vs20 n20 hi20 ha20 hk20
        have F20 := fr_but F18 hk20 gw.1 gw.2
        have N20 := news3 N19 hk20 ha20 hIw hwt H3
        clear F18 N18 N19 Ni3 z2 za hk20 l17 ld3 rD3
        dsimp only at F20 N20 ⊢
        k_steps
        subst hI
        constructor
        exact ⟨_, _, _, _, rfl, fput (fput (fput F20 (by rfl)) (by rfl)) (by rfl), N20, (fun p hp => by
            rcases List.mem_cons.mp hp with rfl | hp
            · exact hIw
            rcases List.mem_cons.mp hp with rfl | hp
            · exact hIt
            exact fun z => H3.apart _ hp (z ▸ .head _)), (fun _ z => nomatch z), vs20, n20, _, _, _, _, imm3, hq3, _, rfl, H3.less, hi20, hiT2.keeps s3, rfl, hgo⟩
      · rename ¬ (last + 1 < _) => hlt1
        rcases hcase with ⟨hno, rfl⟩ | ⟨q, hq1, _⟩
        · subst hI
          constructor
          exact ⟨_, _, _, _, rfl, fput (fput (fput F14 (by rfl)) (by rfl)) (by rfl), N14, (fun p hp => by
            rcases List.mem_cons.mp hp with rfl | hp
            · exact hIw
            rcases List.mem_cons.mp hp with rfl | hp
            · exact hIt
            exact fun z => H2.apart _ hp (z ▸ .head _)), (fun _ z => nomatch z), vs13, n13, _, _, _, _, imm2, hq2, _, rfl, H2.less, hi13, hiT2, rfl, hgo⟩
        · have := List.getElem?_eq_some_iff.mp hq1
          obtain ⟨z, _⟩ := this
          omega
    · rintro m nx h tk ⟨vsW, nW, vsT, nT, xs, ts, imm, hq, u, rfl, H, hiW, hiT, rfl, hgo⟩ F3 N3
      cases hgo
      k_steps
      refine hret _ _ _ _ _ hq (fun b o e => H.base b o (gs b o e)) (H.stays F3 N3 fun p hp => .tail _ (.tail _ hp)) (H.out _ (.tail _ (.tail _ (.head _)))) (N3 _ (.tail _ (.head _))).1 hiT
end
end Mine
namespace Mine
/-- the code points of a factor's sign -/
def tk (p : Int) : List Nat := (tabAt p).cps.toList
def flat : List Int → List Nat
  | [] => []
  | p :: ps => tk p ++ flat ps
theorem tk0 : tk 0 = [46, 97] := by decide +kernel
theorem tk1 : tk 1 = [46, 97, 97] := by decide +kernel
theorem tk2 : tk 2 = [46, 98] := by decide +kernel
theorem tk3 : tk 3 = [46, 98, 97] := by decide +kernel
theorem tk4 : tk 4 = [46, 99] := by decide +kernel
theorem tk5 : tk 5 = [46, 99, 97] := by decide +kernel
theorem six {a : Int} (h : 0 ≤ a ∧ a < 6) : a = 0 ∨ a = 1 ∨ a = 2 ∨ a = 3 ∨ a = 4 ∨ a = 5 := by omega
theorem tk_head {a : Int} (h : 0 ≤ a ∧ a < 6) : ∃ x t, tk a = 46 :: x :: t ∧ t.length ≤ 1 := by
  rcases six h with rfl | rfl | rfl | rfl | rfl | rfl
  · exact ⟨_, _, tk0, by decide⟩
  · exact ⟨_, _, tk1, by decide⟩
  · exact ⟨_, _, tk2, by decide⟩
  · exact ⟨_, _, tk3, by decide⟩
  · exact ⟨_, _, tk4, by decide⟩
  · exact ⟨_, _, tk5, by decide⟩
theorem flat_head : ∀ {ps : List Int}, (∀ p ∈ ps, 0 ≤ p ∧ p < 6) → flat ps = [] ∨ ∃ t, flat ps = 46 :: t
  | [], _ => .inl rfl
  | a :: ps, h => by
    obtain ⟨x, t, e, _⟩ := tk_head (h a (.head _))
    exact .inr ⟨x :: t ++ flat ps, by rw [flat, e]; rfl⟩
theorem flat_app (ps qs : List Int) : flat (ps ++ qs) = flat ps ++ flat qs := by
  induction ps with
  | nil => rfl
  | cons a ps ih => rw [List.cons_append, flat, flat, ih, List.append_assoc]
theorem flat_len : ∀ {ps : List Int}, (∀ p ∈ ps, 0 ≤ p ∧ p < 6) → (flat ps).length ≤ 3 * ps.length
  | [], _ => Nat.le_refl _
  | a :: ps, h => by
    obtain ⟨x, t, e, l⟩ := tk_head (h a (.head _))
    have := flat_len (ps := ps) fun p hp => h p (.tail _ hp)
    rw [flat, e, List.length_append]
    simp only [List.length_cons]
    omega
/-- two signs that part, whatever follows -/
theorem tk_part {a b : Int} (ha : 0 ≤ a ∧ a < 6) (hb : 0 ≤ b ∧ b < 6) {x y : List Nat} (hx : x = [] ∨ ∃ t, x = 46 :: t) (hy : y = [] ∨ ∃ t, y = 46 :: t) (h : tk a ++ x = tk b ++ y) : a = b := by
  rcases six ha with rfl | rfl | rfl | rfl | rfl | rfl <;> rcases six hb with rfl | rfl | rfl | rfl | rfl | rfl <;> first | rfl | skip
  all_goals
    simp only [tk0, tk1, tk2, tk3, tk4, tk5, List.cons_append, List.nil_append, List.cons.injEq, true_and] at h
    first
      | exact absurd h.1 (by decide)
      | (rcases hx with rfl | ⟨t, rfl⟩ <;> rcases hy with rfl | ⟨u, rfl⟩ <;> simp at h)
theorem flat_inj : ∀ {p q : List Int}, (∀ x ∈ p, 0 ≤ x ∧ x < 6) → (∀ x ∈ q, 0 ≤ x ∧ x < 6) → flat p = flat q → p = q
  | [], [], _, _, _ => rfl
  | [], b :: q, _, hq, h => by
    obtain ⟨x, t, e, _⟩ := tk_head (hq b (.head _))
    rw [flat, flat, e] at h; cases h
  | a :: p, [], hp, _, h => by
    obtain ⟨x, t, e, _⟩ := tk_head (hp a (.head _))
    rw [flat, flat, e] at h; cases h
  | a :: p, b :: q, hp, hq, h => by
    rw [flat, flat] at h
    have hp' := fun x (z : x ∈ p) => hp x (.tail _ z)
    have hq' := fun x (z : x ∈ q) => hq x (.tail _ z)
    have e := tk_part (hp a (.head _)) (hq b (.head _)) (flat_head hp') (flat_head hq') h
    subst e
    rw [flat_inj hp' hq' (List.append_cancel_left h)]
theorem flat_pre : ∀ {p q : List Int}, (∀ x ∈ p, 0 ≤ x ∧ x < 6) → (∀ x ∈ q, 0 ≤ x ∧ x < 6) → flat p ++ [46] <+: flat q → p <+: q
  | [], _, _, _, _ => List.nil_prefix
  | a :: p, [], hp, _, h => by
    obtain ⟨t, ht⟩ := h
    rw [flat, flat] at ht
    simp at ht
  | a :: p, b :: q, hp, hq, h => by
    have hp' := fun x (z : x ∈ p) => hp x (.tail _ z)
    have hq' := fun x (z : x ∈ q) => hq x (.tail _ z)
    obtain ⟨t, ht⟩ := h
    rw [flat, flat, List.append_assoc, List.append_assoc] at ht
    have e := tk_part (hp a (.head _)) (hq b (.head _)) (x := flat p ++ ([46] ++ t)) (by
      rcases flat_head hp' with z | ⟨u, z⟩
      · rw [z]; exact .inr ⟨t, rfl⟩
      · rw [z]; exact .inr ⟨u ++ ([46] ++ t), rfl⟩) (flat_head hq') ht
    subst e
    have := flat_pre hp' hq' ⟨t, by rw [List.append_assoc]; exact List.append_cancel_left ht⟩
    exact (List.cons_prefix_cons).mpr ⟨rfl, this⟩
theorem flat_iff {p q : List Int} (hp : ∀ x ∈ p, 0 ≤ x ∧ x < 6) (hq : ∀ x ∈ q, 0 ≤ x ∧ x < 6) : (flat q = flat p ∨ flat p ++ [46] <+: flat q) ↔ p <+: q := by
  constructor
  · rintro (h | h)
    · rw [flat_inj hq hp h]; exact List.prefix_refl _
    · exact flat_pre hp hq h
  · rintro ⟨r, rfl⟩
    rw [flat_app]
    have hr := fun x (z : x ∈ r) => hq x (List.mem_append.mpr (.inr z))
    rcases flat_head hr with z | ⟨u, z⟩
    · rw [z, List.append_nil]; exact .inl rfl
    · rw [z]; exact .inr ⟨u, by simp⟩
theorem join_flat : ∀ ps : List Int, (Str.join (Str.ofString "") (ps.map tabAt)).cps.toList = flat ps
  | [] => rfl
  | [a] => by show tk a = flat [a]; rw [flat, flat, List.append_nil]
  | a :: b :: ps => by
    have ih := join_flat (b :: ps)
    show ((tabAt a).cps ++ (Str.ofString "").cps ++ (Str.join (Str.ofString "") ((b :: ps).map tabAt)).cps).toList = _
    have e0 : (Str.ofString "").cps = #[] := rfl
    rw [e0, Array.append_empty, Array.toList_append, ih]
    rfl
theorem nm_flat (ps : List Int) : (nmOf ps).cps.toList = 111 :: flat ps := by
  have e : Txt.join (Str.ofString "") (ps.map tabAt) = Str.join (Str.ofString "") (ps.map tabAt) := StrLaws.glued_eq_join _ _
  unfold nmOf
  rw [e]
  show ((Str.ofString "o").cps ++ (Str.join (Str.ofString "") (ps.map tabAt)).cps).toList = _
  rw [Array.toList_append, join_flat]
  rfl
theorem nm_inj {p q : List Int} (hp : ∀ x ∈ p, 0 ≤ x ∧ x < 6) (hq : ∀ x ∈ q, 0 ≤ x ∧ x < 6) (h : nmOf p = nmOf q) : p = q := by
  have := congrArg (fun s : Str => s.cps.toList) h
  rw [nm_flat, nm_flat] at this
  exact flat_inj hp hq (List.cons.inj this).2
theorem nm_len {p : List Int} (hp : ∀ x ∈ p, 0 ≤ x ∧ x < 6) : (nmOf p).length ≤ 1 + 3 * p.length := by
  have e : (nmOf p).length = (nmOf p).cps.toList.length := by rw [Array.length_toList]; rfl
  rw [e, nm_flat, List.length_cons]
  have := flat_len hp
  omega
theorem nm_not (p : List Int) : Str.ofString "<string>" ≠ nmOf p := by
  intro h
  have := congrArg (fun s : Str => s.cps.toList) h
  rw [nm_flat] at this
  have e : (Str.ofString "<string>").cps.toList = [60, 115, 116, 114, 105, 110, 103, 62] := by decide +kernel
  rw [e] at this
  exact absurd (List.cons.inj this).1 (by decide)
theorem starts_iff (a b : Str) : Txt.startswith b (a ++ Str.ofString ".") = true ↔ a.cps.toList ++ [46] <+: b.cps.toList := by
  have e : (a ++ Str.ofString ".").cps.toList = a.cps.toList ++ [46] := by
    show (a.cps ++ (Str.ofString ".").cps).toList = _
    rw [Array.toList_append]; rfl
  have l : (a ++ Str.ofString ".").length = (a.cps.toList ++ [46]).length := by
    rw [← e, Array.length_toList]; rfl
  have lb : b.length = b.cps.toList.length := by rw [Array.length_toList]; rfl
  unfold Txt.startswith
  rw [StrLaws.subAt_eq, e, l, lb, List.drop_zero, Bool.and_eq_true, decide_eq_true_eq, beq_iff_eq]
  constructor
  · rintro ⟨_, h⟩
    exact List.prefix_iff_eq_take.mpr h.symm
  · intro h
    exact ⟨by have := h.length_le; omega, (List.prefix_iff_eq_take.mp h).symm⟩
/-- what a reader of the one's name says to the other's: whether the one's places open the other's -/
theorem says_iff {p q : List Int} (hp : ∀ x ∈ p, 0 ≤ x ∧ x < 6) (hq : ∀ x ∈ q, 0 ≤ x ∧ x < 6) : saysF (nmOf p) (nmOf q) = if p.isPrefixOf q = true then 1 else 0 := by
  have h : (nmOf q = nmOf p ∨ Txt.startswith (nmOf q) (nmOf p ++ Str.ofString ".") = true) ↔ p.isPrefixOf q = true := by
    rw [List.isPrefixOf_iff_prefix, ← flat_iff hp hq, starts_iff, nm_flat, nm_flat, List.cons_append, List.cons_prefix_cons]
    constructor
    · rintro (z | ⟨_, z⟩)
      · exact .inl (by rw [nm_inj hq hp z])
      · exact .inr z
    · rintro (z | z)
      · exact .inl (by rw [flat_inj hq hp z])
      · exact .inr ⟨rfl, z⟩
  unfold saysF
  by_cases z : p.isPrefixOf q = true
  · rw [if_pos z, if_pos (h.mpr z)]
  · rw [if_neg z, if_neg fun y => z (h.mp y)]
end Mine
namespace Mine
def chkOne (ps : List Int) (d : D) : Bool := decide (0 < d.1 ∧ d.1 ≤ 1000000 ∧ d.2.length ≤ 1000) && d.2.all (fun p => decide (0 ≤ p ∧ p < 6)) && (grOf ps d.1).isSome
def chkLast (ps : List Int) (res : List D) : Bool := match res.getLast? with
  | none => false
  | some (nl, _) => decide (nl + 1 = 2 + ((nl - 1).toNat : Int)) && decide ((nl - 1).toNat ≤ 100000) && (List.range (nl - 1).toNat).all (fun k => (placesF (2 + (k : Int)) ps).isSome) && decide ((dueL ps (nl - 1).toNat).filter (fun d => d.2 ≠ []) = res)
def chkAgree (ps : List Int) (res : List D) : Bool := res.all fun d => res.all fun e => d.2.isPrefixOf e.2 == leadsF ps d.1 e.1
def chk (ps : List Int) : Bool := match toldF ps with
  | none => false
  | some res => decide (ps.length ≤ 100) && ps.all (fun p => decide (0 < p ∧ p ≤ 1000)) && chkLast ps res && decide (res.length ≤ 100) && res.all (chkOne ps) && decide ((res.map (·.2)).Nodup) && chkAgree ps res
theorem chk_good {ps : List Int} (h : chk ps = true) : ∃ res, Good ps res := by
  unfold chk at h
  cases e : toldF ps with
  | none => rw [e] at h; cases h
  | some res =>
    rw [e] at h
    simp only [Bool.and_eq_true] at h
    obtain ⟨⟨⟨⟨⟨⟨h1, h2⟩, h3⟩, h4⟩, h5⟩, h6⟩, h7⟩ := h
    have one : ∀ d ∈ res, (0 < d.1 ∧ d.1 ≤ 1000000 ∧ d.2.length ≤ 1000) ∧ (∀ p ∈ d.2, 0 ≤ p ∧ p < 6) ∧ (grOf ps d.1).isSome = true := fun d hd => by
      have := List.all_eq_true.mp h5 d hd
      unfold chkOne at this
      simp only [Bool.and_eq_true] at this
      exact ⟨of_decide_eq_true this.1.1, fun p hp => of_decide_eq_true (List.all_eq_true.mp this.1.2 p hp), this.2⟩
    refine ⟨res, e, of_decide_eq_true h1, fun p hp => of_decide_eq_true (List.all_eq_true.mp h2 p hp), ?_, of_decide_eq_true h4, fun d hd => ?_, ?_, fun d hd e he => ?_⟩
    · unfold chkLast at h3
      cases g : res.getLast? with
      | none => rw [g] at h3; cases h3
      | some x =>
        obtain ⟨nl, pll⟩ := x
        rw [g] at h3
        simp only [Bool.and_eq_true] at h3
        obtain ⟨⟨⟨g1, g2⟩, g3⟩, g4⟩ := h3
        exact ⟨nl, pll, (nl - 1).toNat, rfl, of_decide_eq_true g1, of_decide_eq_true g2, fun k hk => List.all_eq_true.mp g3 k (List.mem_range.mpr hk), of_decide_eq_true g4⟩
    · obtain ⟨⟨a, b, c⟩, f, g⟩ := one d hd
      exact ⟨a, b, c, f, g, by have := nm_len f; omega⟩
    · refine List.nodup_cons.mpr ⟨fun q => ?_, ?_⟩
      · obtain ⟨d, _, hq⟩ := List.mem_map.mp q
        exact nm_not _ hq.symm
      · have nd := of_decide_eq_true h6
        rw [List.Nodup, List.pairwise_map] at nd ⊢
        exact nd.imp_of_mem fun ha hb hn hq => hn (nm_inj (one _ ha).2.1 (one _ hb).2.1 hq)
    · rw [says_iff (one d hd).2.1 (one e he).2.1, eq_of_beq (List.all_eq_true.mp (List.all_eq_true.mp h7 d hd) e he)]
def psB (b1 b2 b3 b4 b5 b6 b7 : Bool) : List Int := [2, 3] ++ ((if b1 then [5] else []) ++ ((if b2 then [7] else []) ++ ((if b3 then [11] else []) ++ ((if b4 then [13] else []) ++ ((if b5 then [17] else []) ++ ((if b6 then [19] else []) ++ (if b7 then [23] else [])))))))
theorem filter_app (f : Int → Bool) (a : Int) (l : List Int) : (a :: l).filter f = (if f a = true then [a] else []) ++ l.filter f := by
  cases h : f a <;> simp [h]
theorem primes_psB (dr : List Int) : primesF dr = psB (dr.any (· == 5)) (dr.any (· == 7)) (dr.any (· == 11)) (dr.any (· == 13)) (dr.any (· == 17)) (dr.any (· == 19)) (dr.any (· == 23)) := by
  unfold primesF psB tab7
  rw [filter_app, filter_app, filter_app, filter_app, filter_app, filter_app, filter_app, List.filter_nil, List.append_nil]
/-- how many of the seven are drawn -/
def few (b1 b2 b3 b4 b5 b6 b7 : Bool) : Nat := b1.toNat + b2.toNat + b3.toNat + b4.toNat + b5.toNat + b6.toNat + b7.toNat
def bits (dr : List Int) : Nat := few (dr.any (· == 5)) (dr.any (· == 7)) (dr.any (· == 11)) (dr.any (· == 13)) (dr.any (· == 17)) (dr.any (· == 19)) (dr.any (· == 23))
theorem or_le : ∀ a b : Bool, (a || b).toNat ≤ a.toNat + b.toNat := by decide
theorem one_hit (x : Int) : few (x == 5) (x == 7) (x == 11) (x == 13) (x == 17) (x == 19) (x == 23) ≤ 1 := by
  have z : ∀ c : Int, x ≠ c → (x == c).toNat = 0 := fun c h => by rw [beq_false_of_ne h]; rfl
  have o : ∀ b : Bool, b.toNat ≤ 1 := by decide
  unfold few
  by_cases h1 : x = 5
  · subst h1; decide
  by_cases h2 : x = 7
  · subst h2; decide
  by_cases h3 : x = 11
  · subst h3; decide
  by_cases h4 : x = 13
  · subst h4; decide
  by_cases h5 : x = 17
  · subst h5; decide
  by_cases h6 : x = 19
  · subst h6; decide
  rw [z _ h1, z _ h2, z _ h3, z _ h4, z _ h5, z _ h6]
  have := o (x == 23)
  omega
theorem bits_le : ∀ dr : List Int, bits dr ≤ dr.length
  | [] => Nat.le_refl _
  | x :: dr => by
    have ih := bits_le dr
    have h := one_hit x
    unfold bits few at ih ⊢
    unfold few at h
    simp only [List.any_cons, List.length_cons]
    have a1 := or_le (x == 5) (dr.any (· == 5))
    have a2 := or_le (x == 7) (dr.any (· == 7))
    have a3 := or_le (x == 11) (dr.any (· == 11))
    have a4 := or_le (x == 13) (dr.any (· == 13))
    have a5 := or_le (x == 17) (dr.any (· == 17))
    have a6 := or_le (x == 19) (dr.any (· == 19))
    have a7 := or_le (x == 23) (dr.any (· == 23))
    omega
theorem bits_drawn (ns : List Int) : bits (drawnF ns) ≤ 4 := by
  refine Nat.le_trans (bits_le _) ?_
  unfold drawnF
  rw [List.length_map]
  exact List.length_take_le ..
theorem ok_ffff : ∀ b5 b6 b7 : Bool, few false false false false b5 b6 b7 ≤ 4 → chk (psB false false false false b5 b6 b7) = true := by decide +kernel
theorem ok_ffft : ∀ b5 b6 b7 : Bool, few false false false true b5 b6 b7 ≤ 4 → chk (psB false false false true b5 b6 b7) = true := by decide +kernel
theorem ok_fftf : ∀ b5 b6 b7 : Bool, few false false true false b5 b6 b7 ≤ 4 → chk (psB false false true false b5 b6 b7) = true := by decide +kernel
theorem ok_fftt : ∀ b5 b6 b7 : Bool, few false false true true b5 b6 b7 ≤ 4 → chk (psB false false true true b5 b6 b7) = true := by decide +kernel
theorem ok_ftff : ∀ b5 b6 b7 : Bool, few false true false false b5 b6 b7 ≤ 4 → chk (psB false true false false b5 b6 b7) = true := by decide +kernel
theorem ok_ftft : ∀ b5 b6 b7 : Bool, few false true false true b5 b6 b7 ≤ 4 → chk (psB false true false true b5 b6 b7) = true := by decide +kernel
theorem ok_fttf : ∀ b5 b6 b7 : Bool, few false true true false b5 b6 b7 ≤ 4 → chk (psB false true true false b5 b6 b7) = true := by decide +kernel
theorem ok_fttt : ∀ b5 b6 b7 : Bool, few false true true true b5 b6 b7 ≤ 4 → chk (psB false true true true b5 b6 b7) = true := by decide +kernel
theorem ok_tfff : ∀ b5 b6 b7 : Bool, few true false false false b5 b6 b7 ≤ 4 → chk (psB true false false false b5 b6 b7) = true := by decide +kernel
theorem ok_tfft : ∀ b5 b6 b7 : Bool, few true false false true b5 b6 b7 ≤ 4 → chk (psB true false false true b5 b6 b7) = true := by decide +kernel
theorem ok_tftf : ∀ b5 b6 b7 : Bool, few true false true false b5 b6 b7 ≤ 4 → chk (psB true false true false b5 b6 b7) = true := by decide +kernel
theorem ok_tftt : ∀ b5 b6 b7 : Bool, few true false true true b5 b6 b7 ≤ 4 → chk (psB true false true true b5 b6 b7) = true := by decide +kernel
theorem ok_ttff : ∀ b5 b6 b7 : Bool, few true true false false b5 b6 b7 ≤ 4 → chk (psB true true false false b5 b6 b7) = true := by decide +kernel
theorem ok_ttft : ∀ b5 b6 b7 : Bool, few true true false true b5 b6 b7 ≤ 4 → chk (psB true true false true b5 b6 b7) = true := by decide +kernel
theorem ok_tttf : ∀ b5 b6 b7 : Bool, few true true true false b5 b6 b7 ≤ 4 → chk (psB true true true false b5 b6 b7) = true := by decide +kernel
theorem ok_tttt : ∀ b5 b6 b7 : Bool, few true true true true b5 b6 b7 ≤ 4 → chk (psB true true true true b5 b6 b7) = true := by decide +kernel
theorem all_ok : ∀ b1 b2 b3 b4 b5 b6 b7 : Bool, few b1 b2 b3 b4 b5 b6 b7 ≤ 4 → chk (psB b1 b2 b3 b4 b5 b6 b7) = true
  | false, false, false, false, b5, b6, b7 => ok_ffff b5 b6 b7
  | false, false, false, true, b5, b6, b7 => ok_ffft b5 b6 b7
  | false, false, true, false, b5, b6, b7 => ok_fftf b5 b6 b7
  | false, false, true, true, b5, b6, b7 => ok_fftt b5 b6 b7
  | false, true, false, false, b5, b6, b7 => ok_ftff b5 b6 b7
  | false, true, false, true, b5, b6, b7 => ok_ftft b5 b6 b7
  | false, true, true, false, b5, b6, b7 => ok_fttf b5 b6 b7
  | false, true, true, true, b5, b6, b7 => ok_fttt b5 b6 b7
  | true, false, false, false, b5, b6, b7 => ok_tfff b5 b6 b7
  | true, false, false, true, b5, b6, b7 => ok_tfft b5 b6 b7
  | true, false, true, false, b5, b6, b7 => ok_tftf b5 b6 b7
  | true, false, true, true, b5, b6, b7 => ok_tftt b5 b6 b7
  | true, true, false, false, b5, b6, b7 => ok_ttff b5 b6 b7
  | true, true, false, true, b5, b6, b7 => ok_ttft b5 b6 b7
  | true, true, true, false, b5, b6, b7 => ok_tttf b5 b6 b7
  | true, true, true, true, b5, b6, b7 => ok_tttt b5 b6 b7
theorem good_of (ns : List Int) : ∃ res, Good (primesF (drawnF ns)) res := by
  rw [primes_psB]
  exact chk_good (all_ok _ _ _ _ _ _ _ (bits_drawn ns))
end Mine
namespace Mine
local macro_rules | `(tactic| walk_at "eval ListComp") => `(tactic| refine Hold.out ?_)
local macro_rules | `(tactic| walk_at "eval Name") => `(tactic| first
  | (refine' name_C ?n1 ?n2 ?_ ?n3 ?n4 ?n5; (case n1 => with_reducible assumption); (case n2 => with_reducible assumption); (case n3 => k_dflt exact rfl); (case n4 => k_dflt exact rfl); (case n5 => k_dflt decide))
  | (refine' name_cell ?n1 ?n2 ?_ ?n3 ?n4 ?n6 ?n5; (case n1 => with_reducible assumption); (case n3 => k_dflt exact rfl); (case n4 => k_dflt exact rfl); (case n6 => k_dflt exact rfl); (case n2 => with_reducible assumption); (case n5 => k_dflt decide))
  | (refine' name_glob ?n1 ?n2 ?n3 ?_ ?n4 ?n5 ?n6 ?n7; (case n1 => with_reducible assumption); (case n5 => k_dflt exact rfl); (case n2 => with_reducible assumption); (case n3 => k_is); (case n4 => k_dflt exact rfl); (case n6 => k_dflt exact rfl); (case n7 => k_dflt decide))
  | (refine' name_boot ?n1 ?n2 ?n3 ?n8 ?n9 ?_ ?n4 ?n5 ?n6 ?n10 ?n7; (case n1 => with_reducible assumption); (case n5 => k_dflt exact rfl); (case n2 => with_reducible assumption); (case n3 => k_is); (case n8 => boot_fast); (case n9 => decide); (case n4 => k_dflt exact rfl); (case n6 => k_dflt exact rfl); (case n10 => k_dflt exact rfl); (case n7 => k_dflt decide)))
local macro_rules | `(tactic| walk_at "newList") => `(tactic| refine Hold.out ?_)
local macro_rules | `(tactic| walk_at "call ref") => `(tactic| refine Hold.out ?_)
local macro_rules | `(tactic| walk_at "call type:str") => `(tactic| refine Hold.out ?_)
local macro_rules | `(tactic| walk_at "binaryOp Add ref ref") => `(tactic| refine Hold.out ?_)
local macro_rules | `(tactic| walk_at "compareOp NotEq ref ref") => `(tactic| refine Hold.out ?_)
local macro_rules | `(tactic| walk_at "compareOp In int ref") => `(tactic| refine Hold.out ?_)
local macro_rules | `(tactic| walk_at "exec For Tuple Name cons nil") => `(tactic| refine Hold.out ?_)
local macro_rules | `(tactic| walk_at "subscriptTail Name UnaryOp ref int") => `(tactic| refine Hold.out ?_)
local macro_rules | `(tactic| walk_at "subscriptTail Tuple BinOp ref int") => `(tactic| refine Hold.out ?_)
local macro_rules | `(tactic| walk_at "exec Assign cons ListComp") => `(tactic| refine Hold.out ?_)
local macro_rules | `(tactic| walk_at "subscriptTail Name Slice ref ref") => `(tactic| refine Hold.out ?_)
local macro_rules | `(tactic| walk_at "subscriptTail Subscript Constant ref int") => `(tactic| refine Hold.out ?_)
local macro_rules | `(tactic| walk_at "subscriptTail Subscript Constant ref") => `(tactic| refine Hold.out ?_)
local macro_rules | `(tactic| walk_at "subscriptTail Subscript Constant") => `(tactic| refine Hold.out ?_)
local macro_rules | `(tactic| walk_at "subscriptTail Subscript") => `(tactic| refine Hold.out ?_)
theorem cw_x : PySem.Challenge.rw_oy0036_01.Holds := Mine.hd (by
  w_strict (
    k_go0
    (all_goals try k_fold)
    rename_i h1 tk1 F1 o4 o3 o2 o1 d4' d3' d2' d1' N1 X0
    have d4 : o4.data = .cell none := d4'
    have d3 : o3.data = .cell none := d3'
    have d2 : o2.data = .cell none := d2'
    have d1 : o1.data = .cell none := d1'
    clear d4' d3' d2' d1' X0
    refine wpAny_mono (E := No) ?_ (fun _ _ h => h) (fun _ _ h => h.elim)
    rename IntsAre _ _ => hI
    rename Heap.IsList _ _ _ => hL
    rename ¬ (_ < _) => hN
    have Gg : Gr _ _ := ⟨by assumption, _, _, _, _, _, by assumption⟩
    try dsimp only
    k_steps
    constructor
    refine wpAny_Assign_Name ?_
    refine comp_pure (by rfl) (by decide) rfl (by decide) rfl (fun _ => rfl) ?_
    k_steps
    constructor
    rename List Int => ns
    rename World => w
    rename Shared => sB
    k_dflt refine kmk_slice_ints (c := (ns.take 4).length) F1 N1 (hL.at fun o e => F1.keep _ o e) .none (.int _ _) hI (kmk_upto hI (by omega)) rfl ?_ (by with_unfolding_all rfl) (by intro _; with_unfolding_all rfl) (by have := hI.length; simp; rw [sizeLine_eq]; omega)
    intro a2 vs2 h2 F2 N2 l2 hi2 _ _
    clear F1 N1
    k_steps
    constructor
    dsimp only at F2 N2 ⊢
    have hl2 : Heap.IsList h2 a2 vs2.toArray := ⟨_, (N2 _ (.head _)).1, rfl, _, rfl⟩
    have hz2 := hi2.length
    refine ⟨"list_iterator", [a2], vs2.toArray.size, _, fun i ys => IntsAre ys (((ns.take 4).take i).map pick), ⟨gives_list rfl hl2, ?_, ?_, .nil, ?_, ?_⟩⟩
    · rw [sizeLine_eq]; simp at hz2 ⊢; omega
    · intro b hb; rw [List.mem_singleton.mp hb]; obtain ⟨o, ho, _⟩ := hl2; exact Heap.lt_size ho
    · intro C i ys v h₃ tk₃ m₃ imm hlt hv hm hK F3 N3
      refine wpAny_tests_nil ?_
      rw [if_pos rfl]
      refine ⟨⟨Fin.mk F3 N3 (fun _ h => h) trivial⟩, ?_⟩
      obtain ⟨x, tx, rfl, hx⟩ := take_ints hi2 hv
      have hx : (ns.take 4)[i]? = some x := hx
      have hK' : ∀ t, IntsAre (ys ++ [.int (pick x) t]) (((ns.take 4).take (i + 1)).map pick) := fun t => by
        rw [List.take_add_one (l := ns.take 4), hx, List.map_append]
        exact ints_snoc hK _ t
      k_steps
      rename Fr _ _ _ _ => F4
      rename News _ _ _ _ => N4
      exact ⟨Fin.mk F4 N4 (fun _ h => .tail _ h) (hK' _)⟩
    intro D h' tk' ys hD hl' hK hst
    have hK : IntsAre ys (drawnF ns) := by
      have e : (ns.take 4).take vs2.toArray.size = ns.take 4 := List.take_of_length_le (by simp at hz2 ⊢; omega)
      rw [e] at hK; exact hK
    have F3 := fr_keeps F2 hst
    obtain ⟨nD, eD⟩ := hl'
    have N3 := news_one F2 hD hst eD (news_keeps N2 hst)
    clear F2 N2
    k_steps
    obtain ⟨hq1, imm1, H1, N3, st1, sq1⟩ := regh F3 N3 (cells4 _ o4 o3 o2 o1) (fun p hp => .tail _ (.tail _ hp)) (nseq4 d4 d3 d2 d1)
    refine storeC F3 N3 (.tail _ (.tail _ (.tail _ (.head _)))) d1 ?_ rfl rfl rfl
    intro h4 o1' d1' F4 N4 _
    have N4 := N4 _ (upd_cells (cs' := cells4 _ o4 o3 o2 o1') H1 (.tail _ (.tail _ (.tail _ (.head _)))) up1)
    have hdr : Heap.IsList hq1 D ys.toArray := sq1.list ⟨_, eD, rfl, _, rfl⟩
    clear F3 N3
    dsimp only [cells4, List.cons_append, List.nil_append] at F4 N4 ⊢
    k_steps
    constructor
    refine newList_K F4 N4 ?_
    intro a5 h5 F5 N5 l5
    clear F4 N4
    k_steps
    constructor
    refine comp_pure (by rfl) (by decide) rfl (by decide) rfl (fun _ => rfl) ?_
    k_steps
    constructor
    rename Fr _ _ _ _ => F6
    rename News _ _ _ _ => N6
    rename Addr => t6
    rename Heap => h6
    dsimp only at F6 N6 ⊢
    have cd6 : h6.IsCell _ _ := IsCell.mk (N6 _ (.tail _ (.tail _ (.tail _ (.tail _ (.tail _ (.head _))))))).1 d1'
    have st6 := H1.stays F6 N6 fun p hp => .tail _ (.tail _ (.tail _ (.tail _ (.tail _ (.tail _ hp)))))
    have hdr6 : h6.IsList D ys.toArray := hdr.at fun o e => st6 D o e
    have ht6 := (N6 _ (.head _)).1
    obtain ⟨its6, hi6⟩ : ∃ vs : List Value, IntsAre vs tab7 ∧ h6.IsTuple t6 vs.toArray := ⟨_, .cons _ _ (.cons _ _ (.cons _ _ (.cons _ _ (.cons _ _ (.cons _ _ (.cons _ _ .nil)))))), _, ht6, rfl, _, rfl⟩
    obtain ⟨hi6, hT6⟩ := hi6
    have hz6 : its6.length = 7 := hi6.length
    refine ⟨"tuple_iterator", [t6], its6.toArray.size, _, fun i ys => IntsAre ys ((tab7.take i).filter fun p => (drawnF ns).any (· == p)), ⟨gives_tuple rfl hT6, ?_, ?_, .nil, ?_, ?_⟩⟩
    · rw [sizeLine_eq]; simp; omega
    · intro b hb; rw [List.mem_singleton.mp hb]; exact Heap.lt_size ht6
    · intro C i ys' v h₃ tk₃ m₃ imm hlt hv hm hK' F7 N7
      obtain ⟨x, tx, rfl, hx⟩ := take_ints hi6 hv
      refine wpAny_tests_one ?_
      have htk : tab7.take (i + 1) = tab7.take i ++ [x] := by rw [List.take_add_one, hx]; rfl
      clear F6 N6
      dsimp only at F7 N7 ⊢
      k_steps
      constructor
      refine in_list_ints (hdr6.at fun o e => F7.keep _ o e) hK ?_
      k_steps
      · exact ⟨Fin.mk F7 N7 (fun _ h => h) trivial⟩
      · rename List.any _ _ = true => hb
        refine ⟨Fin.mk F7 N7 (fun _ h => h) ?_⟩
        rw [htk, List.filter_append]
        simpa [hb] using ints_snoc hK' x tx
      · rename List.any _ _ = false => hb
        refine ⟨Fin.mk F7 N7 (fun _ h => h) ?_⟩
        rw [htk, List.filter_append]
        simpa [hb] using hK'
    intro D8 h8 tk8 ys8 hD8 hl8 hK8 hst8
    have hK8 : IntsAre ys8 (tab7.filter fun p => (drawnF ns).any (· == p)) := by
      have e : tab7.take its6.toArray.size = tab7 := List.take_of_length_le (by simp [tab7, hz6])
      rw [e] at hK8; exact hK8
    have F8 := fr_keeps F6 hst8
    obtain ⟨n8, e8⟩ := hl8
    have N8 := news_one F6 hD8 hst8 e8 (news_keeps N6 hst8)
    clear F6 N6
    k_steps
    constructor
    refine kmk_add_ints (vs := [_, _]) (ws := ys8) F8 N8 ⟨_, (N8 _ (.tail _ (.tail _ (.head _)))).1, rfl, _, rfl⟩ ⟨_, e8, rfl, _, rfl⟩ (.cons 2 _ (.cons 3 _ .nil)) hK8 ?_ (by
      have h7 : (tab7.filter fun p => (drawnF ns).any (· == p)).length ≤ 7 := List.length_filter_le _ tab7
      rw [sizeLine_eq]; simp only [List.length_cons, List.length_nil]; omega)
    intro a9 vs9 h9 F9 N9 l9 hi9
    have hi9 : IntsAre vs9 (primesF (drawnF ns)) := hi9
    clear F8 N8
    k_steps
    have ep9 := (N9 _ (.head _)).1
    obtain ⟨hq2, imm2, H2, N9, st2, sq2⟩ := regh F9 N9 (cells4 _ o4 o3 o2 o1') (fun p hp => .tail _ (.tail _ (.tail _ (.tail _ (List.mem_append.mpr (.inl hp)))))) (nseq4 d4 d3 d2 d1')
    refine storeC F9 N9 (.tail _ (.tail _ (.head _))) d2 ?_ rfl rfl rfl
    intro h10 o2' d2' F10 N10 _
    have N10 := N10 _ (upd_cells (cs' := cells4 _ o4 o3 o2' o1') H2 (.tail _ (.tail _ (.head _))) up2)
    have hpr : Heap.IsList hq2 a9 vs9.toArray := sq2.list ⟨_, ep9, rfl, _, rfl⟩
    clear F9
    dsimp only [cells4, List.cons_append, List.nil_append] at F10 N10 ⊢
    obtain ⟨res, hgood⟩ := good_of ns
    generalize hps : primesF (drawnF ns) = ps at hi9 hgood
    k_steps
    constructor
    have st10 := H2.stays F10 N10 fun p hp => .tail _ (.tail _ (.tail _ (.tail _ hp)))
    refine told_ok (Gg.keeps H2.base) st10 (hpr.at fun o e => st10 _ o e) hi9 hgood.told hgood.len rfl (by rw [depth_deeper]; decide) (by rw [units_deeper]; decide) ?_
    intro h11 tk11 bt lvs nn hqt k1 k2 hb11 e11 hit
    have k11 : Heap.StaysIn _ h11 := fun b o e => k2 b o (k1 b o e)
    have F11 := fr_keeps F10 k11
    have N11 := news_keeps N10 k11
    clear F10 N10
    obtain ⟨hq3, imm3, H3, N11, st3, sq3⟩ := regh F11 N11 (cells4 _ o4 o3 o2' o1') (fun p hp => List.mem_append.mpr (.inl hp)) (nseq4 d4 d3 d2' d1')
    have sq23 : SeqIn hq2 hq3 := fun b o vs n e d => sq3 b o vs n (k11 b o (st10 b o e)) d
    have hpr3 : Heap.IsList hq3 a9 vs9.toArray := sq23.list hpr
    have hit3 : Its hq3 lvs res := hit.seq ((SeqIn.of k2).trans sq3)
    have hto3 : Heap.IsList hq3 bt lvs.toArray := sq3.list ⟨_, e11, rfl, _, rfl⟩
    clear hit hpr k2 k1 hb11 e11
    dsimp only [cells4, List.cons_append, List.nil_append] at F11 N11 ⊢
    k_steps
    constructor
    obtain ⟨nl, pll, N, hlast, hN, hN9, hpl, hdue⟩ := hgood.last
    have hres0 : 0 < res.length := by
      cases res with
      | nil => simp at hlast
      | cons a b => simp
    have hlast' : res[res.length - 1]? = some (nl, pll) := by rw [← List.getLast?_eq_getElem?]; exact hlast
    obtain ⟨vl, hvl, rvl⟩ := hit3.get hlast'
    have hlvl := hit3.1
    obtain ⟨tl, ol, itsl, nnl, tnl, vl2, rfl, hol, hcl, hdl, hxl, _⟩ := rvl.item
    have el : itsl = #[Value.int nl tnl, vl2] := by apply Array.toList_inj.mp; rw [hxl]
    subst el
    refine' assign_src (fun v m => m (Str.ofString "number") = some v) [] ?sw ?cl ?ce ?ki ?na (fun _ => rfl) ?y1 ?y2 ?_
    (case sw => (with_unfolding_all rfl))
    (case cl => (rfl))
    (case ce => (decide))
    (case ki => rfl)
    (case na => (decide))
    (case y1 => (rfl))
    (case y2 => (rfl))
    (k_steps)
    constructor
    rename Fr _ _ _ _ => F12
    rename News _ _ _ _ => N12
    have st12 := H3.stays F12 N12 fun p hp => .tail _ (.tail _ (.tail _ (.tail _ hp)))
    have hz12 : lvs.toArray.size = res.length := by rw [List.size_toArray]; exact hlvl
    have hx12 : lvs.toArray[((-1 : Int) + lvs.toArray.size).toNat]? = some (Value.ref tl) := by
      rw [hz12, show ((-1 : Int) + (res.length : Int)).toNat = res.length - 1 by omega]; simpa using hvl
    (refine item_neg (hto3.at fun o e => st12 _ o e) (by decide) (by rw [hz12]; omega) (by decide) hx12 ?_ (by with_unfolding_all rfl))
    k_steps
    constructor
    have hT12 : IsTup _ tl [Value.int nl tnl, vl2].toArray := ⟨_, st12 _ _ hol, hcl, _, hdl⟩
    (refine item_tupleT hT12 (by decide) (by decide) (j := 0) (x := Value.int nl tnl) rfl rfl ?_)
    k_steps
    constructor
    rename IsRange _ _ _ _ _ _ _ _ => hR
    rename Fr _ _ _ _ => F13
    rename News _ _ _ _ => N13
    rename Heap => h13
    dsimp only at hR F13 N13 ⊢
    rw [hN] at hR
    have st13 := H3.stays F13 N13 fun p hp => .tail _ (.tail _ (.tail _ (.tail _ hp)))
    have G13 : Gr w h13 := (Gg.keeps H3.base).keeps st13
    have X13 := G13.X
    obtain ⟨_, _, _, _, _, T13⟩ := G13.T
    have cp13 : h13.IsCell _ _ := IsCell.mk (N13 _ (.tail _ (.tail _ (.head _)))).1 d2'
    have hpr13 : h13.IsList a9 vs9.toArray := hpr3.at fun o e => st13 _ o e
    refine ⟨"range_iterator", [], N, _, fun i ys h => Its h ys (dueL ps i), fun ys h => Its h ys (dueL ps N), _, ⟨gives_range rfl hR (small_one (by omega) (by omega) (by omega) (by omega)) (by rw [rangeSize_nat]; omega), ?_, (fun _ z => nomatch z), (fun _ z => nomatch z), F13.ns, (fun z => nomatch z), fun i ys h h' j k => j.keeps k, fun ys h h' j k => j.seq k, .nil, ?_, ?_, ?_, ?_⟩⟩
    · rw [sizeLine_eq]; omega
    · intro i v s₃ o Q' _ _ _ hq; exact own_name hq
    · intro C i v h₃ tk₃ m Q' _ _ hn _ hq; exact ask_name rfl rfl hn hq
    · rintro C D' i ys' v h₀ h₃ tk₃ m₃ hC hD hDC hlt ⟨t, rfl⟩ hb hn hJ hst hno hli hk
      refine hold_step (dirty := []) (hid := [D', C, h13.objs.size]) (J1 := fun y h => Its h (ys' ++ [y]) (dueL ps (i + 1))) (J0 := fun h => Its h ys' (dueL ps (i + 1))) ?_
      refine wpAny_tests_nil ?_
      rw [if_pos rfl]
      refine ⟨⟨h₃, tk₃, m₃, rfl, hn, fun _ _ _ e => e⟩, ?_⟩
      have F14 : Fr h13 C h₃ m₃ := ⟨hn, fun b o e => hk b o (fun z => nomatch z) e, Nat.le_of_lt hC⟩
      obtain ⟨oD, oI, imm, N14, keep14⟩ := turn_news F14 hDC (Nat.ne_of_lt hC) (none_ge (Nat.le_of_lt hD)) (none_ge (Nat.le_refl _)) hli
      clear F13 N13
      dsimp only at hb ⊢
      (k_steps)
      constructor
      rename Fr _ _ _ _ => F15
      rename News _ _ _ _ => N15
      refine places_ok (Gg.keeps H3.base) (fun b o e => F15.keep b o (st13 b o e)) (hpr13.at fun o e => F15.keep _ o e) hi9 (plOf_eq (hpl i hlt)) hgood.len rfl (by rw [depth_deeper]; decide) (by rw [units_deeper]; decide) ?_
      intro h16 tk16 b16 lvs16 nn16 k16 hb16 e16 hi16
      have F16 := fr_keeps F15 k16
      have N16 := news_one F15 hb16 k16 e16 (news_keeps N15 k16)
      have bD : b16 ≠ D' := fun q => by rw [q, (N15 _ (.head _)).1] at hb16; cases hb16
      have bI : b16 ≠ h13.objs.size := fun q => by rw [q, (N15 _ (.tail _ (.head _))).1] at hb16; cases hb16
      clear F15 N15
      k_steps
      constructor
      rename Fr _ _ _ _ => F17
      rename News _ _ _ _ => N17
      rename Addr => D17
      rename _ ∧ _ ∧ _ ∧ _ => l17
      have k17 := keep14 _ _ F17 (fun p hp => N17 p (.tail _ (.tail _ (.tail _ (.tail _ hp)))))
      refine ⟨_, _, _, rfl, F17.ns, fun b o hbC _ e => k17 b o hbC e, ?_⟩
      rw [dueL_succ]
      have z17 := N17 _ (.head _)
      have zb := N17 _ (.tail _ (.head _))
      refine (hJ.keeps fun b o e => hideAll_get _ (k17 b o (fun q => by rw [q, hno C (.tail _ (.head _))] at e; cases e) (hst b o e)) fun q => by rw [hno b q] at e; cases e).push (mk_item (hideAll_get _ z17.1 ?_) rfl rfl (rd_ints ⟨_, hideAll_get _ zb.1 ?_, rfl, _, rfl⟩ hi16))
      · intro q
        rcases List.mem_cons.mp q with q | q
        · exact Nat.ne_of_gt l17.2.1 q
        rcases List.mem_cons.mp q with q | q
        · exact z17.2.1 q
        exact Nat.ne_of_gt l17.2.2.1 (List.mem_singleton.mp q)
      · intro q
        rcases List.mem_cons.mp q with q | q
        · exact bD q
        rcases List.mem_cons.mp q with q | q
        · exact zb.2.1 q
        exact bI (List.mem_singleton.mp q)
    intro D14 h14 tk14 ys14 hD14 hl14 hJ14 hns14 hk14
    have hkL := fun b o hb e => hk14 b o hb (fun z => nomatch z) e
    have F14 := fr_assign F13 hns14 hkL
    have N14 := news_assign N13 hkL
    have sq13 : SeqIn h13 h14 := seq_but F13.ns hkL
    obtain ⟨nD14, eD14⟩ := hl14
    obtain ⟨hq4, imm4, H4, N14, st4, sq4⟩ := regh F14 N14 (cells4 _ o4 o3 o2' o1') (fun p hp => List.mem_append.mpr (.inl hp)) (nseq4 d4 d3 d2' d1')
    have sq34 : SeqIn hq3 hq4 := ((SeqIn.of st13).trans sq13).trans sq4
    have hpr4 : Heap.IsList hq4 a9 vs9.toArray := sq34.list hpr3
    have hit4 : Its hq4 lvs res := hit3.seq sq34
    have hto4 : Heap.IsList hq4 bt lvs.toArray := sq34.list hto3
    have hdu4 : Heap.IsList hq4 D14 ys14.toArray := sq4.list ⟨_, eD14, rfl, _, rfl⟩
    have hid4 : Its hq4 ys14 (dueL ps N) := hJ14.seq sq4
    clear F13 N13 hpr3 hit3 hto3 hpr13 cp13 G13 X13 T13 hkL hk14 hns14
    dsimp only [cells4, List.cons_append, List.nil_append] at F14 N14 ⊢
    k_steps
    constructor
    refine comp_src (PairB hq4 (Str.ofString "number") (Str.ofString "places")) [] (by rfl) (by decide) rfl (by decide) (fun _ => rfl) ?_
    k_steps
    constructor
    try dsimp only
    have st14 := H4.stays F14 N14 fun p hp => .tail _ (.tail _ (.tail _ (.tail _ hp)))
    have G14 : Gr w _ := (Gg.keeps H4.base).keeps st14
    have hdl4 := hid4.1
    have hdN : (dueL ps N).length = N := by unfold dueL; simp
    refine ⟨"list_iterator", [D14], ys14.toArray.size, _, fun i ys h => Its h ys (((dueL ps N).take i).filter fun d => d.2 ≠ []), ⟨gives_list rfl (hdu4.at fun o e => st14 _ o e), ?_, ?_, (fun _ z => nomatch z), fun i ys h h' j k => j.keeps k, .nil, ?_, ?_, ?_, ?_⟩⟩
    · rw [sizeLine_eq]; simp; omega
    · intro b hb; rw [List.mem_singleton.mp hb]; obtain ⟨o, ho, _⟩ := hdu4; exact ⟨Heap.lt_size (st14 _ _ ho), fun z => nomatch z⟩
    · intro i v s₃ o Q' hv ho hc hq
      have hv' : ys14[i]? = some v := by simpa using hv
      have hlt : i < (dueL ps N).length := by rw [← hdl4]; exact (List.getElem?_eq_some_iff.mp hv').1
      obtain ⟨b, o', its, n', t', v2', rfl, _⟩ := (hid4.2 i v _ hv' (List.getElem?_eq_getElem hlt)).item
      exact own_pair ho hc hq
    · intro C i v h₃ tk₃ m Q' hC hv hn hk hq
      have hv' : ys14[i]? = some v := by simpa using hv
      have hlt : i < (dueL ps N).length := by rw [← hdl4]; exact (List.getElem?_eq_some_iff.mp hv').1
      exact ask_item rfl (hid4.2 i v _ hv' (List.getElem?_eq_getElem hlt)) (fun b o e => hk b o (fun z => nomatch z) (st14 b o e)) rfl rfl (by decide) rfl hn hq
    · intro C D' i ys' v h₀ h₃ tk₃ m₃ hC hD hDC hlt hv hb hn hJ hst hno hli hk
      have hv' : ys14[i]? = some v := by simpa using hv
      have hlt : i < (dueL ps N).length := by rw [← hdl4]; exact (List.getElem?_eq_some_iff.mp hv').1
      obtain ⟨d, hd⟩ : ∃ d, (dueL ps N)[i]? = some d := ⟨_, List.getElem?_eq_getElem hlt⟩
      obtain ⟨tn, l, m1, m2, rl⟩ := hb d (hid4.2 i v _ hv' hd)
      have htk : (dueL ps N).take (i + 1) = (dueL ps N).take i ++ [d] := by rw [List.take_add_one, hd]; rfl
      dsimp only at hC hD hn hst hno hli hk ⊢
      refine hold_step (dirty := []) (hid := [D', C, h14.objs.size]) (J1 := fun y h => Its h (ys' ++ [y]) (((dueL ps N).take (i + 1)).filter fun d => d.2 ≠ [])) (J0 := fun h => Its h ys' (((dueL ps N).take (i + 1)).filter fun d => d.2 ≠ [])) ?_
      refine wpAny_tests_one ?_
      have F15 : Fr h14 C h₃ m₃ := ⟨hn, fun b o e => hk b o (fun z => nomatch z) e, Nat.le_of_lt hC⟩
      obtain ⟨oD, oI, imm, N15, keep15⟩ := turn_news F15 hDC (Nat.ne_of_lt hC) (none_ge (Nat.le_of_lt hD)) (none_ge (Nat.le_refl _)) hli
      clear F14 N14
      k_steps
      constructor
      refine newList_K F15 N15 ?_
      intro a16 h16 F16 N16 l16
      clear F15 N15
      k_steps
      constructor
      have st16 : hq4.StaysIn h16 := fun b o e => F16.keep b o (st14 b o e)
      refine ne_ints (rl.keeps st16) (rd_ints (ns := []) ⟨_, (N16 _ (.head _)).1, rfl, _, rfl⟩ .nil) (by rw [units_deeper]; decide) ?_
      have k16 := keep15 _ _ F16 (fun p hp => N16 p (.tail _ (.tail _ (.tail _ hp))))
      have hs16 : h₀.StaysIn (hideAll h16 [D', C, h14.objs.size]) := fun b o e => hideAll_get _ (k16 b o (fun q => by rw [q, hno C (.tail _ (.head _))] at e; cases e) (hst b o e)) fun q => by rw [hno b q] at e; cases e
      have lD16 : @LT.lt Nat _ D' a16 := l16 _ (.head _)
      k_steps
      · rename decide (d.2 = []) = true => hz
        have hz := of_decide_eq_true hz
        refine ⟨_, _, _, rfl, F16.ns, k16, ?_⟩
        rw [htk, List.filter_append]
        simpa [hz] using hJ.keeps hs16
      · exact ⟨_, _, _, rfl, F16.ns, k16⟩
      · rename decide (d.2 = []) = false => hz
        have hz := of_decide_eq_false hz
        rename Fr _ _ _ _ => F17
        rename News _ _ _ _ => N17
        rename Addr => D17
        rename _ ∧ _ ∧ _ ∧ _ => l17
        have k17 := keep15 _ _ F17 (fun p hp => N17 p (.tail _ (.tail _ (.tail _ (.tail _ hp)))))
        refine ⟨_, _, _, rfl, F17.ns, fun b o hbC _ e => k17 b o hbC e, ?_⟩
        have z17 := N17 _ (.head _)
        have hs17 : ∀ b o, h₀.get? b = some o → Heap.get? (hideAll _ [D', C, h14.objs.size]) b = some o := fun b o e => hideAll_get _ (k17 b o (fun q => by rw [q, hno C (.tail _ (.head _))] at e; cases e) (hst b o e)) fun q => by rw [hno b q] at e; cases e
        have hq17 : ∀ b o, hq4.get? b = some o → Heap.get? (hideAll _ [D', C, h14.objs.size]) b = some o := fun b o e => hideAll_get _ (F17.keep b o (st14 b o e)) fun q => by
          have e14 := st14 b o e
          rcases List.mem_cons.mp q with rfl | q
          · rw [none_ge (Nat.le_of_lt hD)] at e14; cases e14
          rcases List.mem_cons.mp q with rfl | q
          · rw [none_ge (Nat.le_of_lt hC)] at e14; cases e14
          rw [List.mem_singleton.mp q, none_ge (Nat.le_refl _)] at e14; cases e14
        rw [htk, List.filter_append]
        have := (hJ.keeps hs17).push (x := d) (mk_item (hideAll_get _ z17.1 (by
          intro q
          rcases List.mem_cons.mp q with q | q
          · exact Nat.ne_of_gt l17.2.1 q
          rcases List.mem_cons.mp q with q | q
          · exact z17.2.1 q
          exact Nat.ne_of_gt l17.2.2.1 (List.mem_singleton.mp q))) rfl rfl (rl.keeps hq17))
        simpa [hz] using this
    intro D18 h18 tk18 ys18 h₀ hD18 hl18 hJ18 hs18 hno18 hk18
    have k18 : Heap.StaysIn _ h18 := fun b o e => hk18 b o (fun z => nomatch z) e
    have F18 := fr_keeps F14 k18
    have N18 := news_keeps N14 k18
    have hJ18 : Its h18 ys18 res := by
      have e : (dueL ps N).take ys14.toArray.size = dueL ps N := List.take_of_length_le (by simp; omega)
      have := hJ18.keeps hs18
      rw [e, hdue] at this; exact this
    have st18 := H4.stays F18 N18 fun p hp => .tail _ (.tail _ (.tail _ (.tail _ hp)))
    clear F14 N14 k18 hk18 hs18
    k_steps
    constructor
    refine ne_items (rd_items (hto4.at fun o e => st18 _ o e) (hit4.keeps st18)) (rd_items hl18.isList hJ18) (by rw [units_deeper]; decide) ?_
    rw [decide_eq_true (rfl : res = res)]
    k_steps
    constructor
    refine for_srcF F18 (fun _ => rfl) ?_
    k_steps
    constructor
    try dsimp only
    refine ⟨"list_iterator", [bt], lvs.toArray.size, _, fun i m nx => ∃ o4 o3 v4 v3 u, nx = cells4 sB.heap.objs.size o4 o3 o2' o1' ++ imm4 ∧ o4.data = .cell v4 ∧ o3.data = .cell v3 ∧ m = put "told" (.ref bt) u, ⟨gives_list rfl (hto4.at fun o e => st18 _ o e), ?_, ?_, ?_, ?_⟩⟩
    · exact ⟨_, _, fput F18 (by rfl), N18, o4, o3, _, _, _, rfl, d4, d3, rfl⟩
    · intro i v s₃ o Q' hv ho hc hq
      have hv' : lvs[i]? = some v := by simpa using hv
      have hlt : i < res.length := by rw [← hlvl]; exact (List.getElem?_eq_some_iff.mp hv').1
      obtain ⟨b, o', its, n', t', v2', rfl, _⟩ := (hit4.2 i v _ hv' (List.getElem?_eq_getElem hlt)).item
      exact own_pair ho hc hq
    · rintro i v m nx h tk oI hlt hv ⟨o4, o3, v4, v3, u, rfl, d4, d3, rfl⟩ F19 N19 hne
      clear F18 N18
      have hv' : lvs[i]? = some v := by simpa using hv
      have hlt : i < res.length := by rw [← hlvl]; exact (List.getElem?_eq_some_iff.mp hv').1
      obtain ⟨d, hd⟩ : ∃ d, res[i]? = some d := ⟨_, List.getElem?_eq_getElem hlt⟩
      obtain ⟨t, ot, itst, nnt, tn, v2, rfl, hot, hct, hdt, hxt, r2⟩ := (hit4.2 i v d hv' hd).item
      obtain ⟨lpl, itpl, rfl, _⟩ := id r2.ints
      have e : itst = #[Value.int d.1 tn, .ref lpl] := by apply Array.toList_inj.mp; rw [hxt]
      subst e
      have hdm := List.mem_of_getElem? hd
      obtain ⟨hd0, hd1, hd2, hd3, hd4, hd5⟩ := hgood.each d hdm
      dsimp only at N19 hne ⊢
      generalize hIe : h18.objs.size = I at N19 hne ⊢
      have gI := (N19 _ (.head _)).2.2
      have H19 : Gh hq4 _ _ (I :: (cells4 _ o4 o3 o2' o1').map (·.1)) imm4 := H4.more gI fun p hp => hne p (List.mem_append.mpr (.inr hp))
      have st19 := H19.stays F19 N19 fun p hp => .tail _ (List.mem_append.mpr (.inr hp))
      refine unpackN_ F19 N19 ⟨_, st19 _ _ hot, hct, _, hdt⟩ rfl rfl rfl ?_
      intro h20 F20 N20
      clear F19 N19
      dsimp only [cells4, List.cons_append, List.nil_append] at F20 N20 ⊢
      (k_steps)
      have hIc : ∀ c ∈ (cells4 sB.heap.objs.size o4 o3 o2' o1').map (·.1), I ≠ c := fun c hc q => by
        obtain ⟨p, hp, e⟩ := List.mem_map.mp hc
        exact hne p (List.mem_append.mpr (.inl hp)) (e.trans q.symm)
      refine storeC F20 N20 (.tail _ (.tail _ (.head _))) d3 ?_ rfl rfl rfl
      intro h21 o3' d3' F21 N21 _
      have N21 := N21 _ (upI (oI := oI) (cs' := cells4 _ o4 o3' o2' o1') H19 (hIc _ (.tail _ (.head _))) (.tail _ (.head _)) up3)
      clear F20 N20
      dsimp only [cells4, List.cons_append, List.nil_append] at F21 N21 ⊢
      (k_steps)
      constructor
      rename Fr _ _ _ _ => F22
      rename News _ _ _ _ => N22
      have st22 := H19.stays F22 N22 fun p hp => .tail _ (.tail _ (.tail _ (.tail _ (.tail _ hp))))
      refine name_ok (Gg.keeps H4.base) st22 (r2.keeps st22) hd3 hd2 rfl (by rw [depth_deeper]; decide) (by rw [units_deeper]; decide) ?_
      intro h23 tk23 t23 k23
      have F23 := fr_keeps F22 k23
      have N23 := news_keeps N22 k23
      clear F22 N22
      k_steps
      constructor
      refine newList_K F23 N23 ?_
      intro a24 h24 F24 N24 l24
      clear F23 N23
      k_steps
      constructor
      have st24 := H19.stays F24 N24 fun p hp => .tail _ (.tail _ (.tail _ (.tail _ (.tail _ (.tail _ hp)))))
      refine make_ok (Gg.keeps H4.base) st24 ⟨_, (N24 _ (.head _)).1, rfl, _, rfl⟩ rfl (by rw [depth_deeper]; decide) (by rw [units_deeper]; decide) ?_
      intro h25 tk25 x dx ai ad sa k25 R25 nw25
      have F25 := fr_keeps F24 k25
      have N25 := news_keeps N24 k25
      dsimp only at k25 nw25 F25 N25 ⊢
      (k_steps)
      have N25 : News _ _ h25 _ := fun p hp => N25 p (.tail _ hp)
      refine storeC F25 N25 (.tail _ (.head _)) d4 ?_ rfl rfl rfl
      intro h26 o4' d4' F26 N26 sb26
      have N26 := N26 _ (upI (oI := oI) (cs := cells4 _ o4 o3' o2' o1') (cs' := cells4 _ o4' o3' o2' o1') H19 (hIc _ (.head _)) (.head _) up4)
      have cne : ∀ b ∈ [x, dx, ai, ad, sa], ∀ p ∈ (I, oI) :: (cells4 sB.heap.objs.size o4 o3' o2' o1' ++ imm4), p.1 ≠ b := fun b hb p hp q => by
        have z := (N24 p (.tail _ hp)).1
        rw [q, nw25 b hb] at z; cases z
      have nG : ∀ b ∈ [x, dx, ai, ad, sa], sB.heap.get? b = none := fun b hb => by
        cases e : sB.heap.get? b with
        | none => rfl
        | some o => have z := F24.keep b o e; rw [nw25 b hb] at z; cases z
      have nL : ∀ b ∈ [x, dx, ai, ad, sa], sB.heap.objs.size ≠ b := fun b hb q => by
        obtain ⟨oL, _, _, hL, _⟩ := F24.ns
        rw [q, nw25 b hb] at hL; cases hL
      have nQ : ∀ b ∈ [x, dx, ai, ad, sa], hq4.get? b = none := fun b hb => by
        cases e : hq4.get? b with
        | none => rfl
        | some o => have z := st24 b o e; rw [nw25 b hb] at z; cases z
      have R26 := R25.at fun b hb o e => sb26.extBut b o (fun q => cne b hb _ (.tail _ (.head _)) q.symm) e
      clear F24 N24 F25 N25 st24 st22 sb26 k25 R25
      dsimp only [cells4, List.cons_append, List.nil_append] at F26 N26 ⊢
      k_steps
      constructor
      refine' assign_src (PairB hq4 (Str.ofString "other") (Str.ofString "row")) [ai] ?sw ?cl ?ce ?ki ?na (fun _ => rfl) ?y1 ?y2 ?_
      (case sw => with_unfolding_all rfl)
      (case cl => rfl)
      (case ce => decide)
      (case ki => rfl)
      (case na => decide)
      (case y1 => rfl)
      (case y2 => rfl)
      k_steps
      constructor
      try dsimp only
      have st26 := H19.stays F26 N26 fun p hp => .tail _ (.tail _ (.tail _ (.tail _ (.tail _ hp))))
      obtain ⟨bq, hbq⟩ : ∃ g, g = hideAll h26 [ai, x, dx] := ⟨_, rfl⟩
      have toQ : ∀ b o, h26.get? b = some o → b ∉ [ai, x, dx] → bq.get? b = some o := fun b o e n => by rw [hbq]; exact hideAll_get _ e n
      have ofQ : ∀ b o, bq.get? b = some o → h26.get? b = some o := fun b o e => by rw [hbq] at e; exact of_hideAll _ e
      have noQ : ∀ b ∈ [ai, x, dx], bq.get? b = none := fun b hb => by rw [hbq]; exact hideAll_none _ hb
      have szQ : bq.objs.size = h26.objs.size := by rw [hbq]; exact hideAll_size _ _
      clear hbq
      have sub3 : ∀ b ∈ [ai, x, dx], b ∈ [x, dx, ai, ad, sa] := by intro b hb; simp only [List.mem_cons, List.not_mem_nil, or_false] at hb ⊢; rcases hb with h | h | h <;> simp [h]
      have sQ : hq4.StaysIn bq := fun b o e => toQ b o (st26 b o e) fun q => by rw [nQ b (sub3 b q)] at e; cases e
      have Gq : Gr w bq := (Gg.keeps H4.base).keeps sQ
      have Xq := Gq.X
      obtain ⟨_, _, _, _, _, Tq⟩ := Gq.T
      have cr : bq.IsCell _ _ := IsCell.mk (toQ _ _ (N26 _ (.tail _ (.head _))).1 fun q => cne _ (sub3 _ q) _ (.tail _ (.head _)) rfl) d4'
      refine ⟨"list_iterator", [bt], lvs.toArray.size, _, AnsJ w x dx ai ad sa (nmOf d.2) t23 res, fun ys _ => StrsAre ys (res.map (ansF (nmOf d.2))), _, ⟨gives_list rfl (hto4.at fun o e => st26 _ o e), ?_, ?_, ?_, F26.ns, ?_, fun i ys h h' j k => j.keeps k, ?_, ⟨_, R26, kept_zero res, .nil⟩, ?_, ?_, ?_, ?_⟩⟩
      · rw [sizeLine_eq, hz12]; have := hgood.reslen; omega
      · intro b hb
        rw [List.mem_singleton.mp hb]
        obtain ⟨o, ho, _⟩ := hto4
        exact ⟨Heap.lt_size (st26 _ _ ho), fun z => by rw [List.mem_singleton.mp z, nQ ai (by simp)] at ho; cases ho⟩
      · intro b hb
        rw [List.mem_singleton.mp hb]
        obtain ⟨o, ho⟩ := R26.some ai (by simp)
        exact Heap.lt_size ho
      · intro q; exact nL ai (by simp) (List.mem_singleton.mp q)
      · rintro ys h h' ⟨c, _, _, sc⟩ _
        rw [hz12, List.take_length] at sc
        exact sc
      · intro j v s₃ o Q' hv ho hc hq
        have hv' : lvs[j]? = some v := by simpa using hv
        have hlt : j < res.length := by rw [← hlvl]; exact (List.getElem?_eq_some_iff.mp hv').1
        obtain ⟨b, o', its, n', t', v2', rfl, _⟩ := (hit4.2 j v _ hv' (List.getElem?_eq_getElem hlt)).item
        exact own_pair ho hc hq
      · intro C j v h₃ tk₃ m Q' hC hv hn hk hq
        have hv' : lvs[j]? = some v := by simpa using hv
        have hlt : j < res.length := by rw [← hlvl]; exact (List.getElem?_eq_some_iff.mp hv').1
        exact ask_item rfl (hit4.2 j v _ hv' (List.getElem?_eq_getElem hlt)) (fun b o e => hk b o (fun z => by rw [List.mem_singleton.mp z, nQ ai (by simp)] at e; cases e) (st26 b o e)) rfl rfl (by decide) rfl hn hq
      · rintro C D' j ys' v h₀ h₃ tk₃ m₃ hC hD hDC hlt hv hb hn ⟨c, Rc, kc, sc⟩ hst hno hli hk
        have hv' : lvs[j]? = some v := by simpa using hv
        have hlt : j < res.length := by rw [← hlvl]; exact (List.getElem?_eq_some_iff.mp hv').1
        obtain ⟨e, he⟩ : ∃ e, res[j]? = some e := ⟨_, List.getElem?_eq_getElem hlt⟩
        obtain ⟨te, le, m1, m2, re⟩ := hb e (hit4.2 j v _ hv' he)
        have hem := List.mem_of_getElem? he
        obtain ⟨he0, he1, he2, he3, he4, he5⟩ := hgood.each e hem
        have R3 := Rc.keeps hst
        dsimp only at hC hD hn hst hno hli hk ⊢
        refine hold_step (dirty := [ai]) (hid := [D', C, h26.objs.size]) (J1 := fun y h => AnsJ w x dx ai ad sa (nmOf d.2) t23 res (j + 1) (ys' ++ [y]) h) (J0 := fun h => AnsJ w x dx ai ad sa (nmOf d.2) t23 res (j + 1) ys' h) ?_
        refine wpAny_tests_nil ?_
        rw [if_pos rfl]
        refine ⟨⟨h₃, tk₃, m₃, rfl, hn, fun _ _ _ e => e⟩, ?_⟩
        have F27 : Fr bq C h₃ m₃ := ⟨hn, fun b o e => hk b o (fun z => by rw [List.mem_singleton.mp z, noQ ai (by simp)] at e; cases e) (ofQ b o e), by rw [szQ]; exact Nat.le_of_lt hC⟩
        obtain ⟨hs, imms, Hs, Nsx, sts, ins⟩ := ghost F27 [ai] (by intro b hb; rw [List.mem_singleton.mp hb]; exact noQ ai (by simp))
        obtain ⟨t1, t2, t3, edx⟩ := R3.dict
        have lt5 : ∀ b ∈ [x, dx, ai, ad, sa], @LT.lt Nat _ b h26.objs.size := fun b hb => by obtain ⟨o, ho⟩ := R26.some b hb; exact Heap.lt_size ho
        have N27 : News bq C h₃ ((x, instObj 107 dx) :: (dx, dictOf [⟨PyData.keyHash w.params "_mods", .str "_mods" t1, .ref sa⟩, ⟨PyData.keyHash w.params "_dirs", .str "_dirs" t2, .ref ad⟩, ⟨PyData.keyHash w.params "_ignore", .str "_ignore" t3, .ref ai⟩] 3) :: imms) := by
          intro p hp
          rcases List.mem_cons.mp hp with rfl | hp
          · exact ⟨R3.inst, Nat.ne_of_lt (Nat.lt_trans (lt5 _ (by simp)) hC), noQ _ (by simp)⟩
          rcases List.mem_cons.mp hp with rfl | hp
          · exact ⟨edx, Nat.ne_of_lt (Nat.lt_trans (lt5 _ (by simp)) hC), noQ _ (by simp)⟩
          exact Nsx p hp
        clear F26 N26
        (k_steps)
        constructor
        have st27 : hq4.StaysIn h₃ := fun b o e => F27.keep b o (sQ b o e)
        refine name_ok (Gg.keeps H4.base) st27 (re.keeps st27) he3 he2 rfl (by rw [depth_deeper]; decide) (by rw [units_deeper]; decide) ?_
        intro h28 tk28 t28 k28
        have F28 := fr_keeps F27 k28
        have N28 := news_keeps N27 k28
        clear F27 N27
        dsimp only at k28 F28 N28 ⊢
        (k_steps)
        constructor
        have R28 := R3.keeps k28
        refine names_ok Gq F28.keep R28 ⟨noQ _ (by simp), noQ _ (by simp), noQ _ (by simp)⟩ (kept_new hgood kc he) (by have := kc.2; have := hgood.reslen; omega) hd5 rfl (by rw [depth_deeper]; decide) (by rw [units_deeper]; decide) ?_
        intro h29 tk29 t29 k29 R29
        have F29 := fr_but F28 k29 (Nat.ne_of_lt (Nat.lt_trans (lt5 ai (by simp)) hC)) (noQ ai (by simp))
        have N29 : News bq C h29 imms := fun p hp => ⟨k29 _ _ (fun z => Hs.apart p hp (z ▸ .head _)) (N28 p (.tail _ (.tail _ hp))).1, (N28 p (.tail _ (.tail _ hp))).2⟩
        clear F28 N28
        dsimp only at k29 F29 N29 ⊢
        (k_steps)
        constructor
        refine PySem.P.str_of_int (a := saysF (nmOf d.2) (nmOf e.2)) (saysF_small _ _) ?_
        k_steps
        constructor
        have k5 : ∀ b o, b ≠ C → b ∉ [ai] → h₃.get? b = some o → h29.get? b = some o := fun b o hbC hba e' => Hs.stays F29 N29 (fun _ h => h) b o (ins b o e' (by intro q; rcases List.mem_cons.mp q with q | q; exact hbC q; exact hba q))
        refine ⟨_, _, _, rfl, F29.ns, k5, _, R29.at (fun b hb o e' => hideAll_get _ e' ?_), kept_succ kc he, ?_⟩
        · have l5 := lt5 b hb
          intro q
          rcases List.mem_cons.mp q with q | q
          · exact Nat.ne_of_lt (Nat.lt_trans l5 hD) q
          rcases List.mem_cons.mp q with q | q
          · exact Nat.ne_of_lt (Nat.lt_trans l5 hC) q
          exact Nat.ne_of_lt l5 (List.mem_singleton.mp q)
        · rw [List.take_add_one, he, List.map_append]
          exact strs_snoc sc _
      intro D30 h30 tk30 ys30 hD30 hl30 hK30 hns30 hk30
      dsimp only at hD30 hk30 ⊢
      have cneA : ∀ b ∈ [x, dx, ai, ad, sa], b ∉ List.map (·.1) ((I, oI) :: (cells4 sB.heap.objs.size o4 o3' o2' o1' ++ imm4)) := fun b hb q => let ⟨p, hp, e⟩ := List.mem_map.mp q; cne b hb p hp e
      have F30 : Fr _ _ h30 _ := ⟨hns30, fun b o e => hk30 b o (fun q => by have q' : b = sB.heap.objs.size := q; rw [q', fr_none F26] at e; cases e) (fun q => by rw [List.mem_singleton.mp q, nG ai (by simp)] at e; cases e) (F26.keep b o e), F26.above⟩
      have N30 : News _ _ h30 _ := fun p hp => ⟨hk30 _ _ (N26 p hp).2.1 (fun q => cneA ai (by simp) ((List.mem_singleton.mp q) ▸ List.mem_map_of_mem (f := (·.1)) hp)) (N26 p hp).1, (N26 p hp).2⟩
      have st30 := H19.stays F30 N30 fun p hp => .tail _ (.tail _ (.tail _ (.tail _ (.tail _ hp))))
      clear F26 N26
      try dsimp only at F30 ⊢
      (k_steps)
      constructor
      refine comp_src (PairB hq4 (Str.ofString "other") (Str.ofString "row")) [] (by rfl) (by decide) rfl (by decide) (fun _ => rfl) ?_
      (k_steps)
      constructor
      try dsimp only
      have G30 : Gr w h30 := (Gg.keeps H4.base).keeps st30
      have X30 := G30.X
      obtain ⟨_, _, _, _, _, T30⟩ := G30.T
      have cn30 : h30.IsCell _ _ := IsCell.mk (N30 _ (.tail _ (.tail _ (.head _)))).1 d3'
      have cp30 : h30.IsCell _ _ := IsCell.mk (N30 _ (.tail _ (.tail _ (.tail _ (.head _))))).1 d2'
      obtain ⟨gr, hgr⟩ := Option.isSome_iff_exists.mp hd4
      refine ⟨"list_iterator", [bt], lvs.toArray.size, _, fun i ys h => StrsAre ys ((res.take i).map (ansF (nmOf d.2))), ⟨gives_list rfl (hto4.at fun o e => st30 _ o e), ?_, ?_, (fun _ z => nomatch z), fun i ys h h' j k => j, .nil, ?_, ?_, ?_, ?_⟩⟩
      · rw [sizeLine_eq, hz12]; have := hgood.reslen; omega
      · intro b hb
        rw [List.mem_singleton.mp hb]
        obtain ⟨o, ho, _⟩ := hto4
        exact ⟨Heap.lt_size (st30 _ _ ho), fun z => nomatch z⟩
      · intro j v s₃ o Q' hv ho hc hq
        have hv' : lvs[j]? = some v := by simpa using hv
        have hlt : j < res.length := by rw [← hlvl]; exact (List.getElem?_eq_some_iff.mp hv').1
        obtain ⟨b, o', its, n', t', v2', rfl, _⟩ := (hit4.2 j v _ hv' (List.getElem?_eq_getElem hlt)).item
        exact own_pair ho hc hq
      · intro C j v h₃ tk₃ m Q' hC hv hn hk hq
        have hv' : lvs[j]? = some v := by simpa using hv
        have hlt : j < res.length := by rw [← hlvl]; exact (List.getElem?_eq_some_iff.mp hv').1
        exact ask_item rfl (hit4.2 j v _ hv' (List.getElem?_eq_getElem hlt)) (fun b o e => hk b o (fun z => nomatch z) (st30 b o e)) rfl rfl (by decide) rfl hn hq
      · rintro C D' j ys' v h₀ h₃ tk₃ m₃ hC hD hDC hlt hv hb hn hJ hst hno hli hk
        have hv' : lvs[j]? = some v := by simpa using hv
        have hlt : j < res.length := by rw [← hlvl]; exact (List.getElem?_eq_some_iff.mp hv').1
        obtain ⟨e, he⟩ : ∃ e, res[j]? = some e := ⟨_, List.getElem?_eq_getElem hlt⟩
        obtain ⟨te, le, m1, m2, re⟩ := hb e (hit4.2 j v _ hv' he)
        have hem := List.mem_of_getElem? he
        dsimp only at hC hD hn hst hno hli hk hJ ⊢
        refine hold_step (dirty := []) (hid := [D', C, h30.objs.size]) (J1 := fun y h => StrsAre (ys' ++ [y]) ((res.take (j + 1)).map (ansF (nmOf d.2)))) (J0 := fun h => StrsAre ys' ((res.take (j + 1)).map (ansF (nmOf d.2)))) ?_
        refine wpAny_tests_nil ?_
        rw [if_pos rfl]
        refine ⟨⟨h₃, tk₃, m₃, rfl, hn, fun _ _ _ e => e⟩, ?_⟩
        have F31 : Fr h30 C h₃ m₃ := ⟨hn, fun b o e => hk b o (fun z => nomatch z) e, Nat.le_of_lt hC⟩
        obtain ⟨oD, oI', imm', N31, keep31⟩ := turn_news F31 hDC (Nat.ne_of_lt hC) (none_ge (Nat.le_of_lt hD)) (none_ge (Nat.le_refl _)) hli
        clear F30 N30
        (k_steps)
        constructor
        rename Fr _ _ _ _ => F32
        rename News _ _ _ _ => N32
        refine leads_ok (res := leadsF ps d.1 e.1) (Gg.keeps H4.base) (fun b o e => F32.keep b o (st30 b o e)) (hpr4.at fun o e => F32.keep _ o (st30 _ o e)) hi9 hgood.len hgood.pos ⟨hd0, hd1⟩ hgr (by unfold leadsF; rw [show grOf ps d.1 = some gr from hgr]; rfl) rfl (by rw [depth_deeper]; decide) (by rw [units_deeper]; decide) ?_
        intro h33 tk33 k33
        have F33 := fr_keeps F32 k33
        have N33 := news_keeps N32 k33
        clear F32 N32
        have hans : ansF (nmOf d.2) e = if leadsF ps d.1 e.1 = true then Str.ofString "1" else Str.ofString "0" := ans_agree hgood hdm hem
        generalize leadsF ps d.1 e.1 = b33 at hans ⊢
        (k_steps)
        · rename b33 = true => hb33
          constructor
          refine ⟨_, _, _, rfl, F33.ns, fun b o hbC _ q => keep31 _ _ F33 (fun p hp => N33 p (.tail _ (.tail _ hp))) b o hbC q, ?_⟩
          rw [List.take_add_one, he, List.map_append]
          have e9 : ansF (nmOf d.2) e = Str.ofString "1" := by rw [hans, hb33]; rfl
          show StrsAre _ ((res.take j).map (ansF (nmOf d.2)) ++ [ansF (nmOf d.2) e])
          rw [e9]
          exact strs_snoc hJ _
        · rename b33 = false => hb33
          constructor
          refine ⟨_, _, _, rfl, F33.ns, fun b o hbC _ q => keep31 _ _ F33 (fun p hp => N33 p (.tail _ (.tail _ hp))) b o hbC q, ?_⟩
          rw [List.take_add_one, he, List.map_append]
          have e9 : ansF (nmOf d.2) e = Str.ofString "0" := by rw [hans, hb33]; rfl
          show StrsAre _ ((res.take j).map (ansF (nmOf d.2)) ++ [ansF (nmOf d.2) e])
          rw [e9]
          exact strs_snoc hJ _
      intro D31 h31 tk31 ys31 h₀ hD31 hl31 hJ31 hs31 hno31 hk31
      have k31 : Heap.StaysIn _ h31 := fun b o e => hk31 b o (fun z => nomatch z) e
      have F31 := fr_keeps F30 k31
      have N31 := news_keeps N30 k31
      have hJ31 : StrsAre ys31 (res.map (ansF (nmOf d.2))) := by
        have := hJ31
        rw [hz12, List.take_length] at this
        exact this
      have hl30' : Heap.IsList h31 D30 ys30.toArray := hl30.isList.at fun o e => k31 _ o e
      have st31 := H19.stays F31 N31 fun p hp => .tail _ (.tail _ (.tail _ (.tail _ (.tail _ hp))))
      clear F30 N30 hk31 hs31
      (k_steps)
      constructor
      refine ne_strs (ansS_ok _ _) (rd_strs hl30' hK30) (rd_strs hl31.isList hJ31) (by rw [units_deeper]; decide) ?_
      (k_steps)
      constructor
      refine ⟨h31, tk31, _, cells4 sB.heap.objs.size o4' o3' o2' o1' ++ imm4, rfl, fput F31 (by rfl), ?_, ?_, ?_, o4', o3', _, _, _, rfl, d4', d3', rfl⟩
      · show News _ _ h31 ((h18.objs.size, oI) :: _)
        rw [hIe]
        exact N31
      · intro p hp
        show p.1 ≠ h18.objs.size
        rw [hIe]
        rcases List.mem_append.mp hp with q | q
        · exact Ne.symm (hIc p.1 (List.mem_map_of_mem (f := (·.1)) q))
        · exact hne p (List.mem_append.mpr (.inr q))
      · intro b hb o q
        rw [List.mem_singleton.mp hb] at q ⊢
        obtain ⟨ob, hob, _⟩ := hto4
        rw [st19 _ _ hob] at q
        cases q
        exact st31 _ _ hob
    rintro m nx h tk ⟨o4, o3, v4, v3, u, rfl, d4, d3, rfl⟩ F32 N32
    (k_steps)
    ))
end Mine
theorem PySem.Challenge.cw_oy0036_01_holds : PySem.Challenge.rw_oy0036_01.Holds :=
  Mine.cw_x
